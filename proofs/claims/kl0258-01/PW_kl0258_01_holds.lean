import PyProof.Rows.All
import Wide.All
import OpenK.AllK
import Wide.FinOn
import KE.KNest
import KE.KRevIter
import Lean
import PySem.Challenge.RW_kl0258_01
set_option Elab.async false
set_option maxRecDepth 100000
section
open PySem PySem.W PyProof.Rows
set_option maxHeartbeats 8000000
namespace Mine
/-- the text without its loose names -/
noncomputable def view : Program :=
  let p := PySem.Challenge.rw_kl0258_01.prog
  { p with main := { p.main with body := ([0, 1, 3, 4, 5, 6, 7, 8, 9, 11, 12, 13, 14, 16, 17, 19, 20, 21, 23, 25, 26, 27, 28, 29, 30, 31, 32, 33, 34, 35] : List Nat).filterMap fun i => p.main.body[i]? } }
noncomputable def loose5 : List Str := [Str.ofString "UNKNOWN", Str.ofString "tspecials", Str.ofString "_name_disallowed_re", Str.ofString "_value_disallowed_re", Str.ofString "_formatparam"]
/-! the top's run by the library's quicker twins of its own functions -/
noncomputable def topFromQ (tb : String → Option Builtin) (p : Program) (w : World) (N : Nat) (s₀ : Shared) : Option Shared :=
  match s₀.heap.isNs mainGlobals && s₀.gens.size == 0 with
  | true => (PySem.W.Fast.tw14082659384304107361 tb p w s₀.heap.objs.size (s₀.heap.nsMap mainGlobals "__annotations__") N s₀ (topStub p)).bind fun s₁ =>
      match staticsOk (importedModules p.main.body) s₀.heap s₁.heap && namesBound p s₁.heap && gensDone s₁ && laidKept s₀.heap s₁.heap with
      | true => some s₁
      | false => none
  | false => none
noncomputable def openEndsQ (tb : String → Option Builtin) (p : Program) (w : World) (N : Nat) : Option Shared :=
  ((PySem.W.Fast.tw10274390034422433532 tb (opening p) w N (PySem.W.Fast.tw1435165496053646825 (opening p)).1 (PySem.W.Fast.tw1435165496053646825 (opening p)).2).bind (PySem.W.Fast.tw14289696077712309145 p)).bind (topFromQ tb p w N)
theorem openEnds_q : openEnds treeTable = openEndsQ PySem.W.Fast.tw14364793385576792824 := by
  funext p w N
  unfold openEnds openEndsQ fencedOpening
  have e : topFrom PySem.W.Fast.tw14364793385576792824 p w N = topFromQ PySem.W.Fast.tw14364793385576792824 p w N := by
    funext s
    unfold topFrom topFromQ
    rw [PySem.W.Fast.te14082659384304107361]
    rfl
  rw [PySem.W.Fast.te14364793385576792824, e, PySem.W.Fast.te10274390034422433532, PySem.W.Fast.te1435165496053646825, PySem.W.Fast.te14289696077712309145]
theorem said_q {l : OpenLaw} (h : PySem.W.Fast.tw9446332074065402090 l = true) : l.wellSaid = true := (congrFun PySem.W.Fast.te9446332074065402090 l).trans h
theorem said0 : PySem.W.Fast.tw9446332074065402090 PySem.Challenge.rw_kl0258_01 = true := by kernel_rfl
theorem left_q {p q : Program} {loose : List Str} {Xt : Shared → Bool} {α : Type} {Yf : Shared → α} {Ya : World → α} {N : Nat} {g0 : Bool}
    (h : ∀ w, (openEndsQ PySem.W.Fast.tw14364793385576792824 p w N).map (fun s => (PySem.W.Fast.tw4187177175401517315 q loose (importedModules p.main.body) Xt g0 s, Yf s)) = some (openGood q loose, Ya w)) : LeftO p q loose Xt Yf Ya N g0 := fun w => by
  rewrite [openEnds_q, PySem.W.Fast.te4187177175401517315]
  exact h w
theorem head_q {r : OpenRow} {H : Hook} {d : DefRec} {kwd : List (Str × PySem.Expr)}
    (left : ∀ w, (openEndsQ PySem.W.Fast.tw14364793385576792824 r.prog w 4062).map (fun s => (PySem.W.Fast.tw4187177175401517315 view loose5 (importedModules r.prog.main.body) (fun s => xlAt view [] s && recOk r.records s) true s, H.obs s)) = some (openGood view loose5, H.val w))
    (hdef : defOf view r.name = some (d, kwd)) (hp : r.prog.theDef r.name = some (d.params, d.body, d.scope)) (hk : kwWritten? d.params.kwonlyargs d.params.kw_defaults = some kwd) (hwr : (!r.writes || r.records.isEmpty) = true)
    (k1 : r.wellSaid = true) (ok : (chainsOk view && opensWell r.prog && (frees r.toRowW && r.within.isEmpty)) = true) (hb : r.prog.bare) (hw : r.toRowW.promised) (call : WalkO view loose5 (XL view []) H.says r.toRowW d kwd fun f vs => PySem.call f vs) : r.Holds :=
  PySem.W.holds_open (left_q left) H.of H.keeps (fun s e => xl_of s (Bool.and_eq_true_iff.mp e).1) XL.keeps hdef hp hk (fun s e => recFacts_of (Bool.and_eq_true_iff.mp e).2) hwr k1 ok hb hw call
set_option compiler.extract_closed false
local macro_rules | `(tactic| o_law) => `(tactic| refine holds_law (said_q said0) fun said => ?_)
local macro_rules | `(tactic| o_head $H) => `(tactic| refine head_q (H := $H) (fun w => by kernel_rfl) rfl rfl rfl rfl (by first | assumption | decide +kernel) (by decide +kernel) ⟨rfl, rfl, rfl, rfl, rfl, by decide +kernel⟩ ?hw ?hc)
set_option compiler.extract_closed true
open_top hd for PySem.Challenge.rw_kl0258_01
end Mine

end
namespace Mine
local macro_rules | `(tactic| omega) => `(tactic| lia)
section TMBase
open PySem PySem.Spec PySem.Calls PyProof.Rows PySem.W

/-! lists of pairs: membership and one change, by shape alone -/
inductive Has {α β : Type} (x : α) (o : β) : List (α × β) → Prop
  | hd {r : List (α × β)} : Has x o ((x, o) :: r)
  | tl {p : α × β} {r : List (α × β)} : Has x o r → Has x o (p :: r)
theorem Has.mem {α β : Type} {x : α} {o : β} {l : List (α × β)} (h : Has x o l) : (x, o) ∈ l := by
  induction h with
  | hd => exact .head _
  | tl _ ih => exact .tail _ ih
inductive Set1 {α β : Type} (x : α) (o o' : β) : List (α × β) → List (α × β) → Prop
  | hd {r : List (α × β)} : Set1 x o o' ((x, o) :: r) ((x, o') :: r)
  | tl {p : α × β} {r r' : List (α × β)} : Set1 x o o' r r' → Set1 x o o' (p :: r) (p :: r')
theorem Set1.keys {α β : Type} {x : α} {o o' : β} {l l' : List (α × β)} (h : Set1 x o o' l l') : l'.map (·.1) = l.map (·.1) := by
  induction h with
  | hd => rfl
  | tl _ ih => simp [ih]
theorem Set1.has {α β : Type} {x : α} {o o' : β} {l l' : List (α × β)} (h : Set1 x o o' l l') : Has x o l := by
  induction h with
  | hd => exact .hd
  | tl _ ih => exact .tl ih
theorem Set1.has' {α β : Type} {x : α} {o o' : β} {l l' : List (α × β)} (h : Set1 x o o' l l') : Has x o' l' := by
  induction h with
  | hd => exact .hd
  | tl _ ih => exact .tl ih
theorem Set1.cases {α β : Type} {x : α} {o o' : β} {l l' : List (α × β)} (h : Set1 x o o' l l') (hn : (l.map (·.1)).Nodup) : ∀ p ∈ l', p = (x, o') ∨ (p ∈ l ∧ p.1 ≠ x) := by
  induction h with
  | hd =>
    intro p hp
    rcases List.mem_cons.mp hp with e | hp
    · exact .inl e
    · refine .inr ⟨.tail _ hp, fun e => ?_⟩
      rw [List.map_cons, List.nodup_cons] at hn
      exact hn.1 (List.mem_map.mpr ⟨p, hp, e⟩)
  | tl hs ih =>
    intro p hp
    rw [List.map_cons, List.nodup_cons] at hn
    rcases List.mem_cons.mp hp with e | hp
    · refine .inr ⟨e ▸ List.mem_cons_self, fun q => hn.1 ?_⟩
      rw [← e, q]
      exact List.mem_map.mpr ⟨_, hs.has.mem, rfl⟩
    · rcases ih hn.2 p hp with q | q
      · exact .inl q
      · exact .inr ⟨.tail _ q.1, q.2⟩
/-- one entry taken out -/
inductive Pick {α : Type} (x : α) : List α → List α → Prop
  | hd {r : List α} : Pick x (x :: r) r
  | tl {p : α} {r r' : List α} : Pick x r r' → Pick x (p :: r) (p :: r')
theorem Pick.perm {α : Type} {x : α} {l r : List α} (h : Pick x l r) : l.Perm (x :: r) := by
  induction h with
  | hd => exact .refl _
  | tl _ ih => exact (List.Perm.cons _ ih).trans (.swap ..)

/-! what is owned -/
inductive Kd where
  | lst (xs : List Value)
  | tup (xs : List Value)
  | lit (l : Addr) (i : Nat)
  | ns (m : List (Str × Option Value))
  | cel (v : Option Value)
  | raw (o : Obj)
  | enm (it : Addr) (i : Nat)
  | enmO (it : Addr) (i : Nat) (item : Value) (t : Addr)
  | sit (x : Str) (t : Tok) (i : Nat)
  | rit (x left step : Int)
  | rng (a b c : Int)
  | tit (t : Addr) (i : Nat)
  | cod (q : Str)
  | rvi (l : Addr) (i : Int)
noncomputable def PlainTup (h : Heap) (a : Addr) (items : Array Value) : Prop := ∃ n, h.get? a = some { cls := .type "tuple", data := .seq items n }
theorem PlainTup.isTup {h : Heap} {a : Addr} {items : Array Value} (x : PlainTup h a items) : IsTup h a items := let ⟨n, e⟩ := x; ⟨_, e, rfl, n, rfl⟩
theorem PlainTup.isTuple {h : Heap} {a : Addr} {items : Array Value} (x : PlainTup h a items) : h.IsTuple a items := let ⟨n, e⟩ := x; ⟨_, e, rfl, n, rfl⟩
noncomputable def lkO (m : List (Str × Option Value)) (x : Str) : Option Value := (m.lookup x).join
noncomputable def Kd.at (h : Heap) (a : Addr) : Kd → Prop
  | .lst xs => h.PlainList a xs.toArray
  | .tup xs => PlainTup h a xs.toArray
  | .lit l i => h.IsListIter a l i
  | .ns m => h.Ns a (lkO m) ∧ (m.map (·.1)).Nodup
  | .cel v => h.IsCell a v
  | .raw o => h.get? a = some o
  | .enm it i => ∃ old, IsEnum h a it i old
  | .enmO it i item t => IsEnumOut h a it i item t
  | .sit x t i => h.IsStrIter a "str_ascii_iterator" x t i
  | .rit x left step => IsRangeIter h a x left step
  | .rng x y c => ∃ t u v, IsRange h a x y c t u v
  | .tit t i => h.IsTupleIter a t i
  | .cod q => h.CodeRec (.ref a) q
  | .rvi l i => Heap.IsRevIter h a l i
theorem at_lst {h : Heap} {a : Addr} {xs : List Value} (x : h.PlainList a xs.toArray) : (Kd.lst xs).at h a := x
theorem at_tup {h : Heap} {a : Addr} {xs : List Value} (x : PlainTup h a xs.toArray) : (Kd.tup xs).at h a := x
theorem at_lit {h : Heap} {a l : Addr} {i : Nat} (x : h.IsListIter a l i) : (Kd.lit l i).at h a := x
theorem at_cel {h : Heap} {a : Addr} {v : Option Value} (x : h.IsCell a v) : (Kd.cel v).at h a := x
theorem at_raw {h : Heap} {a : Addr} {o : Obj} (x : h.get? a = some o) : (Kd.raw o).at h a := x
theorem at_enm {h : Heap} {a it : Addr} {i : Nat} {old : Value} (x : IsEnum h a it i old) : (Kd.enm it i).at h a := ⟨old, x⟩
theorem at_enmO {h : Heap} {a it t : Addr} {i : Nat} {item : Value} (x : IsEnumOut h a it i item t) : (Kd.enmO it i item t).at h a := x
theorem at_sit {h : Heap} {a : Addr} {x : Str} {t : Tok} {i : Nat} (y : h.IsStrIter a "str_ascii_iterator" x t i) : (Kd.sit x t i).at h a := y
theorem at_rit {h : Heap} {a : Addr} {x l c : Int} (y : IsRangeIter h a x l c) : (Kd.rit x l c).at h a := y
theorem at_rng {h : Heap} {a : Addr} {x y c : Int} {t u v : Tok} (q : IsRange h a x y c t u v) : (Kd.rng x y c).at h a := ⟨t, u, v, q⟩
theorem at_tit {h : Heap} {a t : Addr} {i : Nat} (x : h.IsTupleIter a t i) : (Kd.tit t i).at h a := x
theorem at_cod {h : Heap} {a : Addr} {q : Str} (x : h.CodeRec (.ref a) q) : (Kd.cod q).at h a := x
theorem at_rvi {h : Heap} {a l : Addr} {i : Int} (x : Heap.IsRevIter h a l i) : (Kd.rvi l i).at h a := x
theorem Kd.at_alive {h : Heap} {a : Addr} {k : Kd} (x : k.at h a) : ∃ o, h.get? a = some o := by
  cases k with
  | lst => obtain ⟨o, ho⟩ := x; exact ⟨_, ho⟩
  | tup => obtain ⟨o, ho⟩ := x; exact ⟨_, ho⟩
  | lit => obtain ⟨o, ho, _⟩ := x; exact ⟨o, ho⟩
  | ns => obtain ⟨⟨o, _, _, ho, _⟩, _⟩ := x; exact ⟨o, ho⟩
  | cel => obtain ⟨o, ho, _⟩ := x; exact ⟨o, ho⟩
  | raw => exact ⟨_, x⟩
  | enm => obtain ⟨_, ho⟩ := x; exact ⟨_, ho⟩
  | enmO => exact ⟨_, x⟩
  | sit => obtain ⟨o, ho, _⟩ := x; exact ⟨o, ho⟩
  | rit => exact ⟨_, x⟩
  | rng => obtain ⟨_, _, _, ho⟩ := x; exact ⟨_, ho⟩
  | tit => obtain ⟨o, ho, _⟩ := x; exact ⟨o, ho⟩
  | cod => obtain ⟨c, o, _, _, e, ho, _⟩ := x; cases e; exact ⟨o, ho⟩
  | rvi => obtain ⟨o, ho, _⟩ := x; exact ⟨o, ho⟩
theorem Kd.at_keep {h h' : Heap} {a : Addr} {k : Kd} (x : k.at h a) (e : ∀ o, h.get? a = some o → h'.get? a = some o) : k.at h' a := by
  cases k with
  | lst => obtain ⟨o, ho⟩ := x; exact ⟨o, e _ ho⟩
  | tup => obtain ⟨o, ho⟩ := x; exact ⟨o, e _ ho⟩
  | lit => obtain ⟨o, ho, r⟩ := x; exact ⟨o, e _ ho, r⟩
  | ns => obtain ⟨⟨o, es, ep, ho, r⟩, n⟩ := x; exact ⟨⟨o, es, ep, e _ ho, r⟩, n⟩
  | cel => obtain ⟨o, ho, r⟩ := x; exact ⟨o, e _ ho, r⟩
  | raw => exact e _ x
  | enm => obtain ⟨old, ho⟩ := x; exact ⟨old, e _ ho⟩
  | enmO => exact e _ x
  | sit => obtain ⟨o, ho, r⟩ := x; exact ⟨o, e _ ho, r⟩
  | rit => exact e _ x
  | rng => obtain ⟨t, u, v, ho⟩ := x; exact ⟨t, u, v, e _ ho⟩
  | tit => obtain ⟨o, ho, r⟩ := x; exact ⟨o, e _ ho, r⟩
  | rvi => obtain ⟨o, ho, r⟩ := x; exact ⟨o, e _ ho, r⟩
  | cod => obtain ⟨c, o, vs, t, q, ho, r⟩ := x; cases q; exact ⟨a, o, vs, t, rfl, e _ ho, r⟩

theorem lookup_has {α β : Type} [BEq α] [LawfulBEq α] {x : α} {o : β} {m : List (α × β)} (h : Has x o m) (hn : (m.map (·.1)).Nodup) : m.lookup x = some o := by
  induction h with
  | hd => simp
  | @tl p r hr ih =>
    rw [List.map_cons, List.nodup_cons] at hn
    have hne : x ≠ p.1 := fun e => hn.1 (e ▸ List.mem_map.mpr ⟨_, hr.mem, rfl⟩)
    obtain ⟨a, b⟩ := p
    rw [List.lookup_cons, beq_eq_false_iff_ne.mpr hne]
    exact ih hn.2
theorem lkO_has {m : List (Str × Option Value)} {x : Str} {o : Option Value} (h : Has x o m) (hn : (m.map (·.1)).Nodup) : lkO m x = o := by
  unfold lkO
  rw [lookup_has h hn]
  rfl
theorem lkO_set {m m' : List (Str × Option Value)} {x : Str} {o o' : Option Value} (h : Set1 x o o' m m') (hn : (m.map (·.1)).Nodup) : lkO m' = fun y => if y = x then o' else lkO m y := by
  funext y
  induction h with
  | @hd r =>
    unfold lkO
    rw [List.lookup_cons, List.lookup_cons]
    by_cases e : y = x
    · subst e; simp
    · rw [beq_eq_false_iff_ne.mpr e, if_neg e]
  | @tl p r r' hr ih =>
    rw [List.map_cons, List.nodup_cons] at hn
    have hne : x ≠ p.1 := fun e => hn.1 (e ▸ List.mem_map.mpr ⟨_, hr.has.mem, rfl⟩)
    obtain ⟨a, b⟩ := p
    unfold lkO at ih ⊢
    rw [List.lookup_cons, List.lookup_cons]
    by_cases e : y = a
    · subst e
      simp only [beq_self_eq_true]
      rw [if_neg (fun q => hne q.symm)]
    · rw [beq_eq_false_iff_ne.mpr e]
      exact ih hn.2

/-! the state: a ground that stays, owned objects, the run's other parts -/
structure St (g : Heap) (z s : Shared) (ow : List (Addr × Kd)) : Prop where
  kp : ∀ b o, g.get? b = some o → s.heap.get? b = some o
  own : ∀ p ∈ ow, p.2.at s.heap p.1
  frs : ∀ p ∈ ow, g.get? p.1 = none
  nd : (ow.map (·.1)).Nodup
  rest : s.gens = z.gens ∧ s.drawn = z.drawn ∧ s.os = z.os
section
variable {g : Heap} {z s : Shared} {ow ow' : List (Addr × Kd)} {a : Addr} {k k' : Kd}
theorem St.get (S : St g z s ow) (h : Has a k ow) : k.at s.heap a := S.own _ h.mem
theorem St.alive (S : St g z s ow) {p : Addr × Kd} (h : p ∈ ow) : ∃ o, s.heap.get? p.1 = some o := Kd.at_alive (S.own _ h)
/-- one owned object changes -/
theorem St.upd (S : St g z s ow) (h : Set1 a k k' ow ow') {h' : Heap} (hk : ∀ b o, b ≠ a → s.heap.get? b = some o → h'.get? b = some o) (hn : k'.at h' a) (tk : Nat) : St g z { s with heap := h', toks := tk } ow' := by
  refine ⟨fun b o e => ?_, fun p hp => ?_, fun p hp => ?_, by rw [h.keys]; exact S.nd, S.rest⟩
  · refine hk b o (fun q => ?_) (S.kp b o e)
    have := S.frs _ h.has.mem
    rw [← q, e] at this; cases this
  · rcases h.cases S.nd p hp with e | ⟨hm, hne⟩
    · rw [e]; exact hn
    · exact Kd.at_keep (S.own _ hm) fun o e => hk _ o hne e
  · have : p.1 ∈ ow'.map (·.1) := List.mem_map.mpr ⟨p, hp, rfl⟩
    rw [h.keys] at this
    obtain ⟨q, hq, e⟩ := List.mem_map.mp this
    rw [← e]; exact S.frs _ hq
/-- some owned objects change -/
inductive Sets (h' : Heap) : List Addr → List (Addr × Kd) → List (Addr × Kd) → Prop
  | nil {ow : List (Addr × Kd)} : Sets h' [] ow ow
  | cons {a : Addr} {k k' : Kd} {C : List Addr} {ow ow₁ ow₂ : List (Addr × Kd)} : Set1 a k k' ow ow₁ → k'.at h' a → Sets h' C ow₁ ow₂ → Sets h' (a :: C) ow ow₂
theorem Sets.keys {h' : Heap} {C : List Addr} (x : Sets h' C ow ow') : ow'.map (·.1) = ow.map (·.1) := by
  induction x with
  | nil => rfl
  | cons h _ _ ih => exact ih.trans h.keys
theorem Sets.cases {h' : Heap} {C : List Addr} (x : Sets h' C ow ow') (hn : (ow.map (·.1)).Nodup) : ∀ p ∈ ow', p.2.at h' p.1 ∨ (p ∈ ow ∧ p.1 ∉ C) := by
  induction x with
  | nil => exact fun p hp => .inr ⟨hp, List.not_mem_nil⟩
  | cons h ha _ ih =>
    intro p hp
    rcases ih (by rw [h.keys]; exact hn) p hp with q | ⟨q1, q2⟩
    · exact .inl q
    · rcases h.cases hn p q1 with e | ⟨e1, e2⟩
      · rw [e]; exact .inl ha
      · exact .inr ⟨e1, fun hm => by rcases List.mem_cons.mp hm with e | e; exact e2 e; exact q2 e⟩
theorem Sets.mem {h' : Heap} {C : List Addr} (x : Sets h' C ow ow') : ∀ a ∈ C, a ∈ ow.map (·.1) := by
  induction x with
  | nil => exact fun _ h => absurd h List.not_mem_nil
  | cons h _ _ ih =>
    intro a ha
    rcases List.mem_cons.mp ha with e | e
    · rw [e]; exact List.mem_map.mpr ⟨_, h.has.mem, rfl⟩
    · rw [← h.keys]; exact ih a e
theorem St.upds (S : St g z s ow) {h' : Heap} {C : List Addr} (x : Sets h' C ow ow') (hk : ∀ b o, b ∉ C → s.heap.get? b = some o → h'.get? b = some o) (tk : Nat) : St g z { s with heap := h', toks := tk } ow' := by
  have fr : ∀ a ∈ ow.map (·.1), g.get? a = none := fun a ha => by
    obtain ⟨p, hp, e⟩ := List.mem_map.mp ha
    rw [← e]; exact S.frs p hp
  refine ⟨fun b o e => ?_, fun p hp => ?_, fun p hp => ?_, by rw [x.keys]; exact S.nd, S.rest⟩
  · refine hk b o (fun q => ?_) (S.kp b o e)
    rw [fr b (x.mem b q)] at e; cases e
  · rcases x.cases S.nd p hp with q | ⟨q1, q2⟩
    · exact q
    · exact Kd.at_keep (S.own _ q1) fun o e => hk _ o q2 e
  · exact fr _ (by rw [← x.keys]; exact List.mem_map_of_mem hp)
theorem St.ne (S : St g z s ow) {b : Addr} {kb : Kd} (h1 : Has a k ow) (h2 : Has b kb ow) (hne : k ≠ kb) : a ≠ b := by
  intro e
  subst e
  have hn := S.nd
  clear S
  induction h1 with
  | hd =>
    rw [List.map_cons, List.nodup_cons] at hn
    cases h2 with
    | hd => exact hne rfl
    | tl h2 => exact hn.1 (List.mem_map.mpr ⟨_, h2.mem, rfl⟩)
  | tl h1 ih =>
    rw [List.map_cons, List.nodup_cons] at hn
    cases h2 with
    | hd => exact hn.1 (List.mem_map.mpr ⟨_, h1.mem, rfl⟩)
    | tl h2 => exact ih h2 hn.2
/-- only other objects change: those neither owned nor of the ground -/
theorem St.ext (S : St g z s ow) {h' : Heap} (hk : ∀ b o, s.heap.get? b = some o → h'.get? b = some o) (tk : Nat) : St g z { s with heap := h', toks := tk } ow :=
  ⟨fun b o e => hk _ _ (S.kp b o e), fun p hp => Kd.at_keep (S.own p hp) fun o e => hk _ o e, S.frs, S.nd, S.rest⟩
theorem St.tok (S : St g z s ow) (tk : Nat) : St g z { s with toks := tk } ow := ⟨S.kp, S.own, S.frs, S.nd, S.rest⟩
/-- a new object -/
theorem St.new (S : St g z s ow) {h' : Heap} (hk : ∀ b o, s.heap.get? b = some o → h'.get? b = some o) (ha : s.heap.get? a = none) (hn : k.at h' a) (tk : Nat) : St g z { s with heap := h', toks := tk } ((a, k) :: ow) := by
  have S' := S.ext hk tk
  refine ⟨S'.kp, fun p hp => ?_, fun p hp => ?_, ?_, S'.rest⟩
  · rcases List.mem_cons.mp hp with e | hp
    · rw [e]; exact hn
    · exact S'.own p hp
  · rcases List.mem_cons.mp hp with e | hp
    · rw [e]
      cases q : g.get? a with
      | none => rfl
      | some o => rw [S.kp _ _ q] at ha; cases ha
    · exact S'.frs p hp
  · rw [List.map_cons, List.nodup_cons]
    refine ⟨fun hm => ?_, S.nd⟩
    obtain ⟨p, hp, e⟩ := List.mem_map.mp hm
    obtain ⟨o, ho⟩ := S.alive hp
    have e' : p.1 = a := e
    rw [e', ha] at ho; cases ho
theorem size_none (h : Heap) : h.get? h.objs.size = none := by
  cases q : h.get? h.objs.size with
  | none => rfl
  | some o => exact absurd (Heap.lt_size q) (Nat.lt_irrefl _)
theorem St.push (S : St g z s ow) {o : Obj} (hf : o.isFreed = false) (hn : k.at (s.heap.push o) s.heap.objs.size) (tk : Nat) : St g z { s with heap := s.heap.push o, toks := tk } ((s.heap.objs.size, k) :: ow) :=
  S.new (fun _ _ e => Heap.get?_push_of_some _ e) (size_none _) hn tk
theorem St.lt (S : St g z s ow) : ∀ p ∈ ow, p.1 < s.heap.objs.size := fun p hp => by obtain ⟨o, ho⟩ := S.alive hp; exact Heap.lt_size ho
theorem St.fresh (S : St g z s ow) {b : Addr} (h : s.heap.objs.size ≤ b) : g.get? b = none := by
  cases q : g.get? b with
  | none => rfl
  | some o => exact absurd (Heap.lt_size (S.kp _ _ q)) (Nat.not_lt.mpr h)
/-- some owned change, some are new -/
theorem St.adds (S : St g z s ow) {h' : Heap} {C : List Addr} {news : List (Addr × Kd)} (x : Sets h' C ow ow') (hk : ∀ b o, b ∉ C → s.heap.get? b = some o → h'.get? b = some o)
    (hn : ∀ p ∈ news, s.heap.objs.size ≤ p.1 ∧ p.2.at h' p.1) (nd : (news.map (·.1)).Nodup) (tk : Nat) : St g z { s with heap := h', toks := tk } (news ++ ow') := by
  have S1 := S.upds x hk tk
  refine ⟨S1.kp, fun p hp => ?_, fun p hp => ?_, ?_, S1.rest⟩
  · rcases List.mem_append.mp hp with hp | hp
    · exact (hn p hp).2
    · exact S1.own p hp
  · rcases List.mem_append.mp hp with hp | hp
    · exact S.fresh (hn p hp).1
    · exact S1.frs p hp
  · rw [List.map_append, List.nodup_append]
    refine ⟨nd, S1.nd, fun a ha b hb e => ?_⟩
    obtain ⟨p, hp, rfl⟩ := List.mem_map.mp ha
    rw [x.keys] at hb
    obtain ⟨q, hq, rfl⟩ := List.mem_map.mp hb
    have h1 := (hn p hp).1
    rw [e] at h1
    exact absurd (S.lt q hq) (Nat.not_lt.mpr h1)
theorem St.perm (S : St g z s ow) (h : ow.Perm ow') : St g z s ow' :=
  ⟨S.kp, fun p hp => S.own p (h.mem_iff.mpr hp), fun p hp => S.frs p (h.mem_iff.mpr hp), (h.map _).nodup_iff.mp S.nd, S.rest⟩
theorem St.drop {p : Addr × Kd} (S : St g z s (p :: ow)) : St g z s ow :=
  ⟨S.kp, fun q hq => S.own q (.tail _ hq), fun q hq => S.frs q (.tail _ hq), (List.nodup_cons.mp (by simpa using S.nd)).2, S.rest⟩
theorem St.pick {p : Addr × Kd} (S : St g z s ow) (h : Pick p ow ow') : St g z s (p :: ow') := S.perm h.perm
theorem St.weak (S : St g z s ow) {p : Addr × Kd} (h : Pick p ow ow') : St g z s ow' := (S.pick h).drop
inductive Keep {α : Type} : List α → List α → Prop
  | nil {r : List α} : Keep [] r
  | cons {x : α} {l r r' : List α} : Pick x r r' → Keep l r' → Keep (x :: l) r
  | all {r : List α} : Keep r r
  | skip {x : α} {l r : List α} : Keep l r → Keep l (x :: r)
theorem St.keep {ow ow' : List (Addr × Kd)} (S : St g z s ow) (h : Keep ow' ow) : St g z s ow' := by
  have key : ∀ {l r : List (Addr × Kd)}, Keep l r → ∃ t, r.Perm (l ++ t) := by
    intro l r h
    induction h with
    | @nil r => exact ⟨r, .refl _⟩
    | cons hp _ ih =>
      obtain ⟨t, ht⟩ := ih
      exact ⟨t, hp.perm.trans (List.Perm.cons _ ht)⟩
    | @all r => exact ⟨[], by rw [List.append_nil]⟩
    | skip _ ih =>
      obtain ⟨t, ht⟩ := ih
      exact ⟨_ :: t, (List.Perm.cons _ ht).trans List.perm_middle.symm⟩
  obtain ⟨t, ht⟩ := key h
  have S' := S.perm ht
  exact ⟨S'.kp, fun p hp => S'.own p (List.mem_append_left _ hp), fun p hp => S'.frs p (List.mem_append_left _ hp), by
    have := S'.nd
    rw [List.map_append, List.nodup_append] at this
    exact this.1, S'.rest⟩
/-- a smaller state within: only us may change -/
theorem St.enter {us hd : List (Addr × Kd)} (S : St g z s (us ++ hd)) : ∃ g', St g' s s us ∧ (∀ b o, g.get? b = some o → g'.get? b = some o) ∧ (∀ p ∈ hd, p.2.at g' p.1) ∧
    ∀ s' us', St g' s s' us' → St g z s' (us' ++ hd) := by
  have hnd := S.nd
  rw [List.map_append, List.nodup_append] at hnd
  obtain ⟨n1, n2, n3⟩ := hnd
  have off : ∀ p ∈ hd, p.1 ∉ us.map (·.1) := fun p hp hm => n3 p.1 hm p.1 (List.mem_map.mpr ⟨p, hp, rfl⟩) rfl
  have gk : ∀ b o, g.get? b = some o → (hideAll s.heap (us.map (·.1))).get? b = some o := fun b o e => hideAll_get _ (S.kp b o e) fun hm => by
    obtain ⟨p, hp, q⟩ := List.mem_map.mp hm
    have := S.frs p (List.mem_append_left _ hp)
    have q' : p.1 = b := q
    rw [q', e] at this; cases this
  have hat : ∀ p ∈ hd, p.2.at (hideAll s.heap (us.map (·.1))) p.1 := fun p hp => Kd.at_keep (S.own p (List.mem_append_right _ hp)) fun o e => hideAll_get _ e (off p hp)
  refine ⟨hideAll s.heap (us.map (·.1)), ⟨fun b o e => of_hideAll _ e, fun p hp => S.own p (List.mem_append_left _ hp), fun p hp => hideAll_none _ (List.mem_map_of_mem hp), n1, rfl, rfl, rfl⟩, gk, hat, fun s' us' S' => ?_⟩
  refine ⟨fun b o e => S'.kp b o (gk b o e), fun p hp => ?_, fun p hp => ?_, ?_, S'.rest.1.trans S.rest.1, S'.rest.2.1.trans S.rest.2.1, S'.rest.2.2.trans S.rest.2.2⟩
  · rcases List.mem_append.mp hp with hp | hp
    · exact S'.own p hp
    · exact Kd.at_keep (hat p hp) fun o e => S'.kp _ o e
  · rcases List.mem_append.mp hp with hp | hp
    · cases q : g.get? p.1 with
      | none => rfl
      | some o => have := S'.frs p hp; rw [gk _ _ q] at this; cases this
    · exact S.frs p (List.mem_append_right _ hp)
  · rw [List.map_append, List.nodup_append]
    refine ⟨S'.nd, n2, fun x hx y hy e => ?_⟩
    obtain ⟨p, hp, rfl⟩ := List.mem_map.mp hx
    obtain ⟨q, hq, rfl⟩ := List.mem_map.mp hy
    obtain ⟨o, ho⟩ := Kd.at_alive (hat q hq)
    have := S'.frs p hp
    rw [e, ho] at this; cases this
end

/-! the room around -/
structure AOk (A : Around) (k : Nat) : Prop where
  handled : A.handled = none
  depth : A.depth + k < recursionLimit
  units : A.units + 16 * k < cLine
theorem AOk.deeper {A : Around} {k : Nat} (x : AOk A (k + 1)) (env : Env) : AOk (A.deeper env) k :=
  ⟨x.handled, by show A.depth + 1 + k < _; have := x.depth; omega, by show A.units + 3 + 16 * k < _; have := x.units; omega⟩
theorem AOk.in1 {A : Around} {k : Nat} (x : AOk A (k + 1)) : AOk A.in1 k :=
  ⟨x.handled, by show A.depth + k < _; have := x.depth; omega, by show A.units + 1 + 16 * k < _; have := x.units; omega⟩
theorem AOk.mono {A : Around} {k k' : Nat} (x : AOk A k) (h : k' ≤ k) : AOk A k' :=
  ⟨x.handled, by have := x.depth; omega, by have := x.units; omega⟩
theorem AOk.room {A : Around} {k : Nat} (x : AOk A (k + 1)) : A.depth < recursionLimit := by have := x.depth; omega
theorem AOk.fits {A : Around} {k : Nat} (x : AOk A k) : A.units < cLine := by have := x.units; omega
/-! what follows, and where an exception goes, under a name of its own: the proofs stay small -/
structure Rto {α : Type} (R0 R : α → Shared → Prop) : Prop where
  h : ∀ r s, R0 r s → R r s
theorem leafR {α : Type} {R0 R : α → Shared → Prop} {r : α} {s : Shared} (H : Rto R0 R) (n : R0 r s) : R r s := H.h r s n
theorem absR {M : Model} {A : Around} {c : Code} {R0 : Result → Shared → Prop} {s : Shared} (h : ∀ R, Rto R0 R → codeAny M A c R s) : codeAny M A c R0 s := h R0 ⟨fun _ _ h => h⟩
theorem absE {α : Type} {M : Model} {A : Around} {x : Sem α} {Q : α → Shared → Prop} {E0 : Value → Shared → Prop} {s : Shared} (h : ∀ E, Rto E0 E → wpAny M A x Q E s) : wpAny M A x Q E0 s := h E0 ⟨fun _ _ h => h⟩
/-! a state with its count of tokens: a walk that binds nothing -/
noncomputable def Se (g : Heap) (z : Shared) (ow : List (Addr × Kd)) (k : Nat) (s : Shared) : Prop := St g z s ow ∧ s.toks = k
theorem startS {g : Heap} {z s : Shared} {ow : List (Addr × Kd)} {G : Shared → Prop} (S : St g z s ow) (n : ∀ s', Se g z ow s.toks s' → G s') : G s := n s ⟨S, rfl⟩
theorem endS {g : Heap} {z : Shared} {ow : List (Addr × Kd)} {k : Nat} {G : Shared → Prop} (n : ∀ s, St g z s ow → G s) : ∀ s, Se g z ow k s → G s := fun s S => n s S.1

end TMBase
section TMDef
open PySem PySem.Spec PySem.Calls PyProof.Rows PySem.W

/-- names that are neither of the two odd ones -/
noncomputable def nmOk (nm : List (Str × NameKind)) : Bool := nm.all fun p => p.2 == .globalImplicit || (!(p.1 == ("__debug__" : Str)) && !(p.1 == ("__classdict__" : Str)))
theorem nmOk_at {nm : List (Str × NameKind)} (h : nmOk nm = true) {x : Str} {k : NameKind} (hx : Has x k nm) (hk : (k == .globalImplicit) = false := by rfl) : (x == ("__debug__" : Str)) = false ∧ (x == ("__classdict__" : Str)) = false := by
  have := List.all_eq_true.mp h _ hx.mem
  dsimp only at this
  rw [hk, Bool.false_or] at this
  simpa using this
/-- what the walk knows of a def's environment -/
structure EO (env : Env) (L : Addr) (nm : List (Str × NameKind)) (cl : List (Str × Addr)) : Prop where
  kind : env.scope.kind = .function
  names : env.scope.names = nm
  nd : (nm.map (·.1)).Nodup
  loc : env.locals = L
  glob : env.globals = mainGlobals
  cells : env.cells = cl
  blt : env.builtins = builtinsNs
  cnd : (cl.map (·.1)).Nodup
  ok : nmOk nm = true
theorem EO.kindOf {env : Env} {L : Addr} {nm : List (Str × NameKind)} {cl : List (Str × Addr)} (e : EO env L nm cl) {x : Str} {k : NameKind} (h : Has x k nm) : env.kindOf x = some k := by
  unfold Env.kindOf
  rw [e.names]
  exact lookup_has h e.nd

/-- what else the environment says -/
structure EX (env : Env) (L : Addr) (cd : Value) (q : Str) : Prop where
  code : env.code = cd
  qual : env.qual = q ++ (".<locals>." : Str)
  frame : env.frame = some L

noncomputable def initL (names : List (Str × NameKind)) (binds : List (Str × Value)) : List (Str × Option Value) :=
  names.filterMap fun p => match p.2 with
    | .local => some (p.1, binds.reverse.lookup p.1)
    | _ => none
theorem initL_keys (binds : List (Str × Value)) : ∀ {names : List (Str × NameKind)}, (names.map (·.1)).Nodup → ((initL names binds).map (·.1)).Nodup ∧ ∀ x ∈ (initL names binds).map (·.1), x ∈ names.map (·.1)
  | [], _ => ⟨List.nodup_nil, fun _ h => h⟩
  | (n, k) :: r, h => by
    rw [List.map_cons, List.nodup_cons] at h
    obtain ⟨i1, i2⟩ := initL_keys binds h.2
    by_cases hk : k = .local
    · subst hk
      have e : initL ((n, .local) :: r) binds = (n, binds.reverse.lookup n) :: initL r binds := rfl
      rw [e, List.map_cons, List.nodup_cons]
      refine ⟨⟨fun hm => h.1 (i2 _ hm), i1⟩, fun x hx => ?_⟩
      rcases List.mem_cons.mp hx with e | hx
      · rw [e]; exact List.mem_cons_self
      · exact List.mem_cons_of_mem _ (i2 x hx)
    · have e : initL ((n, k) :: r) binds = initL r binds := by
        unfold initL
        rw [List.filterMap_cons]
        cases k <;> first | rfl | exact absurd rfl hk
      rw [e]
      exact ⟨i1, fun x hx => List.mem_cons_of_mem _ (i2 x hx)⟩
theorem lookup_none {α β : Type} [BEq α] [LawfulBEq α] {x : α} : ∀ {l : List (α × β)}, x ∉ l.map (·.1) → l.lookup x = none
  | [], _ => rfl
  | (a, b) :: r, h => by
    rw [List.map_cons, List.mem_cons, not_or] at h
    rw [List.lookup_cons, beq_eq_false_iff_ne.mpr h.1]
    exact lookup_none h.2
theorem lkO_init (binds : List (Str × Value)) (x : Str) : ∀ {names : List (Str × NameKind)}, (names.map (·.1)).Nodup → lkO (initL names binds) x = if names.lookup x = some .local then binds.reverse.lookup x else none
  | [], _ => by rfl
  | (n, k) :: r, h => by
    have hk := initL_keys binds h
    rw [List.map_cons, List.nodup_cons] at h
    have ih := lkO_init binds x h.2
    rw [List.lookup_cons]
    by_cases hx : x = n
    · subst hx
      simp only [beq_self_eq_true]
      by_cases hk : k = .local
      · subst hk
        show lkO ((x, binds.reverse.lookup x) :: initL r binds) x = _
        unfold lkO
        rw [List.lookup_cons]
        simp
      · rw [if_neg (by simpa using hk)]
        have e : initL ((x, k) :: r) binds = initL r binds := by
          unfold initL
          rw [List.filterMap_cons]
          cases k <;> first | rfl | exact absurd rfl hk
        rw [e]
        unfold lkO
        rw [lookup_none (fun hm => h.1 ((initL_keys binds h.2).2 _ hm))]
        rfl
    · rw [beq_eq_false_iff_ne.mpr hx]
      dsimp only
      rw [← ih]
      by_cases hk : k = .local
      · subst hk
        show lkO ((n, binds.reverse.lookup n) :: initL r binds) x = _
        unfold lkO
        rw [List.lookup_cons, beq_eq_false_iff_ne.mpr hx]
      · have e : initL ((n, k) :: r) binds = initL r binds := by
          unfold initL
          rw [List.filterMap_cons]
          cases k <;> first | rfl | exact absurd rfl hk
        rw [e]
theorem lookup_rev_cons (n : Str) (v : Value) (r : List (Str × Value)) (y : Str) : ((n, v) :: r).reverse.lookup y = (r.reverse.lookup y).or (if y = n then some v else none) := by
  rw [List.reverse_cons]
  induction r.reverse with
  | nil =>
    show [(n, v)].lookup y = _
    rw [List.lookup_cons]
    by_cases e : y = n
    · subst e; simp
    · rw [beq_eq_false_iff_ne.mpr e, if_neg e]; rfl
  | cons p q ih =>
    obtain ⟨a, b⟩ := p
    rw [List.cons_append, List.lookup_cons, List.lookup_cons]
    by_cases e : y = a
    · subst e; simp
    · rw [beq_eq_false_iff_ne.mpr e]
      exact ih
theorem bindL_is (kindOf : Str → Option NameKind) (y : Str) : ∀ (binds : List (Str × Value)) (m : Str → Option Value), bindL kindOf binds m y = if kindOf y = some .local then (binds.reverse.lookup y).or (m y) else m y
  | [], m => by simp [bindL]
  | (n, v) :: r, m => by
    unfold bindL
    rw [bindL_is kindOf y r, lookup_rev_cons]
    by_cases hy : kindOf y = some .local
    · rw [if_pos hy, if_pos hy]
      by_cases e : y = n
      · subst e
        rw [if_pos hy]
        simp
      · by_cases hn : kindOf n = some .local
        · rw [if_pos hn]; simp [e]
        · rw [if_neg hn]; simp [e]
    · rw [if_neg hy, if_neg hy]
      by_cases hn : kindOf n = some .local
      · rw [if_pos hn]
        have e : y ≠ n := fun e => hy (e ▸ hn)
        simp [e]
      · rw [if_neg hn]
theorem bindC_is (kindOf : Str → Option NameKind) (y : Str) : ∀ (binds : List (Str × Value)) (m : Str → Option Value), bindC kindOf binds m y = if kindOf y = some .local then m y else (binds.reverse.lookup y).or (m y)
  | [], m => by simp [bindC]
  | (n, v) :: r, m => by
    unfold bindC
    rw [bindC_is kindOf y r, lookup_rev_cons]
    by_cases hy : kindOf y = some .local
    · rw [if_pos hy, if_pos hy]
      by_cases hn : kindOf n = some .local
      · rw [if_pos hn]
      · rw [if_neg hn]
        have e : y ≠ n := fun e => hn (e ▸ hy)
        simp [e]
    · rw [if_neg hy, if_neg hy]
      by_cases e : y = n
      · subst e
        rw [if_neg hy]
        simp
      · by_cases hn : kindOf n = some .local
        · rw [if_pos hn]; simp [e]
        · rw [if_neg hn]; simp [e]
theorem initL_binds {names : List (Str × NameKind)} {binds : List (Str × Value)} (hn : (names.map (·.1)).Nodup) (hloc : ∀ x ∈ binds, names.lookup x.1 = some .local) : (fun x => binds.reverse.lookup x) = lkO (initL names binds) := by
  funext x
  rw [lkO_init binds x hn]
  split
  · rfl
  · rename_i h
    refine lookup_none fun hm => h ?_
    obtain ⟨p, hp, e⟩ := List.mem_map.mp hm
    rw [← e]
    exact hloc p (List.mem_reverse.mp hp)

/-- the ground's word -/
noncomputable def Gd (K : Frag) (g : Heap) : Prop := K.In g ∧ ∃ p loose mean mg mb, Top p loose mean mg mb g
theorem Gd.keeps {K : Frag} {g g' : Heap} (G : Gd K g) (k : ∀ b o, g.get? b = some o → g'.get? b = some o) : Gd K g' :=
  let ⟨X, p, l, me, mg, mb, T⟩ := G
  ⟨X.keeps k, p, l, me, mg, mb, T.keeps k⟩
noncomputable def LeaveE (prog : Program) (w : World) (A : Around) (env : Env) (E : Value → Shared → Prop) : Value → Shared → Prop := fun e s' => wpAny (model prog w) (A.deeper env) (leaving env e) (fun _ s'' => E e s'') E s'
noncomputable def retOf : Flow → Value
  | .ret v => v
  | _ => .none

theorem cellsFrom_nodup : ∀ (names : List (Str × NameKind)) (n : Nat) (acc : List (Str × Addr)), (names.map (·.1)).Nodup → (acc.map (·.1)).Nodup → (∀ y ∈ acc.map (·.1), y ∉ names.map (·.1)) → ((cellsFrom n names acc).map (·.1)).Nodup := by
  intro names
  induction names with
  | nil => intro n acc _ h2 _; exact h2
  | cons p names ih =>
    intro n acc h1 h2 h3
    obtain ⟨a, b⟩ := p
    rw [List.map_cons, List.nodup_cons] at h1
    unfold cellsFrom
    split
    · refine ih _ _ h1.2 ?_ ?_
      · rw [List.map_cons, List.nodup_cons]
        exact ⟨fun hm => h3 _ hm (by simp), h2⟩
      · intro y hy
        rw [List.map_cons] at hy
        rcases List.mem_cons.mp hy with e | hy
        · rw [e]; exact h1.1
        · exact fun hm => h3 y hy (by simp only [List.map_cons]; exact List.mem_cons_of_mem _ hm)
    · exact ih _ _ h1.2 h2 fun y hy hm => h3 y hy (by simp only [List.map_cons]; exact List.mem_cons_of_mem _ hm)
theorem cellNames_nodup {names : List (Str × NameKind)} {cs : Nat → List (Str × Addr)} (hcs : ∀ n, cellsFrom n names [] = cs n) (hnd : (names.map (·.1)).Nodup) (n : Nat) : ((cs n).map (·.1)).Nodup := by
  rw [← hcs]
  exact cellsFrom_nodup _ _ _ hnd List.nodup_nil (fun _ h => nomatch h)

section
variable {prog : Program} {w : World} {A : Around} {s z : Shared} {K : Frag} {g : Heap} {us : List (Addr × Kd)} {d : Nat} {Q : Value → Shared → Prop} {E : Value → Shared → Prop}
  {name qual : Str} {params : Arguments} {body : List Stmt} {scope : Scope} {cl : List (Str × Addr)} {dV kV doc pm cdv ct : Value} {an : Option Addr} {fo : Obj} {f : Addr} {args : Args} {binds : List (Str × Value)} {m : List (Str × Option Value)}
/-- a def without cells is entered -/
theorem enter_plain (G : Gd K g) (S : St g z s us) (hA : AOk A (d + 1)) (ho : s.heap.get? f = some fo) (hfd : fo.data = .func (fnX name qual params body scope cl dV kV doc pm an cdv ct)) (hcd : s.heap.CodeRec cdv qual)
    (hbind : BindsTo s (fnX name qual params body scope cl dV kV doc pm an cdv ct) args binds) (hnd : (scope.names.map (·.1)).Nodup) (hok : nmOk scope.names = true) (hm : initL scope.names binds = m) (hcnd : (cl.map (·.1)).Nodup)
    (h : ∀ env L s', EO env L scope.names cl → EX env L cdv qual → St g z s' ((L, .ns m) :: us) → wpAny (model prog w) (A.deeper env) (execs body env) (fun fl s'' => Q (retOf fl) s'') (LeaveE prog w A env E) s')
    (hcell : (scope.names.all fun x => x.2 != .cell) = true) (hloc : (binds.all fun x => scope.names.lookup x.1 == some .local) = true)
    (hco : scope.isCoroutine = false) (hgen : scope.isGenerator = false) (hk : scope.kind = .function) :
    wpAny (model prog w) A (call (.ref f) args.pos args.kw) Q E s := by
  have hloc' : ∀ x ∈ binds, scope.names.lookup x.1 = some .local := fun x hx => by simpa using List.all_eq_true.mp hloc x hx
  obtain ⟨X, p, loose, mean, mg, mb, T⟩ := G
  refine wpAny_call (codeAny_call_def (fd := fnX name qual params body scope cl dV kV doc pm an cdv ct) (body := body) (binds := binds) hA.room ho hfd (T.nolimit.keeps S.kp) hcd rfl hbind
    (fun x hx => by simpa using List.all_eq_true.mp hcell x hx) hloc' (fun h₀ hns hk₀ => ?_) hco hgen hk)
  have S' : St g z { s with heap := h₀, toks := s.toks + binds.length } ((s.heap.objs.size, .ns m) :: us) := by
    refine S.new (k := .ns m) hk₀ (size_none _) (And.intro ?_ ?_) _
    · rw [← hm, ← initL_binds hnd hloc']; exact hns
    · rw [← hm]; exact (initL_keys binds hnd).1
  refine wpAny_mono (h (callEnv (fnX name qual params body scope cl dV kV doc pm an cdv ct) s.heap.objs.size f) s.heap.objs.size _ ⟨hk, rfl, hnd, rfl, rfl, rfl, rfl, hcnd, hok⟩ ⟨rfl, rfl, rfl⟩ S') (fun fl s'' hq => ?_) fun e s'' he => he
  cases fl <;> exact hq
/-- a def with cells of its own is entered -/
theorem enter_cells {vals : List Value} {cs : Nat → List (Str × Addr)} (G : Gd K g) (S : St g z s us) (hA : AOk A (d + 1)) (ho : s.heap.get? f = some fo) (hfd : fo.data = .func (fnX name qual params body scope [] dV kV doc pm an cdv ct)) (hcd : s.heap.CodeRec cdv qual)
    (hbind : bindArgs (fnX name qual params body scope [] dV kV doc pm an cdv ct) ⟨vals, []⟩ = pure binds) (hnd : (scope.names.map (·.1)).Nodup) (hok : nmOk scope.names = true) (hm : initL scope.names binds = m) (hcs : ∀ n, cellsFrom n scope.names [] = cs n)
    (h : ∀ env L s', EO env L scope.names (cs (L + 1)) → EX env L cdv qual → St g z s' ((L, .ns m) :: ((cs (L + 1)).map (fun p => (p.2, Kd.cel (binds.reverse.lookup p.1))) ++ us)) → wpAny (model prog w) (A.deeper env) (execs body env) (fun fl s'' => Q (retOf fl) s'') (LeaveE prog w A env E) s')
    (hbk : (binds.all fun y => scope.names.lookup y.1 == some .local || scope.names.lookup y.1 == some .cell) = true) (hcn : ((cs 0).all fun p => scope.names.lookup p.1 == some .cell) = true)
    (hco : scope.isCoroutine = false) (hgen : scope.isGenerator = false) (hk : scope.kind = .function) :
    wpAny (model prog w) A (call (.ref f) vals) Q E s := by
  obtain ⟨X, p, loose, mean, mg, mb, T⟩ := G
  refine wpAny_call (codeAny_call_cells (fd := fnX name qual params body scope [] dV kV doc pm an cdv ct) (body := body) (binds := binds) hA.room ho hfd (T.nolimit.keeps S.kp) hcd rfl hbind rfl (kindsX hbk _) (fun s₁ x => ?_) hco hgen hk)
  generalize henv : callEnvC (fnX name qual params body scope [] dV kV doc pm an cdv ct) s.heap.objs.size f = env at x ⊢
  have eo : EO env s.heap.objs.size scope.names (cs (s.heap.objs.size + 1)) := by
    subst henv
    exact ⟨hk, rfl, hnd, rfl, rfl, hcs _, rfl, cellNames_nodup hcs hnd _, hok⟩
  have ex : EX env s.heap.objs.size cdv qual := by
    subst henv
    exact ⟨rfl, rfl, rfl⟩
  rw [eo.loc, eo.cells] at x
  have hkind : env.kindOf = fun y => scope.names.lookup y := by
    funext y
    unfold Env.kindOf
    rw [eo.names]
  obtain ⟨h₁, tk, rfl, hk₁⟩ := x.done
  have hL : s.heap.objs.size ≤ s.heap.objs.size := Nat.le_refl _
  have S1 : St g z { s with heap := h₁, toks := tk } ((s.heap.objs.size, .ns m) :: us) := by
    refine S.new (k := .ns m) hk₁ (size_none _) (And.intro ?_ ?_) _
    · have e : lkO m = bindL env.kindOf binds fun _ => none := by
        funext y
        rw [bindL_is, hkind, ← hm, lkO_init binds y hnd]
        simp
      rw [e]
      exact x.toInCall.ns
    · rw [← hm]; exact (initL_keys binds hnd).1
  have S2 : ∀ l : List (Str × Addr), (∀ q ∈ l, q ∈ cs (s.heap.objs.size + 1)) → (l.map (·.2)).Nodup → St g z { s with heap := h₁, toks := tk } (l.map (fun p => (p.2, Kd.cel (binds.reverse.lookup p.1))) ++ ((s.heap.objs.size, .ns m) :: us)) := by
    intro l
    induction l with
    | nil => intro _ _; exact S1
    | cons q r ih =>
      intro hq hn
      rw [List.map_cons, List.nodup_cons] at hn
      have ih' := ih (fun q' h' => hq q' (.tail _ h')) hn.2
      have hmem := hq q (.head _)
      have hab := x.above q.1 q.2 hmem
      have hlk : (cs (s.heap.objs.size + 1)).lookup q.1 = some q.2 := by
        exact lookup_of_mem_nodup (cellNames_nodup hcs hnd _) hmem
      have hc := x.cell q.1 q.2 hlk
      have hkc : ¬ env.kindOf q.1 = some .local := by
        rw [hkind]
        show ¬ scope.names.lookup q.1 = some .local
        have hsame : ∀ (names : List (Str × NameKind)) (n n' : Nat) (acc acc' : List (Str × Addr)), acc.map (·.1) = acc'.map (·.1) → (cellsFrom n names acc).map (·.1) = (cellsFrom n' names acc').map (·.1) := fun a b c d e f => cellsFrom_names a b c d e f
        have h0 : q.1 ∈ (cs 0).map (·.1) := by
          rw [← hcs, hsame scope.names 0 (s.heap.objs.size + 1) [] [] rfl, hcs]
          exact List.mem_map.mpr ⟨q, hmem, rfl⟩
        obtain ⟨q', hq', e⟩ := List.mem_map.mp h0
        have := List.all_eq_true.mp hcn q' hq'
        rw [e] at this
        rw [eq_of_beq this]
        decide
      refine ⟨ih'.kp, fun p hp => ?_, fun p hp => ?_, ?_, ih'.rest⟩
      · rcases List.mem_cons.mp hp with e | hp
        · rw [e]
          show h₁.IsCell q.2 _
          rw [bindC_is, if_neg hkc] at hc
          simpa using hc
        · exact ih'.own p hp
      · rcases List.mem_cons.mp hp with e | hp
        · rw [e]
          cases qq : g.get? q.2 with
          | none => rfl
          | some o => exact absurd (Heap.lt_size (S.kp _ _ qq)) (Nat.not_lt.mpr (Nat.le_of_lt hab))
        · exact ih'.frs p hp
      · rw [List.map_cons, List.cons_append, List.map_cons, List.nodup_cons]
        refine ⟨fun hm => ?_, ih'.nd⟩
        rw [List.map_append, List.mem_append] at hm
        rcases hm with hm | hm
        · rw [List.map_map] at hm
          exact hn.1 hm
        · rw [List.map_cons] at hm
          rcases List.mem_cons.mp hm with e | hm
          · have e' : q.2 = s.heap.objs.size := e
            rw [e'] at hab
            exact absurd hab (Nat.lt_irrefl _)
          · obtain ⟨p, hp, e⟩ := List.mem_map.mp hm
            obtain ⟨o, ho⟩ := S.alive hp
            have e' : p.1 = q.2 := e
            rw [e'] at ho
            exact absurd (Heap.lt_size ho) (Nat.not_lt.mpr (Nat.le_of_lt hab))
  have hap : ((cs (s.heap.objs.size + 1)).map (·.2)).Nodup := List.pairwise_map.mpr x.apart
  have S3 := S2 _ (fun _ h => h) hap
  refine wpAny_mono (h env s.heap.objs.size _ eo ex (S3.perm List.perm_middle)) (fun fl s'' hq => ?_) fun e s'' he => he
  cases fl <;> exact hq
end

end TMDef
section TMRules
open PySem PySem.Spec PySem.Calls PyProof.Rows PySem.W

noncomputable def Then (M : Model) (A : Around) (env : Env) (rest : List Stmt) (Q : Flow → Shared → Prop) (E : Value → Shared → Prop) : Flow → Shared → Prop := fun f s => match f with
  | .next => wpAny M A (execs rest env) Q E s
  | f => Q f s
section
variable {M : Model} {A : Around} {E : Value → Shared → Prop} {s : Shared} {env : Env} {rest : List Stmt} {Q : Flow → Shared → Prop}
theorem then_next (h : wpAny M A (execs rest env) Q E s) : Then M A env rest Q E .next s := h
theorem then_ret {v : Value} (h : Q (.ret v) s) : Then M A env rest Q E (.ret v) s := h
theorem then_brk (h : Q .brk s) : Then M A env rest Q E .brk s := h
theorem then_cont (h : Q .cont s) : Then M A env rest Q E .cont s := h
theorem x_nil (h : Q .next s) : wpAny M A (execs [] env) Q E s := wpAny_execs_nil h
theorem x_cons {st : Stmt} (h : wpAny M A (exec st env) (Then M A env rest Q E) E s) : wpAny M A (execs (st :: rest) env) Q E s := by
  refine wpAny_execs_cons (wpAny_mono h (fun f s' hf => ?_) fun _ _ e => e)
  cases f <;> exact hf
theorem x_assign {x : Str} {p pos : Pos} {value : Expr} (h : wpAny M A (eval value env) (fun v s₁ => wpAny M A (storeName env x v) (fun _ s₂ => wpAny M A (execs rest env) Q E s₂) E s₁) E s)
    (hs : swapsWith value (some (.Name x p)) pos.line env = pure false := by rfl) : wpAny M A (execs (.Assign [.Name x p] value pos :: rest) env) Q E s := x_cons (wpAny_Assign_Name h hs)
theorem x_aug {x : Str} {p pos : Pos} {op : Operator} {value : Expr} (h : wpAny M A (loadName env x) (fun old s₁ => wpAny M A (eval value env) (fun v s₂ => wpAny M A (inplaceOp op old v) (fun r s₃ => wpAny M A (storeName env x r) (fun _ s₄ => wpAny M A (execs rest env) Q E s₄) E s₃) E s₂) E s₁) E s) :
    wpAny M A (execs (.AugAssign (.Name x p) op value pos :: rest) env) Q E s := x_cons (wpAny_AugAssign_Name h)
theorem x_if {test : Expr} {body orelse : List Stmt} {pos : Pos} (h : wpAny M A (isTrue test env (eval test env)) (fun b s₂ => if b then wpAny M A (execs body env) (Then M A env rest Q E) E s₂ else wpAny M A (execs orelse env) (Then M A env rest Q E) E s₂) E s) :
    wpAny M A (execs (.If test body orelse pos :: rest) env) Q E s := x_cons (wpAny_If h)
theorem x_ret {e : Expr} {pos : Pos} (h : wpAny M A (eval e env) (fun v => Q (.ret v)) E s) : wpAny M A (execs (.Return (some e) pos :: rest) env) Q E s :=
  x_cons (wpAny_Return_some h)
theorem x_pass {pos : Pos} (h : wpAny M A (execs rest env) Q E s) : wpAny M A (execs (.Pass pos :: rest) env) Q E s := x_cons (wpAny_Pass h)
theorem x_expr {prog : Program} {w : World} {e : Expr} {pos : Pos} (h : wpAny (model prog w) A (eval e env) (fun _ s' => wpAny (model prog w) A (execs rest env) Q E s') E s) (hi : interactive env = false)
    (hs : swapsWith e none pos.line env = pure false := by rfl) : wpAny (model prog w) A (execs (.Expr e pos :: rest) env) Q E s := x_cons (wpAny_Expr_any h hi hs)
theorem x_tuple {elts : List Expr} {k : Nat} {tpos pos : Pos} {value : Expr} (h : wpAny M A (eval value env) (fun v s₁ => wpAny M A (assign (.Tuple elts k tpos) env v) (fun _ s₂ => wpAny M A (execs rest env) Q E s₂) E s₁) E s)
    (hs : swapsWithSole [.Tuple elts k tpos] value pos.line env = pure false := by rfl) (hw : swappedStores [.Tuple elts k tpos] value env = pure none := by rfl) :
    wpAny M A (execs (.Assign [.Tuple elts k tpos] value pos :: rest) env) Q E s := x_cons (PyProof.Rows.Assign_Tuple h hs hw)
theorem x_subs {o i value : Expr} {p pos : Pos} (h : wpAny M A (eval value env) (fun v s₁ => wpAny M A (eval o env) (fun ov s₂ => wpAny M A (eval i env) (fun iv s₃ =>
      wpAny M A (setItem ov iv v) (fun _ s₄ => wpAny M A (execs rest env) Q E s₄) E s₃) E s₂) E s₁) E s)
    (hs : swapsWith value (some (.Subscript o i p)) pos.line env = pure false := by rfl) : wpAny M A (execs (.Assign [.Subscript o i p] value pos :: rest) env) Q E s := x_cons (wpAny_Assign_Subscript h hs)
theorem x_augsubs {o i value : Expr} {p pos : Pos} {op : Operator} (h : wpAny M A (eval o env) (fun ov s₁ => wpAny M A (eval i env) (fun iv s₂ => wpAny M A (getItem ov iv) (fun old s₃ =>
      wpAny M A (eval value env) (fun v s₄ => wpAny M A (inplaceOp op old v) (fun new s₅ => wpAny M A (setItem ov iv new) (fun _ s₆ => wpAny M A (execs rest env) Q E s₆) E s₅) E s₄) E s₃) E s₂) E s₁) E s)
    (ha : ∀ ov iv new, augStore i ov iv new = (do holding [new, ov, iv] (setItem ov iv new); release [new, ov, iv] []; pure .next) := by intro _ _ _; rfl) :
    wpAny M A (execs (.AugAssign (.Subscript o i p) op value pos :: rest) env) Q E s := x_cons (wpAny_AugAssign_Subscript_any h ha)
theorem x_del {targets : List Expr} {pos : Pos} (h : wpAny M A (deleteEach targets env) (fun _ s₁ => wpAny M A (execs rest env) Q E s₁) E s) : wpAny M A (execs (.Delete targets pos :: rest) env) Q E s := x_cons (wpAny_Delete h)
theorem x_assert {test : Expr} {msg : Option Expr} {pos : Pos} (h : wpAny M A (isTrue test env (eval test env)) (fun b s₁ => b = true ∧ wpAny M A (execs rest env) Q E s₁) E s) : wpAny M A (execs (.Assert test msg pos :: rest) env) Q E s :=
  x_cons (wpAny_Assert_holds h)
end

section
variable {g : Heap} {z s : Shared} {ow : List (Addr × Kd)} {M : Model} {A : Around} {E : Value → Shared → Prop} {env : Env} {L c : Addr} {nm : List (Str × NameKind)} {cl : List (Str × Addr)} {m m' : List (Str × Option Value)} {x : Str} {pos : Pos} {v : Value} {o : Option Value} {K : Frag}
theorem ns_of (S : St g z s ((L, .ns m) :: ow)) : s.heap.Ns L (lkO m) ∧ (m.map (·.1)).Nodup := S.own _ (.head _)
theorem ld_loc {Q : Value → Shared → Prop} (S : St g z s ((L, .ns m) :: ow)) (e : EO env L nm cl) (hk : Has x .local nm) (hv : Has x (some v) m) (h : Q v s) : wpAny M A (loadName env x) Q E s := by
  obtain ⟨n1, n2⟩ := ns_of S
  exact wpAny_loadName_local e.kind (e.kindOf hk) (by rw [e.loc]; exact n1) (lkO_has hv n2) h
theorem r_loc {Q : Value → Shared → Prop} (S : St g z s ((L, .ns m) :: ow)) (e : EO env L nm cl) (hk : Has x .local nm) (hv : Has x (some v) m) (h : Q v s) : wpAny M A (eval (.Name x pos) env) Q E s :=
  wpAny_Name (ld_loc S e hk hv h) (nmOk_at e.ok hk).1
theorem cel_of (S : St g z s ow) (hv : Has c (.cel o) ow) : s.heap.IsCell c o := S.get hv
theorem ld_cel {Q : Value → Shared → Prop} (S : St g z s ow) (e : EO env L nm cl) (hk : Has x .cell nm) (hc : Has x c cl) (hv : Has c (.cel (some v)) ow) (h : Q v s) : wpAny M A (loadName env x) Q E s :=
  wpAny_loadName_cell e.kind (e.kindOf hk) (by rw [e.cells]; exact lookup_has hc e.cnd) (cel_of S hv) h
theorem r_cel {Q : Value → Shared → Prop} (S : St g z s ow) (e : EO env L nm cl) (hk : Has x .cell nm) (hc : Has x c cl) (hv : Has c (.cel (some v)) ow) (h : Q v s) : wpAny M A (eval (.Name x pos) env) Q E s :=
  wpAny_Name (ld_cel S e hk hc hv h) (nmOk_at e.ok hk).1
theorem r_free {Q : Value → Shared → Prop} (S : St g z s ow) (e : EO env L nm cl) (hk : Has x .free nm) (hc : Has x c cl) (hv : Has c (.cel (some v)) ow) (h : Q v s) : wpAny M A (eval (.Name x pos) env) Q E s :=
  wpAny_Name (wpAny_loadName_free e.kind (e.kindOf hk) (by rw [e.cells]; exact lookup_has hc e.cnd) (cel_of S hv) h (nmOk_at e.ok hk).2) (nmOk_at e.ok hk).1
/-- a cell of the ground -/
theorem r_celG {Q : Value → Shared → Prop} (S : St g z s ow) (e : EO env L nm cl) (hk : Has x .cell nm) (hc : Has x c cl) (hv : g.IsCell c (some v)) (h : Q v s) : wpAny M A (eval (.Name x pos) env) Q E s :=
  wpAny_Name (wpAny_loadName_cell e.kind (e.kindOf hk) (by rw [e.cells]; exact lookup_has hc e.cnd) (hv.keeps S.kp) h) (nmOk_at e.ok hk).1
theorem r_freeG {Q : Value → Shared → Prop} (S : St g z s ow) (e : EO env L nm cl) (hk : Has x .free nm) (hc : Has x c cl) (hv : g.IsCell c (some v)) (h : Q v s) : wpAny M A (eval (.Name x pos) env) Q E s :=
  wpAny_Name (wpAny_loadName_free e.kind (e.kindOf hk) (by rw [e.cells]; exact lookup_has hc e.cnd) (hv.keeps S.kp) h (nmOk_at e.ok hk).2) (nmOk_at e.ok hk).1
theorem r_glob {Q : Value → Shared → Prop} (G : Gd K g) (S : St g z s ow) (e : EO env L nm cl) (hk : Has x .globalImplicit nm) (hg : nsIn K mainGlobals x = some (some v)) (h : Q v s) (hxd : (x == ("__debug__" : Str)) = false := by decide +kernel) : wpAny M A (eval (.Name x pos) env) Q E s := by
  obtain ⟨X, p, loose, mean, mg, mb, T⟩ := G
  exact Name_function_global e.kind (e.kindOf hk) (loadGlobal_global (env := env) (by rw [e.glob]; exact T.g.keeps S.kp) (mg_of X T.g hg) h) hxd
theorem r_bltn {Q : Value → Shared → Prop} (G : Gd K g) (S : St g z s ow) (e : EO env L nm cl) (hk : Has x .globalImplicit nm) (hg : nsIn K mainGlobals x = some none) (hb : bootBuiltins x = some v) (hx : x ≠ "__name__") (h : Q v s) (hxd : (x == ("__debug__" : Str)) = false := by decide +kernel) : wpAny M A (eval (.Name x pos) env) Q E s := by
  obtain ⟨X, p, loose, mean, mg, mb, T⟩ := G
  exact Name_function_global e.kind (e.kindOf hk) (loadGlobal_builtin (env := env) (by rw [e.glob]; exact T.g.keeps S.kp) (mg_none_of X T.g hg) (by rw [e.blt]; exact T.b.keeps S.kp) ((T.builtins x hx).trans hb) h) hxd
theorem st_locT {Q : Unit → Shared → Prop} (S : St g z s ((L, .ns m) :: ow)) (e : EO env L nm cl) (hk : Has x .local nm) (hs : Set1 x o (some v) m m') (h : ∀ s', St g z s' ((L, .ns m') :: ow) → s'.toks = s.toks + 1 → Q () s') : wpAny M A (storeName env x v) Q E s := by
  obtain ⟨n1, n2⟩ := ns_of S
  refine wpAny_storeName_local (e.kindOf hk) (by rw [e.loc]; exact n1) (fun h' hn hb => h _ (S.upd (k' := .ns m') .hd (fun b ob hne q => ?_) (And.intro ?_ ?_) _) rfl) (by rw [e.kind]; rfl)
  · rw [e.loc] at hb; exact (hb.2 b hne).trans q
  · rw [e.loc] at hn
    have := lkO_set hs n2
    rw [this]
    exact hn
  · rw [hs.keys]; exact n2
theorem st_loc {Q : Unit → Shared → Prop} (S : St g z s ((L, .ns m) :: ow)) (e : EO env L nm cl) (hk : Has x .local nm) (hs : Set1 x o (some v) m m') (h : ∀ s', St g z s' ((L, .ns m') :: ow) → Q () s') : wpAny M A (storeName env x v) Q E s := st_locT S e hk hs fun s' S' _ => h s' S'
theorem st_celT {Q : Unit → Shared → Prop} {ow' : List (Addr × Kd)} (S : St g z s ow) (e : EO env L nm cl) (hk : Has x .cell nm) (hc : Has x c cl) (hs : Set1 c (.cel o) (.cel (some v)) ow ow') (h : ∀ s', St g z s' ow' → s'.toks = s.toks → Q () s') : wpAny M A (storeName env x v) Q E s := by
  refine wpAny_storeName_cell e.kind (e.kindOf hk) (by rw [e.cells]; exact lookup_has hc e.cnd) (cel_of S hs.has) fun h' hv hb => h _ (S.upd hs (fun b ob hne q => (hb.2 b hne).trans q) hv _) rfl
theorem st_cel {Q : Unit → Shared → Prop} {ow' : List (Addr × Kd)} (S : St g z s ow) (e : EO env L nm cl) (hk : Has x .cell nm) (hc : Has x c cl) (hs : Set1 c (.cel o) (.cel (some v)) ow ow') (h : ∀ s', St g z s' ow' → Q () s') : wpAny M A (storeName env x v) Q E s := st_celT S e hk hc hs fun s' S' _ => h s' S'
theorem as_name {Q : Unit → Shared → Prop} (h : wpAny M A (storeName env x v) Q E s) : wpAny M A (assign (.Name x pos) env v) Q E s := wpAny_assign_Name h
/-- a pair is unpacked onto two names -/
theorem as_pairT {Q : Unit → Shared → Prop} {prog : Program} {w : World} {t : Addr} {x y : Str} {p q tp : Pos} {k : Nat} {a b : Value} (hA : A.handled = none) (S : St g z s ow) (ht : Has t (.tup [a, b]) ow)
    (h : ∀ s', St g z s' ow → s'.toks = s.toks → wpAny (model prog w) A (storeName env x a) (fun _ s₁ => wpAny (model prog w) A (storeName env y b) Q E s₁) E s') : wpAny (model prog w) A (assign (.Tuple [.Name x p, .Name y q] k tp) env (.ref t)) Q E s := by
  have hT : s.heap.IsTuple t #[a, b] := PlainTup.isTuple (S.get ht)
  refine wpAny_assign_Tuple hA hT rfl rfl fun h' hx => ?_
  have S' : St g z { s with heap := h' } ow := S.ext (fun b o e => hx b o (Nat.ne_of_lt (Heap.lt_size e)) e) _
  have h2 := h _ S' rfl
  show wpAny _ _ (assignInOrder [assign (.Name x p) env, assign (.Name y q) env] [a, b]) _ _ _
  unfold assignInOrder
  refine wpAny_bind (wpAny_holding ?_)
  refine wpAny_assign_Name (wpAny_mono h2 (fun _ s₁ h₁ => ?_) fun _ _ e => e)
  unfold assignInOrder
  refine wpAny_bind (wpAny_holding ?_)
  refine wpAny_assign_Name (wpAny_mono h₁ (fun _ s₂ h₂ => ?_) fun _ _ e => e)
  unfold assignInOrder
  exact wpAny_pure h₂
theorem as_pair {Q : Unit → Shared → Prop} {prog : Program} {w : World} {t : Addr} {x y : Str} {p q tp : Pos} {k : Nat} {a b : Value} (hA : A.handled = none) (S : St g z s ow) (ht : Has t (.tup [a, b]) ow)
    (h : ∀ s', St g z s' ow → wpAny (model prog w) A (storeName env x a) (fun _ s₁ => wpAny (model prog w) A (storeName env y b) Q E s₁) E s') : wpAny (model prog w) A (assign (.Tuple [.Name x p, .Name y q] k tp) env (.ref t)) Q E s := as_pairT hA S ht fun s' S' _ => h s' S'
end

/-! ints -/
section
variable {g : Heap} {z s : Shared} {ow : List (Addr × Kd)} {prog : Program} {w : World} {A : Around} {E : Value → Shared → Prop} {a b : Int} {t u : Tok} {Q : Value → Shared → Prop} {env : Env} {pos : Pos}
theorem r_int {i : Int} {k : Nat} (S : St g z s ow) (h : ∀ t s', St g z s' ow → Q (.int i t) s') : wpAny (model prog w) A (eval (.Constant (.int i) k pos) env) Q E s := wpAny_Constant_int (h _ _ (S.tok _))
theorem r_str {x : Str} {k : Nat} (S : St g z s ow) (h : ∀ t s', St g z s' ow → Q (.str x t) s') : wpAny (model prog w) A (eval (.Constant (.str x) k pos) env) Q E s := wpAny_Constant_str (h _ _ (S.tok _))
theorem r_bool {c : Bool} {k : Nat} (h : Q (.bool c) s) : wpAny (model prog w) A (eval (.Constant (.bool c) k pos) env) Q E s := wpAny_Constant_bool h
theorem r_none {k : Nat} (h : Q .none s) : wpAny (model prog w) A (eval (.Constant .none k pos) env) Q E s := wpAny_Constant_none h
theorem r_add (S : St g z s ow) (h : ∀ t s', St g z s' ow → Q (.int (a + b) t) s') : wpAny (model prog w) A (binaryOp .Add (.int a t) (.int b u)) Q E s := PyProof.Rows.add_int (h _ _ (S.tok _))
theorem r_iadd (S : St g z s ow) (h : ∀ t s', St g z s' ow → Q (.int (a + b) t) s') : wpAny (model prog w) A (inplaceOp .Add (.int a t) (.int b u)) Q E s := PyProof.Rows.iadd_int (h _ _ (S.tok _))
theorem r_sub (S : St g z s ow) (h : ∀ t s', St g z s' ow → Q (.int (a - b) t) s') : wpAny (model prog w) A (binaryOp .Sub (.int a t) (.int b u)) Q E s := PyProof.Rows.sub_int (h _ _ (S.tok _))
theorem r_mod (S : St g z s ow) (hb : b ≠ 0) (h : ∀ t s', St g z s' ow → Q (.int (a.fmod b) t) s') : wpAny (model prog w) A (binaryOp .Mod (.int a t) (.int b u)) Q E s := mod_int' hb (h _ _ (S.tok _))
theorem r_fdiv (S : St g z s ow) (hb : b ≠ 0) (hp : Builtin.divisionGoesByPylong a b = false) (h : ∀ t s', St g z s' ow → Q (.int (a.fdiv b) t) s') : wpAny (model prog w) A (binaryOp .FloorDiv (.int a t) (.int b u)) Q E s := floordiv_int hb (h _ _ (S.tok _)) (.inl hp)
theorem r_mul (S : St g z s ow) (hf : IntMulOk a b) (h : ∀ t s', St g z s' ow → Q (.int (a * b) t) s') : wpAny (model prog w) A (binaryOp .Mult (.int a t) (.int b u)) Q E s := PyProof.Rows.mul_int (h _ _ (S.tok _)) hf
theorem r_and (S : St g z s ow) (h : ∀ t s', St g z s' ow → Q (.int (Builtin.bitAnd a b) t) s') : wpAny (model prog w) A (binaryOp .BitAnd (.int a t) (.int b u)) Q E s := and_int (h _ _ (S.tok _))
theorem r_or (S : St g z s ow) (h : ∀ t s', St g z s' ow → Q (.int (Builtin.bitOr a b) t) s') : wpAny (model prog w) A (binaryOp .BitOr (.int a t) (.int b u)) Q E s := or_int (h _ _ (S.tok _))
theorem r_xor (S : St g z s ow) (h : ∀ t s', St g z s' ow → Q (.int (Builtin.bitXor a b) t) s') : wpAny (model prog w) A (binaryOp .BitXor (.int a t) (.int b u)) Q E s := xor_int (h _ _ (S.tok _))
theorem r_shl (S : St g z s ow) (hA : A.handled = none) (h0 : 0 ≤ b) (hsz : (Builtin.Int.intBits a : Int) + b ≤ 2 ^ 27) (h : ∀ t s', St g z s' ow → Q (.int (a * 2 ^ b.toNat) t) s') : wpAny (model prog w) A (binaryOp .LShift (.int a t) (.int b u)) Q E s :=
  lshift_int_or hA (fun e => absurd h0 (by omega)) (fun _ => hsz) (fun _ => h _ _ (S.tok _))
theorem r_shr (S : St g z s ow) (h0 : 0 ≤ b) (h : ∀ t s', St g z s' ow → Q (.int (a.fdiv (2 ^ b.toNat)) t) s') : wpAny (model prog w) A (binaryOp .RShift (.int a t) (.int b u)) Q E s := rshift_int h0 (h _ _ (S.tok _))
theorem r_neg (S : St g z s ow) (h : ∀ t s', St g z s' ow → Q (.int (-a) t) s') : wpAny (model prog w) A (unaryOp .USub (.int a t)) Q E s := PyProof.Rows.neg_int (h _ _ (S.tok _))
theorem r_inv (S : St g z s ow) (h : ∀ t s', St g z s' ow → Q (.int (Builtin.bitNot a) t) s') : wpAny (model prog w) A (unaryOp .Invert (.int a t)) Q E s := invert_int (h _ _ (S.tok _))
theorem r_pow (S : St g z s ow) (h0 : 0 ≤ b) (hsz : (Builtin.Int.intBits a : Int) * b ≤ 2 ^ 27) (h : ∀ t s', St g z s' ow → Q (.int (a ^ b.toNat) t) s') : wpAny (model prog w) A (binaryOp .Pow (.int a t) (.int b u)) Q E s := pow_int h0 hsz (h _ _ (S.tok _))
end

end TMRules
section TMLoop
open PySem PySem.Spec PySem.Calls PyProof.Rows PySem.W
section
variable {prog : Program} {w : World} {A : Around} {R : Result → Shared → Prop} {s : Shared} {env : Env}

noncomputable abbrev NE (prog : Program) (w : World) (A : Around) (env : Env) (R : Result → Shared → Prop) : Value → Shared → Prop := notedBy (model prog w) A env fun e s' => R (.error e) s'
/-- what follows a loop's body -/
noncomputable def ForF (prog : Program) (w : World) (A : Around) (env : Env) (target : Expr) (it : Value) (body : List Stmt) (R : Result → Shared → Prop) : Flow → Shared → Prop
  | .next, s => codeAny (model prog w) A (.forLoop target it body [] env) R s
  | .cont, s => codeAny (model prog w) A (.forLoop target it body [] env) R s
  | .brk, s => R (.ok .next) s
  | .ret v, s => R (.ok (.ret v)) s
/-- what follows the next item -/
noncomputable def ForN (prog : Program) (w : World) (A : Around) (env : Env) (target : Expr) (it : Value) (body : List Stmt) (R : Result → Shared → Prop) : Option Value → Shared → Prop
  | none, s => R (.ok .next) s
  | some v, s => wpAny (model prog w) A (letOwnedTupleGo target it v) (fun _ s₁ => wpAny (model prog w) A (assign target env v) (fun _ s₂ => wpAny (model prog w) A (execs body env) (ForF prog w A env target it body R) (NE prog w A env R) s₂) (NE prog w A env R) s₁) (NE prog w A env R) s
theorem for_turn {target : Expr} {it : Value} {body : List Stmt} (h : wpAny (model prog w) A (pyNext it) (ForN prog w A env target it body R) (NE prog w A env R) s) : codeAny (model prog w) A (.forLoop target it body [] env) R s := by
  refine codeAny_of_tree ?_
  show wpAny _ A ((forTurn target it body [] env).onRaise (fun x => do noteFrame x env; theTreesLotGoes x)) _ _ s
  refine wpAny_noted ?_
  simp only [forTurn]
  refine wpAny_bind (wpAny_standAt (wpAny_bind (wpAny_onRaise (wpAny_mono h (fun r s₁ h₁ => ?_) fun _ _ h' => wpAny_standAt h'))))
  cases r with
  | none => exact wpAny_pure ⟨rfl, codeAny_block (wpAny_execs_nil h₁)⟩
  | some v =>
    refine wpAny_bind (wpAny_mono h₁ (fun _ s₁' h₁' => ?_) fun _ _ h' => h')
    refine wpAny_bind (wpAny_mono h₁' (fun _ s₂ h₂ => wpAny_bind (wpAny_mono h₂ (fun f s₃ h₃ => ?_) fun _ _ h' => h')) fun _ _ h' => h')
    cases f with
    | next => exact wpAny_pure ⟨rfl, h₃⟩
    | cont => exact wpAny_pure ⟨rfl, h₃⟩
    | brk => exact wpAny_pure h₃
    | ret v => exact wpAny_pure h₃

/-! comprehensions -/
noncomputable def CompA (prog : Program) (w : World) (A : Around) (env : Env) (e : Expr) (d : Nat) (it acc : Value) (R : Result → Shared → Prop) : Value → Shared → Prop := fun x s =>
  wpAny (model prog w) A (call (.builtin "list.append") [acc, x]) (fun _ s₁ => codeAny (model prog w) A (.compLoop e d it acc env) R s₁) (NE prog w A env R) s
/-- what follows the next item: no test -/
noncomputable def CompN0 (prog : Program) (w : World) (A : Around) (env : Env) (e elt target : Expr) (d : Nat) (it acc : Value) (R : Result → Shared → Prop) : Option Value → Shared → Prop
  | none, s => R (.ok .next) s
  | some v, s => wpAny (model prog w) A (letOwnedTupleGo target it v) (fun _ s₁ => wpAny (model prog w) A (assign target env v) (fun _ s₂ => wpAny (model prog w) A (eval elt env) (CompA prog w A env e d it acc R) (NE prog w A env R) s₂) (NE prog w A env R) s₁) (NE prog w A env R) s
/-- one test -/
noncomputable def CompN1 (prog : Program) (w : World) (A : Around) (env : Env) (e elt target test : Expr) (d : Nat) (it acc : Value) (R : Result → Shared → Prop) : Option Value → Shared → Prop
  | none, s => R (.ok .next) s
  | some v, s => wpAny (model prog w) A (letOwnedTupleGo target it v) (fun _ s₁ => wpAny (model prog w) A (assign target env v) (fun _ s₂ => wpAny (model prog w) A (isTrue test env (eval test env))
      (fun ok s₃ => if ok then wpAny (model prog w) A (eval elt env) (CompA prog w A env e d it acc R) (NE prog w A env R) s₃ else codeAny (model prog w) A (.compLoop e d it acc env) R s₃) (NE prog w A env R) s₂) (NE prog w A env R) s₁) (NE prog w A env R) s
/-- an inner clause -/
noncomputable def CompN2 (prog : Program) (w : World) (A : Around) (env : Env) (e target inner : Expr) (it acc : Value) (R : Result → Shared → Prop) : Option Value → Shared → Prop
  | none, s => R (.ok .next) s
  | some v, s => wpAny (model prog w) A (letOwnedTupleGo target it v) (fun _ s₁ => wpAny (model prog w) A (assign target env v) (fun _ s₂ => wpAny (model prog w) A (eval inner env) (fun x s₃ => wpAny (model prog w) A (pyIter x)
      (fun it' s₄ => codeAny (model prog w) A (.compStart e 1 it' acc env) (fun r s₅ => match r with | .ok _ => codeAny (model prog w) A (.compLoop e 0 it acc env) R s₅ | .error x => cameBackBy (model prog w) A env (NE prog w A env R) x s₅) s₄) (NE prog w A env R) s₃) (NE prog w A env R) s₂) (NE prog w A env R) s₁) (NE prog w A env R) s

theorem compTurn_0 (elt target iter : Expr) (scope : Scope) (pos : Pos) (it acc : Value) (env : Env) :
    compTurn (.ListComp elt [⟨target, iter, [], 0⟩] scope pos) 0 it acc env = (standAt iter.pos >>= fun _ => pyNext it >>= fun r => match r with
      | none => pure (.done .next)
      | some v => letOwnedTupleGo target it v >>= fun _ => assign target env v >>= fun _ =>
        (eval elt env >>= fun x => call (.builtin "list.append") [acc, x] >>= fun _ => pure ()) >>= fun _ =>
          again (.compLoop (.ListComp elt [⟨target, iter, [], 0⟩] scope pos) 0 it acc env)) := by rfl
theorem compTurn_2o (elt target iter target2 inner : Expr) (scope : Scope) (pos : Pos) (it acc : Value) (env : Env) :
    compTurn (.ListComp elt [⟨target, iter, [], 0⟩, ⟨target2, inner, [], 0⟩] scope pos) 0 it acc env = (standAt iter.pos >>= fun _ => pyNext it >>= fun r => match r with
      | none => pure (.done .next)
      | some v => letOwnedTupleGo target it v >>= fun _ => assign target env v >>= fun _ => eval inner env >>= fun x => standAt inner.pos >>= fun _ => foldedSetIterable inner env x >>= fun x => holding [x] (pyIter x) >>= fun it' =>
        runOwn (.compStart (.ListComp elt [⟨target, iter, [], 0⟩, ⟨target2, inner, [], 0⟩] scope pos) 1 it' acc env) env >>= fun _ =>
          again (.compLoop (.ListComp elt [⟨target, iter, [], 0⟩, ⟨target2, inner, [], 0⟩] scope pos) 0 it acc env)) := by rfl
theorem compTurn_2i (elt target iter target2 inner : Expr) (scope : Scope) (pos : Pos) (it acc : Value) (env : Env) :
    compTurn (.ListComp elt [⟨target, iter, [], 0⟩, ⟨target2, inner, [], 0⟩] scope pos) 1 it acc env = (standAt inner.pos >>= fun _ => pyNext it >>= fun r => match r with
      | none => pure (.done .next)
      | some v => letOwnedTupleGo target2 it v >>= fun _ => assign target2 env v >>= fun _ =>
        (eval elt env >>= fun x => call (.builtin "list.append") [acc, x] >>= fun _ => pure ()) >>= fun _ =>
          again (.compLoop (.ListComp elt [⟨target, iter, [], 0⟩, ⟨target2, inner, [], 0⟩] scope pos) 1 it acc env)) := by rfl

theorem comp0 {elt target iter : Expr} {scope : Scope} {pos : Pos} {it acc : Value} (h : wpAny (model prog w) A (pyNext it) (CompN0 prog w A env (.ListComp elt [⟨target, iter, [], 0⟩] scope pos) elt target 0 it acc R) (NE prog w A env R) s) :
    codeAny (model prog w) A (.compLoop (.ListComp elt [⟨target, iter, [], 0⟩] scope pos) 0 it acc env) R s := by
  refine codeAny_of_tree ?_
  show wpAny _ _ ((compTurn (.ListComp elt [⟨target, iter, [], 0⟩] scope pos) 0 it acc env).onRaise (fun x => do noteFrame x env; theTreesLotGoes x)) _ _ s
  refine wpAny_noted ?_
  rw [compTurn_0]
  refine wpAny_bind (wpAny_standAt (wpAny_bind (wpAny_mono h (fun r s₁ h₁ => ?_) fun _ _ h' => h')))
  cases r with
  | none => exact wpAny_pure h₁
  | some v =>
    exact wpAny_bind (wpAny_mono h₁ (fun _ s₂ h₂ => wpAny_bind (wpAny_mono h₂ (fun _ s₃ h₃ => wpAny_bind (wpAny_bind (wpAny_mono h₃ (fun x s₄ h₄ => wpAny_bind (wpAny_mono h₄
      (fun _ s₅ h₅ => wpAny_pure (wpAny_pure ⟨rfl, h₅⟩)) fun _ _ h' => h')) fun _ _ h' => h'))) fun _ _ h' => h')) fun _ _ h' => h')
theorem comp1 {elt target iter test : Expr} {scope : Scope} {pos : Pos} {it acc : Value} (h : wpAny (model prog w) A (pyNext it) (CompN1 prog w A env (.ListComp elt [⟨target, iter, [test], 0⟩] scope pos) elt target test 0 it acc R) (NE prog w A env R) s) :
    codeAny (model prog w) A (.compLoop (.ListComp elt [⟨target, iter, [test], 0⟩] scope pos) 0 it acc env) R s := by
  refine codeAny_of_tree ?_
  show wpAny _ _ ((compTurn (.ListComp elt [⟨target, iter, [test], 0⟩] scope pos) 0 it acc env).onRaise (fun x => do noteFrame x env; theTreesLotGoes x)) _ _ s
  refine wpAny_noted ?_
  rw [compTurn_list]
  refine wpAny_bind (wpAny_standAt (wpAny_bind (wpAny_mono h (fun r s₁ h₁ => ?_) fun _ _ h' => h')))
  cases r with
  | none => exact wpAny_pure h₁
  | some v =>
    refine wpAny_bind (wpAny_mono h₁ (fun _ s₂ h₂ => wpAny_bind (wpAny_mono h₂ (fun _ s₃ h₃ => wpAny_bind (wpAny_tests_one (wpAny_mono h₃ (fun ok s₄ h₄ => ?_) fun _ _ h' => h'))) fun _ _ h' => h')) fun _ _ h' => h')
    cases ok with
    | true => exact wpAny_bind (wpAny_bind (wpAny_mono h₄ (fun x s₄ h₄ => wpAny_bind (wpAny_mono h₄ (fun _ s₅ h₅ => wpAny_pure (wpAny_pure ⟨rfl, h₅⟩)) fun _ _ h' => h')) fun _ _ h' => h'))
    | false => exact wpAny_pure ⟨rfl, h₄⟩
theorem comp2o {elt target iter target2 inner : Expr} {scope : Scope} {pos : Pos} {it acc : Value} (h : wpAny (model prog w) A (pyNext it) (CompN2 prog w A env (.ListComp elt [⟨target, iter, [], 0⟩, ⟨target2, inner, [], 0⟩] scope pos) target inner it acc R) (NE prog w A env R) s)
    (hs : ∀ x, foldedSetIterable inner env x = pure x := by intro _; rfl) (hA : A.handled = none) :
    codeAny (model prog w) A (.compLoop (.ListComp elt [⟨target, iter, [], 0⟩, ⟨target2, inner, [], 0⟩] scope pos) 0 it acc env) R s := by
  refine codeAny_of_tree ?_
  show wpAny _ _ ((compTurn (.ListComp elt [⟨target, iter, [], 0⟩, ⟨target2, inner, [], 0⟩] scope pos) 0 it acc env).onRaise (fun x => do noteFrame x env; theTreesLotGoes x)) _ _ s
  refine wpAny_noted ?_
  rw [compTurn_2o]
  refine wpAny_bind (wpAny_standAt (wpAny_bind (wpAny_mono h (fun r s₁ h₁ => ?_) fun _ _ h' => h')))
  cases r with
  | none => exact wpAny_pure h₁
  | some v =>
    refine wpAny_bind (wpAny_mono h₁ (fun _ s₂ h₂ => wpAny_bind (wpAny_mono h₂ (fun _ s₃ h₃ => wpAny_bind (wpAny_mono h₃ (fun x s₄ h₄ => wpAny_bind (wpAny_standAt (wpAny_bind (wpAny_of_eq (hs x) (wpAny_bind (wpAny_holding (wpAny_mono h₄ (fun it' s₅ h₅ => ?_) fun _ _ h' => h'))))))) fun _ _ h' => h')) fun _ _ h' => h')) fun _ _ h' => h')
    refine wpAny_bind (wpAny_runOwn (codeAny_mono (R := _) h₅ fun r s₆ h₆ => ?_))
    cases r with
    | ok f => exact wpAny_pure ⟨rfl, h₆⟩
    | error x => exact h₆
theorem comp2i {elt target iter target2 inner : Expr} {scope : Scope} {pos : Pos} {it acc : Value} (h : wpAny (model prog w) A (pyNext it) (CompN0 prog w A env (.ListComp elt [⟨target, iter, [], 0⟩, ⟨target2, inner, [], 0⟩] scope pos) elt target2 1 it acc R) (NE prog w A env R) s) :
    codeAny (model prog w) A (.compLoop (.ListComp elt [⟨target, iter, [], 0⟩, ⟨target2, inner, [], 0⟩] scope pos) 1 it acc env) R s := by
  refine codeAny_of_tree ?_
  show wpAny _ _ ((compTurn (.ListComp elt [⟨target, iter, [], 0⟩, ⟨target2, inner, [], 0⟩] scope pos) 1 it acc env).onRaise (fun x => do noteFrame x env; theTreesLotGoes x)) _ _ s
  refine wpAny_noted ?_
  rw [compTurn_2i]
  refine wpAny_bind (wpAny_standAt (wpAny_bind (wpAny_mono h (fun r s₁ h₁ => ?_) fun _ _ h' => h')))
  cases r with
  | none => exact wpAny_pure h₁
  | some v =>
    exact wpAny_bind (wpAny_mono h₁ (fun _ s₂ h₂ => wpAny_bind (wpAny_mono h₂ (fun _ s₃ h₃ => wpAny_bind (wpAny_bind (wpAny_mono h₃ (fun x s₄ h₄ => wpAny_bind (wpAny_mono h₄
      (fun _ s₅ h₅ => wpAny_pure (wpAny_pure ⟨rfl, h₅⟩)) fun _ _ h' => h')) fun _ _ h' => h'))) fun _ _ h' => h')) fun _ _ h' => h')
/-- the start: the iterable may be asked twice -/
theorem comp_start {elt : Expr} {gens : List Comprehension} {sc : Scope} {p : Pos} {d : Nat} {it acc : Value} {t i : Expr} {f : List Expr} (hg : gens[d]? = some ⟨t, i, f, 0⟩)
    (h : codeAny (model prog w) A (.compLoop (.ListComp elt gens sc p) d it acc env) R s) (hit : ∀ A', wpAny (model prog w) A' (pyIter it) (fun it' s' => it' = it ∧ s' = s) (fun _ _ => False) s) :
    codeAny (model prog w) A (.compStart (.ListComp elt gens sc p) d it acc env) R s := by
  refine codeAny_of_tree ?_
  show wpAny _ _ ((compStart (.ListComp elt gens sc p) d it acc env).onRaise (fun x => do noteFrame x env; standAt theWindowsPlace)) _ _ s
  refine wpAny_notedAt ?_
  unfold compStart
  have hc : clausesOf (.ListComp elt gens sc p) = gens := rfl
  rw [hc, hg]
  show wpAny _ _ (ask >>= _) _ _ s
  refine wpAny_bind (wpAny_askSetting (wpAny_ite ?_))
  split
  · first
      | exact wpAny_bind (wpAny_pure (wpAny_pure (And.intro rfl h)))
      | exact wpAny_pure (And.intro rfl h)
  · have fin : wpAny (model prog w) (A.under (.compStart (.ListComp elt gens sc p) d it acc env)) (pyIter it) (fun it' s' => codeAny (model prog w) A (.compLoop (.ListComp elt gens sc p) d it' acc env) R s') (NE prog w A env R) s := wpAny_mono (hit _) (fun it' s' q => by rw [q.2, q.1]; exact h) fun _ _ q => q.elim
    first
      | exact wpAny_bind (wpAny_rule (wpAny_bind (wpAny_standAt (wpAny_bind (wpAny_mono fin (fun it' s' h' => wpAny_pure (And.intro rfl h')) fun _ _ x => x)))))
      | (refine wpAny_bind (wpAny_rule ?_); show wpAny _ _ (standAt i.pos >>= _) _ _ s; exact wpAny_bind (wpAny_standAt (wpAny_bind (wpAny_mono fin (fun it' s' h' => wpAny_pure (And.intro rfl h')) fun _ _ x => x))))
end

end TMLoop
section TMComp
open PySem PySem.Spec PySem.Calls PyProof.Rows PySem.W

theorem St.dropAt {g : Heap} {z s : Shared} {ow : List (Addr × Kd)} {a : Addr} {k : Kd} (S : St g z s ((a, k) :: ow)) {h' : Heap} (hk : ∀ b o, b ≠ a → s.heap.get? b = some o → h'.get? b = some o) (tk : Nat) : St g z { s with heap := h', toks := tk } ow := by
  have hn := S.nd
  rw [List.map_cons, List.nodup_cons] at hn
  refine ⟨fun b o e => hk b o (fun q => ?_) (S.kp b o e), fun p hp => Kd.at_keep (S.own p (.tail _ hp)) fun o e => hk _ o (fun q => hn.1 (List.mem_map.mpr ⟨p, hp, q⟩)) e, fun p hp => S.frs p (.tail _ hp), hn.2, S.rest⟩
  have := S.frs _ (.head _)
  rw [← q, e] at this; cases this

noncomputable def relabelN (names nm : List (Str × NameKind)) : List (Str × NameKind) := names.map fun p => if p.2 == .free && nm.lookup p.1 == some .cell then (p.1, .cell) else p
noncomputable def closN : List (Str × NameKind) → List (Str × Addr) → List (Str × Addr) → Option (List (Str × Addr))
  | [], _, acc => some acc
  | (n, k) :: r, cl, acc => if k == .free then (match cl.lookup n with | some a => closN r cl ((n, a) :: acc) | none => none) else closN r cl acc
section
variable {env : Env} {L : Addr} {nm : List (Str × NameKind)} {clo : List (Str × Addr)}
theorem relabel_names (e : EO env L nm clo) (scope : Scope) : (relabel scope env).names = relabelN scope.names nm := by
  unfold relabel relabelN
  show scope.names.map _ = _
  refine List.map_congr_left fun p hp => ?_
  obtain ⟨n, k⟩ := p
  have hk : env.kindOf n = nm.lookup n := by unfold Env.kindOf; rw [e.names]
  simp only [e.kind, hk, beq_self_eq_true, Bool.and_true]
theorem clos_go (e : EO env L nm clo) : ∀ (names : List (Str × NameKind)) (acc cl : List (Str × Addr)), closN names clo acc = some cl →
    (forIn names acc fun (x : Str × NameKind) (cs : List (Str × Addr)) => (if (x.2 == NameKind.free) = true then (do let a ← cellOf env x.1; pure (ForInStep.yield ((x.1, a) :: cs))) else pure (ForInStep.yield cs) : Sem (ForInStep (List (Str × Addr))))) = pure cl
  | [], acc, cl, h => by cases h; rfl
  | (n, k) :: r, acc, cl, h => by
    unfold closN at h
    rw [List.forIn_cons]
    by_cases hk : (k == NameKind.free) = true
    · rw [if_pos hk] at h ⊢
      cases hq : clo.lookup n with
      | none => rw [hq] at h; cases h
      | some a =>
        rw [hq] at h
        have hc : cellOf env n = pure a := by unfold cellOf; rw [e.cells, hq]
        rw [hc]
        exact clos_go e r _ cl h
    · rw [if_neg hk] at h ⊢
      exact clos_go e r _ cl h
theorem closure_is (e : EO env L nm clo) {scope : Scope} {cl : List (Str × Addr)} (h : closN scope.names clo [] = some cl) : closureFor scope env = pure cl := by
  unfold closureFor
  have h1 := clos_go e scope.names [] cl h
  have h2 : (forIn scope.names ([] : List (Str × Addr)) fun (x : Str × NameKind) (cs : List (Str × Addr)) => (if (x.2 == NameKind.free) = true then (do let a ← cellOf env x.1; pure (ForInStep.yield ((x.1, a) :: cs))) else pure (ForInStep.yield cs) : Sem (ForInStep (List (Str × Addr))))) >>= pure = pure cl := by rw [h1]; rfl
  exact h2
end

section
variable {M : Model} {A : Around} {E : Value → Shared → Prop} {g : Heap} {z s : Shared} {ow : List (Addr × Kd)}
/-- cells made one after the other -/
theorem cells_lay : ∀ (names : List (Str × NameKind)) (acc : List (Str × Addr)) (s : Shared) (ow : List (Addr × Kd)), St g z s ow → ∃ new : List (Addr × Kd), St g z { s with heap := pushCells s.heap names } (new ++ ow) ∧
    (∀ p ∈ new, p.2 = .cel none) ∧ ∃ cs : List (Str × Addr), cellsFrom s.heap.objs.size names acc = cs ++ acc ∧ new.map (·.1) = cs.map (·.2)
  | [], acc, s, ow, S => ⟨[], S, (fun _ h => absurd h List.not_mem_nil), [], rfl, rfl⟩
  | (n, k) :: r, acc, s, ow, S => by
    by_cases hk : (k == NameKind.cell) = true
    · have S1 : St g z { s with heap := s.heap.push { cls := .type "cell", data := .cell none } } ((s.heap.objs.size, .cel none) :: ow) := S.push rfl (at_cel ⟨_, Heap.get?_push_size _ rfl, rfl⟩) _
      obtain ⟨new, S2, hn, cs, hc, hm⟩ := cells_lay r ((n, s.heap.objs.size) :: acc) _ _ S1
      refine ⟨new ++ [(s.heap.objs.size, .cel none)], ?_, ?_, cs ++ [(n, s.heap.objs.size)], ?_, ?_⟩
      · unfold pushCells
        rw [if_pos hk, List.append_assoc]
        exact S2
      · intro p hp
        rcases List.mem_append.mp hp with hp | hp
        · exact hn p hp
        · rw [List.mem_singleton.mp hp]
      · unfold cellsFrom
        rw [if_pos hk, List.append_assoc, List.singleton_append]
        rw [show ({ s with heap := s.heap.push { cls := .type "cell", data := .cell none } } : Shared).heap.objs.size = s.heap.objs.size + 1 from Heap.size_push ..] at hc
        exact hc
      · rw [List.map_append, List.map_append, hm]; rfl
    · obtain ⟨new, S2, hn, cs, hc, hm⟩ := cells_lay r acc s ow S
      refine ⟨new, ?_, hn, cs, ?_, hm⟩
      · unfold pushCells; rw [if_neg hk]; exact S2
      · unfold cellsFrom; rw [if_neg hk]; exact hc

theorem new_env0 {scope : Scope} {globals : Addr} {cl : List (Str × Addr)} {qual : Str} {func : Option Addr} {code : Value} {env : Env} {builtins : Addr} {nm' : List (Str × NameKind)} {Q : Env → Shared → Prop} (S : St g z s ow) (hnd : (nm'.map (·.1)).Nodup)
    (h : ∀ C cs s' new, St g z s' ((C, .ns (initL nm' [])) :: (new ++ ow)) → (∀ p ∈ new, p.2 = .cel none) → cellsFrom (C + 1) scope.names cl = cs ++ cl → new.map (·.1) = cs.map (·.2) → Q (newEnv scope C globals (cs ++ cl) qual func code (some env) builtins) s') :
    wpAny M A (newFunctionEnv scope globals cl [] qual func code (some env) builtins) Q E s := by
  simp only [newFunctionEnv, Option.isSome_some, if_true]
  refine wpAny_bind (wpAny_alloc ?_)
  refine wpAny_bind (wpAny_layCells _ (fun name kind cells => by cases hkc : kind == NameKind.cell <;> simp [hkc]) _ _ _ _ ?_)
  have S1 : St g z { s with heap := s.heap.push { cls := .type "dict", data := .dict #[] } } ((s.heap.objs.size, .ns (initL nm' [])) :: ow) := by
    refine S.push (k := .ns (initL nm' [])) rfl (And.intro ?_ (initL_keys [] hnd).1) _
    have e : lkO (initL nm' []) = fun _ => none := by
      funext y
      rw [lkO_init [] y hnd]
      simp
    rw [e]
    exact Heap.Ns.new s.heap (.type "dict")
  obtain ⟨new, S2, hn, cs, hc, hm⟩ := cells_lay scope.names cl _ _ S1
  have hsz : ({ s with heap := s.heap.push { cls := .type "dict", data := .dict #[] } } : Shared).heap.objs.size = s.heap.objs.size + 1 := Heap.size_push ..
  rw [hsz] at hc ⊢
  rw [hc]
  refine wpAny_bind ?_
  rw [List.forIn_nil]
  refine wpAny_pure (wpAny_pure (h s.heap.objs.size cs _ new (S2.perm List.perm_middle) hn hc hm))
end

noncomputable def CompGo (prog : Program) (w : World) (A : Around) (env : Env) (scope : Scope) (cl : List (Str × Addr)) (e : Expr) (it : Value) (Q : Value → Shared → Prop) (E : Value → Shared → Prop) (s : Shared) : Prop :=
  wpAny (model prog w) A (newList []) (fun acc s₃ => wpAny (model prog w) A (newFunctionEnv scope env.globals cl [] env.qual none .none (some env)) (fun cenv s₄ =>
    codeAny (model prog w) A (.compStart e 0 it acc { cenv with scope := relabel scope env }) (compPost (model prog w) A E none Q acc cenv.locals) s₄) E s₃) E s
/-- how a comprehension's turns end -/
noncomputable def CompR (prog : Program) (w : World) (A : Around) (g : Heap) (z : Shared) (C D : Addr) (Q : Value → Shared → Prop) (E : Value → Shared → Prop) : Result → Shared → Prop
  | .ok _, s => ∃ m ow, St g z s ((C, .ns m) :: ow) ∧ ∀ s', St g z s' ow → Q (.ref D) s'
  | .error x, s => compPost (model prog w) A E none Q (.ref D) C (.error x) s
section
variable {prog : Program} {w : World} {A : Around} {E : Value → Shared → Prop} {g : Heap} {z s : Shared} {ow : List (Addr × Kd)} {env : Env} {L : Addr} {nm nm' : List (Str × NameKind)} {clo cl : List (Str × Addr)}
theorem r_comp {elt target iter : Expr} {ifs : List Expr} {rest : List Comprehension} {scope : Scope} {pos : Pos} {Q : Value → Shared → Prop} (e : EO env L nm clo) (hcl : closN scope.names clo [] = some cl) (hkind : scope.kind = .function)
    (hnames : (scope.names.all fun x => x.2 != .local || scope.names.lookup x.1 == some .local) = true)
    (h : wpAny (model prog w) A (eval iter env) (fun x s₁ => wpAny (model prog w) A (pyIter x) (fun it s₂ => CompGo prog w A env scope cl (.ListComp elt (⟨target, iter, ifs, 0⟩ :: rest) scope pos) it Q E s₂) E s₁) E s)
    (hs : ∀ x, foldedSetIterable iter env x = pure x := by intro _; rfl) : wpAny (model prog w) A (eval (.ListComp elt (⟨target, iter, ifs, 0⟩ :: rest) scope pos) env) Q E s := by
  rw [eval_ListComp]
  refine wpAny_comprehension_free rfl hs (closure_is e hcl) hkind (fun x hx hl => ?_) h
  have := List.all_eq_true.mp hnames x hx
  simpa [hl] using this
theorem comp_go {scope : Scope} {elt : Expr} {gens : List Comprehension} {pos : Pos} {it : Value} {Q : Value → Shared → Prop} (e : EO env L nm clo) (S : St g z s ow) (hnm : relabelN scope.names nm = nm') (hnd : (nm'.map (·.1)).Nodup) (hok : nmOk nm' = true) (hkind : scope.kind = .function)
    (hcn : ∀ cs, cellsFrom 0 scope.names cl = cs → (cs.map (·.1)).Nodup)
    (h : ∀ C D cs cenv s' new, EO cenv C nm' (cs ++ cl) → St g z s' ((C, .ns (initL nm' [])) :: (new ++ (D, .lst []) :: ow)) → (∀ p ∈ new, p.2 = .cel none) → cellsFrom (C + 1) scope.names cl = cs ++ cl → new.map (·.1) = cs.map (·.2) →
      codeAny (model prog w) A (.compStart (.ListComp elt gens scope pos) 0 it (.ref D) cenv) (CompR prog w A g z C D Q E) s') :
    CompGo prog w A env scope cl (.ListComp elt gens scope pos) it Q E s := by
  unfold CompGo
  refine wpAny_newList ?_ (by simp)
  have S1 : St g z { s with heap := s.heap.push { cls := .type "list", data := .seq ([] : List Value).toArray } } ((s.heap.objs.size, .lst []) :: ow) := S.push rfl (at_lst ⟨0, Heap.get?_push_size _ rfl⟩) _
  refine new_env0 (nm' := nm') S1 hnd fun C cs s' new S2 hn hc hm => ?_
  have eo : EO { newEnv scope C env.globals (cs ++ cl) env.qual none .none (some env) builtinsNs with scope := relabel scope env } C nm' (cs ++ cl) := by
    refine ⟨hkind, (relabel_names e scope).trans hnm, hnd, rfl, e.glob, rfl, e.blt, ?_, hok⟩
    have := hcn _ rfl
    rw [cellsFrom_names scope.names 0 (C + 1) cl cl rfl, hc] at this
    exact this
  refine codeAny_mono (h C s.heap.objs.size cs _ s' new eo S2 hn hc hm) fun r s'' hr => ?_
  cases r with
  | ok f =>
    obtain ⟨m, ow', S3, hq⟩ := hr
    exact ⟨lkO m, (S3.own _ (.head _)).1, fun h' hb => hq _ (S3.dropAt (fun b o hne q => (hb.2 b hne).trans q) _)⟩
  | error x => exact hr
end

end TMComp
section TMCall
open PySem PySem.Spec PySem.Calls PyProof.Rows PySem.W

/-! contracts -/
noncomputable def Con (prog : Program) (w : World) (K : Frag) (f : Value) (args : List Value) (kw : List (Str × Value)) (d : Nat) (us : List (Addr × Kd)) (post : Value → List (Addr × Kd) → Prop) : Prop :=
  ∀ (g : Heap) (z s : Shared) (A : Around) (Q E : Value → Shared → Prop), Gd K g → St g z s us → AOk A d → (∀ v s' us', post v us' → St g z s' us' → Q v s') → wpAny (model prog w) A (call f args kw) Q E s
section
variable {prog : Program} {w : World} {K : Frag} {f : Value} {args : List Value} {kw : List (Str × Value)} {d : Nat} {us : List (Addr × Kd)} {post : Value → List (Addr × Kd) → Prop}
  {g : Heap} {z s : Shared} {A : Around} {Q E : Value → Shared → Prop} {fr p p₁ p₂ p₃ : Addr × Kd} {ow ow' ow₁ ow₂ ow₃ : List (Addr × Kd)}
theorem Con.use (C : Con prog w K f args kw d us post) {hd : List (Addr × Kd)} (G : Gd K g) (S : St g z s (us ++ hd)) (hA : AOk A d) (h : ∀ v s' us', post v us' → St g z s' (us' ++ hd) → Q v s') : wpAny (model prog w) A (call f args kw) Q E s := by
  obtain ⟨g', S', gk, _, back⟩ := S.enter
  exact C g' s s A Q E (G.keeps gk) S' hA fun v s' us' hp hs => h v s' us' hp (back _ _ hs)
theorem Con.use0 (C : Con prog w K f args kw d [] post) (G : Gd K g) (S : St g z s (fr :: ow)) (hA : AOk A d) (h : ∀ v s' us', post v us' → St g z s' (fr :: (us' ++ ow)) → Q v s') : wpAny (model prog w) A (call f args kw) Q E s :=
  C.use (hd := fr :: ow) G S hA fun v s' us' hp hs => h v s' us' hp (hs.perm List.perm_middle)
theorem Con.use1 (C : Con prog w K f args kw d [p] post) (G : Gd K g) (S : St g z s (fr :: ow)) (hp : Pick p ow ow') (hA : AOk A d) (h : ∀ v s' us', post v us' → St g z s' (fr :: (us' ++ ow')) → Q v s') : wpAny (model prog w) A (call f args kw) Q E s :=
  C.use (hd := fr :: ow') G (S.perm ((List.Perm.cons _ hp.perm).trans (.swap ..))) hA fun v s' us' hp hs => h v s' us' hp (hs.perm List.perm_middle)
theorem Con.use2 (C : Con prog w K f args kw d [p₁, p₂] post) (G : Gd K g) (S : St g z s (fr :: ow)) (h1 : Pick p₁ ow ow₁) (h2 : Pick p₂ ow₁ ow₂) (hA : AOk A d) (h : ∀ v s' us', post v us' → St g z s' (fr :: (us' ++ ow₂)) → Q v s') : wpAny (model prog w) A (call f args kw) Q E s := by
  have e : ow.Perm (p₁ :: p₂ :: ow₂) := h1.perm.trans (List.Perm.cons _ h2.perm)
  refine C.use (hd := fr :: ow₂) G (S.perm ((List.Perm.cons _ e).trans ?_)) hA fun v s' us' hp hs => h v s' us' hp (hs.perm List.perm_middle)
  exact (List.Perm.swap ..).trans (List.Perm.cons _ (.swap ..))
theorem Con.use3 (C : Con prog w K f args kw d [p₁, p₂, p₃] post) (G : Gd K g) (S : St g z s (fr :: ow)) (h1 : Pick p₁ ow ow₁) (h2 : Pick p₂ ow₁ ow₂) (h3 : Pick p₃ ow₂ ow₃) (hA : AOk A d) (h : ∀ v s' us', post v us' → St g z s' (fr :: (us' ++ ow₃)) → Q v s') : wpAny (model prog w) A (call f args kw) Q E s := by
  have e : ow.Perm (p₁ :: p₂ :: p₃ :: ow₃) := h1.perm.trans (List.Perm.cons _ (h2.perm.trans (List.Perm.cons _ h3.perm)))
  refine C.use (hd := fr :: ow₃) G (S.perm ((List.Perm.cons _ e).trans ?_)) hA fun v s' us' hp hs => h v s' us' hp (hs.perm List.perm_middle)
  exact (List.Perm.swap ..).trans (List.Perm.cons _ ((List.Perm.swap ..).trans (List.Perm.cons _ (.swap ..))))
theorem Con.mono {d' : Nat} (C : Con prog w K f args kw d us post) (h : d ≤ d') : Con prog w K f args kw d' us post := fun g z s A Q E G S hA => C g z s A Q E G S (hA.mono h)
end

/-! calls as they are written -/
section
variable {prog : Program} {w : World} {K : Frag} {g : Heap} {z s : Shared} {A : Around} {Q : Value → Shared → Prop} {E : Value → Shared → Prop} {env : Env} {ow : List (Addr × Kd)} {fr : Addr × Kd}
theorem r_call {x : Str} {np pos : Pos} {args : List Expr} (h : wpAny (model prog w) A (eval (.Name x np) env) (fun f s₁ => wpAny (model prog w) A (callWith pos f [] (backTo pos (starEach args env)) []) Q E s₁) E s) :
    wpAny (model prog w) A (eval (.Call (.Name x np) args [] pos) env) Q E s := wpAny_Call_ofName h
theorem c_def {f : Addr} {pos : Pos} {first : List Value} {e : Expr} {rest : List Expr} (G : Gd K g) (S : St g z s ow) (hk : keepIn K (.ref f) = true)
    (h : wpAny (model prog w) A (spliced (backTo pos (starEach (e :: rest) env))) (fun vs s₁ => K.In s₁.heap ∧ wpAny (model prog w) A (call (.ref f) (first ++ vs)) Q E s₁) E s)
    (he : starEach (e :: rest) env = (false, eval e env) :: starEach rest env := by rfl) (hplain : (backTo pos (starEach rest env)).any (·.1) = false := by rfl) :
    wpAny (model prog w) A (callWith pos (.ref f) first (backTo pos (starEach (e :: rest) env)) []) Q E s := callWith_K (G.1.keeps S.kp) hk h he hplain
theorem c_in (G : Gd K g) (S : St g z s ow) {P : Prop} (h : P) : K.In s.heap ∧ P := ⟨G.1.keeps S.kp, h⟩
theorem c_bltn {id : String} {pos : Pos} {e : Expr} {rest : List Expr} (h : wpAny (model prog w) A (spliced (backTo pos (starEach (e :: rest) env))) (fun vs s₁ => wpAny (model prog w) A (call (.builtin id) vs) Q E s₁) E s)
    (he : starEach (e :: rest) env = (false, eval e env) :: starEach rest env := by rfl) (hplain : (backTo pos (starEach rest env)).any (·.1) = false := by rfl) :
    wpAny (model prog w) A (callWith pos (.builtin id) [] (backTo pos (starEach (e :: rest) env)) []) Q E s := callWith_builtin1 h he hplain
theorem c_type {T : String} {pos : Pos} {e : Expr} {rest : List Expr} (h : wpAny (model prog w) A (spliced (backTo pos (starEach (e :: rest) env))) (fun vs s₁ => wpAny (model prog w) A (call (.type T) vs) Q E s₁) E s)
    (he : starEach (e :: rest) env = (false, eval e env) :: starEach rest env := by rfl) (hplain : (backTo pos (starEach rest env)).any (·.1) = false := by rfl) :
    wpAny (model prog w) A (callWith pos (.type T) [] (backTo pos (starEach (e :: rest) env)) []) Q E s := callWith_type1 h he hplain
theorem c_meth1 {id : String} {pos : Pos} {first : List Value} {e : Expr} {rest : List Expr} (h : wpAny (model prog w) A (spliced (backTo pos (starEach (e :: rest) env))) (fun vs s₁ => wpAny (model prog w) A (call (.builtin id) (first ++ vs)) Q E s₁) E s)
    (he : starEach (e :: rest) env = (false, eval e env) :: starEach rest env := by rfl) (hplain : (backTo pos (starEach rest env)).any (·.1) = false := by rfl) :
    wpAny (model prog w) A (callWith pos (.builtin id) first (backTo pos (starEach (e :: rest) env)) []) Q E s := callWith_method1 h he hplain
theorem c_meth0 {id : String} {pos : Pos} {first : List Value} (h : wpAny (model prog w) A (call (.builtin id) first) Q E s) :
    wpAny (model prog w) A (callWith pos (.builtin id) first (backTo pos (starEach [] env)) []) Q E s := callWith_method0 h
theorem sp_nil {pos : Pos} {Q : List Value → Shared → Prop} (h : Q [] s) : wpAny (model prog w) A (spliced (backTo pos (starEach [] env))) Q E s := wpAny_items_nil h
theorem sp_cons {pos : Pos} {e : Expr} {rest : List Expr} {Q : List Value → Shared → Prop} (h : wpAny (model prog w) A (eval e env) (fun v s₁ => wpAny (model prog w) A (spliced (backTo pos (starEach rest env))) (fun vs s₂ => Q (v :: vs) s₂) E s₁) E s)
    (he : starEach (e :: rest) env = (false, eval e env) :: starEach rest env := by rfl) : wpAny (model prog w) A (spliced (backTo pos (starEach (e :: rest) env))) Q E s := wpAny_items_cons h he
noncomputable def MkL (vs : List Value) (Q : Value → Shared → Prop) (s₁ : Shared) : Prop := vs.length ≤ sizeLine ∧ Q (.ref s₁.heap.objs.size) { s₁ with heap := s₁.heap.push { cls := .type "list", data := .seq vs.toArray } }
noncomputable def MkT (vs : List Value) (Q : Value → Shared → Prop) (s₁ : Shared) : Prop := vs.length ≤ sizeLine ∧ Q (.ref s₁.heap.objs.size) { s₁ with heap := s₁.heap.push { cls := .type "tuple", data := .seq vs.toArray } }
theorem r_list {elts : List Expr} {pos : Pos} (h : wpAny (model prog w) A (spliced (backTo pos (starEach elts env))) (fun vs s₁ => MkL vs Q s₁) E s) :
    wpAny (model prog w) A (eval (.List elts pos) env) Q E s := wpAny_List h
theorem r_tup {elts : List Expr} {k : Nat} {pos : Pos} (h : wpAny (model prog w) A (spliced (backTo pos (starEach elts env))) (fun vs s₁ => MkT vs Q s₁) E s) :
    wpAny (model prog w) A (eval (.Tuple elts k pos) env) Q E s := wpAny_Tuple h
theorem mk_listT {vs : List Value} (S : St g z s (fr :: ow)) (hl : vs.length ≤ sizeLine) (h : ∀ a s', St g z s' (fr :: (a, .lst vs) :: ow) → s'.toks = s.toks → Q (.ref a) s') : MkL vs Q s :=
  ⟨hl, h _ _ ((S.push (k := .lst vs) rfl (at_lst ⟨0, Heap.get?_push_size _ rfl⟩) _).perm (.swap ..)) rfl⟩
theorem mk_list {vs : List Value} (S : St g z s (fr :: ow)) (hl : vs.length ≤ sizeLine) (h : ∀ a s', St g z s' (fr :: (a, .lst vs) :: ow) → Q (.ref a) s') : MkL vs Q s := mk_listT S hl fun a s' S' _ => h a s' S'
theorem mk_tupT {vs : List Value} (S : St g z s (fr :: ow)) (hl : vs.length ≤ sizeLine) (h : ∀ a s', St g z s' (fr :: (a, .tup vs) :: ow) → s'.toks = s.toks → Q (.ref a) s') : MkT vs Q s :=
  ⟨hl, h _ _ ((S.push (k := .tup vs) rfl (at_tup ⟨0, Heap.get?_push_size _ rfl⟩) _).perm (.swap ..)) rfl⟩
theorem mk_tup {vs : List Value} (S : St g z s (fr :: ow)) (hl : vs.length ≤ sizeLine) (h : ∀ a s', St g z s' (fr :: (a, .tup vs) :: ow) → Q (.ref a) s') : MkT vs Q s := mk_tupT S hl fun a s' S' _ => h a s' S'
end

/-! lists, tuples -/
section
variable {prog : Program} {w : World} {g : Heap} {z s : Shared} {A : Around} {E : Value → Shared → Prop} {env : Env} {ow ow' : List (Addr × Kd)} {fr : Addr × Kd} {l : Addr} {xs ys : List Value} {k : Int} {t : Tok} {v : Value}
theorem St.lst (S : St g z s ow) (h : Has l (.lst xs) ow) : s.heap.PlainList l xs.toArray := S.get h
theorem St.isL (S : St g z s ow) (h : Has l (.lst xs) ow) : s.heap.IsList l xs.toArray := (S.lst h).isList
theorem St.tup (S : St g z s ow) (h : Has l (.tup xs) ow) : PlainTup s.heap l xs.toArray := S.get h
theorem sub_list {value slice : Expr} {Q : Value → Shared → Prop} (S : St g z s ow) (hl : Has l (.lst xs) ow) (h0 : 0 ≤ k) (hf : k < 2 ^ 63) (hx : xs[k.toNat]? = some v) (h : Q v s)
    (hs : subscripted slice false (.ref l) (.int k t) = operate [.ref l, .int k t] (getItem (.ref l) (.int k t)) := by with_unfolding_all rfl) (hg : ∀ r, letTemporaryGo value (.ref l) r = pure () := by intro _; with_unfolding_all rfl) :
    wpAny (model prog w) A (subscriptTail value slice (.ref l) (.int k t)) Q E s := item_listL (S.isL hl) h0 hf hx h hs hg
theorem sub_tup {value slice : Expr} {j : Nat} {Q : Value → Shared → Prop} (S : St g z s ow) (hl : Has l (.tup xs) ow) (hlo : -(2 ^ 63) ≤ k) (hf : k < 2 ^ 63) (hj : seqIndex? k xs.length = some j) (hx : xs[j]? = some v) (h : Q v s)
    (hs : subscripted slice false (.ref l) (.int k t) = operate [.ref l, .int k t] (getItem (.ref l) (.int k t)) := by with_unfolding_all rfl) (hg : ∀ r, letTemporaryGo value (.ref l) r = pure () := by intro _; with_unfolding_all rfl) :
    wpAny (model prog w) A (subscriptTail value slice (.ref l) (.int k t)) Q E s := PyProof.Rows.item_tupleL (S.tup hl).isTup hlo hf hj hx h hs hg
theorem get_list {Q : Value → Shared → Prop} (S : St g z s ow) (hl : Has l (.lst xs) ow) (h0 : 0 ≤ k) (hf : k < 2 ^ 63) (hx : xs[k.toNat]? = some v) (h : Q v s) : wpAny (model prog w) A (getItem (.ref l) (.int k t)) Q E s :=
  wpAny_getItem_list (S.isL hl) h0 hf (by simpa using hx) h
theorem set_list {Q : Unit → Shared → Prop} (S : St g z s ow) (hl : Set1 l (.lst xs) (.lst (xs.set k.toNat v)) ow ow') (h0 : 0 ≤ k) (hf : k < 2 ^ 63) (hn : k < xs.length) (h : ∀ s', St g z s' ow' → Q () s') : wpAny (model prog w) A (setItem (.ref l) (.int k t) v) Q E s := by
  obtain ⟨n, e⟩ := S.lst hl.has
  refine ki_setAt e h0 hf (by simpa using hn) (h _ (S.upd hl (fun b o hne q => (Heap.get?_update_other _ _ (Ne.symm hne)).trans q) (at_lst ?_) _))
  have u := IsL.update (h := s.heap) (l := l) (items := xs.toArray) (n := n) e (fun x => x.setIfInBounds k.toNat v)
  have q : (xs.set k.toNat v).toArray = xs.toArray.setIfInBounds k.toNat v := by simp
  rw [q]
  exact ⟨_, u⟩
theorem app_list {Q : Value → Shared → Prop} (S : St g z s ow) (hl : Set1 l (.lst xs) (.lst (xs ++ [v])) ow ow') (hsz : xs.length ≤ sizeLine) (h : ∀ s', St g z s' ow' → Q .none s') : wpAny (model prog w) A (call (.builtin "list.append") [.ref l, v]) Q E s := by
  refine wpAny_list_append_plain (S.lst hl.has) (fun h' hp hb => h _ (S.upd hl (fun b o hne q => (hb.2 b hne).trans q) (at_lst ?_) _)) (by simpa using hsz)
  have e : (xs ++ [v]).toArray = xs.toArray.push v := by simp
  rw [e]; exact hp
theorem meth_list {name : Str} {id : String} {pl : Sem Bool} {Q : Value × List Value → Shared → Prop} (S : St g z s ow) (hl : Has l (.lst xs) ow) (slot : Slot "list" name id) (hty : typeOf (.builtin id) = pure (.type "method_descriptor")) (h : Q (.builtin id, [.ref l]) s) :
    wpAny (model prog w) A (getMethod (.ref l) name pl) Q E s := by
  obtain ⟨n, e⟩ := S.lst hl
  exact getMethod_builtin (S.isL hl).typeIs PySem.F.plainAttrs_list slot hty (fun a q => by cases q; exact ⟨_, e, rfl⟩) h
theorem len_listS {Q : Value → Shared → Prop} (S : St g z s ow) (hl : Has l (.lst xs) ow) (hf : (xs.length : Int) < 2 ^ 63) (h : ∀ t s', St g z s' ow → Q (.int xs.length t) s') : wpAny (model prog w) A (call (.builtin "len") [.ref l]) Q E s := by
  refine PyProof.Rows.len_list (S.isL hl) (by simpa using hf) ?_
  have := h (s.toks + 1) { s with toks := s.toks + 1 + 1 } (S.tok _)
  simpa using this
theorem tr_list {Q : Bool → Shared → Prop} (S : St g z s ow) (hl : Has l (.lst xs) ow) (hf : (xs.length : Int) < 2 ^ 63) (h : ∀ s', St g z s' ow → Q (!xs.isEmpty) s') : wpAny (model prog w) A (truthy (.ref l)) Q E s := by
  refine wpAny_truthy_list (S.isL hl) (by simpa using hf) ?_
  have := h { s with toks := s.toks + 1 + 1 } (S.tok _)
  simpa using this
theorem tr_str {x : Str} {Q : Bool → Shared → Prop} (S : St g z s ow) (hf : ¬ (x.length : Int) ≥ 2 ^ 63) (h : ∀ s', St g z s' ow → Q ((x.length : Int) != 0) s') : wpAny (model prog w) A (truthy (.str x t)) Q E s :=
  PySem.P.truthy_str hf (h _ (S.tok _))
theorem tr_int {i : Int} {Q : Bool → Shared → Prop} (h : Q (i != 0) s) : wpAny (model prog w) A (truthy (.int i t)) Q E s := PyProof.Rows.truthy_int h
theorem tr_bool {c : Bool} {Q : Bool → Shared → Prop} (h : Q c s) : wpAny (model prog w) A (truthy (.bool c)) Q E s := wpAny_truthy_bool h

/-! iterators over a list -/
theorem it_list {Q : Value → Shared → Prop} (S : St g z s (fr :: ow)) (hl : s.heap.IsList l xs.toArray) (h : ∀ I s', St g z s' (fr :: (I, .lit l 0) :: ow) → Q (.ref I) s') : wpAny (model prog w) A (pyIter (.ref l)) Q E s :=
  wpAny_pyIter_list hl (h _ _ ((S.push (k := .lit l 0) rfl (at_lit ⟨_, Heap.get?_push_size _ rfl, rfl, rfl⟩) _).perm (.swap ..)))
theorem it_listiter {I : Addr} {i : Nat} {Q : Value → Shared → Prop} (S : St g z s ow) (hI : Has I (.lit l i) ow) (h : Q (.ref I) s) : wpAny (model prog w) A (pyIter (.ref I)) Q E s := wpAny_pyIter_listiter (S.get hI) h
theorem nx_list {I : Addr} {i : Nat} {Q : Option Value → Shared → Prop} (S : St g z s ow) (hI : Set1 I (.lit l i) (.lit l (i + 1)) ow ow') (hl : s.heap.IsList l xs.toArray) (hx : xs[i]? = some v) (h : ∀ s', St g z s' ow' → Q (some v) s') : wpAny (model prog w) A (pyNext (.ref I)) Q E s :=
  wpAny_pyNext_list_item (S.get hI.has) hl (by simpa using hx) fun h' hn hb => h _ (S.upd hI (fun b o hne q => (hb.2 b hne).trans q) (at_lit hn) _)
theorem St.dropMid {a : Addr} {kd : Kd} (S : St g z s ow) (hp : Pick (a, kd) ow ow') {h' : Heap} (hk : ∀ b o, b ≠ a → s.heap.get? b = some o → h'.get? b = some o) (tk : Nat) : St g z { s with heap := h', toks := tk } ow' := (S.pick hp).dropAt hk tk
theorem Pick.has {a : Addr} {kd : Kd} (h : Pick (a, kd) ow ow') : Has a kd ow := by
  induction h with
  | hd => exact .hd
  | tl _ ih => exact .tl ih
theorem nx_listEnd {I : Addr} {i : Nat} {Q : Option Value → Shared → Prop} (hA : A.handled = none) (S : St g z s ow) (hI : Pick (I, .lit l i) ow ow') (hl : s.heap.IsList l xs.toArray) (hx : xs[i]? = none) (h : ∀ s', St g z s' ow' → Q none s') : wpAny (model prog w) A (pyNext (.ref I)) Q E s :=
  wpAny_pyNext_list_end hA (S.get hI.has) hl (by simpa using hx) fun h' hb => h _ (S.dropMid hI (fun b o hne q => hb b o hne q) _)
theorem let_name {x : Str} {p : Pos} {it v : Value} {Q : Unit → Shared → Prop} (h : Q () s) : wpAny (model prog w) A (letOwnedTupleGo (.Name x p) it v) Q E s := wpAny_pure h
theorem let_listiter {elts : List Expr} {x1} {pos : Pos} {I T : Addr} {i : Nat} {Q : Unit → Shared → Prop} (S : St g z s ow) (hI : Has I (.lit l i) ow) (h : Q () s) : wpAny (model prog w) A (letOwnedTupleGo (.Tuple elts x1 pos) (.ref I) (.ref T)) Q E s :=
  wpAny_letOwnedTupleGo_listiter (S.get hI) h
end

end TMCall
section TMEnter
open PySem PySem.Spec PySem.Calls PyProof.Rows PySem.W
section
variable {prog : Program} {w : World} {A : Around} {s z : Shared} {K : Frag} {g : Heap} {us : List (Addr × Kd)} {d : Nat} {Q : Value → Shared → Prop} {E : Value → Shared → Prop}
  {name qual : Str} {params : Arguments} {body : List Stmt} {scope : Scope} {dV kV doc pm cdv ct oc : Value} {an od : Option Addr} {osl : Array (Option Value)} {f : Addr} {args : Args} {binds : List (Str × Value)} {m : List (Str × Option Value)}
theorem enter_plainK (ho : K.lookup f = some ⟨oc, od, .func (fnOf name qual params body scope dV kV doc pm an cdv ct), osl⟩) (hcd : codeIn K cdv qual = true) (G : Gd K g) (S : St g z s us) (hA : AOk A (d + 1))
    (hbind : BindsTo s (fnOf name qual params body scope dV kV doc pm an cdv ct) args binds) (hnd : (scope.names.map (·.1)).Nodup) (hok : nmOk scope.names = true) (hm : initL scope.names binds = m)
    (h : ∀ env L s', EO env L scope.names [] → EX env L cdv qual → St g z s' ((L, .ns m) :: us) → wpAny (model prog w) (A.deeper env) (execs body env) (fun fl s'' => Q (retOf fl) s'') (LeaveE prog w A env E) s')
    (hcell : (scope.names.all fun x => x.2 != .cell) = true) (hloc : (binds.all fun x => scope.names.lookup x.1 == some .local) = true)
    (hco : scope.isCoroutine = false) (hgen : scope.isGenerator = false) (hk : scope.kind = .function) :
    wpAny (model prog w) A (call (.ref f) args.pos args.kw) Q E s :=
  enter_plain (name := name) (cl := []) G S hA ((G.1.keeps S.kp) _ _ ho) rfl (codeRec_of (G.1.keeps S.kp) hcd) hbind hnd hok hm List.nodup_nil h hcell hloc hco hgen hk
theorem enter_cellsK {vals : List Value} {cs : Nat → List (Str × Addr)} (ho : K.lookup f = some ⟨oc, od, .func (fnOf name qual params body scope dV kV doc pm an cdv ct), osl⟩) (hcd : codeIn K cdv qual = true) (G : Gd K g) (S : St g z s us) (hA : AOk A (d + 1))
    (hbind : bindArgs (fnOf name qual params body scope dV kV doc pm an cdv ct) ⟨vals, []⟩ = pure binds) (hnd : (scope.names.map (·.1)).Nodup) (hok : nmOk scope.names = true) (hm : initL scope.names binds = m) (hcs : ∀ n, cellsFrom n scope.names [] = cs n)
    (h : ∀ env L s', EO env L scope.names (cs (L + 1)) → EX env L cdv qual → St g z s' ((L, .ns m) :: ((cs (L + 1)).map (fun p => (p.2, Kd.cel (binds.reverse.lookup p.1))) ++ us)) → wpAny (model prog w) (A.deeper env) (execs body env) (fun fl s'' => Q (retOf fl) s'') (LeaveE prog w A env E) s')
    (hbk : (binds.all fun y => scope.names.lookup y.1 == some .local || scope.names.lookup y.1 == some .cell) = true) (hcn : ((cs 0).all fun p => scope.names.lookup p.1 == some .cell) = true)
    (hco : scope.isCoroutine = false) (hgen : scope.isGenerator = false) (hk : scope.kind = .function) :
    wpAny (model prog w) A (call (.ref f) vals) Q E s :=
  enter_cells (name := name) G S hA ((G.1.keeps S.kp) _ _ ho) rfl (codeRec_of (G.1.keeps S.kp) hcd) hbind hnd hok hm hcs h hbk hcn hco hgen hk
end

end TMEnter
section TMIter
open PySem PySem.Spec PySem.Calls PyProof.Rows PySem.W

theorem loop_ind {P : Nat → Shared → Prop} {C : Shared → Prop} (n : Nat) (step : ∀ i, i < n → (∀ s, P (i + 1) s → C s) → ∀ s, P i s → C s) (last : ∀ s, P n s → C s) : ∀ s, P 0 s → C s := by
  have key : ∀ k i, i + k = n → ∀ s, P i s → C s := by
    intro k
    induction k with
    | zero => intro i e s h; rw [Nat.add_zero] at e; subst e; exact last s h
    | succ k ih => intro i e s h; exact step i (by omega) (ih (i + 1) (by omega)) s h
  exact key n 0 (Nat.zero_add n)
section
variable {prog : Program} {w : World} {A : Around} {R : Result → Shared → Prop} {s : Shared} {env : Env}
variable {target elt test inner e : Expr} {it acc v : Value} {body : List Stmt} {d : Nat}
theorem forN_some (h : wpAny (model prog w) A (letOwnedTupleGo target it v) (fun _ s₁ => wpAny (model prog w) A (assign target env v) (fun _ s₂ => wpAny (model prog w) A (execs body env) (ForF prog w A env target it body R) (NE prog w A env R) s₂) (NE prog w A env R) s₁) (NE prog w A env R) s) : ForN prog w A env target it body R (some v) s := h
theorem n0_some (h : wpAny (model prog w) A (letOwnedTupleGo target it v) (fun _ s₁ => wpAny (model prog w) A (assign target env v) (fun _ s₂ => wpAny (model prog w) A (eval elt env) (CompA prog w A env e d it acc R) (NE prog w A env R) s₂) (NE prog w A env R) s₁) (NE prog w A env R) s) : CompN0 prog w A env e elt target d it acc R (some v) s := h
theorem n1_some (h : wpAny (model prog w) A (letOwnedTupleGo target it v) (fun _ s₁ => wpAny (model prog w) A (assign target env v) (fun _ s₂ => wpAny (model prog w) A (isTrue test env (eval test env))
      (fun ok s₃ => if ok then wpAny (model prog w) A (eval elt env) (CompA prog w A env e d it acc R) (NE prog w A env R) s₃ else codeAny (model prog w) A (.compLoop e d it acc env) R s₃) (NE prog w A env R) s₂) (NE prog w A env R) s₁) (NE prog w A env R) s) : CompN1 prog w A env e elt target test d it acc R (some v) s := h
theorem n2_some (h : wpAny (model prog w) A (letOwnedTupleGo target it v) (fun _ s₁ => wpAny (model prog w) A (assign target env v) (fun _ s₂ => wpAny (model prog w) A (eval inner env) (fun x s₃ => wpAny (model prog w) A (pyIter x)
      (fun it' s₄ => codeAny (model prog w) A (.compStart e 1 it' acc env) (fun r s₅ => match r with | .ok _ => codeAny (model prog w) A (.compLoop e 0 it acc env) R s₅ | .error x => cameBackBy (model prog w) A env (NE prog w A env R) x s₅) s₄) (NE prog w A env R) s₃) (NE prog w A env R) s₂) (NE prog w A env R) s₁) (NE prog w A env R) s) : CompN2 prog w A env e target inner it acc R (some v) s := h
theorem forN_none (h : R (.ok .next) s) : ForN prog w A env target it body R none s := h
theorem n0_none (h : R (.ok .next) s) : CompN0 prog w A env e elt target d it acc R none s := h
theorem n1_none (h : R (.ok .next) s) : CompN1 prog w A env e elt target test d it acc R none s := h
theorem n2_none (h : R (.ok .next) s) : CompN2 prog w A env e target inner it acc R none s := h
theorem forF_next (h : codeAny (model prog w) A (.forLoop target it body [] env) R s) : ForF prog w A env target it body R .next s := h
theorem forF_cont (h : codeAny (model prog w) A (.forLoop target it body [] env) R s) : ForF prog w A env target it body R .cont s := h
theorem forF_ret (h : R (.ok (.ret v)) s) : ForF prog w A env target it body R (.ret v) s := h
theorem compA_go {g : Heap} {z : Shared} {D : Addr} {xs : List Value} {ow ow' : List (Addr × Kd)} (S : St g z s ow) (hl : Set1 D (.lst xs) (.lst (xs ++ [v])) ow ow') (hsz : xs.length ≤ sizeLine)
    (h : ∀ s', St g z s' ow' → codeAny (model prog w) A (.compLoop e d it (.ref D) env) R s') : CompA prog w A env e d it (.ref D) R v s := app_list S hl hsz h
theorem comp_end {g : Heap} {z : Shared} {C D : Addr} {fr : Addr × Kd} {m : List (Str × Option Value)} {ow ow' : List (Addr × Kd)} {Q E : Value → Shared → Prop} (S : St g z s ((C, .ns m) :: ow)) (hp : Pick fr ow ow') (h : ∀ s', St g z s' (fr :: ow') → Q (.ref D) s') :
    CompR prog w A g z C D Q E (.ok .next) s := ⟨m, fr :: ow', S.perm (List.Perm.cons _ hp.perm), h⟩
end
section
variable {prog : Program} {w : World} {g : Heap} {z s : Shared} {A : Around} {E : Value → Shared → Prop} {ow ow' ow₁ ow₂ : List (Addr × Kd)} {fr : Addr × Kd} {l e it : Addr} {xs : List Value} {t : Tok} {v : Value} {i : Nat}
/-! enumerate -/
theorem mk_enum {Q : Value → Shared → Prop} (S : St g z s (fr :: ow)) (hl : s.heap.IsList l xs.toArray) (h : ∀ e it s', St g z s' (fr :: (e, .enm it 0) :: (it, .lit l 0) :: ow) → Q (.ref e) s') : wpAny (model prog w) A (call (.type "enumerate") [.ref l]) Q E s := by
  refine call_enumerate_list hl fun h' he hi _ hk => h _ s.heap.objs.size _ ((S.adds (news := [(s.heap.objs.size + 1, .enm s.heap.objs.size 0), (s.heap.objs.size, .lit l 0)]) .nil (fun b o _ => hk b o) (fun p hp => ?_) (by simp) s.toks).perm ((List.Perm.cons _ (.swap ..)).trans (.swap ..)))
  simp only [List.mem_cons, List.not_mem_nil, or_false] at hp
  rcases hp with rfl | rfl
  · exact ⟨Nat.le_succ _, at_enm he⟩
  · exact ⟨Nat.le_refl _, at_lit hi⟩
theorem mk_enumS {Q : Value → Shared → Prop} {x : Str} (S : St g z s (fr :: ow)) (ha : strIterType x = "str_ascii_iterator") (h : ∀ e it s', St g z s' (fr :: (e, .enm it 0) :: (it, .sit x t 0) :: ow) → Q (.ref e) s') : wpAny (model prog w) A (call (.type "enumerate") [.str x t]) Q E s := by
  refine call_enumerate_str fun h' he hi _ hk => h _ s.heap.objs.size _ ((S.adds (news := [(s.heap.objs.size + 1, .enm s.heap.objs.size 0), (s.heap.objs.size, .sit x t 0)]) .nil (fun b o _ => hk b o) (fun p hp => ?_) (by simp) s.toks).perm ((List.Perm.cons _ (.swap ..)).trans (.swap ..)))
  rw [ha] at hi
  simp only [List.mem_cons, List.not_mem_nil, or_false] at hp
  rcases hp with rfl | rfl
  · exact ⟨Nat.le_succ _, at_enm he⟩
  · exact ⟨Nat.le_refl _, at_sit hi⟩
theorem it_enum {Q : Value → Shared → Prop} (S : St g z s ow) (he : Has e (.enm it i) ow) (h : Q (.ref e) s) : wpAny (model prog w) A (pyIter (.ref e)) Q E s := by
  obtain ⟨old, h1⟩ : ∃ old, IsEnum s.heap e it i old := S.get he
  exact wpAny_pyIter_enum h1 h
theorem back1 {a it : Addr} {k k' q : Kd} {m m' : List (Addr × Kd)} (hs : Set1 a k k' m m') (hh : Has it q m') (hne : k' ≠ q) : Has it q m := by
  induction hs with
  | hd => cases hh with | hd => exact absurd rfl hne | tl hh => exact .tl hh
  | tl _ ih => cases hh with | hd => exact .hd | tl hh => exact .tl (ih hh)
section
variable {R : Option Value → Shared → Prop} {P : Value → Shared → Prop} {elts : List Expr} {x1 : Nat} {pos p : Pos} {n : Str}
theorem nx_enum {j : Int} (S : St g z s (fr :: ow)) (he : Set1 e (.enm it i) (.enm it (i + 1)) ow ow₁) (hi : Set1 it (.lit l i) (.lit l (i + 1)) ow₁ ow₂) (hl : s.heap.IsList l xs.toArray) (hx : xs[i]? = some v) (hj : (i : Int) = j)
    (hR : ∀ v s₁, wpAny (model prog w) A (letOwnedTupleGo (.Tuple elts x1 pos) (.ref e) v) (fun _ s₂ => P v s₂) E s₁ → R (some v) s₁)
    (h : ∀ T t s', St g z s' (fr :: (T, .tup [.int j t, v]) :: ow₂) → P (.ref T) s') : wpAny (model prog w) A (pyNext (.ref e)) R E s := by
  subst hj
  obtain ⟨old, h1⟩ : ∃ old, IsEnum s.heap e it i old := S.get (.tl he.has)
  have hsub : Has it (.lit l i) ow := back1 he hi.has (fun q => by cases q)
  have hit : s.heap.IsListIter it l i := S.get (.tl hsub)
  have hne : e ≠ it := S.ne (.tl he.has) (.tl hsub) (fun q => by cases q)
  refine wpAny_pyNext_enum_item h1 hit hl (by simpa using hx) hne fun h' ho hi' hT hsz hk => hR _ _ (wpAny_letOwnedTupleGo_enum ho fun h'' he'' hb => h s.heap.objs.size s.toks _ ?_)
  have hlt : e < s.heap.objs.size := S.lt _ (.tail _ he.has.mem)
  refine (S.adds (h' := h'') (C := [e, it]) (news := [(s.heap.objs.size, .tup [.int i s.toks, v])]) (.cons (.tl he) (at_enm he'') (.cons (.tl hi) (at_lit ?_) .nil)) (fun b o hb' q => ?_) (fun p hp => ?_) (by simp) (s.toks + 1)).perm (.swap ..)
  · obtain ⟨o, ho, r⟩ := hi'; exact ⟨o, (hb.2 _ (Ne.symm hne)).trans ho, r⟩
  · exact (hb.2 b fun q' => hb' (q' ▸ .head _)).trans (hk b o (fun q' => hb' (q' ▸ .head _)) (fun q' => hb' (q' ▸ .tail _ (.head _))) q)
  · rw [List.mem_singleton.mp hp]
    exact ⟨Nat.le_refl _, at_tup ⟨_, (hb.2 _ (fun q => absurd (q ▸ hlt) (Nat.lt_irrefl _))).trans hT⟩⟩
theorem nx_enumEnd (hA : A.handled = none) (S : St g z s ow) (he : Has e (.enm it i) ow) (hi : Pick (it, .lit l i) ow ow') (hl : s.heap.IsList l xs.toArray) (hx : xs[i]? = none) (h : ∀ s', St g z s' ow' → R none s') : wpAny (model prog w) A (pyNext (.ref e)) R E s := by
  obtain ⟨old, h1⟩ : ∃ old, IsEnum s.heap e it i old := S.get he
  have hit : s.heap.IsListIter it l i := S.get hi.has
  exact wpAny_pyNext_enum_end hA h1 hit hl (by simpa using hx) fun h' hb => h _ (S.dropMid hi (fun b o hne q => hb b o hne q) _)
theorem nx_enumS {x : Str} {c : Nat} {j : Int} (hA : A.handled = none) (S : St g z s (fr :: ow)) (he : Set1 e (.enm it i) (.enm it (i + 1)) ow ow₁) (hi : Set1 it (.sit x t i) (.sit x t (i + 1)) ow₁ ow₂) (hx : x.cps[i]? = some c) (hj : (i : Int) = j)
    (hR : ∀ v s₁, wpAny (model prog w) A (letOwnedTupleGo (.Tuple elts x1 pos) (.ref e) v) (fun _ s₂ => P v s₂) E s₁ → R (some v) s₁)
    (h : ∀ T t u s', St g z s' (fr :: (T, .tup [.int j t, .str ⟨#[c]⟩ u]) :: ow₂) → P (.ref T) s') : wpAny (model prog w) A (pyNext (.ref e)) R E s := by
  subst hj
  obtain ⟨old, h1⟩ : ∃ old, IsEnum s.heap e it i old := S.get (.tl he.has)
  have hsub : Has it (.sit x t i) ow := back1 he hi.has (fun q => by cases q)
  have hit : s.heap.IsStrIter it "str_ascii_iterator" x t i := S.get (.tl hsub)
  have hne : e ≠ it := S.ne (.tl he.has) (.tl hsub) (fun q => by cases q)
  have hsz : i < x.cps.size := by
    rcases Nat.lt_or_ge i x.cps.size with q | q
    · exact q
    · rw [Array.getElem?_eq_none q] at hx; cases hx
  refine wpAny_pyNext_enum_itemD (Draws.strAscii (by exact hA) it x t) h1 hit hsz hne (by simpa using hne) fun y h' tk hy ho hi' hT hsz hk => ?_
  obtain ⟨c', u, hc, rfl⟩ := hy
  rw [hx] at hc; cases hc
  refine hR _ _ (wpAny_letOwnedTupleGo_enum ho fun h'' he'' hb => h s.heap.objs.size tk u _ ?_)
  have hlt : e < s.heap.objs.size := S.lt _ (.tail _ he.has.mem)
  refine (S.adds (h' := h'') (C := [e, it]) (news := [(s.heap.objs.size, .tup [.int i tk, .str ⟨#[c]⟩ u])]) (.cons (.tl he) (at_enm he'') (.cons (.tl hi) (at_sit ?_) .nil)) (fun b o hb' q => ?_) (fun p hp => ?_) (by simp) (tk + 1)).perm (.swap ..)
  · obtain ⟨o, ho, r⟩ := hi'; exact ⟨o, (hb.2 _ (Ne.symm hne)).trans ho, r⟩
  · exact (hb.2 b fun q' => hb' (q' ▸ .head _)).trans (hk b o (fun q' => hb' (q' ▸ .head _)) (fun q' => hb' (q' ▸ .tail _ (.head _))) q)
  · rw [List.mem_singleton.mp hp]
    exact ⟨Nat.le_refl _, at_tup ⟨_, (hb.2 _ (fun q => absurd (q ▸ hlt) (Nat.lt_irrefl _))).trans hT⟩⟩
theorem nx_enumSEnd {x : Str} (hA : A.handled = none) (S : St g z s ow) (he : Has e (.enm it i) ow) (hi : Pick (it, .sit x t i) ow ow') (hx : i = x.cps.size) (h : ∀ s', St g z s' ow' → R none s') : wpAny (model prog w) A (pyNext (.ref e)) R E s := by
  obtain ⟨old, h1⟩ : ∃ old, IsEnum s.heap e it i old := S.get he
  have hit : s.heap.IsStrIter it "str_ascii_iterator" x t i := S.get hi.has
  subst hx
  exact wpAny_pyNext_enum_endD (Draws.strAscii (by exact hA) it x t) h1 hit fun h' hb => h _ (S.dropMid hi (fun b o hne q => hb b o hne q) _)
/-! lists -/
theorem nx_lstN {I : Addr} (S : St g z s ow) (hI : Set1 I (.lit l i) (.lit l (i + 1)) ow ow') (hl : s.heap.IsList l xs.toArray) (hx : xs[i]? = some v)
    (hR : ∀ v s₁, wpAny (model prog w) A (letOwnedTupleGo (.Name n p) (.ref I) v) (fun _ s₂ => P v s₂) E s₁ → R (some v) s₁) (h : ∀ s', St g z s' ow' → P v s') : wpAny (model prog w) A (pyNext (.ref I)) R E s :=
  nx_list S hI hl hx fun s' S' => hR _ _ (let_name (h s' S'))
theorem nx_lstT {I T : Addr} (S : St g z s ow) (hI : Set1 I (.lit l i) (.lit l (i + 1)) ow ow') (hl : s.heap.IsList l xs.toArray) (hx : xs[i]? = some (.ref T))
    (hR : ∀ v s₁, wpAny (model prog w) A (letOwnedTupleGo (.Tuple elts x1 pos) (.ref I) v) (fun _ s₂ => P v s₂) E s₁ → R (some v) s₁) (h : ∀ s', St g z s' ow' → P (.ref T) s') : wpAny (model prog w) A (pyNext (.ref I)) R E s :=
  nx_list S hI hl hx fun s' S' => hR _ _ (let_listiter S' hI.has' (h s' S'))
/-! tuples -/
theorem it_tup {tp : Addr} {Q : Value → Shared → Prop} (S : St g z s (fr :: ow)) (hl : Has tp (.tup xs) (fr :: ow)) (h : ∀ I s', St g z s' (fr :: (I, .tit tp 0) :: ow) → Q (.ref I) s') : wpAny (model prog w) A (pyIter (.ref tp)) Q E s :=
  wpAny_pyIter_tuple (PlainTup.isTuple (S.get hl)) (h _ _ ((S.push (k := .tit tp 0) rfl (at_tit ⟨_, Heap.get?_push_size _ rfl, rfl, rfl⟩) _).perm (.swap ..)))
theorem it_titer {I tp : Addr} {Q : Value → Shared → Prop} (S : St g z s ow) (hI : Has I (.tit tp i) ow) (h : Q (.ref I) s) : wpAny (model prog w) A (pyIter (.ref I)) Q E s := wpAny_pyIter_tupleiter (S.get hI) h
theorem nx_tupN {I tp : Addr} (S : St g z s ow) (hI : Set1 I (.tit tp i) (.tit tp (i + 1)) ow ow') (hl : Has tp (.tup xs) ow) (hx : xs[i]? = some v)
    (hR : ∀ v s₁, wpAny (model prog w) A (letOwnedTupleGo (.Name n p) (.ref I) v) (fun _ s₂ => P v s₂) E s₁ → R (some v) s₁) (h : ∀ s', St g z s' ow' → P v s') : wpAny (model prog w) A (pyNext (.ref I)) R E s :=
  wpAny_pyNext_tuple_item (S.get hI.has) (PlainTup.isTuple (S.get hl)) (by simpa using hx) fun h' hn hb => hR _ _ (let_name (h _ (S.upd hI (fun b o hne q => (hb.2 b hne).trans q) (at_tit hn) _)))
theorem nx_tupEnd {I tp : Addr} (hA : A.handled = none) (S : St g z s ow) (hI : Pick (I, .tit tp i) ow ow') (hl : Has tp (.tup xs) ow) (hx : xs[i]? = none) (h : ∀ s', St g z s' ow' → R none s') : wpAny (model prog w) A (pyNext (.ref I)) R E s :=
  wpAny_pyNext_tuple_end hA (S.get hI.has) (PlainTup.isTuple (S.get hl)) (by simpa using hx) fun h' hb => h _ (S.dropMid hI (fun b o hne q => hb b o hne q) _)
/-! texts -/
theorem it_str {x : Str} {Q : Value → Shared → Prop} (S : St g z s (fr :: ow)) (ha : x.cps.all (· < 128) = true) (h : ∀ I s', St g z s' (fr :: (I, .sit x t 0) :: ow) → Q (.ref I) s') : wpAny (model prog w) A (pyIter (.str x t)) Q E s :=
  wpAny_pyIter_ascii ha (h _ _ ((S.push (k := .sit x t 0) rfl (at_sit ⟨_, Heap.get?_push_size _ rfl, rfl, rfl⟩) _).perm (.swap ..)))
theorem it_siter {I : Addr} {x : Str} {Q : Value → Shared → Prop} (S : St g z s ow) (hI : Has I (.sit x t i) ow) (h : Q (.ref I) s) : wpAny (model prog w) A (pyIter (.ref I)) Q E s := wpAny_pyIter_striter_ascii (S.get hI) h
theorem nx_strN {I : Addr} {x : Str} {c : Nat} (S : St g z s ow) (hI : Set1 I (.sit x t i) (.sit x t (i + 1)) ow ow') (hx : x.cps[i]? = some c)
    (hR : ∀ v s₁, wpAny (model prog w) A (letOwnedTupleGo (.Name n p) (.ref I) v) (fun _ s₂ => P v s₂) E s₁ → R (some v) s₁) (h : ∀ u s', St g z s' ow' → P (.str ⟨#[c]⟩ u) s') : wpAny (model prog w) A (pyNext (.ref I)) R E s :=
  wpAny_pyNext_ascii_item (S.get hI.has) hx fun h' hn hb => hR _ _ (let_name (h _ _ (S.upd hI (fun b o hne q => (hb.2 b hne).trans q) (at_sit hn) _)))
theorem nx_strEnd {I : Addr} {x : Str} (hA : A.handled = none) (S : St g z s ow) (hI : Pick (I, .sit x t i) ow ow') (hx : x.cps[i]? = none) (h : ∀ s', St g z s' ow' → R none s') : wpAny (model prog w) A (pyNext (.ref I)) R E s :=
  wpAny_pyNext_ascii_end hA (S.get hI.has) hx fun h' hb => h _ (S.dropMid hI (fun b o hne q => hb b o hne q) _)
/-! ranges -/
theorem it_rng {r : Addr} {a b c : Int} {Q : Value → Shared → Prop} (S : St g z s (fr :: ow)) (hr : Has r (.rng a b c) (fr :: ow)) (hs : Builtin.Range.small a b c = true) (h : ∀ I s', St g z s' (fr :: (I, .rit a (Builtin.Range.rangeSize a b c) c) :: ow) → Q (.ref I) s') : wpAny (model prog w) A (pyIter (.ref r)) Q E s := by
  obtain ⟨t, u, v, h1⟩ : ∃ t u v, IsRange s.heap r a b c t u v := S.get hr
  exact wpAny_pyIter_range h1 hs (h _ _ ((S.push (k := .rit a (Builtin.Range.rangeSize a b c) c) rfl (at_rit (Heap.get?_push_size _ rfl)) _).perm (.swap ..)))
theorem it_riter {I : Addr} {x y c : Int} {Q : Value → Shared → Prop} (S : St g z s ow) (hI : Has I (.rit x y c) ow) (h : Q (.ref I) s) : wpAny (model prog w) A (pyIter (.ref I)) Q E s := wpAny_pyIter_rangeiter (S.get hI) h
theorem nx_rngN {I : Addr} {x left c : Int} (S : St g z s ow) (hI : Set1 I (.rit x left c) (.rit (x + c) (left - 1) c) ow ow') (hx : 0 < left)
    (hR : ∀ v s₁, wpAny (model prog w) A (letOwnedTupleGo (.Name n p) (.ref I) v) (fun _ s₂ => P v s₂) E s₁ → R (some v) s₁) (h : ∀ u s', St g z s' ow' → P (.int x u) s') : wpAny (model prog w) A (pyNext (.ref I)) R E s :=
  wpAny_pyNext_range_item (S.get hI.has) hx fun h' hn hb => hR _ _ (let_name (h _ _ (S.upd hI (fun b o hne q => (hb.2 b hne).trans q) (at_rit hn) _)))
theorem nx_rngEnd {I : Addr} {x left c : Int} (hA : A.handled = none) (S : St g z s ow) (hI : Pick (I, .rit x left c) ow ow') (hx : left ≤ 0) (h : ∀ s', St g z s' ow' → R none s') : wpAny (model prog w) A (pyNext (.ref I)) R E s :=
  wpAny_pyNext_range_end hA (S.get hI.has) hx fun h' hb => h _ (S.dropMid hI (fun b o hne q => hb b o hne q) _)
end
end

/-! a comprehension without cells of its own -/
theorem comp_go0 {prog : Program} {w : World} {A : Around} {E : Value → Shared → Prop} {g : Heap} {z s : Shared} {ow : List (Addr × Kd)} {env : Env} {L : Addr} {nm nm' : List (Str × NameKind)} {clo cl : List (Str × Addr)} {m : List (Str × Option Value)} {ks : List Str}
    {scope : Scope} {elt : Expr} {gens : List Comprehension} {pos : Pos} {it : Value} {Q : Value → Shared → Prop} (e : EO env L nm clo) (S : St g z s ow) (hnm : relabelN scope.names nm = nm') (hnd : (nm'.map (·.1)).Nodup) (hok : nmOk nm' = true) (hkind : scope.kind = .function)
    (hc : (scope.names.all fun x => x.2 != .cell) = true) (hks : cl.map (·.1) = ks) (hn : ks.Nodup) (hm : initL nm' [] = m)
    (h : ∀ C D cenv s', EO cenv C nm' cl → St g z s' ((C, .ns m) :: (D, .lst []) :: ow) → codeAny (model prog w) A (.compStart (.ListComp elt gens scope pos) 0 it (.ref D) cenv) (CompR prog w A g z C D Q E) s') :
    CompGo prog w A env scope cl (.ListComp elt gens scope pos) it Q E s := by
  have none : ∀ (names : List (Str × NameKind)) (n : Nat) (acc : List (Str × Addr)), (names.all fun x => x.2 != .cell) = true → cellsFrom n names acc = acc := by
    intro names
    induction names with
    | nil => intro n acc _; rfl
    | cons p r ih =>
      intro n acc h
      obtain ⟨a, k⟩ := p
      rw [List.all_cons, Bool.and_eq_true] at h
      unfold cellsFrom
      rw [if_neg (by simpa using h.1)]
      exact ih _ _ h.2
  refine comp_go e S hnm hnd hok hkind (fun cs q => ?_) fun C D cs cenv s' new eo S' _ hcs hmap => ?_
  · rw [← q, none _ _ _ hc, hks]; exact hn
  · rw [none _ _ _ hc] at hcs
    have e0 : cs = [] := by
      have := congrArg List.length hcs
      rw [List.length_append] at this
      exact List.length_eq_zero_iff.mp (by omega)
    subst e0
    have e1 : new = [] := by simpa using hmap
    subst e1
    rw [hm] at S'
    exact h C D cenv s' eo S'

/-! lists of values that mean something -/
inductive VL {α : Type} (P : α → Value → Prop) : List α → List Value → Prop
  | nil : VL P [] []
  | cons {x : α} {v : Value} {xs : List α} {vs : List Value} : P x v → VL P xs vs → VL P (x :: xs) (v :: vs)
noncomputable def isI (x : Int) (v : Value) : Prop := ∃ t, v = .int x t
noncomputable def isS (x : Str) (v : Value) : Prop := ∃ t, v = .str x t
theorem isI.mk {x : Int} {t : Tok} : isI x (.int x t) := ⟨t, rfl⟩
theorem isS.mk {x : Str} {t : Tok} : isS x (.str x t) := ⟨t, rfl⟩
section
variable {α : Type} {P : α → Value → Prop} {xs ys : List α} {vs ws : List Value}
theorem VL.len (h : VL P xs vs) : vs.length = xs.length := by
  induction h with
  | nil => rfl
  | cons _ _ ih => simp [ih]
theorem VL.get (h : VL P xs vs) : ∀ {i : Nat} {x : α}, xs[i]? = some x → ∃ v, vs[i]? = some v ∧ P x v := by
  induction h with
  | nil => intro i x e; simp at e
  | @cons x v xs vs hp _ ih =>
    intro i y e
    cases i with
    | zero => simp at e; subst e; exact ⟨v, rfl, hp⟩
    | succ i => exact ih (by simpa using e)
theorem VL.get2 (h : VL P xs vs) : ∀ {i : Nat} {v : Value}, vs[i]? = some v → ∃ x, xs[i]? = some x ∧ P x v := by
  induction h with
  | nil => intro i x e; simp at e
  | @cons x v xs vs hp _ ih =>
    intro i y e
    cases i with
    | zero => simp at e; subst e; exact ⟨x, rfl, hp⟩
    | succ i => exact ih (by simpa using e)
theorem VL.app (h : VL P xs vs) (h' : VL P ys ws) : VL P (xs ++ ys) (vs ++ ws) := by
  induction h with
  | nil => exact h'
  | cons hp _ ih => exact .cons hp ih
theorem VL.one {x : α} {v : Value} (h : P x v) : VL P [x] [v] := .cons h .nil
theorem VL.snoc {x : α} {v : Value} (h : VL P xs vs) (hp : P x v) : VL P (xs ++ [x]) (vs ++ [v]) := h.app (.one hp)
end
theorem bits_le {a : Int} (h : a.natAbs < 2 ^ 64) : Builtin.Int.intBits a ≤ 64 := by
  unfold Builtin.Int.intBits
  split
  · decide
  · rename_i hne
    have h0 : a.natAbs ≠ 0 := by
      intro e
      exact hne (by simpa using e)
    have := (Nat.log2_lt h0).mpr h
    omega
theorem mulL {a b : Int} (h : a.natAbs < 2 ^ 64) : IntMulOk a b := IntMulOk.of_left (bits_le h)
theorem mulR {a b : Int} (h : b.natAbs < 2 ^ 64) : IntMulOk a b := IntMulOk.of_right (bits_le h)
theorem szl {n : Nat} (h : n ≤ 1000) : n ≤ sizeLine := Nat.le_trans h (by decide)
theorem if_t {c a b : Prop} [Decidable c] (h : c) (ha : a) : if c then a else b := by rw [if_pos h]; exact ha
theorem if_f {c a b : Prop} [Decidable c] (h : ¬ c) (hb : b) : if c then a else b := by rw [if_neg h]; exact hb

end TMIter
section TMBlt
open PySem PySem.Spec PySem.Calls PyProof.Rows PySem.W
theorem bt_enumerate : bootBuiltins (Str.ofString "enumerate") = some (.type "enumerate") := by rfl
theorem bt_zip : bootBuiltins (Str.ofString "zip") = some (.type "zip") := by rfl
theorem bt_range : bootBuiltins (Str.ofString "range") = some (.type "range") := by rfl
theorem bt_type : bootBuiltins (Str.ofString "type") = some (.type "type") := by rfl
theorem bt_list : bootBuiltins (Str.ofString "list") = some (.type "list") := by rfl
theorem bt_str : bootBuiltins (Str.ofString "str") = some (.type "str") := by rfl
theorem bt_reversed : bootBuiltins (Str.ofString "reversed") = some (.type "reversed") := by rfl
theorem bt_ZeroDivisionError : bootBuiltins (Str.ofString "ZeroDivisionError") = some (.type "ZeroDivisionError") := by rfl
theorem bt_StopIteration : bootBuiltins (Str.ofString "StopIteration") = some (.type "StopIteration") := by rfl
theorem bt_iter : bootBuiltins (Str.ofString "iter") = some (.builtin "iter") := by rfl
theorem bt_next : bootBuiltins (Str.ofString "next") = some (.builtin "next") := by rfl
theorem bt_sum : bootBuiltins (Str.ofString "sum") = some (.builtin "sum") := by rfl
theorem bt_max : bootBuiltins (Str.ofString "max") = some (.builtin "max") := by rfl
theorem bt_len : bootBuiltins (Str.ofString "len") = some (.builtin "len") := by rfl
theorem bt_divmod : bootBuiltins (Str.ofString "divmod") = some (.builtin "divmod") := by rfl

end TMBlt
section TMStr
open PySem PySem.Spec PySem.Calls PyProof.Rows PySem.W PySem.Builtin PySem.Builtin.Str
theorem fitL {n : Nat} (h : n ≤ 1000) : tooLong n = false := by
  have : n ≤ sizeLine := szl h
  unfold tooLong
  exact decide_eq_false (Nat.not_lt.mpr this)
theorem VL.strs {ys : List Str} {vs : List Value} (h : VL isS ys vs) : StrsAre vs ys := by
  induction h with
  | nil => exact .nil
  | cons hp _ ih => obtain ⟨t, rfl⟩ := hp; exact .cons _ _ ih
noncomputable def find4 (x y : Str) (i j : Int) : Int := match occurrences x y (fromIndex x.length i) (min (fromIndex x.length j) x.length) 1 with | k :: _ => (k : Int) | [] => -1
section
variable {prog : Program} {w : World} {g : Heap} {z s : Shared} {A : Around} {E : Value → Shared → Prop} {Q : Value → Shared → Prop} {env : Env} {ow : List (Addr × Kd)} {fr : Addr × Kd} {x y : Str} {t u : Tok} {D : Addr} {ys : List Str} {vs : List Value} {i j : Int} {v1 v2 : Tok}
theorem s_upper (S : St g z s ow) (hx : (Txt.upper x).length ≤ 1000) (h : ∀ t s', St g z s' ow → Q (.str (Txt.upper x) t) s') : wpAny (model prog w) A (call (.builtin "str.upper") [.str x t]) Q E s := SC.upper (fitL hx) (h _ _ (S.tok _))
theorem s_lower (S : St g z s ow) (hx : (Txt.lower x).length ≤ 1000) (h : ∀ t s', St g z s' ow → Q (.str (Txt.lower x) t) s') : wpAny (model prog w) A (call (.builtin "str.lower") [.str x t]) Q E s := SC.lower (fitL hx) (h _ _ (S.tok _))
theorem s_join (S : St g z s ow) (hl : Has D (.lst vs) ow) (hv : VL isS ys vs) (hok : (ys.map (·.length)).sum + ys.length * x.length ≤ 16777216) (h : ∀ t s', St g z s' ow → Q (.str (Txt.join x ys) t) s') : wpAny (model prog w) A (call (.builtin "str.join") [.str x t, .ref D]) Q E s :=
  join_list (S.isL hl) (by simpa using hv.strs) hok fun t' k => h _ _ (S.tok _)
theorem s_add (S : St g z s ow) (hx : x.length + y.length ≤ 1000) (h : ∀ t s', St g z s' ow → Q (.str (x ++ y) t) s') : wpAny (model prog w) A (binaryOp .Add (.str x t) (.str y u)) Q E s :=
  PyProof.Rows.add_str (fun t' k => h _ _ (S.tok _)) (szl hx)
theorem s_eq (h : Q (.bool (x.cps.toList == y.cps.toList)) s) : wpAny (model prog w) A (compareOp .Eq (.str x t) (.str y u)) Q E s := PySem.P.eq_str h
theorem s_ne (h : Q (.bool (x.cps.toList != y.cps.toList)) s) : wpAny (model prog w) A (compareOp .NotEq (.str x t) (.str y u)) Q E s := PySem.P.ne_str h
theorem s_notin (h : Q (.bool (!Txt.contains x y)) s) : wpAny (model prog w) A (compareOp .NotIn (.str y u) (.str x t)) Q E s := PySem.P.notIn_str h
theorem s_starts (h : Q (.bool (Txt.startswith x y)) s) : wpAny (model prog w) A (call (.builtin "str.startswith") [.str x t, .str y u]) Q E s := SC.startswith h
theorem s_ends (h : Q (.bool (Txt.endswith x y)) s) : wpAny (model prog w) A (call (.builtin "str.endswith") [.str x t, .str y u]) Q E s := SC.endswith h
theorem s_len (S : St g z s ow) (hx : x.length ≤ 1000) (h : ∀ t s', St g z s' ow → Q (.int x.length t) s') : wpAny (model prog w) A (call (.builtin "len") [.str x t]) Q E s := PySem.P.len_str (by omega) (h _ _ (S.tok _))
theorem s_truthy {Q : Bool → Shared → Prop} (S : St g z s ow) (hx : x.length ≤ 1000) (h : ∀ s', St g z s' ow → Q ((x.length : Int) != 0) s') : wpAny (model prog w) A (truthy (.str x t)) Q E s := PySem.P.truthy_str (by omega) (h _ (S.tok _))
theorem gives_find4 : Gives («str.find» ⟨[.str x t, .str y u, .int i v1, .int j v2], []⟩) (.int (find4 x y i j)) := by
  show Gives (match occurrences x y (fromIndex x.length i) (min (fromIndex x.length j) x.length) 1 with | k :: _ => retInt k | [] => (do rule "str.find.not-found"; retInt (-1))) _
  unfold find4
  cases occurrences x y (fromIndex x.length i) (min (fromIndex x.length j) x.length) 1 with
  | nil => exact .rule (.of_eq rfl)
  | cons k _ => exact .of_eq rfl
theorem s_find4 (S : St g z s ow) (h : ∀ t s', St g z s' ow → Q (.int (find4 x y i j) t) s') : wpAny (model prog w) A (call (.builtin "str.find") [.str x t, .str y u, .int i v1, .int j v2]) Q E s :=
  call_gives F.slot_str_find (typeIs_str _ _ _) F.entry_str_find (F.args_str_find_4 _ _ _ _) gives_find4 (h _ _ (S.tok _))
theorem s_split (S : St g z s (fr :: ow)) (hy : (y.length == 0) = false) (hx : x.length ≤ 1000) (hp : (partsBetween x (occurrences x y 0 x.length (x.length + 1)) y.length).length ≤ 1000)
    (h : ∀ D vs s', VL isS (Txt.split x y) vs → St g z s' (fr :: (D, .lst vs) :: ow) → Q (.ref D) s') : wpAny (model prog w) A (call (.builtin "str.split") [.str x t, .str y u]) Q E s := by
  have hsz : x.length ≤ sizeLine := szl hx
  have hsz2 := szl hp
  have vl : ∀ l : List (Str × Tok), VL isS (l.map (·.1)) (strValues l) := by
    intro l
    induction l with
    | nil => exact .nil
    | cons p r ih => exact .cons ⟨p.2, rfl⟩ ih
  have fin : ∀ (l : List (Str × Tok)) (k : Nat), l.map (·.1) = Txt.split x y → Q (.ref s.heap.objs.size) { s with heap := s.heap.push { cls := .type "list", data := .seq (strValues l).toArray }, toks := k } := fun l k hl =>
    h _ (strValues l) _ (hl ▸ vl l) ((S.push (k := .lst (strValues l)) rfl (at_lst ⟨0, Heap.get?_push_size _ rfl⟩) k).perm (.swap ..))
  cases h1 : (decide (x.length < y.length) || decide (strKind x < strKind y))
  · cases hf : (occurrences x y 0 x.length (x.length + 1)).isEmpty
    · refine call_meets F.slot_str_split (typeIs_str _ _ _) F.entry_str_split (F.args_str_split_2 _ _) (meets_str_split_sep x y t u h1 hy hf hsz hsz2) ?_
      show wants Q E _ { s with toks := _, heap := s.heap.push { cls := .type "list", data := .seq (strsFrom s.toks (partsBetween x (occurrences x y 0 x.length (x.length + 1)) y.length)).toArray } }
      rw [strsFrom_eq]
      exact fin (numbered s.toks _) _ ((numbered_texts _ _).trans ((if_neg (ne_true_of_eq_false h1)).trans (if_neg (ne_true_of_eq_false hf))).symm)
    · exact call_meets F.slot_str_split (typeIs_str _ _ _) F.entry_str_split (F.args_str_split_2 _ _) (meets_str_split_not_found x y t u h1 hy hf)
        (fin [(x, t)] s.toks ((if_neg (ne_true_of_eq_false h1)).trans (if_pos hf)).symm)
  · exact call_meets F.slot_str_split (typeIs_str _ _ _) F.entry_str_split (F.args_str_split_2 _ _) (meets_str_split_cannot_occur x y t u h1)
      (fin [(x, t)] s.toks (if_pos h1).symm)
end
theorem c_m1 {prog : Program} {w : World} {A : Around} {Q : Value → Shared → Prop} {E : Value → Shared → Prop} {s : Shared} {env : Env} {id : String} {pos : Pos} {a : Value} {e : Expr} {rest : List Expr} (h : wpAny (model prog w) A (spliced (backTo pos (starEach (e :: rest) env))) (fun vs s₁ => wpAny (model prog w) A (call (.builtin id) (a :: vs)) Q E s₁) E s)
    (he : starEach (e :: rest) env = (false, eval e env) :: starEach rest env) (hplain : (backTo pos (starEach rest env)).any (·.1) = false) :
    wpAny (model prog w) A (callWith pos (.builtin id) [a] (backTo pos (starEach (e :: rest) env)) []) Q E s := c_meth1 h he hplain
theorem c_m0 {prog : Program} {w : World} {A : Around} {Q : Value → Shared → Prop} {E : Value → Shared → Prop} {s : Shared} {env : Env} {id : String} {pos : Pos} {a : Value} (h : wpAny (model prog w) A (call (.builtin id) [a]) Q E s) :
    wpAny (model prog w) A (callWith pos (.builtin id) [a] (backTo pos (starEach [] env)) []) Q E s := c_meth0 h
theorem c_def0 {prog : Program} {w : World} {K : Frag} {g : Heap} {z s : Shared} {A : Around} {Q : Value → Shared → Prop} {E : Value → Shared → Prop} {env : Env} {ow : List (Addr × Kd)} {f : Addr} {pos : Pos} {e : Expr} {rest : List Expr} (G : Gd K g) (S : St g z s ow) (hk : keepIn K (.ref f) = true)
    (h : wpAny (model prog w) A (spliced (backTo pos (starEach (e :: rest) env))) (fun vs s₁ => K.In s₁.heap ∧ wpAny (model prog w) A (call (.ref f) vs) Q E s₁) E s)
    (he : starEach (e :: rest) env = (false, eval e env) :: starEach rest env) (hplain : (backTo pos (starEach rest env)).any (·.1) = false) :
    wpAny (model prog w) A (callWith pos (.ref f) [] (backTo pos (starEach (e :: rest) env)) []) Q E s := c_def G S hk h he hplain
end TMStr
section TMInt
open PySem PySem.Spec PySem.Calls PyProof.Rows PySem.W
theorem band1 (x : Int) : Builtin.bitAnd x 1 = x % 2 := by
  by_cases hx : 0 ≤ x
  · rw [bitAnd_pp hx (by decide)]
    show ((x.toNat &&& 1 : Nat) : Int) = _
    rw [Nat.and_one_is_mod]
    omega
  · rw [bitAnd_np hx (by decide)]
    show (1 : Int) - ((1 &&& (Builtin.bitNot x).toNat : Nat) : Int) = _
    rw [Nat.and_comm, Nat.and_one_is_mod]
    unfold Builtin.bitNot
    omega
noncomputable def bit (a : Int) (i : Nat) : Bool := Builtin.bitAnd (a.fdiv (2 ^ (i : Int).toNat)) 1 != 0
theorem fdiv_pow (a : Int) (i : Nat) : a.fdiv (2 ^ (i : Int).toNat) = a / 2 ^ i := by
  rw [Int.toNat_natCast]
  exact Int.fdiv_eq_ediv_of_nonneg a (Int.pow_nonneg (by decide))
theorem bit_eq (a : Int) (i : Nat) : bit a i = decide (a / 2 ^ i % 2 = 1) := by
  unfold bit
  rw [band1, fdiv_pow]
  have : a / 2 ^ i % 2 = 0 ∨ a / 2 ^ i % 2 = 1 := by omega
  rcases this with h | h <;> rw [h] <;> rfl
theorem bit_mod (a : Int) : ∀ i, i < 5 → bit (a % 32) i = bit a i := by
  intro i hi
  rw [bit_eq, bit_eq]
  have : i = 0 ∨ i = 1 ∨ i = 2 ∨ i = 3 ∨ i = 4 := by omega
  congr 2
  rcases this with rfl | rfl | rfl | rfl | rfl <;> (simp only [Int.reducePow]; omega)
noncomputable def sgn (g : Int) (i : Nat) : Str := if bit g i then Txt.upper ⟨#[97 + i]⟩ else ⟨#[97 + i]⟩
noncomputable def letsTo (t g : Int) : Nat → List Str
  | 0 => []
  | n + 1 => letsTo t g n ++ (if bit t n then [sgn g n] else [])
noncomputable def nameOf (t g : Int) : Str := Txt.join (Str.ofString "") (letsTo t g 5)
theorem lets_mod (t g : Int) : ∀ n, n ≤ 5 → letsTo (t % 32) (g % 32) n = letsTo t g n
  | 0, _ => rfl
  | n + 1, h => by
    unfold letsTo
    rw [lets_mod t g n (by omega), bit_mod t n (by omega)]
    unfold sgn
    rw [bit_mod g n (by omega)]
theorem name_mod (t g : Int) : nameOf (t % 32) (g % 32) = nameOf t g := by
  unfold nameOf
  rw [lets_mod t g 5 (Nat.le_refl _)]
theorem mod32 (t : Int) : ∃ n : Nat, n < 32 ∧ t % 32 = n := ⟨(t % 32).toNat, by omega, by omega⟩
/-- a fact about all names, by looking at 1024 of them -/
theorem name_all {P : Str → Bool} (h : (List.range 32).all (fun a => (List.range 32).all fun b => P (nameOf (a : Int) (b : Int))) = true) (t g : Int) : P (nameOf t g) = true := by
  obtain ⟨a, ha, ea⟩ := mod32 t
  obtain ⟨b, hb, eb⟩ := mod32 g
  rw [← name_mod, ea, eb]
  exact List.all_eq_true.mp (List.all_eq_true.mp h a (List.mem_range.mpr ha)) b (List.mem_range.mpr hb)
theorem name_ok (t g : Int) : (nameOf t g).cps.all (· < 128) = true ∧ (nameOf t g).length ≤ 5 := by
  have := name_all (P := fun x => x.cps.all (· < 128) && decide (x.length ≤ 5)) (by decide +kernel) t g
  simpa using this
noncomputable def dots : Str := Str.ofString "..."
noncomputable def partsV (x : Str) (i : Nat) : List Str := (x.cps.toList.take i).map fun c => (⟨#[c]⟩ : Str) ++ Str.ofString "..."
noncomputable def valueOf (t : Int) : Str := Str.ofString "..." ++ Txt.join (Str.ofString "") (partsV (nameOf t 0) (nameOf t 0).cps.size)
theorem valueOf_mod (t : Int) : valueOf (t % 32) = valueOf t := by
  unfold valueOf
  have := name_mod t 0
  rw [show (0 : Int) % 32 = 0 from rfl] at this
  rw [this]
theorem len_app (x y : Str) : (x ++ y).length = x.length + y.length := by
  show (x.cps ++ y.cps).size = _
  exact Array.size_append
theorem len_dots : (Str.ofString "...").length = 3 := by decide +kernel
theorem len_nil : (Str.ofString "").length = 0 := by decide +kernel
theorem partsV_sum (x : Str) (i : Nat) : ((partsV x i).map (·.length)).sum = 4 * (partsV x i).length := by
  unfold partsV
  induction x.cps.toList.take i with
  | nil => rfl
  | cons c r ih =>
    rw [List.map_cons, List.map_cons, List.sum_cons, ih, List.length_cons, len_app, len_dots]
    show 1 + 3 + _ = _
    omega
theorem partsV_len (x : Str) (i : Nat) : (partsV x i).length ≤ x.length := by
  unfold partsV
  rw [List.length_map, List.length_take]
  exact Nat.le_trans (Nat.min_le_right _ _) (by simp [Str.length])
theorem len_join0 (l : List Str) : (Txt.join (Str.ofString "") l).length = (l.map (·.length)).sum := by
  have := PySem.size_glued (Str.ofString "") l
  rw [len_nil] at this
  show (PySem.Builtin.Str.glued (Str.ofString "") l).length = _
  rw [this]
  omega
theorem value_join_len (t : Int) : (Txt.join (Str.ofString "") (partsV (nameOf t 0) (nameOf t 0).cps.size)).length ≤ 20 := by
  rw [len_join0, partsV_sum]
  have := partsV_len (nameOf t 0) (nameOf t 0).cps.size
  have := (name_ok t 0).2
  omega
theorem value_len (t : Int) : (valueOf t).length ≤ 23 := by
  unfold valueOf
  rw [len_app, len_dots]
  have := value_join_len t
  omega
section
variable {prog : Program} {w : World} {K : Frag} {f : Value} {args : List Value} {kw : List (Str × Value)} {d : Nat} {p : Addr × Kd}
  {g : Heap} {z s : Shared} {A : Around} {Q E : Value → Shared → Prop} {fr : Addr × Kd} {ow : List (Addr × Kd)} {P : Value → Prop}
theorem Con.useV (C : Con prog w K f args kw d [] fun r us => P r ∧ us = []) (G : Gd K g) (S : St g z s (fr :: ow)) (hA : AOk A d) (h : ∀ v s', P v → St g z s' (fr :: ow) → Q v s') : wpAny (model prog w) A (call f args kw) Q E s :=
  C.use0 G S hA fun v s' us' hp S' => by
    obtain ⟨hp, rfl⟩ := hp
    exact h v s' hp S'
end

end TMInt
section TMK
open PySem PySem.Spec PySem.Calls PyProof.Rows PySem.W
section
variable (P : Params)
theorem g_div2n1n : nsIn (Mine.hd.heap_1 P) mainGlobals (PySem.Str.ofString "_div2n1n") = some (some (.ref 45)) := by k_is
theorem g_int2digits : nsIn (Mine.hd.heap_1 P) mainGlobals (PySem.Str.ofString "_int2digits") = some (some (.ref 59)) := by k_is
theorem g_digits2int : nsIn (Mine.hd.heap_1 P) mainGlobals (PySem.Str.ofString "_digits2int") = some (some (.ref 66)) := by k_is
theorem g_divmod_pos : nsIn (Mine.hd.heap_1 P) mainGlobals (PySem.Str.ofString "_divmod_pos") = some (some (.ref 73)) := by k_is
theorem g_int_divmod : nsIn (Mine.hd.heap_1 P) mainGlobals (PySem.Str.ofString "int_divmod") = some (some (.ref 80)) := by k_is
theorem g_get_name_info : nsIn (Mine.hd.heap_1 P) mainGlobals (PySem.Str.ofString "_get_name_info") = some (some (.ref 110)) := by k_is
theorem g_parse_varint : nsIn (Mine.hd.heap_1 P) mainGlobals (PySem.Str.ofString "_parse_varint") = some (some (.ref 117)) := by k_is
theorem g_ellipsis_match : nsIn (Mine.hd.heap_1 P) mainGlobals (PySem.Str.ofString "_ellipsis_match") = some (some (.ref 124)) := by k_is
theorem g_Headers : nsIn (Mine.hd.heap_1 P) mainGlobals (PySem.Str.ofString "Headers") = some (some (.ref 270)) := by k_is
theorem g_law_sums : nsIn (Mine.hd.heap_1 P) mainGlobals (PySem.Str.ofString "_law_sums") = some (some (.ref 279)) := by k_is
theorem g_law_octets : nsIn (Mine.hd.heap_1 P) mainGlobals (PySem.Str.ofString "_law_octets") = some (some (.ref 284)) := by k_is
theorem g_law_over : nsIn (Mine.hd.heap_1 P) mainGlobals (PySem.Str.ofString "_law_over") = some (some (.ref 291)) := by k_is
theorem g_law_refused : nsIn (Mine.hd.heap_1 P) mainGlobals (PySem.Str.ofString "_law_refused") = some (some (.ref 298)) := by k_is
theorem g_law_name : nsIn (Mine.hd.heap_1 P) mainGlobals (PySem.Str.ofString "_law_name") = some (some (.ref 303)) := by k_is
theorem g_law_value : nsIn (Mine.hd.heap_1 P) mainGlobals (PySem.Str.ofString "_law_value") = some (some (.ref 308)) := by k_is
theorem g_law_pairs : nsIn (Mine.hd.heap_1 P) mainGlobals (PySem.Str.ofString "_law_pairs") = some (some (.ref 315)) := by k_is
theorem g_law_gather : nsIn (Mine.hd.heap_1 P) mainGlobals (PySem.Str.ofString "_law_gather") = some (some (.ref 322)) := by k_is
theorem g_law_halves : nsIn (Mine.hd.heap_1 P) mainGlobals (PySem.Str.ofString "_law_halves") = some (some (.ref 327)) := by k_is
theorem g_law_takes_rightly : nsIn (Mine.hd.heap_1 P) mainGlobals (PySem.Str.ofString "_law_takes_rightly") = some (some (.ref 332)) := by k_is
theorem g_name_disallowed_re : nsIn (Mine.hd.heap_1 P) mainGlobals (PySem.Str.ofString "_name_disallowed_re") = some (some (.ref 134)) := by k_is
theorem g_value_disallowed_re : nsIn (Mine.hd.heap_1 P) mainGlobals (PySem.Str.ofString "_value_disallowed_re") = some (some (.ref 139)) := by k_is
theorem kp_div2n1n : keepIn (Mine.hd.heap_1 P) (.ref 45) = true := by k_is
theorem kp_int2digits : keepIn (Mine.hd.heap_1 P) (.ref 59) = true := by k_is
theorem kp_digits2int : keepIn (Mine.hd.heap_1 P) (.ref 66) = true := by k_is
theorem kp_divmod_pos : keepIn (Mine.hd.heap_1 P) (.ref 73) = true := by k_is
theorem kp_int_divmod : keepIn (Mine.hd.heap_1 P) (.ref 80) = true := by k_is
theorem kp_get_name_info : keepIn (Mine.hd.heap_1 P) (.ref 110) = true := by k_is
theorem kp_parse_varint : keepIn (Mine.hd.heap_1 P) (.ref 117) = true := by k_is
theorem kp_ellipsis_match : keepIn (Mine.hd.heap_1 P) (.ref 124) = true := by k_is
theorem kp_Headers : keepIn (Mine.hd.heap_1 P) (.ref 270) = true := by k_is
theorem kp_law_sums : keepIn (Mine.hd.heap_1 P) (.ref 279) = true := by k_is
theorem kp_law_octets : keepIn (Mine.hd.heap_1 P) (.ref 284) = true := by k_is
theorem kp_law_over : keepIn (Mine.hd.heap_1 P) (.ref 291) = true := by k_is
theorem kp_law_refused : keepIn (Mine.hd.heap_1 P) (.ref 298) = true := by k_is
theorem kp_law_name : keepIn (Mine.hd.heap_1 P) (.ref 303) = true := by k_is
theorem kp_law_value : keepIn (Mine.hd.heap_1 P) (.ref 308) = true := by k_is
theorem kp_law_pairs : keepIn (Mine.hd.heap_1 P) (.ref 315) = true := by k_is
theorem kp_law_gather : keepIn (Mine.hd.heap_1 P) (.ref 322) = true := by k_is
theorem kp_law_halves : keepIn (Mine.hd.heap_1 P) (.ref 327) = true := by k_is
theorem kp_law_takes_rightly : keepIn (Mine.hd.heap_1 P) (.ref 332) = true := by k_is
theorem b_enumerate : nsIn (Mine.hd.heap_1 P) mainGlobals (PySem.Str.ofString "enumerate") = some none := by k_is
theorem b_zip : nsIn (Mine.hd.heap_1 P) mainGlobals (PySem.Str.ofString "zip") = some none := by k_is
theorem b_iter : nsIn (Mine.hd.heap_1 P) mainGlobals (PySem.Str.ofString "iter") = some none := by k_is
theorem b_next : nsIn (Mine.hd.heap_1 P) mainGlobals (PySem.Str.ofString "next") = some none := by k_is
theorem b_range : nsIn (Mine.hd.heap_1 P) mainGlobals (PySem.Str.ofString "range") = some none := by k_is
theorem b_sum : nsIn (Mine.hd.heap_1 P) mainGlobals (PySem.Str.ofString "sum") = some none := by k_is
theorem b_max : nsIn (Mine.hd.heap_1 P) mainGlobals (PySem.Str.ofString "max") = some none := by k_is
theorem b_len : nsIn (Mine.hd.heap_1 P) mainGlobals (PySem.Str.ofString "len") = some none := by k_is
theorem b_divmod : nsIn (Mine.hd.heap_1 P) mainGlobals (PySem.Str.ofString "divmod") = some none := by k_is
theorem b_reversed : nsIn (Mine.hd.heap_1 P) mainGlobals (PySem.Str.ofString "reversed") = some none := by k_is
theorem b_ZeroDivisionError : nsIn (Mine.hd.heap_1 P) mainGlobals (PySem.Str.ofString "ZeroDivisionError") = some none := by k_is
theorem b_StopIteration : nsIn (Mine.hd.heap_1 P) mainGlobals (PySem.Str.ofString "StopIteration") = some none := by k_is
theorem b_type : nsIn (Mine.hd.heap_1 P) mainGlobals (PySem.Str.ofString "type") = some none := by k_is
theorem b_list : nsIn (Mine.hd.heap_1 P) mainGlobals (PySem.Str.ofString "list") = some none := by k_is
theorem b_str : nsIn (Mine.hd.heap_1 P) mainGlobals (PySem.Str.ofString "str") = some none := by k_is
theorem b_debug__ : nsIn (Mine.hd.heap_1 P) mainGlobals (PySem.Str.ofString "__debug__") = some none := by k_is
theorem g_DIV_LIMIT : nsIn (Mine.hd.heap_1 P) mainGlobals (PySem.Str.ofString "_DIV_LIMIT") = some (some (.int 4000 291)) := by k_is
theorem g_MARKER : nsIn (Mine.hd.heap_1 P) mainGlobals (PySem.Str.ofString "ELLIPSIS_MARKER") = some (some (.str ⟨#[46, 46, 46]⟩ 422)) := by k_is
end

end TMK
section TMFor
open PySem PySem.Spec PySem.Calls PyProof.Rows PySem.W
/-! loops as statements -/
noncomputable def ForR (prog : Program) (w : World) (A : Around) (env : Env) (Q : Flow → Shared → Prop) (E : Value → Shared → Prop) : Result → Shared → Prop
  | .ok f, s => Q f s
  | .error e, s => cameBackBy (model prog w) A env E e s
section
variable {prog : Program} {w : World} {A : Around} {E : Value → Shared → Prop} {s : Shared} {env : Env} {rest : List Stmt} {Q : Flow → Shared → Prop}
theorem x_for {target iter : Expr} {body : List Stmt} {pos : Pos} (h : wpAny (model prog w) A (eval iter env) (fun x s₁ => wpAny (model prog w) A (pyIter x) (fun it s₂ => codeAny (model prog w) A (.forLoop target it body [] env) (ForR prog w A env (Then (model prog w) A env rest Q E) E) s₂) E s₁) E s)
    (hs : ∀ x, foldedSetIterable iter env x = pure x) : wpAny (model prog w) A (execs (.For target iter body [] pos :: rest) env) Q E s := by
  refine x_cons (wpAny_For (wpAny_mono h (fun x s₁ h₁ => wpAny_mono h₁ (fun it s₂ h₂ => codeAny_mono h₂ fun r s' hr => ?_) fun _ _ e => e) fun _ _ e => e) hs)
  cases r <;> exact hr
theorem forR_ok {f : Flow} (h : Q f s) : ForR prog w A env Q E (.ok f) s := h
theorem x_while {test : Expr} {body : List Stmt} {pos : Pos} (h : codeAny (model prog w) A (.whileLoop test body [] env) (ForR prog w A env (Then (model prog w) A env rest Q E) E) s) : wpAny (model prog w) A (execs (.While test body [] pos :: rest) env) Q E s := by
  refine x_cons (wpAny_While (codeAny_mono h fun r s' hr => ?_))
  cases r <;> exact hr
noncomputable def WhF (prog : Program) (w : World) (A : Around) (env : Env) (test : Expr) (body : List Stmt) (R : Result → Shared → Prop) : Flow → Shared → Prop
  | .next, s => codeAny (model prog w) A (.whileLoop test body [] env) R s
  | .cont, s => codeAny (model prog w) A (.whileLoop test body [] env) R s
  | .brk, s => R (.ok .next) s
  | .ret v, s => R (.ok (.ret v)) s
theorem while_turn {R : Result → Shared → Prop} {test : Expr} {body : List Stmt} (h : wpAny (model prog w) A (isTrue test env (eval test env)) (fun b s₂ => if b then wpAny (model prog w) A (execs body env) (WhF prog w A env test body R) (NE prog w A env R) s₂ else R (.ok .next) s₂) (NE prog w A env R) s) :
    codeAny (model prog w) A (.whileLoop test body [] env) R s := by
  refine codeAny_of_tree ?_
  show wpAny _ A ((whileTurn test body [] env).onRaise (fun x => do noteFrame x env; theTreesLotGoes x)) _ _ s
  refine wpAny_noted ?_
  simp only [whileTurn]
  refine wpAny_bind (wpAny_mono h (fun b s₂ h₂ => ?_) fun _ _ h' => h')
  cases b with
  | false => exact wpAny_bind (wpAny_execs_nil (wpAny_pure h₂))
  | true =>
    refine wpAny_bind (wpAny_mono h₂ (fun f s₃ h₃ => ?_) fun _ _ h' => h')
    cases f with
    | next => exact wpAny_pure ⟨rfl, h₃⟩
    | cont => exact wpAny_pure ⟨rfl, h₃⟩
    | brk => exact wpAny_pure h₃
    | ret v => exact wpAny_pure h₃
theorem whF_next {R : Result → Shared → Prop} {test : Expr} {body : List Stmt} (h : codeAny (model prog w) A (.whileLoop test body [] env) R s) : WhF prog w A env test body R .next s := h
end

/-! slices -/
noncomputable def SlL (g : Heap) (z : Shared) (o vl vu : Value) (Q : Value → Shared → Prop) (s₃ : Shared) : Prop := ∃ l items lo hi, o = .ref l ∧ s₃.heap.IsList l items ∧ items.size ≤ sizeLine ∧ IsPart vl lo ∧ IsPart vu hi ∧
        Q (.ref (s₃.heap.objs.size + 1)) { s₃ with heap := (s₃.heap.push { cls := .type "slice", data := .fields #[vl, vu, .none] }).push { cls := .type "list", data := .seq (slicePick items lo hi none) } }
noncomputable def SlS (o vl vu : Value) (Q : Value → Shared → Prop) (s₃ : Shared) : Prop := ∃ x t l u, o = .str x t ∧ vl = partValue l ∧ vu = partValue u ∧
        (sliceMade x t l u none).post Q { s₃ with heap := s₃.heap.push { cls := .type "slice", data := .fields #[vl, vu, .none] } }
noncomputable def cutS (x : Str) (l u : Option (Int × Tok)) : Str := if ((slicePicked x l u none).length == x.length) = true then x else ⟨((slicePicked x l u none).filterMap (x.cps[·]?)).toArray⟩
section
variable {prog : Program} {w : World} {A : Around} {E : Value → Shared → Prop} {s : Shared} {env : Env} {Q : Value → Shared → Prop} {g : Heap} {z : Shared} {ow : List (Addr × Kd)} {fr : Addr × Kd}
theorem ep_none (h : Q .none s) : wpAny (model prog w) A (evalPart none env) Q E s := wpAny_pure h
theorem ep_some {e : Expr} (h : wpAny (model prog w) A (eval e env) Q E s) : wpAny (model prog w) A (evalPart (some e) env) Q E s := h
theorem r_sliceL {value : Expr} {lower upper : Option Expr} {p pos : Pos} (g : Heap) (z : Shared) (h : wpAny (model prog w) A (eval value env) (fun o s₁ => wpAny (model prog w) A (evalPart lower env) (fun vl s₂ => wpAny (model prog w) A (evalPart upper env) (fun vu s₃ => SlL g z o vl vu Q s₃) E s₂) E s₁) E s)
    (ht : ∀ o r, letTemporaryGo value o r = pure ()) : wpAny (model prog w) A (eval (.Subscript value (.Slice lower upper none p) pos) env) Q E s := wpAny_Subscript_list_slice h ht
theorem r_sliceS {value : Expr} {lower upper : Option Expr} {p pos : Pos} (h : wpAny (model prog w) A (eval value env) (fun o s₁ => wpAny (model prog w) A (evalPart lower env) (fun vl s₂ => wpAny (model prog w) A (evalPart upper env) (fun vu s₃ => SlS o vl vu Q s₃) E s₂) E s₁) E s)
    (ht : ∀ o r, letTemporaryGo value o r = pure ()) : wpAny (model prog w) A (eval (.Subscript value (.Slice lower upper none p) pos) env) Q E s := wpAny_Subscript_str_slice h ht
theorem mk_sliceL {l : Addr} {xs : List Value} {k : Int} {t : Tok} (S : St g z s (fr :: ow)) (hl : s.heap.IsList l xs.toArray) (hsz : xs.length ≤ sizeLine) (hk : 0 ≤ k) (h : ∀ a s', St g z s' (fr :: (a, .lst (xs.take k.toNat)) :: ow) → Q (.ref a) s') : SlL g z (.ref l) .none (.int k t) Q s := by
  refine ⟨l, xs.toArray, none, some k, rfl, hl, by simpa using hsz, .none, .int k t, ?_⟩
  obtain ⟨n, rfl⟩ : ∃ n : Nat, k = n := ⟨k.toNat, by omega⟩
  rw [slicePick_upto', Int.toNat_natCast] at *
  have S1 := S.ext (h' := s.heap.push { cls := .type "slice", data := .fields #[.none, .int n t, .none] }) (fun b o e => Heap.get?_push_of_some _ e) s.toks
  have S2 := S1.push (o := { cls := .type "list", data := .seq (xs.toArray.toList.take n).toArray }) (k := .lst (xs.take n)) rfl (at_lst ⟨0, by have := Heap.get?_push_size (h := s.heap.push { cls := .type "slice", data := .fields #[.none, .int n t, .none] }) (o := { cls := .type "list", data := .seq (xs.toArray.toList.take n).toArray }) rfl; simpa using this⟩) s.toks
  have e : (s.heap.push { cls := .type "slice", data := .fields #[.none, .int n t, .none] }).objs.size = s.heap.objs.size + 1 := Heap.size_push ..
  have := h _ _ (S2.perm (.swap ..))
  rw [e] at this
  exact this
theorem mk_sliceS {x : Str} {t : Tok} {l u : Option (Int × Tok)} {vl vu : Value} (S : St g z s ow) (hl : vl = partValue l) (hu : vu = partValue u) (hx : x.length ≤ 1000) (hc : (cutS x l u).length ≤ 1000) (h : ∀ t s', St g z s' ow → Q (.str (cutS x l u) t) s') : SlS (.str x t) vl vu Q s := by
  refine ⟨x, t, l, u, rfl, hl, hu, ?_⟩
  have S1 : ∀ tk, St g z { s with heap := s.heap.push { cls := .type "slice", data := .fields #[vl, vu, .none] }, toks := tk } ow := fun tk => S.ext (fun b o e => Heap.get?_push_of_some _ e) tk
  unfold sliceMade
  unfold cutS at h hc
  have e : (((none : Option (Int × Tok)).map (·.1)).getD 1 == (1 : Int)) = true := rfl
  rw [e, Bool.true_and]
  split
  · rename_i hh
    rw [if_pos hh] at h
    exact h t _ (S1 _)
  · rename_i hh
    rw [if_neg hh] at h hc
    exact ⟨szl hc, h _ _ (S1 _)⟩
end

/-! builtins -/
theorem kind_iter : builtinKind "iter" = none := by decide +kernel
theorem plain_iter : plainId "iter" = true := by decide +kernel
theorem entry_iter : entryFor table "iter" = some Builtin.«iter» := entryFor_of_fast (by kernel_rfl)
theorem args_iter1 (a : Value) : argsOk "iter" ⟨[a], []⟩ := by unfold argsOk; kernel_rfl
theorem kind_next : builtinKind "next" = none := by decide +kernel
theorem plain_next : plainId "next" = true := by decide +kernel
theorem entry_next : entryFor table "next" = some Builtin.«next» := entryFor_of_fast (by kernel_rfl)
theorem args_next1 (a : Value) : argsOk "next" ⟨[a], []⟩ := by unfold argsOk; kernel_rfl
section
variable {prog : Program} {w : World} {g : Heap} {z s : Shared} {A : Around} {E : Value → Shared → Prop} {Q : Value → Shared → Prop} {env : Env} {ow ow' : List (Addr × Kd)} {fr : Addr × Kd} {l : Addr} {xs : List Value} {v : Value} {I : Addr} {i : Nat} {ns : List Int}
theorem bi_iterL (S : St g z s (fr :: ow)) (hl : s.heap.IsList l xs.toArray) (h : ∀ I s', St g z s' (fr :: (I, .lit l 0) :: ow) → Q (.ref I) s') : wpAny (model prog w) A (call (.builtin "iter") [.ref l]) Q E s := by
  refine Calls.call_function_entry kind_iter plain_iter entry_iter (args_iter1 _) ?_
  unfold Builtin.«iter»
  refine wpAny_bind (m := PySem.someArgs "iter" 1 2 _) (wpAny_pure ?_)
  exact wpAny_bind (wpAny_mono (it_list (fr := fr) (Q := fun v s' => ∃ I, v = .ref I ∧ St g z s' (fr :: (I, .lit l 0) :: ow)) S hl fun I s' S' => ⟨I, rfl, S'⟩) (fun v s' ⟨I, e, S'⟩ => wpAny_pure ⟨_, rfl, e ▸ h I s' S'⟩) fun _ _ e => e)
theorem call_listnext {it : Addr} {items : Array Value} {x : Value} {E : Value → Shared → Prop} (hit : s.heap.IsListIter it l i) (hl : s.heap.IsList l items) (hx : items[i]? = some x) (hQ : ∀ h', h'.IsListIter it l (i + 1) → Heap.SameBut it s.heap h' → Q x { s with heap := h' }) :
    wpAny (model prog w) A (call (.builtin "list_iterator.__next__") [.ref it]) Q E s := by
  obtain ⟨oi, hoi, hci, hdi⟩ := id hit
  obtain ⟨ol, hol, _, nl, hdl⟩ := hl
  refine wpAny_call_entry slot_listiter_next hit.typeIs entry_listiter_next ?_ (args_listiter_next _)
  show wpAny _ _ (do let seq ← field (.ref it) 0; _) _ _ s
  refine wpAny_bind (wpAny_field hoi hdi (x := .ref l) rfl ?_)
  refine wpAny_ite_false (by rfl) ?_
  refine wpAny_bind (m := field (.ref it) 1) (wpAny_field hoi hdi (x := .int i 0) rfl ?_)
  refine wpAny_bind (m := seqItems? (.ref l)) (wpAny_seqItems hol hdl ?_)
  show wpAny _ _ (match items[(i : Int).toNat]? with | some x => _ | none => _) _ _ s
  rw [Int.toNat_natCast, hx]
  refine wpAny_bind (wpAny_setField hoi hdi (by simp) (wpAny_pure ⟨x, rfl, hQ _ ?_ (Heap.SameBut.update ..)⟩))
  refine ⟨_, Heap.get?_update_self _ hoi (Obj.isFreed_of_fields (Obj.data_mapFields hdi _)), (Obj.cls_mapFields ..).trans hci, ?_⟩
  rw [Obj.data_mapFields hdi]
  simp [rawInt]
theorem bi_next (S : St g z s ow) (hI : Set1 I (.lit l i) (.lit l (i + 1)) ow ow') (hl : s.heap.IsList l xs.toArray) (hx : xs[i]? = some v) (h : ∀ s', St g z s' ow' → Q v s') : wpAny (model prog w) A (call (.builtin "next") [.ref I]) Q E s := by
  have hit : s.heap.IsListIter I l i := S.get hI.has
  refine Calls.call_function_entry kind_next plain_next entry_next (args_next1 _) ?_
  unfold Builtin.«next»
  refine wpAny_bind (m := PySem.someArgs "next" 1 2 _) (wpAny_pure ?_)
  refine wpAny_bind (wpAny_specialOf hit.typeIs slot_listiter_next.lookup ?_)
  refine wpAny_ite_false (by rfl) ?_
  refine wpAny_bind (m := callSpecial? (.ref I) (Str.ofString "__next__")) (wpAny_callSpecial?_slot (name := Str.ofString "__next__") hit.typeIs slot_listiter_next (call_listnext hit hl (by simpa using hx) fun h' hn hb => ?_))
  exact wpAny_pure ⟨_, rfl, h _ (S.upd hI (fun b o hne q => (hb.2 b hne).trans q) (at_lit hn) _)⟩
end
section
variable {g : Heap} {z s : Shared} {ow : List (Addr × Kd)} {prog : Program} {w : World} {A : Around} {E : Value → Shared → Prop} {a b : Int} {t u : Tok} {Q : Value → Shared → Prop} {fr : Addr × Kd}
theorem r_ilshl (S : St g z s ow) (h0 : 0 ≤ b) (h1 : b ≤ 1000000) (ha : a.natAbs < 2 ^ 64) (h : ∀ t s', St g z s' ow → Q (.int (a * 2 ^ b.toNat) t) s') : wpAny (model prog w) A (inplaceOp .LShift (.int a t) (.int b u)) Q E s := ilshift_int_small h0 h1 ha (h _ _ (S.tok _))
theorem r_ior (S : St g z s ow) (h : ∀ t s', St g z s' ow → Q (.int (Builtin.bitOr a b) t) s') : wpAny (model prog w) A (inplaceOp .BitOr (.int a t) (.int b u)) Q E s := ior_int (h _ _ (S.tok _))
theorem r_isub (S : St g z s ow) (h : ∀ t s', St g z s' ow → Q (.int (a - b) t) s') : wpAny (model prog w) A (inplaceOp .Sub (.int a t) (.int b u)) Q E s := PyProof.Rows.isub_int (h _ _ (S.tok _))
theorem shl_ok {a b : Int} (ha : a.natAbs < 2 ^ 64) (hb : b ≤ 1000000) : (Builtin.Int.intBits a : Int) + b ≤ 2 ^ 27 := by
  have := bits_le ha
  omega
theorem nopyl {a b : Int} (h : b.natAbs < 2 ^ 64) : Builtin.divisionGoesByPylong a b = false := by
  unfold Builtin.divisionGoesByPylong
  dsimp only
  have : (if b == 0 then 0 else b.natAbs.log2 / 30 + 1) ≤ 3 := by
    split
    · omega
    · rename_i hne
      have h0 : b.natAbs ≠ 0 := fun e => hne (by simpa using e)
      have := (Nat.log2_lt h0).mpr h
      omega
  rw [Bool.and_eq_false_iff]
  exact .inl (decide_eq_false (by omega))
theorem bi_divmod (S : St g z s (fr :: ow)) (hb : b ≠ 0) (hs : b.natAbs < 2 ^ 64) (h : ∀ T t1 t2 s', St g z s' (fr :: (T, .tup [.int (a.fdiv b) t1, .int (a.fmod b) t2]) :: ow) → Q (.ref T) s') : wpAny (model prog w) A (call (.builtin "divmod") [.int a t, .int b u]) Q E s :=
  PyProof.Rows.divmod_int hb (h _ _ _ _ ((S.push (o := { cls := .type "tuple", data := .seq #[.int (a.fdiv b) s.toks, .int (a.fmod b) (s.toks + 1)] }) (k := .tup [.int (a.fdiv b) s.toks, .int (a.fmod b) (s.toks + 1)]) rfl (at_tup ⟨0, Heap.get?_push_size _ rfl⟩) _).perm (.swap ..))) (.inl (nopyl hs))
theorem bi_range (S : St g z s (fr :: ow)) (h : ∀ r s', St g z s' (fr :: (r, .rng 0 a 1) :: ow) → Q (.ref r) s') : wpAny (model prog w) A (call (.type "range") [.int a t]) Q E s :=
  call_range_1 (h _ _ ((S.push (o := { cls := .type "range", data := .fields #[.int 0 s.toks, .int a t, .int 1 (s.toks + 1)] }) (k := .rng 0 a 1) rfl (at_rng (Heap.get?_push_size _ rfl)) _).perm (.swap ..)))
end

end TMFor
section TMNest
open PySem PySem.Spec PySem.Calls PyProof.Rows PySem.W
/-- the state of a code object's table of inner defs -/
noncomputable def TabSt (P : Addr) (pos : Pos) (qual : Str) (us : List (Addr × Kd)) : Prop := us = [(P, .raw (tabObj #[]))] ∨ ∃ c, us = [(P, .raw (tabObj #[rawInt pos.line, rawInt pos.col, .ref c])), (c, .cod qual)]
section
variable {prog : Program} {w : World} {g : Heap} {z s : Shared} {A : Around} {E : Value → Shared → Prop} {env : Env} {K : Frag} {ow tb : List (Addr × Kd)} {fr : Addr × Kd} {rest : List Stmt}
  {L P c : Addr} {nm : List (Str × NameKind)} {cl clos : List (Str × Addr)} {q name qual : Str} {params : Arguments} {body : List Stmt} {scope : Scope} {pos : Pos}
theorem builtinsAt_of {p : Program} {loose : List Str} {mean : ExcName → Option Value} {mg mb : Str → Option Value} (T : Top p loose mean mg mb g) (hP : g.get? P = none) : g.BuiltinsAt mg P ∧ mainGlobals ≠ P := by
  obtain ⟨bm, ob, b1, b2, b3, b4, b5, b6⟩ := T.bmain
  have hbG : bm ≠ mainGlobals := fun q => by
    obtain ⟨o, es, ep, e, hd, _⟩ := T.g
    rw [q, e] at b3; cases b3; rw [hd] at b6; cases b6
  refine ⟨⟨bm, ob, b1, b2, hbG, fun q => ?_, b3, b4, b5, b6⟩, fun q => ?_⟩
  · rw [q, hP] at b3; cases b3
  · obtain ⟨o, es, ep, e, hd, _⟩ := T.g
    rw [q, hP] at e; cases e
theorem st_def {Q : Value → Shared → Prop} (G : Gd K g) (S : St g z s (fr :: (tb ++ ow))) (T : TabSt P pos qual tb) (e : EO env L nm cl) (x : EX env L (.ref c) q) (C : CodeHd g c P) (hcl : closN scope.names cl [] = some clos)
    (h : ∀ f c' ctv doc pm tb' s', TabSt P pos qual tb' → (c', Kd.cod qual) ∈ tb' → St g z s' (fr :: (f, .raw (fnMade name qual params body scope clos doc pm c' ctv)) :: (tb' ++ ow)) → Q (.ref f) s') :
    wpAny (model prog w) A (makeFunction name qual params (.stmts body) scope env [] [] [] pos pos.line) Q E s := by
  obtain ⟨X, p, loose, mean, mg, mb, Tp⟩ := G
  have hclo := closure_is e hcl
  rcases T with rfl | ⟨c', rfl⟩
  · have hPg : g.get? P = none := S.frs (P, .raw (tabObj #[])) (.tail _ (.head _))
    have hP : s.heap.get? P = some (tabObj #[]) := S.own (P, .raw (tabObj #[])) (.tail _ (.head _))
    obtain ⟨hb, hgP⟩ := builtinsAt_of Tp hPg
    refine makeFunction_K (ps := #[]) (mg := mg) hclo e.glob (Tp.g.keeps S.kp) x.code (C.keeps S.kp) hP trivial rfl hgP (hb.keeps S.kp) fun c' ctv doc h' tk hx hge hlt hrec htb => ?_
    have hPlt : P < s.heap.objs.size := Heap.lt_size hP
    refine h h'.objs.size c' ctv doc ((mg "__name__").getD .none) [(P, .raw (tabObj #[rawInt pos.line, rawInt pos.col, .ref c'])), (c', .cod qual)] _ (.inr ⟨c', rfl⟩) (.tail _ (.head _)) ?_
    have hd : Obj.isFreed (fnMade name qual params body scope clos doc ((mg "__name__").getD .none) c' ctv) = false := rfl
    have S1 : St g z { s with heap := h'.push (fnMade name qual params body scope clos doc ((mg "__name__").getD .none) c' ctv), toks := tk }
        ([(h'.objs.size, Kd.raw (fnMade name qual params body scope clos doc ((mg "__name__").getD .none) c' ctv)), (c', Kd.cod qual)] ++ (fr :: (P, .raw (tabObj #[rawInt pos.line, rawInt pos.col, .ref c'])) :: ow)) := by
      refine S.adds (C := [P]) (.cons (k := .raw (tabObj #[])) (.tl .hd) (at_raw (Heap.get?_push_of_some _ ?_)) .nil) (fun b o hb' q => Heap.get?_push_of_some _ (hx b o (fun q' => hb' (q' ▸ .head _)) q)) (fun p hp => ?_) ?_ tk
      · simpa using htb
      · simp only [List.mem_cons, List.not_mem_nil, or_false] at hp
        rcases hp with rfl | rfl
        · exact ⟨Nat.le_trans hge (Nat.le_of_lt hlt), at_raw (Heap.get?_push_size _ hd)⟩
        · exact ⟨hge, at_cod (hrec.push _)⟩
      · simp only [List.map_cons, List.map_nil, List.nodup_cons, List.mem_singleton, List.not_mem_nil, not_false_eq_true, List.nodup_nil, and_true]
        exact Nat.ne_of_gt hlt
    refine S1.perm ?_
    have p1 : ∀ (a b f t : Addr × Kd) (r : List (Addr × Kd)), List.Perm (a :: b :: f :: t :: r) (f :: a :: t :: b :: r) := fun a b f t r =>
      ((List.Perm.cons a ((List.Perm.swap f b (t :: r)).trans (List.Perm.cons f (.swap t b r))))).trans (.swap f a _)
    exact p1 _ _ _ _ _
  · have hPg : g.get? P = none := S.frs (P, .raw (tabObj #[rawInt pos.line, rawInt pos.col, .ref c'])) (.tail _ (.head _))
    have hP : s.heap.get? P = some (tabObj #[rawInt pos.line, rawInt pos.col, .ref c']) := S.own (P, .raw (tabObj #[rawInt pos.line, rawInt pos.col, .ref c'])) (.tail _ (.head _))
    obtain ⟨hb, hgP⟩ := builtinsAt_of Tp hPg
    refine makeFunction_hit (cv := .ref c') (mg := mg) hclo e.glob (Tp.g.keeps S.kp) x.code (C.keeps S.kp) hP trivial ?_ (hb.keeps S.kp) fun ctv doc h' tk hk hsz => ?_
    · show (if ((pos.line : Int) == pos.line && (pos.col : Int) == pos.col) = true then _ else _) = _
      simp
    · refine h h'.objs.size c' ctv doc ((mg "__name__").getD .none) _ _ (.inr ⟨c', rfl⟩) (.tail _ (.head _)) ?_
      exact ((S.ext hk tk).push (o := fnMade name qual params body scope clos doc ((mg "__name__").getD .none) c' ctv) rfl (at_raw (Heap.get?_push_size _ rfl)) tk).perm (.swap ..)
theorem x_def {Q : Flow → Shared → Prop} (G : Gd K g) (S : St g z s (fr :: (ow ++ tb))) (T : TabSt P pos qual tb) (e : EO env L nm cl) (x : EX env L (.ref c) q) (C : CodeHd g c P) (hcl : closN scope.names cl [] = some clos) (hq : qualnameIn env name name = qual)
    (hd0 : params.defaults = []) (hk0 : params.kw_defaults = []) (ha : annTrees params none env = [])
    (h : ∀ f c' ctv doc pm s', St g z s' (fr :: (f, .raw (fnMade name qual params body scope clos doc pm c' ctv)) :: (P, .raw (tabObj #[rawInt pos.line, rawInt pos.col, .ref c'])) :: (c', .cod qual) :: ow) → wpAny (model prog w) A (storeName env name (.ref f)) (fun _ s₂ => wpAny (model prog w) A (execs rest env) Q E s₂) E s') :
    wpAny (model prog w) A (execs (.FunctionDef name params body [] none [] scope none name pos :: rest) env) Q E s := by
  refine x_cons (nestDef_K hd0 hk0 ha ?_)
  rw [hq]
  refine st_def G (S.perm (List.Perm.cons _ List.perm_append_comm)) T e x C hcl fun f c' ctv doc pm tb' s' T' hm S' => ?_
  rcases T' with rfl | ⟨c₂, rfl⟩
  · simp at hm
  · have : c' = c₂ := by simpa using hm
    subst this
    exact h f c' ctv doc pm s' S'
theorem codeHd_of {K : Frag} {g : Heap} {c P : Addr} {cls : Value} {d : Option Addr} {vs : Array Value} {sl : Array (Option Value)} {file : Str} {tf tg tt : Tok} {flags text : Int} {inF : Bool} (G : Gd K g) (hl : K.lookup c = some ⟨cls, d, .fields vs, sl⟩) (hc : cls = .type "code")
    (h1 : vs[11]? = some (.ref P)) (h2 : vs.getD 11 .none = .ref P) (h3 : vs.getD 18 .none = .str file tf) (h4 : vs.getD 7 .none = .int flags tg) (h5 : vs.getD 9 .none = .bool inF) (h6 : vs.getD 10 .none = .int text tt) (h7 : c ≠ P) : CodeHd g c P :=
  ⟨_, vs, file, tf, flags, tg, inF, text, tt, G.1 _ _ hl, hc, rfl, h1, h2, h3, h4, h5, h6, h7⟩
/-- a smaller state within: one object may change -/
theorem St.enter1 {p : Addr × Kd} {ow ow' : List (Addr × Kd)} (S : St g z s ow) (hp : Pick p ow ow') : ∃ g', St g' s s [p] ∧ (∀ b o, g.get? b = some o → g'.get? b = some o) ∧ (∀ a k, Has a k ow' → k.at g' a) ∧ ∀ s' us', St g' s s' us' → St g z s' (us' ++ ow') := by
  obtain ⟨g', S', gk, hat, back⟩ := St.enter (us := [p]) (hd := ow') (S.perm hp.perm)
  exact ⟨g', S', gk, fun a k h => hat _ h.mem, back⟩
end

end TMNest
section TMList
open PySem PySem.Spec PySem.Calls PyProof.Rows PySem.W
section
variable {prog : Program} {w : World} {g : Heap} {z s : Shared} {A : Around} {E : Value → Shared → Prop} {Q : Value → Shared → Prop} {env : Env} {ow ow' : List (Addr × Kd)} {fr : Addr × Kd} {l b I : Addr} {xs ys : List Value} {v : Value} {t u : Tok} {k : Int} {i : Nat}
theorem bi_reversed (S : St g z s (fr :: ow)) (hl : s.heap.IsList l xs.toArray) (h : ∀ I s', St g z s' (fr :: (I, .rvi l ((xs.length : Int) - 1)) :: ow) → Q (.ref I) s') : wpAny (model prog w) A (call (.type "reversed") [.ref l]) Q E s := by
  refine call_reversed_list hl (h _ _ ((S.push (o := revObj l ((xs.toArray.size : Int) - 1)) (k := .rvi l ((xs.length : Int) - 1)) rfl (at_rvi ⟨_, Heap.get?_push_size _ rfl, rfl, ?_⟩) _).perm (.swap ..)))
  simp [revObj]
theorem it_rvi {j : Int} (S : St g z s ow) (hI : Has I (.rvi l j) ow) (h : Q (.ref I) s) : wpAny (model prog w) A (pyIter (.ref I)) Q E s := wpAny_pyIter_revIter (S.get hI) h
theorem nx_revN {n : Str} {p : Pos} {R : Option Value → Shared → Prop} {P : Value → Shared → Prop} {j : Int} (S : St g z s ow) (hI : Set1 I (.rvi l j) (.rvi l (j - 1)) ow ow') (hj : j = (i : Int)) (hl : s.heap.IsList l xs.toArray) (hx : xs[i]? = some v)
    (hR : ∀ v s₁, wpAny (model prog w) A (letOwnedTupleGo (.Name n p) (.ref I) v) (fun _ s₂ => P v s₂) E s₁ → R (some v) s₁) (h : ∀ s', St g z s' ow' → P v s') : wpAny (model prog w) A (pyNext (.ref I)) R E s := by
  subst hj
  exact wpAny_pyNext_rev_item (S.get hI.has) hl (by simpa using hx) fun h' hn hb => hR _ _ (let_name (h _ (S.upd hI (fun b o hne q => (hb.2 b hne).trans q) (at_rvi hn) _)))
theorem nx_revEnd {R : Option Value → Shared → Prop} {j : Int} (hA : A.handled = none) (S : St g z s ow) (hI : Pick (I, .rvi l j) ow ow') (hj : j = -1) (h : ∀ s', St g z s' ow' → R none s') : wpAny (model prog w) A (pyNext (.ref I)) R E s := by
  subst hj
  exact wpAny_pyNext_rev_end hA (S.get hI.has) fun h' hb => h _ (S.dropMid hI (fun b o hne q => hb b o hne q) _)
theorem o_mulList (S : St g z s (fr :: ow)) (hl : Has l (.lst [v]) ow) (hlo : 0 ≤ k) (hhi : k ≤ 1000) (h : ∀ a s', St g z s' (fr :: (a, .lst (List.replicate k.toNat v)) :: ow) → Q (.ref a) s') : wpAny (model prog w) A (binaryOp .Mult (.ref l) (.int k u)) Q E s := by
  obtain ⟨n, e⟩ := S.lst (.tl hl)
  have e' : s.heap.get? l = some { cls := .type "list", dict := none, data := .seq [v].toArray n, slots := #[] } := e
  refine wpAny_binaryOp_repeat_ref (T := "list") (U := "int") (by decide) ⟨_, e', rfl⟩ (fun s' => typeIs_int s' k u) noFill_list_mul F.fills_int_mul F.slot_int_rmul repeat_list F.slot_int_index.lookup ?_
  refine call_meets F.slot_int_rmul (typeIs_int s k u) F.entry_int_rmul (F.args_int_rmul_2 _ _) (int___rmul___int_list k u l [v].toArray n) ⟨e', rfl, ⟨_, e', rfl⟩, ?_⟩
  refine call_meets F.slot_list_mul ⟨_, e', rfl⟩ F.entry_list_mul (F.args_list_mul_2 _ _) (AutoListH.list___mul___list_int_3 l [v].toArray n k u (by simp [Builtin.List.listFitsIndex]; omega) (by simp; omega) (by simp [Builtin.List.listTooLong, sizeLine]; omega)) ⟨e', ?_⟩
  rw [listMul_foldl_if]
  refine h _ _ ((S.push (o := { cls := .type "list", data := .seq (List.replicate k.toNat [v].toArray.toList).flatten.toArray }) (k := .lst (List.replicate k.toNat v)) rfl (at_lst ⟨0, ?_⟩) _).perm (.swap ..))
  have := Heap.get?_push_size (h := s.heap) (o := { cls := .type "list", data := .seq (List.replicate k.toNat [v].toArray.toList).flatten.toArray }) rfl
  simpa using this
theorem o_addList (S : St g z s (fr :: ow)) (hl : Has l (.lst xs) ow) (hb : Has b (.lst ys) ow) (hsz : xs.length + ys.length ≤ 1000) (h : ∀ a s', St g z s' (fr :: (a, .lst (xs ++ ys)) :: ow) → Q (.ref a) s') : wpAny (model prog w) A (binaryOp .Add (.ref l) (.ref b)) Q E s := by
  obtain ⟨n, e⟩ := S.lst (.tl hl)
  obtain ⟨n', e'⟩ := S.lst (.tl hb)
  refine PySem.P.add_list (n := n) (n2 := n') e e' ?_ (szl (by simpa using hsz))
  refine h _ _ ((S.push (o := { cls := .type "list", data := .seq (xs.toArray ++ ys.toArray) }) (k := .lst (xs ++ ys)) rfl (at_lst ⟨0, ?_⟩) _).perm (.swap ..))
  have := Heap.get?_push_size (h := s.heap) (o := { cls := .type "list", data := .seq (xs.toArray ++ ys.toArray) }) rfl
  simpa using this
theorem upd_lst (S : St g z s ow) (hl : Set1 l (.lst xs) (.lst ys) ow ow') (f : Array Value → Array Value) (hf : f xs.toArray = ys.toArray) (tk : Nat) : St g z { s with heap := s.heap.update l (Obj.mapSeq f), toks := tk } ow' := by
  obtain ⟨n, e⟩ := S.lst hl.has
  refine S.upd hl (fun b o hne q => (Heap.get?_update_other _ _ (Ne.symm hne)).trans q) (at_lst ?_) tk
  have u := IsL.update (h := s.heap) (l := l) (items := xs.toArray) (n := n) e f
  rw [hf] at u
  exact ⟨_, u⟩
theorem bi_reverse (S : St g z s ow) (hl : Set1 l (.lst xs) (.lst xs.reverse) ow ow') (hsz : xs.length ≤ 1000) (h : ∀ s', St g z s' ow' → Q .none s') : wpAny (model prog w) A (call (.builtin "list.reverse") [.ref l]) Q E s := by
  obtain ⟨n, e⟩ := S.lst hl.has
  exact call_meets F.slot_list_reverse ⟨_, e, rfl⟩ F.entry_list_reverse (F.args_list_reverse_1 _) (AutoSeq1.list_reverse_list_0 l xs.toArray n (szl (by simpa using hsz))) ⟨e, h _ (upd_lst S hl (fun x => x.reverse) (by simp) _)⟩
theorem bi_append {Q : Value → Shared → Prop} (S : St g z s ow) (hl : Set1 l (.lst xs) (.lst (xs ++ [v])) ow ow') (hsz : xs.length ≤ 1000) (h : ∀ s', St g z s' ow' → Q .none s') : wpAny (model prog w) A (call (.builtin "list.append") [.ref l, v]) Q E s := app_list S hl (szl hsz) h
theorem gm_append {pl : Sem Bool} {Q : Value × List Value → Shared → Prop} (S : St g z s ow) (hl : Has l (.lst xs) ow) (h : Q (.builtin "list.append", [.ref l]) s) : wpAny (model prog w) A (getMethod (.ref l) (Str.ofString "append") pl) Q E s :=
  meth_list S hl slot_list_append type_list_append h
theorem gm_reverse {pl : Sem Bool} {Q : Value × List Value → Shared → Prop} (S : St g z s ow) (hl : Has l (.lst xs) ow) (h : Q (.builtin "list.reverse", [.ref l]) s) : wpAny (model prog w) A (getMethod (.ref l) (Str.ofString "reverse") pl) Q E s :=
  meth_list S hl F.slot_list_reverse F.type_list_reverse h
theorem gm_bits {a : Int} {pl : Sem Bool} {Q : Value × List Value → Shared → Prop} (h : Q (.builtin "int.bit_length", [.int a t]) s) : wpAny (model prog w) A (getMethod (.int a t) (Str.ofString "bit_length") pl) Q E s := getMethod_int_bit_length h
theorem bi_bits {a : Int} (S : St g z s ow) (h : ∀ t s', St g z s' ow → Q (.int (Builtin.Int.intBits a : Nat) t) s') : wpAny (model prog w) A (call (.builtin "int.bit_length") [.int a t]) Q E s := call_int_bit_length (h _ _ (S.tok _))
theorem bi_lenL (S : St g z s ow) (hl : Has l (.lst xs) ow) (hf : xs.length ≤ 1000) (h : ∀ t s', St g z s' ow → Q (.int xs.length t) s') : wpAny (model prog w) A (call (.builtin "len") [.ref l]) Q E s := len_listS S hl (by omega) h
theorem b_trL {Q : Bool → Shared → Prop} (S : St g z s ow) (hl : Has l (.lst xs) ow) (hf : xs.length ≤ 1000) (h : ∀ s', St g z s' ow → Q (!xs.isEmpty) s') : wpAny (model prog w) A (truthy (.ref l)) Q E s := tr_list S hl (by omega) h
theorem x_ret0 {rest : List Stmt} {pos : Pos} {Q : Flow → Shared → Prop} (h : Q (.ret .none) s) : wpAny (model prog w) A (execs (.Return none pos :: rest) env) Q E s := x_cons (wpAny_Return_none h)
theorem x_exprF {L : Addr} {nm : List (Str × NameKind)} {cl : List (Str × Addr)} {rest : List Stmt} {e : Expr} {pos : Pos} {Q : Flow → Shared → Prop} (eo : EO env L nm cl) (h : wpAny (model prog w) A (eval e env) (fun _ s' => wpAny (model prog w) A (execs rest env) Q E s') E s)
    (hs : swapsWith e none pos.line env = pure false) : wpAny (model prog w) A (execs (.Expr e pos :: rest) env) Q E s := x_expr h (by unfold interactive; rw [eo.kind]; rfl) hs
/-- a call of a function object that stands -/
theorem c_fn {f : Addr} {oc : Value} {od : Option Addr} {fd : FuncData} {sl : Array (Option Value)} {pos : Pos} {e : Expr} {rest : List Expr} (hf : ∀ s', St g z s' ow → s'.heap.get? f = some ⟨oc, od, .func fd, sl⟩) (S : St g z s ow)
    (h : wpAny (model prog w) A (spliced (backTo pos (starEach (e :: rest) env))) (fun vs s₁ => FnAt f s₁.heap ∧ wpAny (model prog w) A (call (.ref f) vs) Q E s₁) E s)
    (he : starEach (e :: rest) env = (false, eval e env) :: starEach rest env) (hplain : (backTo pos (starEach rest env)).any (·.1) = false) :
    wpAny (model prog w) A (callWith pos (.ref f) [] (backTo pos (starEach (e :: rest) env)) []) Q E s := callWith_F ⟨_, _, _, _, hf s S⟩ h he hplain
theorem c_fnG {f : Addr} {oc : Value} {od : Option Addr} {fd : FuncData} {sl : Array (Option Value)} {pos : Pos} {e : Expr} {rest : List Expr} (S : St g z s ow) (hf : g.get? f = some ⟨oc, od, .func fd, sl⟩)
    (h : wpAny (model prog w) A (spliced (backTo pos (starEach (e :: rest) env))) (fun vs s₁ => FnAt f s₁.heap ∧ wpAny (model prog w) A (call (.ref f) vs) Q E s₁) E s)
    (he : starEach (e :: rest) env = (false, eval e env) :: starEach rest env) (hplain : (backTo pos (starEach rest env)).any (·.1) = false) :
    wpAny (model prog w) A (callWith pos (.ref f) [] (backTo pos (starEach (e :: rest) env)) []) Q E s := callWith_F ⟨_, _, _, _, S.kp _ _ hf⟩ h he hplain
theorem c_fnO {f : Addr} {oc : Value} {od : Option Addr} {fd : FuncData} {sl : Array (Option Value)} {pos : Pos} {e : Expr} {rest : List Expr} (S : St g z s ow) (hf : Has f (.raw ⟨oc, od, .func fd, sl⟩) ow)
    (h : wpAny (model prog w) A (spliced (backTo pos (starEach (e :: rest) env))) (fun vs s₁ => FnAt f s₁.heap ∧ wpAny (model prog w) A (call (.ref f) vs) Q E s₁) E s)
    (he : starEach (e :: rest) env = (false, eval e env) :: starEach rest env) (hplain : (backTo pos (starEach rest env)).any (·.1) = false) :
    wpAny (model prog w) A (callWith pos (.ref f) [] (backTo pos (starEach (e :: rest) env)) []) Q E s := callWith_F ⟨_, _, _, _, S.get hf⟩ h he hplain
theorem fn_inG {f : Addr} {oc : Value} {od : Option Addr} {fd : FuncData} {sl : Array (Option Value)} (S : St g z s ow) (hf : g.get? f = some ⟨oc, od, .func fd, sl⟩) {P : Prop} (h : P) : FnAt f s.heap ∧ P := ⟨⟨_, _, _, _, S.kp _ _ hf⟩, h⟩
theorem fn_inO {f : Addr} {oc : Value} {od : Option Addr} {fd : FuncData} {sl : Array (Option Value)} (S : St g z s ow) (hf : Has f (.raw ⟨oc, od, .func fd, sl⟩) ow) {P : Prop} (h : P) : FnAt f s.heap ∧ P := ⟨⟨_, _, _, _, S.get hf⟩, h⟩
end

end TMList
section TMDig
open PySem PySem.Spec PySem.Calls PyProof.Rows PySem.W
/-! figures of a number -/
noncomputable def dig (B x : Nat) : Nat → List Nat
  | 0 => []
  | k + 1 => x % B :: dig B (x / B) k
theorem dig_len (B : Nat) : ∀ (k x : Nat), (dig B x k).length = k
  | 0, _ => rfl
  | k + 1, x => by simp [dig, dig_len B k]
theorem dig_app (B : Nat) (hB : 0 < B) : ∀ (p q x : Nat), dig B x (p + q) = dig B (x % B ^ p) p ++ dig B (x / B ^ p) q
  | 0, q, x => by simp [dig]
  | p + 1, q, x => by
    rw [show p + 1 + q = (p + q) + 1 from by omega]
    unfold dig
    rw [dig_app B hB p q (x / B)]
    rw [List.cons_append]
    have e1 : x % B ^ (p + 1) % B = x % B := by
      rw [Nat.pow_succ]
      exact Nat.mod_mul_left_mod x (B ^ p) B
    have e2 : x % B ^ (p + 1) / B = x / B % B ^ p := by
      rw [Nat.pow_succ, Nat.mul_comm, Nat.mod_mul_right_div_self]
    have e3 : x / B ^ (p + 1) = x / B / B ^ p := by
      rw [Nat.pow_succ, Nat.mul_comm, Nat.div_div_eq_div_mul]
    rw [e1, e2, e3]
    cases q <;> rfl
noncomputable def undig (B : Nat) : List Nat → Nat
  | [] => 0
  | d :: r => d + B * undig B r
theorem undig_app (B : Nat) : ∀ (l r : List Nat), undig B (l ++ r) = undig B l + B ^ l.length * undig B r
  | [], r => by simp [undig]
  | d :: l, r => by
    rw [List.cons_append]
    unfold undig
    rw [undig_app B l r, List.length_cons, Nat.pow_succ, Nat.mul_add, Nat.add_assoc, ← Nat.mul_assoc, Nat.mul_comm B (B ^ l.length)]
    cases r <;> rfl
theorem undig_dig (B : Nat) : ∀ (k x : Nat), x < B ^ k → undig B (dig B x k) = x
  | 0, x, h => by simp at h; subst h; rfl
  | k + 1, x, h => by
    unfold dig undig
    rw [undig_dig B k (x / B) ?_, Nat.mod_add_div]
    rw [Nat.pow_succ, Nat.mul_comm] at h
    exact Nat.div_lt_of_lt_mul h
theorem fdivN (x k : Nat) : (x : Int).fdiv (2 ^ k) = ((x / 2 ^ k : Nat) : Int) := by
  rw [Int.fdiv_eq_ediv_of_nonneg _ (Int.pow_nonneg (by decide))]
  push_cast
  rfl
theorem bitXorN (x y : Nat) : Builtin.bitXor (x : Int) (y : Int) = ((x + y - 2 * (x &&& y) : Nat) : Int) := by
  unfold Builtin.bitXor
  rw [bitOr_and, bitAnd_pp (Int.natCast_nonneg x) (Int.natCast_nonneg y), Int.toNat_natCast, Int.toNat_natCast]
  have h1 : x &&& y ≤ x := Nat.and_le_left
  have h2 : x &&& y ≤ y := Nat.and_le_right
  omega
theorem and_high (x s : Nat) : x &&& (x / 2 ^ s * 2 ^ s) = x / 2 ^ s * 2 ^ s := by
  apply Nat.eq_of_testBit_eq
  intro i
  rw [Nat.testBit_and, Nat.testBit_mul_two_pow, Nat.testBit_div_two_pow]
  by_cases h : s ≤ i
  · rw [show i - s + s = i from by omega]
    cases x.testBit i <;> simp
  · simp [h]
theorem xor_low (x s : Nat) : Builtin.bitXor (x : Int) (((x / 2 ^ s : Nat) : Int) * 2 ^ s) = ((x % 2 ^ s : Nat) : Int) := by
  have e : ((x / 2 ^ s : Nat) : Int) * 2 ^ s = ((x / 2 ^ s * 2 ^ s : Nat) : Int) := by push_cast; rfl
  rw [e, bitXorN, and_high]
  have h := Nat.div_add_mod x (2 ^ s)
  rw [Nat.mul_comm] at h
  congr 1
  omega
theorem intBits_nat (x : Nat) : Builtin.Int.intBits (x : Int) = if x = 0 then 0 else x.log2 + 1 := by
  unfold Builtin.Int.intBits
  by_cases h : x = 0
  · subst h; rfl
  · rw [if_neg h, if_neg (by simpa using h)]
    rfl
theorem lt_intBits (x : Nat) : x < 2 ^ Builtin.Int.intBits (x : Int) := by
  rw [intBits_nat]
  split
  · rename_i h; subst h; decide
  · exact Nat.lt_log2_self
theorem intBits_le {x k : Nat} (h : x < 2 ^ k) : Builtin.Int.intBits (x : Int) ≤ k := by
  rw [intBits_nat]
  split
  · exact Nat.zero_le _
  · rename_i hne
    exact (Nat.log2_lt hne).mpr h
/-- the number of figures -/
noncomputable def figs (x n : Nat) : Nat := (Builtin.Int.intBits (x : Int) + n - 1) / n
theorem figs_fdiv {x n : Nat} (hn : 1 ≤ n) : (((Builtin.Int.intBits (x : Int) : Nat) : Int) + (n : Int) - 1).fdiv n = ((figs x n : Nat) : Int) := by
  rw [Int.fdiv_eq_ediv_of_nonneg _ (Int.natCast_nonneg n)]
  unfold figs
  have e : (((Builtin.Int.intBits (x : Int) : Nat) : Int) + (n : Int) - 1) = ((Builtin.Int.intBits (x : Int) + n - 1 : Nat) : Int) := by omega
  rw [e]
  push_cast
  rfl
theorem figs_enough {x n : Nat} (hn : 1 ≤ n) : x < (2 ^ n) ^ figs x n := by
  rw [← Nat.pow_mul]
  refine Nat.lt_of_lt_of_le (lt_intBits x) (Nat.pow_le_pow_right (by decide) ?_)
  unfold figs
  have h1 := Nat.div_add_mod (Builtin.Int.intBits (x : Int) + n - 1) n
  have h2 := Nat.mod_lt (Builtin.Int.intBits (x : Int) + n - 1) (show 0 < n by omega)
  omega
theorem figs_le {x n k : Nat} (hn : 1 ≤ n) (h : x < 2 ^ (n * k)) : figs x n ≤ k := by
  unfold figs
  have := intBits_le h
  rw [Nat.div_le_iff_le_mul_add_pred (by omega)]
  have : n * k = n * k := rfl
  omega
theorem figs_pos {x n : Nat} (hn : 1 ≤ n) (hx : x ≠ 0) : 0 < figs x n := by
  unfold figs
  rw [intBits_nat, if_neg hx]
  exact Nat.div_pos (by omega) (by omega)
theorem figs_zero {n : Nat} (hn : 1 ≤ n) : figs 0 n = 0 := by
  unfold figs
  show (0 + n - 1) / n = 0
  exact Nat.div_eq_of_lt (by omega)
theorem with_obj {g : Heap} {z s : Shared} {ow : List (Addr × Kd)} {f : Addr} {o : Obj} (_S : St g z s ow) (_h : Has f (.raw o) ow) {goal : Prop} (k : ∀ o', o' = o → Has f (.raw o') ow → goal) : goal := k o rfl _h
theorem isl_keep {h h' : Heap} {a : Addr} {xs : Array Value} (x : h.IsList a xs) (k : ∀ b o, h.get? b = some o → h'.get? b = some o) : h'.IsList a xs := let ⟨o, ho, r⟩ := x; ⟨o, k _ _ ho, r⟩
section
variable {prog : Program} {w : World} {g : Heap} {z s : Shared} {A : Around} {E : Value → Shared → Prop} {Q : Value → Shared → Prop} {ow : List (Addr × Kd)} {l : Addr} {xs : List Value} {k : Int} {t : Tok} {v : Value}
theorem sub_listG {value slice : Expr} (S : St g z s ow) (hl : g.IsList l xs.toArray) (h0 : 0 ≤ k) (hf : k < 2 ^ 63) (hx : xs[k.toNat]? = some v) (h : Q v s)
    (hs : subscripted slice false (.ref l) (.int k t) = operate [.ref l, .int k t] (getItem (.ref l) (.int k t))) (hg : ∀ r, letTemporaryGo value (.ref l) r = pure ()) :
    wpAny (model prog w) A (subscriptTail value slice (.ref l) (.int k t)) Q E s := item_listL (isl_keep hl S.kp) h0 hf hx h hs hg
end
noncomputable abbrev zs (l : List Nat) : List Int := l.map fun d : Nat => (d : Int)
theorem undig_take_le (B : Nat) (nums : List Nat) (k : Nat) : undig B (nums.take k) ≤ undig B nums := by
  have h := undig_app B (nums.take k) (nums.drop k)
  rw [List.take_append_drop] at h
  omega
theorem undig_drop_le (B : Nat) (hB : 0 < B) (nums : List Nat) (k : Nat) : undig B (nums.drop k) ≤ undig B nums := by
  have h := undig_app B (nums.take k) (nums.drop k)
  rw [List.take_append_drop] at h
  have := Nat.le_mul_of_pos_left (undig B (nums.drop k)) (Nat.pow_pos (n := (nums.take k).length) hB)
  omega
theorem isI_of {x y : Int} {t : Tok} (h : y = x) : isI x (.int y t) := ⟨t, by rw [h]⟩

end TMDig
section TMTab
open PySem PySem.Spec PySem.Calls PyProof.Rows PySem.W
noncomputable abbrev p54 : Pos := ⟨36, 4, 45, 28⟩
noncomputable abbrev q54 : Str := Str.ofString "_int2digits.<locals>.inner"
noncomputable abbrev p61 : Pos := ⟨51, 4, 56, 55⟩
noncomputable abbrev q61 : Str := Str.ofString "_digits2int.<locals>.inner"
/-- the two tables that a division may change -/
noncomputable def TabS (tb : List (Addr × Kd)) : Prop := ∃ t1 t2, tb = t1 ++ t2 ∧ TabSt 54 p54 q54 t1 ∧ TabSt 61 p61 q61 t2
/-- a list with a tail -/
inductive Tl {α : Type} (tb : List α) : List α → List α → Prop
  | nil : Tl tb tb []
  | cons {x : α} {ow hd : List α} : Tl tb ow hd → Tl tb (x :: ow) (x :: hd)
theorem Tl.eq {α : Type} {tb ow hd : List α} (h : Tl tb ow hd) : ow = hd ++ tb := by
  induction h with
  | nil => rfl
  | cons _ ih => rw [ih]; rfl
noncomputable def ConT (prog : Program) (w : World) (K : Frag) (f : Value) (args : List Value) (kw : List (Str × Value)) (d : Nat) (us : List (Addr × Kd)) (post : Value → List (Addr × Kd) → Prop) : Prop :=
  ∀ tb, TabS tb → Con prog w K f args kw d (us ++ tb) fun v us' => ∃ new tb', us' = new ++ tb' ∧ TabS tb' ∧ post v new
section
variable {prog : Program} {w : World} {K : Frag} {f : Value} {args : List Value} {kw : List (Str × Value)} {d : Nat} {post : Value → List (Addr × Kd) → Prop}
  {g : Heap} {z s : Shared} {A : Around} {Q E : Value → Shared → Prop} {fr p : Addr × Kd} {ow hd tb ow₁ : List (Addr × Kd)}
theorem ConT.use0 (C : ConT prog w K f args kw d [] post) (G : Gd K g) (S : St g z s (fr :: ow)) (T : TabS tb) (h : Tl tb ow hd) (hA : AOk A d) (k : ∀ v s' new tb', post v new → TabS tb' → St g z s' (fr :: (new ++ (hd ++ tb'))) → Q v s') : wpAny (model prog w) A (call f args kw) Q E s := by
  have e := h.eq
  subst e
  refine (C tb T).use (hd := fr :: hd) G (S.perm ?_) hA fun v s' us' ⟨new, tb', e, T', hp⟩ S' => ?_
  · exact (List.perm_append_comm (l₁ := fr :: hd) (l₂ := tb))
  · subst e
    refine k v s' new tb' hp T' (S'.perm ?_)
    rw [List.append_assoc]
    refine (List.Perm.append_left new (List.perm_append_comm (l₁ := tb') (l₂ := fr :: hd))).trans ?_
    exact List.perm_middle
theorem ConT.use1 (C : ConT prog w K f args kw d [p] post) (G : Gd K g) (S : St g z s (fr :: ow)) (T : TabS tb) (h1 : Pick p ow ow₁) (h : Tl tb ow₁ hd) (hA : AOk A d) (k : ∀ v s' new tb', post v new → TabS tb' → St g z s' (fr :: (new ++ (hd ++ tb'))) → Q v s') : wpAny (model prog w) A (call f args kw) Q E s := by
  have e := h.eq
  subst e
  refine (C tb T).use (hd := fr :: hd) G (S.perm ?_) hA fun v s' us' ⟨new, tb', e, T', hp⟩ S' => ?_
  · refine (List.Perm.cons fr h1.perm).trans ((List.Perm.swap ..).trans ?_)
    show List.Perm (p :: fr :: (hd ++ tb)) (p :: (tb ++ fr :: hd))
    exact List.Perm.cons p (List.perm_append_comm (l₁ := fr :: hd) (l₂ := tb))
  · subst e
    refine k v s' new tb' hp T' (S'.perm ?_)
    rw [List.append_assoc]
    refine (List.Perm.append_left new (List.perm_append_comm (l₁ := tb') (l₂ := fr :: hd))).trans ?_
    exact List.perm_middle
theorem ConT.mono {d' : Nat} {us : List (Addr × Kd)} (C : ConT prog w K f args kw d us post) (h : d ≤ d') : ConT prog w K f args kw d' us post := fun tb T => (C tb T).mono h
end
theorem VL.rev {α : Type} {P : α → Value → Prop} {xs : List α} {vs : List Value} (h : VL P xs vs) : VL P xs.reverse vs.reverse := by
  induction h with
  | nil => exact .nil
  | cons hp _ ih => rw [List.reverse_cons, List.reverse_cons]; exact ih.snoc hp
theorem perm3 {α : Type} (x y t : α) (l r : List α) : List.Perm (x :: y :: t :: (l ++ r)) ((y :: r) ++ (x :: t :: l)) :=
  (List.Perm.swap ..).trans (List.Perm.cons y (List.perm_append_comm (l₁ := x :: t :: l) (l₂ := r)))

end TMTab
section TMEll
open PySem PySem.Spec PySem.Calls PyProof.Rows PySem.W
theorem erase_last {α : Type} : ∀ xs : List α, xs.eraseIdx (xs.length - 1) = xs.dropLast
  | [] => rfl
  | [a] => rfl
  | a :: b :: r => by
    have := erase_last (b :: r)
    show a :: (b :: r).eraseIdx r.length = a :: (b :: r).dropLast
    exact congrArg _ this
section
variable {prog : Program} {w : World} {g : Heap} {z s : Shared} {A : Around} {E : Value → Shared → Prop} {Q : Value → Shared → Prop} {env : Env} {ow ow' : List (Addr × Kd)} {fr : Addr × Kd} {l : Addr} {xs : List Value} {v : Value} {t : Tok}
theorem sub_last {value slice : Expr} (S : St g z s ow) (hl : Has l (.lst xs) ow) (h0 : 0 < xs.length) (hf : xs.length ≤ 1000) (hx : xs[xs.length - 1]? = some v) (h : Q v s)
    (hs : subscripted slice false (.ref l) (.int (-1) t) = operate [.ref l, .int (-1) t] (getItem (.ref l) (.int (-1) t))) (hg : ∀ r, letTemporaryGo value (.ref l) r = pure ()) :
    wpAny (model prog w) A (subscriptTail value slice (.ref l) (.int (-1) t)) Q E s := by
  refine subscriptTail_ops (S.isL hl).typeIs list_getitem_lookup ?_ hs hg
  refine wpAny_getItem_list_neg (S.isL hl) (by decide) (by simp; omega) (by decide) ?_ h
  rw [show ((-1 : Int) + (xs.toArray.size : Int)).toNat = xs.length - 1 from by simp; omega]
  simpa using hx
theorem del_first {Q : Unit → Shared → Prop} (S : St g z s ow) (hl : Set1 l (.lst xs) (.lst xs.tail) ow ow') (h0 : 0 < xs.length) (hf : xs.length ≤ 1000) (h : ∀ s', St g z s' ow' → Q () s') : wpAny (model prog w) A (delItem (.ref l) (.int 0 t)) Q E s := by
  refine wpAny_delItem_plain (S.lst hl.has) (k := 0) (by decide) ?_ (fun h' hp hb => h _ (S.upd hl (fun b o hne q => (hb.2 b hne).trans q) (at_lst ?_) _)) (szl (by simpa using hf))
  · unfold seqIndex?
    simp [h0]
  · have e : xs.tail.toArray = xs.toArray.eraseIdxIfInBounds 0 := by
      cases xs with
      | nil => simp at h0
      | cons a r => simp [Array.eraseIdxIfInBounds]
    rw [e]; exact hp
theorem del_last {Q : Unit → Shared → Prop} (S : St g z s ow) (hl : Set1 l (.lst xs) (.lst xs.dropLast) ow ow') (h0 : 0 < xs.length) (hf : xs.length ≤ 1000) (h : ∀ s', St g z s' ow' → Q () s') : wpAny (model prog w) A (delItem (.ref l) (.int (-1) t)) Q E s := by
  refine wpAny_delItem_plain (S.lst hl.has) (k := xs.length - 1) (by decide) ?_ (fun h' hp hb => h _ (S.upd hl (fun b o hne q => (hb.2 b hne).trans q) (at_lst ?_) _)) (szl (by simpa using hf))
  · unfold seqIndex?
    simp
    omega
  · have e : xs.dropLast.toArray = xs.toArray.eraseIdxIfInBounds (xs.length - 1) := by
      rw [Array.eraseIdxIfInBounds]
      rw [dif_pos (by simp; omega)]
      apply Array.toList_inj.mp
      rw [Array.toList_eraseIdx]
      show xs.dropLast = xs.eraseIdx (xs.length - 1)
      exact (erase_last xs).symm
    rw [e]; exact hp
end
/-- an if whose two ways meet again -/
noncomputable def IfP (P : Shared → Prop) (Q : Flow → Shared → Prop) : Flow → Shared → Prop
  | .next, s => P s
  | f, s => Q f s
theorem ifP_next {P : Shared → Prop} {Q : Flow → Shared → Prop} {s : Shared} (h : P s) : IfP P Q .next s := h
theorem ifP_ret {P : Shared → Prop} {Q : Flow → Shared → Prop} {s : Shared} {v : Value} (h : Q (.ret v) s) : IfP P Q (.ret v) s := h
theorem x_ifP {M : Model} {A : Around} {E : Value → Shared → Prop} {s : Shared} {env : Env} {rest : List Stmt} {Q : Flow → Shared → Prop} {test : Expr} {body orelse : List Stmt} {pos : Pos} (P : Shared → Prop)
    (h : wpAny M A (isTrue test env (eval test env)) (fun b s₂ => if b then wpAny M A (execs body env) (IfP P Q) E s₂ else wpAny M A (execs orelse env) (IfP P Q) E s₂) E s) (k : ∀ s, P s → wpAny M A (execs rest env) Q E s) :
    wpAny M A (execs (.If test body orelse pos :: rest) env) Q E s := by
  refine x_cons (wpAny_If (wpAny_mono h (fun b s₂ h₂ => ?_) fun _ _ e => e))
  cases b with
  | true => exact wpAny_mono h₂ (fun f s' hf => by cases f <;> first | exact k _ hf | exact hf) fun _ _ e => e
  | false => exact wpAny_mono h₂ (fun f s' hf => by cases f <;> first | exact k _ hf | exact hf) fun _ _ e => e
noncomputable abbrev dotsS : Str := Str.ofString "..."
noncomputable def emLoop (got : Str) : List Str → Int → Int → Bool
  | [], _, _ => true
  | w :: r, st, en => if find4 got w st en < 0 then false else emLoop got r (find4 got w st en + w.length) en
noncomputable def emGo (got : Str) (ws : List Str) (st en : Int) : Bool := if st > en then false else emLoop got ws st en
noncomputable def emLast (got : Str) (ws : List Str) (st : Int) : Bool :=
  if (ws.getLastD ⟨#[]⟩).length ≠ 0 then if Txt.endswith got (ws.getLastD ⟨#[]⟩) then emGo got ws.dropLast st (got.length - (ws.getLastD ⟨#[]⟩).length) else false else emGo got ws st got.length
noncomputable def emFirst (got : Str) (ws : List Str) : Bool :=
  if (ws.headD ⟨#[]⟩).length ≠ 0 then if Txt.startswith got (ws.headD ⟨#[]⟩) then emLast got ws.tail (ws.headD ⟨#[]⟩).length else false else emLast got ws 0
noncomputable def emFun (want got : Str) : Bool := if Txt.contains want dotsS then emFirst got (Txt.split want dotsS) else want.cps.toList == got.cps.toList
/-- what a pattern must be for the walk -/
noncomputable def wantOk (want : Str) : Bool := decide (want.length ≤ 100) && (!Txt.contains want dotsS || (decide (2 ≤ (Txt.split want dotsS).length) && decide ((Txt.split want dotsS).length ≤ 100) && (Txt.split want dotsS).all (fun x => decide (x.length ≤ 100)) &&
  decide ((PySem.Builtin.Str.partsBetween want (PySem.Builtin.Str.occurrences want dotsS 0 want.length (want.length + 1)) dotsS.length).length ≤ 1000)))
theorem VL.tail {α : Type} {P : α → Value → Prop} {xs : List α} {vs : List Value} (h : VL P xs vs) : VL P xs.tail vs.tail := by
  cases h with
  | nil => exact .nil
  | cons _ h => exact h
theorem VL.dropLast {α : Type} {P : α → Value → Prop} {xs : List α} {vs : List Value} (h : VL P xs vs) : VL P xs.dropLast vs.dropLast := by
  have h1 := h.rev.tail.rev
  rw [List.tail_reverse, List.tail_reverse, List.reverse_reverse, List.reverse_reverse] at h1
  exact h1
theorem VL.last {xs : List Str} {vs : List Value} (h : VL isS xs vs) (h0 : 0 < vs.length) : ∃ t, vs[vs.length - 1]? = some (.str (xs.getLastD ⟨#[]⟩) t) := by
  have hl := h.len
  obtain ⟨v, hv, t, rfl⟩ := h.get (i := xs.length - 1) (x := xs.getLastD ⟨#[]⟩) (by
    cases xs with
    | nil => rw [hl] at h0; simp at h0
    | cons a r =>
      rw [List.getLastD_cons, List.getLastD_eq_getLast?, ← List.getLast?_cons, List.getLast?_eq_getElem?])
  rw [hl]
  exact ⟨t, hv⟩
theorem VL.head {xs : List Str} {vs : List Value} (h : VL isS xs vs) (h0 : 0 < vs.length) : ∃ t, vs[(0 : Int).toNat]? = some (.str (xs.headD ⟨#[]⟩) t) := by
  cases h with
  | nil => simp at h0
  | cons hp _ => obtain ⟨t, rfl⟩ := hp; exact ⟨t, rfl⟩
noncomputable def SwapK (prog : Program) (w : World) (A : Around) (env : Env) (x y : Str) (K : Shared → Prop) (E : Value → Shared → Prop) (v : Value) (s₁ : Shared) : Prop :=
  wpAny (model prog w) A (unpackItems v ([x, y] : List Str).length none) (fun items s₂ => wpAny (model prog w) A (assignInOrder (([x, y] : List Str).reverse.map fun n => bindName env n) items.reverse) (fun _ s => K s) E s₂) E s₁
section
variable {prog : Program} {w : World} {g : Heap} {z s : Shared} {A : Around} {E : Value → Shared → Prop} {env : Env} {ow : List (Addr × Kd)} {rest : List Stmt} {Q : Flow → Shared → Prop}
theorem x_swap {x y : Str} {p q : Pos} {k : Nat} {tp pos : Pos} {value : Expr} (h : wpAny (model prog w) A (eval value env) (fun v s₁ => SwapK prog w A env x y (fun s => wpAny (model prog w) A (execs rest env) Q E s) E v s₁) E s)
    (hs : swapsWithSole [.Tuple [.Name x p, .Name y q] k tp] value pos.line env = pure false) (hw : swappedStores [.Tuple [.Name x p, .Name y q] k tp] value env = pure (some [x, y])) :
    wpAny (model prog w) A (execs (.Assign [.Tuple [.Name x p, .Name y q] k tp] value pos :: rest) env) Q E s := by
  refine x_cons (PyProof.Rows.Assign_Tuple_swapped (names := [x, y]) ?_ hs hw)
  exact h
theorem sw_pairT {x y : Str} {K : Shared → Prop} {t : Addr} {a b : Value} (hA : A.handled = none) (S : St g z s ow) (ht : Has t (.tup [a, b]) ow)
    (h : ∀ s', St g z s' ow → s'.toks = s.toks → wpAny (model prog w) A (storeName env y b) (fun _ s₁ => wpAny (model prog w) A (storeName env x a) (fun _ s => K s) E s₁) E s') : SwapK prog w A env x y K E (.ref t) s := by
  have hT : s.heap.IsTuple t #[a, b] := PlainTup.isTuple (S.get ht)
  unfold SwapK
  rw [show ([x, y] : List Str).length = (#[a, b] : Array Value).size from rfl]
  refine wpAny_unpackItems_tuple hA hT fun h' hx => ?_
  have h2 := h _ (S.ext (h' := h') (fun b o e => hx b o (Nat.ne_of_lt (Heap.lt_size e)) e) s.toks) rfl
  show wpAny _ _ (assignInOrder [bindName env y, bindName env x] [b, a]) _ _ _
  unfold assignInOrder
  refine wpAny_bind (wpAny_holding (wpAny_bindName ?_))
  refine wpAny_mono h2 (fun _ s₁ h₁ => ?_) fun _ _ e => e
  unfold assignInOrder
  refine wpAny_bind (wpAny_holding (wpAny_bindName ?_))
  refine wpAny_mono h₁ (fun _ s₂ h₂ => ?_) fun _ _ e => e
  unfold assignInOrder
  exact wpAny_pure h₂
theorem sw_pair {x y : Str} {K : Shared → Prop} {t : Addr} {a b : Value} (hA : A.handled = none) (S : St g z s ow) (ht : Has t (.tup [a, b]) ow)
    (h : ∀ s', St g z s' ow → wpAny (model prog w) A (storeName env y b) (fun _ s₁ => wpAny (model prog w) A (storeName env x a) (fun _ s => K s) E s₁) E s') : SwapK prog w A env x y K E (.ref t) s := sw_pairT hA S ht fun s' S' _ => h s' S'
end

end TMEll
section TMZip
open PySem PySem.Spec PySem.Calls PyProof.Rows PySem.W
noncomputable abbrev zipO (TI TO : Addr) (f0 : Value) : Obj := { cls := .type "zip", dict := none, data := .fields #[f0, .bool false, .bool false, .ref TI, .ref TO], slots := #[] }
noncomputable abbrev pairO (a b : Value) : Obj := { cls := .type "tuple", data := .seq #[a, b] }
theorem zipApart_of (n a b : Nat) (h1 : a < n) (h2 : b < n) : ZipApart (n + 4) (n + 2) (n + 3) n (n + 1) a b :=
  ⟨(by omega : (n+2 : Nat) ≠ n+4), (by omega : (n+3 : Nat) ≠ n+4), (by omega : (n : Nat) ≠ n+4), (by omega : (n+1 : Nat) ≠ n+4), (by omega : (n+2 : Nat) ≠ n+3), (by omega : (n+2 : Nat) ≠ n), (by omega : (n+2 : Nat) ≠ n+1), (by omega : (n+3 : Nat) ≠ n), (by omega : (n+3 : Nat) ≠ n+1), (by omega : (n : Nat) ≠ n+1), (by omega : (a : Nat) ≠ n+4), (by omega : (a : Nat) ≠ n+3), (by omega : (a : Nat) ≠ n), (by omega : (a : Nat) ≠ n+1), (by omega : (b : Nat) ≠ n+4), (by omega : (b : Nat) ≠ n+3), (by omega : (b : Nat) ≠ n), (by omega : (b : Nat) ≠ n+1)⟩
section
variable {prog : Program} {w : World} {g : Heap} {z s : Shared} {A : Around} {E : Value → Shared → Prop} {ow ow₁ ow₂ ow₃ ow₄ : List (Addr × Kd)} {fr : Addr × Kd} {l1 l2 Z TI TO i1 i2 : Addr} {xs ys : List Value} {a b x y : Value} {k : Nat}
theorem mk_zip {Q : Value → Shared → Prop} (S : St g z s (fr :: ow)) (hl1 : s.heap.IsList l1 xs.toArray) (hl2 : s.heap.IsList l2 ys.toArray)
    (h : ∀ Z TI TO i1 i2 s', ZipApart Z TI TO i1 i2 l1 l2 → St g z s' (fr :: (Z, .raw (zipO TI TO .none)) :: (TI, .raw (pairO (.ref i1) (.ref i2))) :: (TO, .raw (pairO .none .none)) :: (i1, .lit l1 0) :: (i2, .lit l2 0) :: ow) → Q (.ref Z) s') :
    wpAny (model prog w) A (call (.type "zip") [.ref l1, .ref l2]) Q E s := by
  refine call_zip_2 hl1 hl2 fun h' hz hTI hTO h1 h2 hsz hk => ?_
  have q1 : l1 < s.heap.objs.size := let ⟨_, ho, _⟩ := hl1; Heap.lt_size ho
  have q2 : l2 < s.heap.objs.size := let ⟨_, ho, _⟩ := hl2; Heap.lt_size ho
  refine h (s.heap.objs.size + 4) (s.heap.objs.size + 2) (s.heap.objs.size + 3) s.heap.objs.size (s.heap.objs.size + 1) _ ?_ ?_
  · exact zipApart_of _ _ _ q1 q2
  · have S1 := S.adds (h' := h') (C := []) (news := [(s.heap.objs.size + 4, .raw (zipO (s.heap.objs.size + 2) (s.heap.objs.size + 3) .none)), (s.heap.objs.size + 2, .raw (pairO (.ref s.heap.objs.size) (.ref (s.heap.objs.size + 1)))), (s.heap.objs.size + 3, .raw (pairO .none .none)), (s.heap.objs.size, .lit l1 0), (s.heap.objs.size + 1, .lit l2 0)])
      .nil (fun b o _ => hk b o) (fun p hp => ?_) (by simp) s.toks
    · exact S1.perm (List.perm_middle (l₁ := [_, _, _, _, _]))
    · simp only [List.mem_cons, List.not_mem_nil, or_false] at hp
      rcases hp with rfl | rfl | rfl | rfl | rfl
      · exact ⟨by simp, at_raw hz⟩
      · exact ⟨by simp, at_raw hTI⟩
      · exact ⟨by simp, at_raw hTO⟩
      · exact ⟨by simp, at_lit h1⟩
      · exact ⟨by simp, at_lit h2⟩
theorem it_zip {Q : Value → Shared → Prop} (S : St g z s ow) (hz : Has Z (.raw (zipO TI TO .none)) ow) (h : Q (.ref Z) s) : wpAny (model prog w) A (pyIter (.ref Z)) Q E s := wpAny_pyIter_zip (S.get hz) h
theorem nx_zip {R : Option Value → Shared → Prop} {P : Value → Shared → Prop} {elts : List Expr} {x1 : Nat} {pos : Pos} (S : St g z s (fr :: ow)) (D : ZipApart Z TI TO i1 i2 l1 l2) (hz : Has Z (.raw (zipO TI TO .none)) (fr :: ow)) (hTI : Has TI (.raw (pairO (.ref i1) (.ref i2))) (fr :: ow))
    (hTO : Set1 TO (.raw (pairO a b)) (.raw (pairO x y)) ow ow₁) (h1 : Set1 i1 (.lit l1 k) (.lit l1 (k + 1)) ow₁ ow₂) (h2 : Set1 i2 (.lit l2 k) (.lit l2 (k + 1)) ow₂ ow₃) (hl1 : s.heap.IsList l1 xs.toArray) (hl2 : s.heap.IsList l2 ys.toArray) (hx : xs[k]? = some x) (hy : ys[k]? = some y)
    (hR : ∀ v s₁, wpAny (model prog w) A (letOwnedTupleGo (.Tuple elts x1 pos) (.ref Z) v) (fun _ s₂ => P v s₂) E s₁ → R (some v) s₁)
    (h : ∀ T s', St g z s' (fr :: (T, .tup [x, y]) :: ow₃) → P (.ref T) s') : wpAny (model prog w) A (pyNext (.ref Z)) R E s := by
  have e1 : Has i1 (.lit l1 k) ow := back1 hTO h1.has (fun q => by cases q)
  have e2 : Has i2 (.lit l2 k) ow := back1 hTO (back1 h1 h2.has (fun q => by injection q with q1 q2; omega)) (fun q => by cases q)
  refine wpAny_pyNext_zip_item D (S.get hz) (S.get hTI) (S.get (.tl hTO.has)) (S.get (.tl e1)) (S.get (.tl e2)) hl1 hl2 (by simpa using hx) (by simpa using hy) fun h' hz' hTO' h1' h2' hT hsz hk => hR _ _ (wpAny_letOwnedTupleGo_zip hz' fun h'' hz'' hb => h s.heap.objs.size _ ?_)
  have hZlt : Z < s.heap.objs.size := S.lt _ hz.mem
  have ne : ∀ {c : Addr} {o : Obj}, c ≠ Z → h'.get? c = some o → h''.get? c = some o := fun hc e => (hb.2 _ hc).trans e
  have S1 := S.adds (h' := h'') (C := [TO, i1, i2]) (news := [(s.heap.objs.size, .tup [x, y])]) (.cons (.tl hTO) (at_raw (ne D.TOz hTO')) (.cons (.tl h1) (at_lit ?_) (.cons (.tl h2) (at_lit ?_) .nil))) (fun c o hc q => ?_) (fun p hp => ?_) (by simp) s.toks
  · exact S1.perm (.swap ..)
  · obtain ⟨o, ho, r⟩ := h1'; exact ⟨o, ne D.i1z ho, r⟩
  · obtain ⟨o, ho, r⟩ := h2'; exact ⟨o, ne D.i2z ho, r⟩
  · by_cases hcZ : c = Z
    · subst hcZ
      have e : s.heap.get? c = some (zipO TI TO .none) := S.get hz
      rw [e] at q; cases q
      exact hz''
    · exact ne hcZ (hk c o hcZ (fun q' => hc (q' ▸ .head _)) (fun q' => hc (q' ▸ .tail _ (.head _))) (fun q' => hc (q' ▸ .tail _ (.tail _ (.head _)))) q)
  · rw [List.mem_singleton.mp hp]
    exact ⟨Nat.le_refl _, at_tup ⟨_, ne (fun q => absurd (q ▸ hZlt) (Nat.lt_irrefl _)) hT⟩⟩
theorem nx_zipEnd {R : Option Value → Shared → Prop} (hA : A.handled = none) (S : St g z s ow) (D : ZipApart Z TI TO i1 i2 l1 l2) (hz : Pick (Z, .raw (zipO TI TO .none)) ow ow₁) (hTI : Has TI (.raw (pairO (.ref i1) (.ref i2))) ow) (hTO : Pick (TO, .raw (pairO a b)) ow₁ ow₂) (h1 : Pick (i1, .lit l1 k) ow₂ ow₃) (h2 : Pick (i2, .lit l2 k) ow₃ ow₄)
    (hl1 : s.heap.IsList l1 xs.toArray) (hl2 : s.heap.IsList l2 ys.toArray) (hx : xs[k]? = none) (h : ∀ s', St g z s' ow₄ → R none s') : wpAny (model prog w) A (pyNext (.ref Z)) R E s := by
  have p1 := S.pick hz
  have p2 := (S.perm (hz.perm.trans (List.Perm.cons _ hTO.perm)))
  have p3 := (S.perm (hz.perm.trans (List.Perm.cons _ (hTO.perm.trans (List.Perm.cons _ (h1.perm.trans (List.Perm.cons _ h2.perm)))))))
  refine wpAny_pyNext_zip_end hA D (p1.own _ (.head _)) (S.get hTI) (p2.own _ (.tail _ (.head _))) (p3.own _ (.tail _ (.tail _ (.head _)))) (p3.own _ (.tail _ (.tail _ (.tail _ (.head _))))) hl1 hl2 (.inl (by simpa using hx)) fun h' hk => h _ ?_
  have nd := p3.nd
  simp only [List.map_cons, List.nodup_cons, List.mem_cons, not_or] at nd
  obtain ⟨⟨_, _, _, n1⟩, ⟨_, _, n2⟩, ⟨_, n3⟩, n4, n5⟩ := nd
  refine ⟨fun c o e => hk c o (fun q => ?_) (fun q => ?_) (fun q => ?_) (fun q => ?_) (S.kp c o e), fun p hp => Kd.at_keep (p3.own p (.tail _ (.tail _ (.tail _ (.tail _ hp))))) fun o e => hk _ o (fun q => ?_) (fun q => ?_) (fun q => ?_) (fun q => ?_) e, fun p hp => p3.frs p (.tail _ (.tail _ (.tail _ (.tail _ hp)))), n5, S.rest⟩
  · have := p3.frs _ (.head _); rw [q] at e; rw [e] at this; cases this
  · have := p3.frs _ (.tail _ (.head _)); rw [q] at e; rw [e] at this; cases this
  · have := p3.frs _ (.tail _ (.tail _ (.head _))); rw [q] at e; rw [e] at this; cases this
  · have := p3.frs _ (.tail _ (.tail _ (.tail _ (.head _)))); rw [q] at e; rw [e] at this; cases this
  · exact n1 (List.mem_map.mpr ⟨p, hp, q⟩)
  · exact n2 (List.mem_map.mpr ⟨p, hp, q⟩)
  · exact n3 (List.mem_map.mpr ⟨p, hp, q⟩)
  · exact n4 (List.mem_map.mpr ⟨p, hp, q⟩)
end

end TMZip
section TMTak
open PySem PySem.Spec PySem.Calls PyProof.Rows PySem.W
noncomputable def cutI (x : Str) (l u : Option Int) : Str := cutS x (l.map fun i => (i, 0)) (u.map fun i => (i, 0))
section
variable {prog : Program} {w : World} {g : Heap} {z s : Shared} {A : Around} {E : Value → Shared → Prop} {Q : Value → Shared → Prop} {ow : List (Addr × Kd)} {x y : Str} {t u : Tok} {k : Int} {l b : Addr}
theorem mk_slU (S : St g z s ow) (hx : x.length ≤ 1000) (hc : (cutI x none (some k)).length ≤ 1000) (h : ∀ t s', St g z s' ow → Q (.str (cutI x none (some k)) t) s') : SlS (.str x t) .none (.int k u) Q s :=
  mk_sliceS (l := none) (u := some (k, u)) S rfl rfl hx hc h
theorem mk_slF (S : St g z s ow) (hx : x.length ≤ 1000) (hc : (cutI x (some k) none).length ≤ 1000) (h : ∀ t s', St g z s' ow → Q (.str (cutI x (some k) none) t) s') : SlS (.str x t) (.int k u) .none Q s :=
  mk_sliceS (l := some (k, u)) (u := none) S rfl rfl hx hc h
theorem s_joinStr (hA : A.handled = none) (S : St g z s ow) (hx : x.length ≤ 100) (hy : y.length ≤ 100) (h : ∀ t s', St g z s' ow → Q (.str (Txt.join x (signs y)) t) s') : wpAny (model prog w) A (call (.builtin "str.join") [.str x t, .str y u]) Q E s :=
  SC.joinStr hA (joinOk_signsN hy hx (by decide)) fun h' k t' hk => h _ _ (S.ext hk k)
theorem c_eqNil (S : St g z s ow) (hu : A.units < cLine) (hl : Has l (.lst []) ow) (hb : Has b (.lst []) ow) (h : Q (.bool true) s) : wpAny (model prog w) A (compareOp .Eq (.ref l) (.ref b)) Q E s := by
  obtain ⟨n, e⟩ := S.lst hl
  obtain ⟨n', e'⟩ := S.lst hb
  exact PySem.P.eq_list (n := n) (n2 := n') (e := fun _ => true) e e' rfl (fun j h1 _ => absurd h1 (by simp)) hu (by simpa using h)
end
/-- what is asked of a word -/
noncomputable def askedOf (word : Str) : List (Str × Str) :=
  [(word ++ Str.ofString "...", word ++ Str.ofString "x"), (word ++ Str.ofString "...", Str.ofString "x" ++ word), (Str.ofString "..." ++ word, Str.ofString "x" ++ word), (Str.ofString "..." ++ word, word ++ Str.ofString "x"),
   (word ++ Str.ofString "..." ++ word, word ++ word), (word ++ Str.ofString "..." ++ word, word),
   (Str.ofString "..." ++ Txt.join (Str.ofString "...") (signs word) ++ Str.ofString "...", word ++ cutI word none (some 1)),
   (Str.ofString "..." ++ Txt.join (Str.ofString "...") (signs (cutI word (some 1) none ++ cutI word none (some 1))) ++ Str.ofString "...", word),
   (Str.ofString "..." ++ cutI word none (some (-1)) ++ Str.ofString "..." ++ cutI word (some 1) none ++ Str.ofString "...", word)]
noncomputable def dueOf (word : Str) : List Bool := [true, word.cps.toList == (Str.ofString "").cps.toList, true, word.cps.toList == (Str.ofString "").cps.toList, true, word.cps.toList == (Str.ofString "").cps.toList, true, decide ((word.length : Int) < 2), decide ((word.length : Int) < 3)]
noncomputable def takesOk (word : Str) : Bool := decide (word.length ≤ 5) && decide ((cutI word none (some 1)).length ≤ 5) && decide ((cutI word (some 1) none).length ≤ 5) && decide ((cutI word none (some (-1))).length ≤ 5) &&
  decide ((Txt.join (Str.ofString "...") (signs word)).length ≤ 40) && decide ((Txt.join (Str.ofString "...") (signs (cutI word (some 1) none ++ cutI word none (some 1)))).length ≤ 40) &&
  ((askedOf word).zip (dueOf word)).all fun p => wantOk p.1.1 && decide (p.1.2.length ≤ 100) && (emFun p.1.1 p.1.2 == p.2)

end TMTak
section TMRe
open PySem PySem.Spec PySem.Calls PyProof.Rows PySem.W
/-- the search ends and finds nothing within so many turns -/
noncomputable def failsIn : Nat → Sre.M → Bool
  | 0, _ => false
  | t + 1, m => let m' := m.runFor Builtin.Re.reTurnSteps
    match m'.outcome with
    | some .failed => true
    | some _ => false
    | none => failsIn t m'
section
variable {prog : Program} {w : World} {A : Around} {E : Value → Shared → Prop} {s : Shared}
theorem drive_fails {Q : Sre.M → Shared → Prop} (hQ : ∀ m', m'.outcome = some .failed → Q m' s) : ∀ (t n : Nat) (m : Sre.M), failsIn t m = true → t ≤ n → wpAny (model prog w) A (Builtin.Re.reDrive n m) Q E s
  | 0, _, _, h, _ => by cases h
  | t + 1, 0, _, _, hn => by omega
  | t + 1, n + 1, m, h, hn => by
    unfold Builtin.Re.reDrive
    unfold failsIn at h
    dsimp only at h ⊢
    cases ho : (m.runFor Builtin.Re.reTurnSteps).outcome with
    | none =>
      rw [ho] at h
      simp only [Option.isSome_none, Bool.false_eq_true, if_false]
      exact wpAny_bind (wpAny_rule (drive_fails hQ t n _ h (by omega)))
    | some o =>
      rw [ho] at h
      simp only [Option.isSome_some, if_true]
      cases o with
      | failed => exact wpAny_pure (hQ _ ho)
      | _ => cases h
theorem rules_pass (m : Sre.M) {Q : PUnit → Shared → Prop} (h : Q ⟨⟩ s) : ∀ l : List Nat, wpAny (model prog w) A (forIn l PUnit.unit fun i _ => (if m.seen.has i then do rule (Sre.names.getD i ""); pure (ForInStep.yield PUnit.unit) else pure (ForInStep.yield PUnit.unit) : Sem (ForInStep PUnit))) Q E s
  | [] => wpAny_pure h
  | i :: r => by
    rw [List.forIn_cons]
    refine wpAny_bind ?_
    split
    · exact wpAny_bind (wpAny_rule (wpAny_pure (rules_pass m h r)))
    · exact wpAny_pure (rules_pass m h r)
theorem run_fails {Q : Option Sre.M → Shared → Prop} {t : Nat} {m : Sre.M} (hf : failsIn t m = true) (ht : t ≤ 1000) (h : Q none s) : wpAny (model prog w) A (Builtin.Re.reRunToEnd m) Q E s := by
  unfold Builtin.Re.reRunToEnd
  refine wpAny_bind (drive_fails (fun m' ho => ?_) t (2 ^ 64) m hf (by omega))
  refine wpAny_bind (rules_pass m' ?_ _)
  rw [ho]
  exact wpAny_pure h
end

end TMRe
section TMRe2
open PySem PySem.Spec PySem.Calls PyProof.Rows PySem.W
theorem slot_search : Slot "re.Pattern" "search" "re.Pattern.search" :=
  .of (owner := "re.Pattern") (n := "search") (by rw [typeLookup_type, builtinLookup_eq_fast]; kernel_rfl) (by decide +kernel) (by decide +kernel) (by decide +kernel)
    (by first | exact .inl (by decide +kernel) | exact .inr (by decide +kernel)) (by rw [isSubtype_type]; kernel_rfl)
theorem entry_search : entryFor table "re.Pattern.search" = some Builtin.«re.Pattern.search» := entryFor_of_tree (by kernel_rfl)
theorem type_search : typeOf (.builtin "re.Pattern.search") = pure (.type "method_descriptor") := by show builtinType _ = _; rw [builtinType_eq_fast]; kernel_rfl
theorem args_search (a b : Value) : argsOk "re.Pattern.search" ⟨[a, b], []⟩ := by unfold argsOk; kernel_rfl
section
variable {prog : Program} {w : World} {A : Around} {E : Value → Shared → Prop} {s : Shared} {Q : Value → Shared → Prop}
theorem call_search {p c : Addr} {fs items : Array Value} {n t : Nat} {x : Str} {u : Tok} (hp : s.heap.get? p = some { cls := .type "re.Pattern", data := .fields fs }) (h5 : fs.getD 5 .none = .ref c) (h6 : Builtin.Re.reRawNat (fs.getD 6 .none) = 0)
    (hc : ∃ cl d sl, s.heap.get? c = some ⟨cl, d, .seq items n, sl⟩)
    (hf : failsIn t (Sre.forSearch ((items.map Builtin.Re.reRawOf).map (·.toNat)) x.cps (Builtin.Re.reRawNat (fs.getD 2 .none)) 0 x.cps.size false) = true) (ht : t ≤ 1000) (hx : x.cps.size ≤ 1000) (h : Q .none s) :
    wpAny (model prog w) A (call (.builtin "re.Pattern.search") [.ref p, .str x u]) Q E s := by
  obtain ⟨cl, d, sl, hc⟩ := hc
  refine wpAny_call_entry slot_search ⟨_, hp, rfl⟩ entry_search ?_ (args_search _ _)
  unfold Builtin.«re.Pattern.search» Builtin.Re.reTarget
  have hn : Builtin.Re.reNamed "re.Pattern.search" "search" ["string", "pos", "endpos"] 1 [.str x u] [] = pure [some (.str x u), none, none] := by rfl
  refine wpAny_bind ?_
  show wpAny _ _ (Builtin.Re.reNamed "re.Pattern.search" "search" ["string", "pos", "endpos"] 1 [.str x u] [] >>= _) _ _ s
  rw [hn]
  refine wpAny_bind (wpAny_pure ?_)
  show wpAny _ _ (fieldsOf (.ref p) >>= _) _ _ s
  refine wpAny_bind (wpAny_fieldsOf hp rfl ?_)
  show wpAny _ _ (Builtin.Re.reTextOf (.str x u) >>= _) _ _ s
  have ht' : Builtin.Re.reTextOf (.str x u) = pure (x.cps, 0) := by rfl
  rw [ht']
  refine wpAny_bind (wpAny_pure ?_)
  dsimp only
  rw [h6]
  refine wpAny_ite_false (by rfl) ?_
  refine wpAny_ite_false (by rfl) ?_
  have hnc : Builtin.Re.reNoCollectionInside (.str x u) 0 = pure () := by rfl
  rw [hnc]
  refine wpAny_bind (wpAny_pure ?_)
  rw [h5]
  refine wpAny_bind (m := Builtin.Re.reRawItems (.ref c)) ?_
  unfold Builtin.Re.reRawItems
  refine wpAny_bind (wpAny_seqItems hc rfl (wpAny_pure ?_))
  refine wpAny_pure ?_
  have e1 : min (Int.toNat 0) x.cps.size = 0 := by simp
  have e2 : min ((2 : Int) ^ 63 - 1).toNat x.cps.size = x.cps.size := by
    have : ((2 : Int) ^ 63 - 1).toNat = 2 ^ 63 - 1 := by decide
    omega
  unfold Builtin.Re.reAnswer
  dsimp only [Option.getD_some]
  rw [e1, e2]
  exact wpAny_bind (run_fails hf ht (wpAny_pure ⟨_, rfl, h⟩))
end

end TMRe2
section TMTup
open PySem PySem.Spec PySem.Calls PyProof.Rows PySem.W
theorem Has.app {α β : Type} {x : α} {o : β} {l : List (α × β)} (h : Has x o l) (r : List (α × β)) : Has x o (l ++ r) := by
  induction h with
  | hd => exact .hd
  | tl _ ih => exact .tl ih
theorem Tl.app {α : Type} {tb l : List α} : Tl tb (l ++ tb) l := by
  induction l with
  | nil => exact .nil
  | cons x r ih => exact .cons ih
theorem Keep.app {l r : List (Addr × Kd)} : Keep r (l ++ r) := by
  induction l with
  | nil => exact .all
  | cons x l ih => exact Keep.skip ih
/-- a list of pairs, each a tuple of its own -/
inductive TupL {α : Type} (P : α → Value → Value → Prop) : List α → List Value → List (Addr × Kd) → Prop
  | nil : TupL P [] [] []
  | cons {x : α} {T : Addr} {a b : Value} {xs : List α} {vs : List Value} {tp : List (Addr × Kd)} : P x a b → TupL P xs vs tp → TupL P (x :: xs) (.ref T :: vs) ((T, .tup [a, b]) :: tp)
section
variable {α : Type} {P : α → Value → Value → Prop} {xs ys : List α} {vs ws : List Value} {tp tq : List (Addr × Kd)}
theorem TupL.len (h : TupL P xs vs tp) : vs.length = xs.length := by
  induction h with
  | nil => rfl
  | cons _ _ ih => simp [ih]
theorem TupL.app (h : TupL P xs vs tp) (h' : TupL P ys ws tq) : TupL P (xs ++ ys) (vs ++ ws) (tp ++ tq) := by
  induction h with
  | nil => exact h'
  | cons hp _ ih => exact .cons hp ih
theorem TupL.snoc (h : TupL P xs vs tp) {x : α} {T : Addr} {a b : Value} (hp : P x a b) : TupL P (xs ++ [x]) (vs ++ [.ref T]) (tp ++ [(T, .tup [a, b])]) := h.app (.cons hp .nil)
theorem TupL.get (h : TupL P xs vs tp) : ∀ {i : Nat} {x : α}, xs[i]? = some x → ∃ T a b, vs[i]? = some (.ref T) ∧ Has T (.tup [a, b]) tp ∧ P x a b := by
  induction h with
  | nil => intro i x e; simp at e
  | @cons x T a b xs vs tp hp _ ih =>
    intro i y e
    cases i with
    | zero => simp at e; subst e; exact ⟨T, a, b, rfl, .hd, hp⟩
    | succ i =>
      obtain ⟨T', a', b', h1, h2, h3⟩ := ih (by simpa using e)
      exact ⟨T', a', b', by simpa using h1, .tl h2, h3⟩
end
theorem perm_mv {α : Type} (fr p : α) (pre tp tb : List α) : List.Perm (fr :: p :: (pre ++ (tp ++ tb))) (fr :: (pre ++ ((tp ++ [p]) ++ tb))) := by
  refine List.Perm.cons fr ?_
  have h1 : List.Perm (p :: (pre ++ (tp ++ tb))) (pre ++ (p :: (tp ++ tb))) := List.perm_middle.symm
  refine h1.trans (List.Perm.append_left pre ?_)
  rw [List.append_assoc]
  exact List.perm_middle.symm
noncomputable def isII (x : Int × Int) (a b : Value) : Prop := isI x.1 a ∧ isI x.2 b
noncomputable def isSS (x : Str × Str) (a b : Value) : Prop := isS x.1 a ∧ isS x.2 b
/-! bits -/
theorem or_add_and (x y : Nat) : (x ||| y) + (x &&& y) = x + y := by
  have h := bitOr_and (x : Int) (y : Int)
  have e1 : Builtin.bitOr (x : Int) (y : Int) = ((x ||| y : Nat) : Int) := by
    unfold Builtin.bitOr
    have n1 : ¬ 0 ≤ Builtin.bitNot (x : Int) := by unfold Builtin.bitNot; omega
    have n2 : ¬ 0 ≤ Builtin.bitNot (y : Int) := by unfold Builtin.bitNot; omega
    rw [bitAnd_nn n1 n2, bitNot_bitNot, bitNot_bitNot, bitNot_bitNot, Int.toNat_natCast, Int.toNat_natCast]
  rw [e1, bitAnd_pp (Int.natCast_nonneg x) (Int.natCast_nonneg y), Int.toNat_natCast, Int.toNat_natCast] at h
  have h1 : x &&& y ≤ x := Nat.and_le_left
  omega
theorem bitXor_lt {x y w : Nat} (hx : x < 2 ^ w) (hy : y < 2 ^ w) : ∃ k : Nat, Builtin.bitXor (x : Int) (y : Int) = k ∧ k < 2 ^ w := by
  refine ⟨_, bitXorN x y, ?_⟩
  have h1 := or_add_and x y
  have h2 : x ||| y < 2 ^ w := Nat.or_lt_two_pow hx hy
  omega
theorem bitXor_not (x y : Int) : Builtin.bitXor x (Builtin.bitNot y) = Builtin.bitNot (Builtin.bitXor x y) := by
  unfold Builtin.bitXor
  rw [bitOr_and, bitOr_and, bitAnd_not]
  unfold Builtin.bitNot
  omega
theorem bitXor_bd {a b : Int} {w : Nat} (h0 : 0 ≤ a) (h1 : a < 2 ^ w) (h2 : -(2 ^ w) ≤ b) (h3 : b < 2 ^ w) : -(2 ^ w) ≤ Builtin.bitXor a b ∧ Builtin.bitXor a b < 2 ^ w := by
  have cst : ((2 ^ w : Nat) : Int) = 2 ^ w := by push_cast; rfl
  obtain ⟨x, rfl⟩ : ∃ x : Nat, a = x := ⟨a.toNat, by omega⟩
  by_cases hb : 0 ≤ b
  · obtain ⟨y, rfl⟩ : ∃ y : Nat, b = y := ⟨b.toNat, by omega⟩
    obtain ⟨k, e, hk⟩ := bitXor_lt (x := x) (y := y) (w := w) (by omega) (by omega)
    rw [e]
    omega
  · obtain ⟨y, hy⟩ : ∃ y : Nat, Builtin.bitNot b = y := ⟨(Builtin.bitNot b).toNat, by unfold Builtin.bitNot; omega⟩
    have e0 : b = Builtin.bitNot (y : Int) := by rw [← hy, bitNot_bitNot]
    have hyb : (y : Int) = -b - 1 := by rw [← hy]; rfl
    obtain ⟨k, e, hk⟩ := bitXor_lt (x := x) (y := y) (w := w) (by omega) (by omega)
    rw [e0, bitXor_not, e]
    unfold Builtin.bitNot
    omega
/-! halving -/
noncomputable def stepH (w : Nat) (l : List Int) : List Int := l.flatMap fun x => [x.fmod (2 ^ w), Builtin.bitXor (x.fmod (2 ^ w)) (x.fdiv (2 ^ w))]
noncomputable def lastH (l : List Int) : List Int := l.flatMap fun x => [x.fmod 2, (Builtin.bitXor x (x.fdiv 2)).fmod 2]
noncomputable def halvesFun (shade : Int) : List Int := lastH (stepH 2 (stepH 4 (stepH 8 (stepH 16 [shade]))))
noncomputable def InB (w : Nat) (x : Int) : Prop := -(2 ^ w * 2 ^ w) ≤ x ∧ x < 2 ^ w * 2 ^ w
theorem inB_parts {w : Nat} {x : Int} (h : InB w x) : (0 ≤ x.fmod (2 ^ w) ∧ x.fmod (2 ^ w) < 2 ^ w) ∧ (-(2 ^ w) ≤ x.fdiv (2 ^ w) ∧ x.fdiv (2 ^ w) < 2 ^ w) := by
  have hp : (0 : Int) < 2 ^ w := Int.pow_pos (by decide)
  have h1 := Int.fmod_nonneg_of_pos x hp
  have h2 := Int.fmod_lt_of_pos x hp
  have h3 := Int.mul_fdiv_add_fmod x (2 ^ w)
  obtain ⟨b1, b2⟩ := h
  refine ⟨⟨h1, h2⟩, ?_, ?_⟩
  · generalize hq : x.fdiv (2 ^ w) = q at *
    refine Int.not_lt.mp fun hlt => ?_
    have := Int.mul_le_mul_of_nonneg_left (show q ≤ -(2 ^ w) - 1 by omega) (Int.le_of_lt hp)
    rw [Int.mul_sub, Int.mul_neg, Int.mul_one] at this
    omega
  · generalize hq : x.fdiv (2 ^ w) = q at *
    refine Int.not_le.mp fun hle => ?_
    have := Int.mul_le_mul_of_nonneg_left hle (Int.le_of_lt hp)
    omega

end TMTup
section TMHal
open PySem PySem.Spec PySem.Calls PyProof.Rows PySem.W
noncomputable def hsAt (shade : Int) : Nat → List Int
  | 0 => [shade]
  | i + 1 => stepH (16 / 2 ^ i) (hsAt shade i)
theorem halvesFun_eq (shade : Int) : halvesFun shade = lastH (hsAt shade 4) := rfl
theorem stepH_len (w : Nat) (l : List Int) : (stepH w l).length = 2 * l.length := by
  unfold stepH
  induction l with
  | nil => rfl
  | cons x r ih => rw [List.flatMap_cons, List.length_append, ih, List.length_cons]; simp only [List.length_cons, List.length_nil]; omega
theorem lastH_len (l : List Int) : (lastH l).length = 2 * l.length := by
  unfold lastH
  induction l with
  | nil => rfl
  | cons x r ih => rw [List.flatMap_cons, List.length_append, ih, List.length_cons]; simp only [List.length_cons, List.length_nil]; omega
theorem hsAt_len (shade : Int) : ∀ i, (hsAt shade i).length = 2 ^ i
  | 0 => rfl
  | i + 1 => by
    show (stepH _ _).length = _
    rw [stepH_len, hsAt_len shade i, Nat.pow_succ]; omega
theorem stepH_app (w : Nat) (l r : List Int) : stepH w (l ++ r) = stepH w l ++ stepH w r := List.flatMap_append
theorem lastH_app (l r : List Int) : lastH (l ++ r) = lastH l ++ lastH r := List.flatMap_append
theorem inB_half {w : Nat} {x : Int} (h1 : -(2 ^ (2 * w)) ≤ x) (h2 : x < 2 ^ (2 * w)) : InB (2 * w) x := by
  have hp : (0 : Int) < 2 ^ (2 * w) := Int.pow_pos (by decide)
  have : (2 : Int) ^ (2 * w) ≤ 2 ^ (2 * w) * 2 ^ (2 * w) := by
    have := Int.mul_le_mul_of_nonneg_left (show (1 : Int) ≤ 2 ^ (2 * w) by omega) (Int.le_of_lt hp)
    rw [Int.mul_one] at this
    exact this
  unfold InB
  omega
theorem stepH_bd {w v : Nat} {l : List Int} (hv : w = 2 * v) (h : ∀ x ∈ l, InB w x) : ∀ x ∈ stepH w l, InB v x := by
  intro x hx
  unfold stepH at hx
  obtain ⟨y, hy, hm⟩ := List.mem_flatMap.mp hx
  obtain ⟨⟨a1, a2⟩, b1, b2⟩ := inB_parts (h y hy)
  have e : (2 : Int) ^ w = 2 ^ v * 2 ^ v := by rw [hv, Nat.two_mul, Int.pow_add]
  have hp : (0 : Int) < 2 ^ w := Int.pow_pos (by decide)
  unfold InB
  rw [← e]
  rcases List.mem_cons.mp hm with rfl | hm
  · omega
  · rw [List.mem_singleton.mp hm]
    exact bitXor_bd a1 a2 b1 b2
theorem hsAt_bd {shade : Int} (h : InB 16 shade) : ∀ i, i ≤ 4 → ∀ x ∈ hsAt shade i, InB (16 / 2 ^ i) x
  | 0, _, x, hx => by rw [List.mem_singleton.mp hx]; exact h
  | i + 1, hi, x, hx => by
    refine stepH_bd ?_ (hsAt_bd h i (by omega)) x hx
    have : i = 0 ∨ i = 1 ∨ i = 2 ∨ i = 3 := by omega
    rcases this with rfl | rfl | rfl | rfl <;> rfl
theorem sg_fdiv {sg x : Int} (hsg : sg = 1 ∨ sg = -1) (m : Int) : (sg * x).fdiv (sg * m) = x.fdiv m := by
  rcases hsg with rfl | rfl
  · rw [Int.one_mul, Int.one_mul]
  · rw [Int.neg_one_mul, Int.neg_one_mul, Int.neg_fdiv_neg]
theorem sg_fmod {sg x : Int} (hsg : sg = 1 ∨ sg = -1) (m : Int) : sg * (sg * x).fmod (sg * m) = x.fmod m := by
  have e1 := Int.mul_fdiv_add_fmod (sg * x) (sg * m)
  have e2 := Int.mul_fdiv_add_fmod x m
  rw [sg_fdiv hsg] at e1
  rcases hsg with rfl | rfl
  · rw [Int.one_mul, Int.one_mul]; rw [Int.one_mul]
  · rw [Int.neg_one_mul, Int.neg_one_mul] at *
    rw [Int.neg_one_mul]
    rw [Int.neg_mul] at e1
    omega
noncomputable def pairH (sg : Int) (w : Nat) (x : Int) : Int × Int := ((sg * x).fdiv (sg * 2 ^ w), (sg * x).fmod (sg * 2 ^ w))
theorem w_of {i : Nat} (h : i < 4) : ∃ w v : Nat, 16 / 2 ^ i = w ∧ w = 2 * v ∧ 2 ≤ w ∧ w ≤ 16 := by
  have : i = 0 ∨ i = 1 ∨ i = 2 ∨ i = 3 := by omega
  rcases this with rfl | rfl | rfl | rfl
  · exact ⟨16, 8, rfl, rfl, by decide, by decide⟩
  · exact ⟨8, 4, rfl, rfl, by decide, by decide⟩
  · exact ⟨4, 2, rfl, rfl, by decide, by decide⟩
  · exact ⟨2, 1, rfl, rfl, by decide, by decide⟩
theorem sgn_abs {sg x : Int} (hsg : sg = 1 ∨ sg = -1) : (sg * x).natAbs = x.natAbs := by
  rcases hsg with rfl | rfl
  · rw [Int.one_mul]
  · rw [Int.neg_one_mul, Int.natAbs_neg]
theorem bits_pow (w : Nat) : Builtin.Int.intBits ((2 ^ w : Nat) : Int) = w + 1 := by
  rw [intBits_nat, if_neg (by have := Nat.two_pow_pos w; omega), Nat.log2_two_pow]

end TMHal
section TMAsg
open PySem PySem.Spec PySem.Calls PyProof.Rows PySem.W
/-! a comprehension whose list goes straight into a name -/
section
variable {prog : Program} {w : World} {A : Around} {g : Heap} {z s : Shared} {ow : List (Addr × Kd)} {env : Env} {L : Addr} {nm nm' : List (Str × NameKind)} {clo cl : List (Str × Addr)}
theorem swaps_loc (e : EO env L nm clo) {y : Str} {py pos : Pos} {elt : Expr} {gens : List Comprehension} {scope : Scope} {ln : Nat} (hk : Has y .local nm) (hp : (py.line == pos.line) = true)
    (hno : (scope.names.any fun p => p.1 == y && (p.2 == .local || p.2 == .cell)) = false) : swapsWith (.ListComp elt gens scope pos) (some (.Name y py)) ln env = pure true := by
  have bk : env.blockKind = .function := by unfold Env.blockKind; rw [e.kind]; rfl
  have ky := e.kindOf hk
  have : (env.blockKind == .function && env.kindOf y == some .local && py.line == pos.line && !(scope.names.any fun p => p.1 == y && (p.2 == .local || p.2 == .cell))) = true := by
    rw [bk, ky, hno, hp]; rfl
  show (pure (env.blockKind == .function && env.kindOf y == some .local && py.line == pos.line && !(scope.names.any fun p => p.1 == y && (p.2 == .local || p.2 == .cell))) : Sem Bool) = pure true
  rw [this]
theorem swaps_cel (e : EO env L nm clo) {y : Str} {py pos : Pos} {elt : Expr} {gens : List Comprehension} {scope : Scope} {ln : Nat} (hk : Has y .cell nm) : swapsWith (.ListComp elt gens scope pos) (some (.Name y py)) ln env = pure false := by
  have bk : env.blockKind = .function := by unfold Env.blockKind; rw [e.kind]; rfl
  have ky := e.kindOf hk
  have : (env.blockKind == .function && env.kindOf y == some .local && py.line == pos.line && !(scope.names.any fun p => p.1 == y && (p.2 == .local || p.2 == .cell))) = false := by
    rw [bk, ky]; rfl
  show (pure (env.blockKind == .function && env.kindOf y == some .local && py.line == pos.line && !(scope.names.any fun p => p.1 == y && (p.2 == .local || p.2 == .cell))) : Sem Bool) = pure false
  rw [this]
noncomputable def CompGoU (prog : Program) (w : World) (A : Around) (env : Env) (scope : Scope) (cl : List (Str × Addr)) (e : Expr) (it : Value) (y : Str) (py : Pos) (rs : List Stmt) (Q : Flow → Shared → Prop) (E : Value → Shared → Prop) (s : Shared) : Prop :=
  wpAny (model prog w) A (newList []) (fun acc s₃ => wpAny (model prog w) A (newFunctionEnv scope env.globals cl [] env.qual none .none (some env)) (fun cenv s₄ =>
    codeAny (model prog w) A (.compStart e 0 it acc { cenv with scope := relabel scope env }) (compPost (model prog w) A E (some (assign (.Name y py) env)) (fun _ s' => wpAny (model prog w) A (execs rs env) Q E s') acc cenv.locals) s₄) E s₃) E s
noncomputable def CompRU (prog : Program) (w : World) (A : Around) (g : Heap) (z : Shared) (C D : Addr) (env : Env) (y : Str) (py : Pos) (rs : List Stmt) (Q : Flow → Shared → Prop) (E : Value → Shared → Prop) : Result → Shared → Prop
  | .ok _, s => wpAny (model prog w) A (assign (.Name y py) env (.ref D)) (fun _ s₁ => ∃ m ow, St g z s₁ ((C, .ns m) :: ow) ∧ ∀ s', St g z s' ow → wpAny (model prog w) A (execs rs env) Q E s') E s
  | .error x, s => compPost (model prog w) A E (some (assign (.Name y py) env)) (fun _ s' => wpAny (model prog w) A (execs rs env) Q E s') (.ref D) C (.error x) s
variable {E : Value → Shared → Prop}
theorem x_asgC {elt target iter : Expr} {ifs : List Expr} {rest : List Comprehension} {scope : Scope} {pos py spos : Pos} {y : Str} {rs : List Stmt} {Q : Flow → Shared → Prop} (e : EO env L nm clo) (hk : Has y .local nm) (hcl : closN scope.names clo [] = some cl) (hkind : scope.kind = .function)
    (hnames : (scope.names.all fun x => x.2 != .local || scope.names.lookup x.1 == some .local) = true) (hp : (py.line == pos.line) = true) (hno : (scope.names.any fun p => p.1 == y && (p.2 == .local || p.2 == .cell)) = false)
    (h : wpAny (model prog w) A (eval iter env) (fun x s₁ => wpAny (model prog w) A (pyIter x) (fun it s₂ => CompGoU prog w A env scope cl (.ListComp elt (⟨target, iter, ifs, 0⟩ :: rest) scope pos) it y py rs Q E s₂) E s₁) E s)
    (hs : ∀ x, foldedSetIterable iter env x = pure x := by intro _; rfl) : wpAny (model prog w) A (execs (.Assign [.Name y py] (.ListComp elt (⟨target, iter, ifs, 0⟩ :: rest) scope pos) spos :: rs) env) Q E s := by
  refine x_cons ?_
  rw [exec_Assign_Name_used _ _ _ _ (swaps_loc e hk hp hno)]
  refine wpAny_bind (wpAny_standAt (wpAny_bind ?_))
  show wpAny _ A (do let _ ← comprehension (.ListComp elt (⟨target, iter, ifs, 0⟩ :: rest) scope pos) scope env _ (newList []) false (eval iter env) (some (assign (.Name y py) env))) _ _ s
  refine wpAny_bind (wpAny_mono (wpAny_comprehension_free (use := some (assign (.Name y py) env)) (Q := fun _ s' => wpAny (model prog w) A (execs rs env) Q E s') rfl hs (closure_is e hcl) hkind (fun x hx hl => ?_) h)
    (fun _ s' hq => wpAny_pure (wpAny_pure (then_next hq))) fun _ _ e => e)
  have := List.all_eq_true.mp hnames x hx
  simpa [hl] using this
theorem comp_goU {m : List (Str × Option Value)} {ks : List Str}
    {scope : Scope} {elt : Expr} {gens : List Comprehension} {pos py : Pos} {it : Value} {y : Str} {rs : List Stmt} {Q : Flow → Shared → Prop} (e : EO env L nm clo) (S : St g z s ow) (hnm : relabelN scope.names nm = nm') (hnd : (nm'.map (·.1)).Nodup) (hok : nmOk nm' = true) (hkind : scope.kind = .function)
    (hc : (scope.names.all fun x => x.2 != .cell) = true) (hks : cl.map (·.1) = ks) (hn : ks.Nodup) (hm : initL nm' [] = m)
    (h : ∀ C D cenv s', EO cenv C nm' cl → St g z s' ((C, .ns m) :: (D, .lst []) :: ow) → codeAny (model prog w) A (.compStart (.ListComp elt gens scope pos) 0 it (.ref D) cenv) (CompRU prog w A g z C D env y py rs Q E) s') :
    CompGoU prog w A env scope cl (.ListComp elt gens scope pos) it y py rs Q E s := by
  have noc : ∀ (names : List (Str × NameKind)) (n : Nat) (acc : List (Str × Addr)), (names.all fun x => x.2 != .cell) = true → cellsFrom n names acc = acc := by
    intro names
    induction names with
    | nil => intro n acc _; rfl
    | cons p r ih =>
      intro n acc h
      obtain ⟨a, k⟩ := p
      rw [List.all_cons, Bool.and_eq_true] at h
      unfold cellsFrom
      rw [if_neg (by simpa using h.1)]
      exact ih _ _ h.2
  unfold CompGoU
  refine wpAny_newList ?_ (by simp)
  have S1 : St g z { s with heap := s.heap.push { cls := .type "list", data := .seq ([] : List Value).toArray } } ((s.heap.objs.size, .lst []) :: ow) := S.push rfl (at_lst ⟨0, Heap.get?_push_size _ rfl⟩) _
  refine new_env0 (nm' := nm') S1 hnd fun C cs s' new S2 hne hcs hmap => ?_
  rw [noc _ _ _ hc] at hcs
  have e0 : cs = [] := by
    have := congrArg List.length hcs
    rw [List.length_append] at this
    exact List.length_eq_zero_iff.mp (by omega)
  subst e0
  have e1 : new = [] := by simpa using hmap
  subst e1
  rw [hm] at S2
  have eo : EO { newEnv scope C env.globals ([] ++ cl) env.qual none .none (some env) builtinsNs with scope := relabel scope env } C nm' cl := by
    refine ⟨hkind, (relabel_names e scope).trans hnm, hnd, rfl, e.glob, rfl, e.blt, ?_, hok⟩
    rw [hks]; exact hn
  refine codeAny_mono (h C s.heap.objs.size _ s' eo S2) fun r s'' hr => ?_
  cases r with
  | ok f =>
    refine wpAny_mono hr (fun _ s₃ hr' => ?_) fun _ _ h' => h'
    obtain ⟨m1, ow', S3, hq⟩ := hr'
    exact ⟨lkO m1, (S3.own _ (.head _)).1, fun h' hb => hq _ (S3.dropAt (fun b o hne q => (hb.2 b hne).trans q) _)⟩
  | error x => exact hr
theorem comp_endU {C D : Addr} {m mL mL' : List (Str × Option Value)} {o : Option Value} {ow' : List (Addr × Kd)} {y : Str} {py : Pos} {rs : List Stmt} {Q : Flow → Shared → Prop} (S : St g z s ((C, .ns m) :: ow)) (hp : Pick (L, .ns mL) ow ow') (e : EO env L nm clo) (hk : Has y .local nm) (hs : Set1 y o (some (.ref D)) mL mL')
    (h : ∀ s', St g z s' ((L, .ns mL') :: ow') → wpAny (model prog w) A (execs rs env) Q E s') : CompRU prog w A g z C D env y py rs Q E (.ok .next) s :=
  as_name (st_loc (S.perm ((List.Perm.cons _ hp.perm).trans (.swap ..))) e hk hs fun _ S' => ⟨m, (L, .ns mL') :: ow', S'.perm (.swap ..), h⟩)
end

end TMAsg
section TMHdr
open PySem PySem.Spec PySem.Calls PyProof.Rows PySem.W Builtin Builtin.ObjectAttr
/-! an object of a class of the program: its own dict is owned -/
section
variable {prog : Program} {w : World} {A : Around} {E : Value → Shared → Prop} {g : Heap} {z s : Shared} {ow ow' : List (Addr × Kd)} {K : Frag} {x C dx : Addr} {es es' : List DictEntry} {n n' d : Nat} {name : Str} {v : Value}
theorem AOk.under {k : Nat} (a : AOk A (k + 1)) (c : Code) (h : (A.under c).depth ≤ A.depth + 1) (h2 : (A.under c).units ≤ A.units + 16) (h3 : (A.under c).handled = A.handled) : AOk (A.under c) k :=
  ⟨h3.trans a.handled, by have := a.depth; omega, by have := a.units; omega⟩
theorem instO (S : St g z s ow) (hx : Has x (.raw (instObj C dx)) ow) (hd : Has dx (.raw (dictOf es n)) ow) : InstAt s.heap x (instObj C dx) C (some (dictOf es n)) := ⟨S.get hx, rfl, rfl, S.get hd⟩
theorem kin (G : Gd K g) (S : St g z s ow) : K.In s.heap := G.1.keeps S.kp
theorem at_own {expr : Bool} {attr : Option Value} {Q : Value → Shared → Prop} (G : Gd K g) (S : St g z s ow) (hx : Has x (.raw (instObj C dx)) ow) (hd : Has dx (.raw (dictOf es n)) ow) (hg : plainGet K C name = true) (hh : hasDictIn K C = true)
    (ha : findIn K (.ref C) name = some attr) (hn : noGet K attr = true) (hl : getL name es = some (some v)) (hv : handedIn v = true) (h : ∀ s', St g z s' ow → Q v s') : wpAny (model prog w) A (getAttr (.ref x) name expr) Q E s :=
  get_value (kin G S) (instO S hx hd) (plainGet_of hg).1 (findObj_own hh ha hn hl) hv (h _ (S.tok _))
theorem gm_inst {pl : Sem Bool} {Q : Value × List Value → Shared → Prop} {f : Addr} (G : Gd K g) (S : St g z s ow) (hx : Has x (.raw (instObj C dx)) ow) (hd : Has dx (.raw (dictOf es n)) ow) (hg : plainGet K C name = true)
    (hf : findIn K (.ref C) name = some (some (.ref f))) (ht : isFn K (.ref f) = true) (hl : getL name es = some none) (h : Q (.ref f, [.ref x]) s) : wpAny (model prog w) A (getMethod (.ref x) name pl) Q E s :=
  method_fn (kin G S) (instO S hx hd) (plainGet_of hg).1 (plainGet_of hg).2 hf (beq_iff_eq.mp ht) (by show (lookIn name (dictOf es n)).map _ = _; rw [lookIn_dict, hl]; rfl) h
theorem st_own {Q : Unit → Shared → Prop} (G : Gd K g) (S : St g z s ow) (hx : Has x (.raw (instObj C dx)) ow) (hd : Set1 dx (.raw (dictOf es n)) (.raw (dictOf es' n')) ow ow')
    (hs : findIn K (.ref C) "__setattr__" = some (some (.builtin "object.__setattr__"))) (hp : plainOver K C = true) (ht : takerIn K C name = some none) (hh : hasDictIn K C = true) (hl : (getL name es).isSome = true)
    (e : (putL name (PyData.keyHash w.params name) (.str name (s.toks + 1)) v es, putN name es n) = (es', n')) (hz : es'.length ≤ 1000)
    (h : ∀ s', St g z s' ow' → Q () s') : wpAny (model prog w) A (setAttr (.ref x) name v) Q E s := by
  have X := kin G S
  have I := instO S hx hd.has
  have D := S.get hd.has
  obtain ⟨e1, e2⟩ := Prod.mk.inj e
  refine set_plain X I hs ?_
  refine osa_open (s := { s with toks := s.toks + 1 }) X I hp ht fun b => ?_
  obtain ⟨cd, hc, hd'⟩ := any_some hh
  refine wpAny_bind (wpAny_pure (wpAny_bind (wpAny_bind (wpAny_loadPart I.at_ (wpAny_bind ((looks_clsIn X hc).at ?_))))))
  rw [hd']
  refine wpAny_pure (a := some dx) (wpAny_bind (wpAny_pure (wpAny_bind ?_)))
  unfold nsSet
  refine wpAny_bind (wpAny_bind (wpAny_askSetting (wpAny_pure (wpAny_bind (wpAny_mkText (wpAny_bind (wpAny_loadPart D ?_)))))))
  have c : (!es.toArray.any (·.key.isStr name) && es.toArray.any (·.refKey)) = false := by
    rw [← Array.any_toList, ← Array.any_toList]
    unfold getL at hl
    split at hl
    · rename_i en he
      rw [List.any_eq_true.mpr ⟨en, List.mem_of_find?_eq_some he, List.find?_some he⟩]; rfl
    · split at hl
      · cases hl
      · rename_i q; rw [Bool.not_eq_true] at q
        show (!_ && es.any _) = false
        rw [q, Bool.and_false]
  dsimp only
  rw [aRefKeyMayBeTheName_at, c]
  have eo : Obj.putName name (PyData.keyHash w.params name) (.str name (s.toks + 1)) v (dictOf es n) = dictOf es' n' := by rw [putName_dict, e1, e2]
  have D' : (s.heap.update dx (Obj.putName name (PyData.keyHash w.params name) (.str name (s.toks + 1)) v)).get? dx = some (dictOf es' n') := eo ▸ Heap.get?_update_self _ D (by rw [eo]; rfl)
  refine wpAny_updatePart D ?_
  refine wpAny_bind (wpAny_lookBehind D' (pastItsLine_dict (by rw [List.size_toArray, sizeLine_eq]; omega)) ?_)
  exact wpAny_pure (h _ (S.upd hd (fun b o hne q => (Heap.get?_update_ne _ _ _ _ hne).trans q) (at_raw D') _))
/-- making one -/
theorem mk_inst {rest : List Value} {kw : List (Str × Value)} {fI : Addr} {fr : Addr × Kd} {Q : Value → Shared → Prop} (G : Gd K g) (S : St g z s (fr :: ow)) (hm : makesIn K C = true)
    (hi : findIn K (.ref C) "__init__" = some (some (.ref fI))) (hf : typeIn K (.ref fI) = some (.type "function"))
    (h : ∀ x dx s', St g z s' (fr :: (x, .raw (instObj C dx)) :: (dx, .raw (dictOf [] 0)) :: ow) →
      codeAny (model prog w) (A.under (.builtin "type.__call__" ⟨.ref C :: rest, kw⟩)) (.call (.ref fI) ⟨.ref x :: rest, kw⟩) (InitBack x fun r s' => match r with | .ok (.ret v) => Q v s' | .ok _ => False | .error e => E e s') s') :
    wpAny (model prog w) A (call (.ref C) rest kw) Q E s := by
  have X := kin G S
  obtain ⟨hh, gg, dd, t, os⟩ := s
  refine wpAny_call (make_core (makes_of X hm) (looks_findIn X hi) (fun self => bind_fn X self hf) (.inl rfl) (h _ hh.objs.size _ ?_))
  have S1 := S.push (k := .raw (dictOf [] 0)) (o := emptyDict) rfl (at_raw (Heap.get?_push_size _ rfl)) t
  have S2 := S1.push (k := .raw (instObj C hh.objs.size)) (o := instObj C hh.objs.size) rfl (at_raw (Heap.get?_push_size _ rfl)) t
  have e : (hh.push emptyDict).objs.size = hh.objs.size + 1 := Heap.size_push ..
  have S3 : St g z ⟨(hh.push emptyDict).push (instObj C hh.objs.size), gg, dd, t, os⟩ ((hh.objs.size + 1, .raw (instObj C hh.objs.size)) :: (hh.objs.size, .raw (dictOf [] 0)) :: fr :: ow) := by rw [← e]; exact S2
  exact S3.perm (List.perm_middle (l₁ := [_, _]))
theorem enterC {name qual : Str} {params : Arguments} {body : List Stmt} {scope : Scope} {dV kV doc pm cdv ct oc : Value} {an od : Option Addr} {osl : Array (Option Value)} {f : Addr} {args : Args} {binds : List (Str × Value)} {m : List (Str × Option Value)} {us : List (Addr × Kd)} {R : Result → Shared → Prop}
    (ho : K.lookup f = some ⟨oc, od, .func (fnOf name qual params body scope dV kV doc pm an cdv ct), osl⟩) (hcd : codeIn K cdv qual = true) (G : Gd K g) (S : St g z s us) (hA : AOk A (d + 1))
    (hbind : BindsTo s (fnOf name qual params body scope dV kV doc pm an cdv ct) args binds) (hnd : (scope.names.map (·.1)).Nodup) (hok : nmOk scope.names = true) (hm : initL scope.names binds = m)
    (h : ∀ env L s', EO env L scope.names [] → EX env L cdv qual → St g z s' ((L, .ns m) :: us) → wpAny (model prog w) (A.deeper env) (execs body env) (fun fl s'' => R (.ok (.ret (retOf fl))) s'') (LeaveE prog w A env fun e s'' => R (.error e) s'') s')
    (hcell : (scope.names.all fun x => x.2 != .cell) = true) (hloc : (binds.all fun x => scope.names.lookup x.1 == some .local) = true)
    (hco : scope.isCoroutine = false) (hgen : scope.isGenerator = false) (hk : scope.kind = .function) :
    codeAny (model prog w) A (.call (.ref f) args) R s := by
  have hloc' : ∀ x ∈ binds, scope.names.lookup x.1 = some .local := fun x hx => by simpa using List.all_eq_true.mp hloc x hx
  have X := kin G S
  obtain ⟨_, p, loose, mean, mg, mb, T⟩ := G
  refine codeAny_call_def (fd := fnOf name qual params body scope dV kV doc pm an cdv ct) (body := body) (binds := binds) hA.room (X _ _ ho) rfl (T.nolimit.keeps S.kp) (codeRec_of X hcd) rfl hbind
    (fun x hx => by simpa using List.all_eq_true.mp hcell x hx) hloc' (fun h₀ hns hk₀ => ?_) hco hgen hk
  have S' : St g z { s with heap := h₀, toks := s.toks + binds.length } ((s.heap.objs.size, .ns m) :: us) := by
    refine S.new (k := .ns m) hk₀ (size_none _) (And.intro ?_ ?_) _
    · rw [← hm, ← initL_binds hnd hloc']; exact hns
    · rw [← hm]; exact (initL_keys binds hnd).1
  refine wpAny_mono (h (callEnv (fnOf name qual params body scope dV kV doc pm an cdv ct) s.heap.objs.size f) s.heap.objs.size _ ⟨hk, rfl, hnd, rfl, rfl, rfl, rfl, List.nodup_nil, hok⟩ ⟨rfl, rfl, rfl⟩ S') (fun fl s'' hq => ?_) fun e s'' he => he
  cases fl <;> exact hq
end
section
variable {prog : Program} {w : World} {A : Around} {E : Value → Shared → Prop} {g : Heap} {z s : Shared} {ow : List (Addr × Kd)} {l : Addr} {xs : List Value} {Q : Value → Shared → Prop}
theorem plainAttrs_pat : PlainAttrs "re.Pattern" :=
  ⟨⟨"object.__getattribute__", by rw [typeLookup_type, builtinLookup_eq_fast]; kernel_rfl, by decide +kernel⟩, by rw [typeLookup_type, builtinLookup_eq_fast]; kernel_rfl⟩
theorem gm_search {p : Addr} {fs : Array Value} {pl : Sem Bool} {R : Value × List Value → Shared → Prop} (hp : s.heap.get? p = some { cls := .type "re.Pattern", data := .fields fs }) (h : R (.builtin "re.Pattern.search", [.ref p]) s) : wpAny (model prog w) A (getMethod (.ref p) (Str.ofString "search") pl) R E s :=
  getMethod_builtin ⟨_, hp, rfl⟩ plainAttrs_pat slot_search type_search (fun a q => by cases q; exact ⟨_, hp, rfl⟩) h
theorem bi_typeS {x : Str} {t : Tok} (h : Q (.type "str") s) : wpAny (model prog w) A (call (.type "type") [.str x t]) Q E s := call_type_of (Tx := "str") rfl (by decide) h
theorem bi_typeL (S : St g z s ow) (hl : Has l (.lst xs) ow) (h : Q (.type "list") s) : wpAny (model prog w) A (call (.type "type") [.ref l]) Q E s := call_type_of (S.isL hl).typeIs (by decide) h
theorem is_typ {T : String} (h : Q (.bool true) s) : wpAny (model prog w) A (compareOp .Is (.type T) (.type T)) Q E s := wpAny_is_self rfl h
theorem isnot_typ {T : String} (h : Q (.bool false) s) : wpAny (model prog w) A (compareOp .IsNot (.type T) (.type T)) Q E s := wpAny_isNot_self rfl h
theorem isnot_refN {a : Addr} (h : Q (.bool true) s) : wpAny (model prog w) A (compareOp .IsNot (.ref a) .none) Q E s := wpAny_isNot_other rfl (by intro e; cases e) h
theorem isnot_strN {x : Str} {t : Tok} (h : Q (.bool true) s) : wpAny (model prog w) A (compareOp .IsNot (.str x t) .none) Q E s := wpAny_isNot_other rfl (by intro e; cases e) h
theorem tr_none {R : Bool → Shared → Prop} (h : R false s) : wpAny (model prog w) A (truthy .none) R E s := wpAny_pure h
end

end TMHdr
section TMSl
open PySem PySem.Spec PySem.Calls PyProof.Rows PySem.W Builtin Builtin.ObjectAttr
section
variable {prog : Program} {w : World} {A : Around} {E : Value → Shared → Prop} {g : Heap} {z s : Shared} {ow ow' : List (Addr × Kd)} {K : Frag} {env : Env} {fr : Addr × Kd}
/-! an attribute is stored -/
theorem x_asgA {o : Expr} {attr : Str} {p pos : Pos} {value : Expr} {rest : List Stmt} {Q : Flow → Shared → Prop}
    (h : wpAny (model prog w) A (eval value env) (fun v s₁ => wpAny (model prog w) A (eval o env) (fun ov s₂ => wpAny (model prog w) A (setAttr ov attr v) (fun _ s₃ => wpAny (model prog w) A (execs rest env) Q E s₃) E s₂) E s₁) E s)
    (hs : swapsWith value (some (.Attribute o attr p)) pos.line env = pure false) : wpAny (model prog w) A (execs (.Assign [.Attribute o attr p] value pos :: rest) env) Q E s :=
  x_cons (plainObj_wpAny_Assign_Attribute h hs)
theorem r_attr {x attr : Str} {xp pos : Pos} {Q : Value → Shared → Prop} (h : wpAny (model prog w) A (eval (.Name x xp) env) (fun o s₁ => wpAny (model prog w) A (getAttr o attr true) Q E s₁) E s) :
    wpAny (model prog w) A (eval (.Attribute (.Name x xp) attr pos) env) Q E s := Attribute_name h
/-! calls with keywords -/
theorem c_kw {f : Addr} {pos : Pos} {first : List Value} {e : Expr} {rest : List Expr} {kws : List Keyword} {Q : Value → Shared → Prop} (G : Gd K g) (S : St g z s ow) (hk : keepIn K (.ref f) = true)
    (h : wpAny (model prog w) A (spliced (backTo pos (starEach (e :: rest) env))) (fun vs s₁ => wpAny (model prog w) A (evalAll ((backToKw pos (keywordEach kws env)).map (·.2)))
      (fun ks s₂ => K.In s₂.heap ∧ wpAny (model prog w) A (call (.ref f) (first ++ vs) (((backToKw pos (keywordEach kws env)).filterMap (·.1)).zip ks)) Q E s₂) E s₁) E s)
    (hall : (backToKw pos (keywordEach kws env)).all (·.1.isSome) = true)
    (hplain : ((backTo pos (starEach (e :: rest) env)).any (·.1) || (backToKw pos (keywordEach kws env)).any (·.1.isNone)) = false) (he : starEach (e :: rest) env = (false, eval e env) :: starEach rest env) :
    wpAny (model prog w) A (callWith pos (.ref f) first (backTo pos (starEach (e :: rest) env)) (backToKw pos (keywordEach kws env))) Q E s := callWith_KW (kin G S) hk hall h hplain he
theorem c_defM {f : Addr} {a : Value} {pos : Pos} {e : Expr} {rest : List Expr} {Q : Value → Shared → Prop} (G : Gd K g) (S : St g z s ow) (hk : keepIn K (.ref f) = true)
    (h : wpAny (model prog w) A (spliced (backTo pos (starEach (e :: rest) env))) (fun vs s₁ => K.In s₁.heap ∧ wpAny (model prog w) A (call (.ref f) (a :: vs)) Q E s₁) E s)
    (he : starEach (e :: rest) env = (false, eval e env) :: starEach rest env) (hplain : (backTo pos (starEach rest env)).any (·.1) = false) :
    wpAny (model prog w) A (callWith pos (.ref f) [a] (backTo pos (starEach (e :: rest) env)) []) Q E s := c_def G S hk h he hplain
theorem c_defM0 {f : Addr} {a : Value} {pos : Pos} {Q : Value → Shared → Prop} (G : Gd K g) (S : St g z s ow) (hk : keepIn K (.ref f) = true) (h : wpAny (model prog w) A (call (.ref f) [a]) Q E s) :
    wpAny (model prog w) A (callWith pos (.ref f) [a] (backTo pos (starEach [] env)) []) Q E s := callWith_K0 (kin G S) hk h
theorem del_inst {x C dx f : Addr} {es : List DictEntry} {n : Nat} {i : Value} {Q : Unit → Shared → Prop} (G : Gd K g) (S : St g z s ow) (hx : Has x (.raw (instObj C dx)) ow) (hd : Has dx (.raw (dictOf es n)) ow) (hq : noSeq K C = true)
    (hs : findIn K (.ref C) "__delitem__" = some (some (.ref f))) (hf : isFn K (.ref f) = true) (h : wpAny (model prog w) A (call (.ref f) [.ref x, i]) (fun _ s' => Q () s') E s) : wpAny (model prog w) A (delItem (.ref x) i) Q E s := by
  have X := kin G S
  have I := instO S hx hd
  unfold delItem sequenceKey
  refine wpAny_holding (wpAny_bind (wpAny_bind (I.type.here ?_)))
  refine wpAny_bind ((anyM_none X hq).here ?_)
  rw [if_pos (show (!false) = true from rfl)]
  exact wpAny_pure (wpAny_bind (special_fn X I hs (beq_iff_eq.mp hf) (wpAny_mono h (fun _ _ z => wpAny_pure z) fun _ _ z => z)))
/-! the whole of a list is put anew -/
noncomputable def sliceAll : Obj := { cls := .type "slice", data := .fields #[.none, .none, .none] }
theorem r_slAll {p : Pos} {Q : Value → Shared → Prop} (S : St g z s (fr :: ow)) (h : ∀ sl s', St g z s' (fr :: (sl, .raw sliceAll) :: ow) → Q (.ref sl) s') : wpAny (model prog w) A (eval (.Slice none none none p) env) Q E s := by
  refine wpAny_Slice ?_
  rw [evalPart_none]
  refine wpAny_pure (wpAny_pure (wpAny_pure ?_))
  exact h _ _ ((S.push (k := .raw sliceAll) (o := sliceAll) rfl (at_raw (Heap.get?_push_size _ rfl)) _).perm (.swap ..))
theorem set_all {l c sl : Addr} {xs ys : List Value} {Q : Unit → Shared → Prop} (S : St g z s ow) (hl : Set1 l (.lst xs) (.lst ys) ow ow') (hc : Has c (.lst ys) ow) (hsl : Has sl (.raw sliceAll) ow) (hne : l ≠ c) (hsz : xs.length + ys.length ≤ sizeLine)
    (h : ∀ s', St g z s' ow' → Q () s') : wpAny (model prog w) A (setItem (.ref l) (.ref sl) (.ref c)) Q E s := by
  have hL := S.isL hl.has
  have hC := S.isL hc
  obtain ⟨n, ho⟩ := S.lst hl.has
  obtain ⟨n2, ho2⟩ := S.lst hc
  have hsg : s.heap.get? sl = some sliceAll := S.get hsl
  have hTs : s.TypeIs (.ref sl) "slice" := ⟨_, hsg, rfl⟩
  have hq : (Array.extract xs.toArray 0 0 ++ ys.toArray ++ Array.extract xs.toArray xs.toArray.size xs.toArray.size) = ys.toArray := by simp
  unfold setItem
  try with_reducible refine wpAny_holding ?_
  first | refine wpAny_bind (wpAny_pure ?_) | skip
  refine wpAny_bind (wpAny_sequenceKey hL.typeIs (by decide) ?_)
  refine wpAny_bind (wpAny_callSpecial?_slot (name := Str.ofString "__setitem__") hL.typeIs slot_list_setitem
    (wpAny_call_entry slot_list_setitem hL.typeIs entry_list_setitem ?_ (args_list_setitem _ _ _)))
  show wpAny _ _ (Builtin.List.listSubscript? (.ref sl) >>= _) _ _ s
  refine wpAny_bind ?_
  unfold Builtin.List.listSubscript?
  refine wpAny_bind (wpAny_specialOf hTs slice_no_index ?_)
  simp only [Option.isNone_none, if_true]
  refine wpAny_pure ?_
  show wpAny _ _ (typeOf (.ref sl) >>= _) _ _ s
  refine wpAny_bind (wpAny_typeOf hTs ?_)
  rw [if_neg (by decide)]
  rw [listSliceParts_eq]
  refine wpAny_bind (wpAny_bind (wpAny_field hsg rfl (x := .none) rfl (wpAny_bind (wpAny_listPart .none ?_))))
  rw [if_neg (by exact Bool.false_ne_true)]
  refine wpAny_bind (wpAny_field hsg rfl (x := .none) rfl (wpAny_bind (wpAny_listPart .none ?_)))
  refine wpAny_bind (wpAny_field hsg rfl (x := .none) rfl (wpAny_bind (wpAny_listPart .none (wpAny_pure ?_))))
  have hsame : Builtin.List.listSameRef (.ref l) (.ref c) = false := by
    show (l == c) = false
    exact beq_eq_false_iff_ne.mpr hne
  dsimp only
  rw [if_neg (by rw [hsame]; exact Bool.false_ne_true)]
  unfold Builtin.List.listAllItems
  refine wpAny_bind (wpAny_bind (wpAny_typeOf hC.typeIs ?_))
  rw [if_pos (by rfl)]
  unfold Builtin.List.listItems
  refine wpAny_bind (wpAny_seqItems ho2 rfl (wpAny_pure ?_))
  refine wpAny_bind (wpAny_bind (wpAny_seqItems ho rfl (wpAny_pure ?_)))
  refine wpAny_bind (wpAny_of_eq (sliceIndices_raw none none none xs.toArray.size (by simp)) ?_)
  have hb : sliceBounds none none none xs.toArray.size = (0, (xs.toArray.size : Int), 1) := by simp [sliceBounds]
  rw [hb]
  dsimp only
  rw [if_pos (by rfl)]
  refine wpAny_bind (wpAny_rule ?_)
  rw [if_neg (by unfold Builtin.List.listTooLong; simp; omega)]
  unfold Builtin.List.listUpdate
  have hf : (fun xs_1 : Array Value => xs_1.extract 0 (0 : Int).toNat ++ ys.toArray ++ xs_1.extract (max (0 : Int) (xs.toArray.size : Int)).toNat xs_1.size) xs.toArray = ys.toArray := by simp
  refine wpAny_bind (wpAny_updateSeq ho rfl ?_ (by simp; omega) ?_)
  · refine wpAny_bind (wpAny_letGo (wpAny_pure ⟨.none, rfl, wpAny_pure (h _ (S.upd hl (fun b o hne q => (Heap.get?_update_other _ _ (Ne.symm hne)).trans q) (at_lst ?_) _))⟩))
    have u := IsL.update (h := s.heap) (l := l) (items := xs.toArray) (n := n) ho (fun xs_1 : Array Value => xs_1.extract 0 (0 : Int).toNat ++ ys.toArray ++ xs_1.extract (max (0 : Int) (xs.toArray.size : Int)).toNat xs_1.size)
    dsimp only at hf
    rw [hf] at u
    exact ⟨_, u⟩
  · dsimp only at hf; rw [hf]; simp; omega
end
/-! a def that takes further keywords is entered: its dict is owned -/
section
variable {prog : Program} {w : World} {A : Around} {s z : Shared} {K : Frag} {g : Heap} {us : List (Addr × Kd)} {d : Nat} {Q : Value → Shared → Prop} {E : Value → Shared → Prop}
  {name qual : Str} {params : Arguments} {body : List Stmt} {scope : Scope} {dV kV doc pm cdv ct oc : Value} {an od : Option Addr} {osl : Array (Option Value)} {f : Addr} {args : Args} {front : List (Str × Value)} {nm : Str} {m : Addr → List (Str × Option Value)}
theorem enter_by {P : Addr → Kd → Prop} (ho : K.lookup f = some ⟨oc, od, .func (fnOf name qual params body scope dV kV doc pm an cdv ct), osl⟩) (hcd : codeIn K cdv qual = true) (G : Gd K g) (S : St g z s us) (hA : AOk A (d + 1))
    (hbind : ∀ (A' : Around) (E' : Value → Shared → Prop) (Q' : List (Str × Value) → Shared → Prop), (∀ D kd s', P D kd → St g z s' ((D, kd) :: us) → Q' (front ++ [(nm, .ref D)]) s') → wpAny (model prog w) A' (bindArgs (fnOf name qual params body scope dV kV doc pm an cdv ct) args) Q' E' s)
    (hnd : (scope.names.map (·.1)).Nodup) (hok : nmOk scope.names = true) (hm : ∀ D, initL scope.names (front ++ [(nm, .ref D)]) = m D)
    (h : ∀ env L D kd s', P D kd → EO env L scope.names [] → EX env L cdv qual → St g z s' ((L, .ns (m D)) :: (D, kd) :: us) → wpAny (model prog w) (A.deeper env) (execs body env) (fun fl s'' => Q (retOf fl) s'') (LeaveE prog w A env E) s')
    (hcell : (scope.names.all fun x => x.2 != .cell) = true) (hloc : ∀ D, ((front ++ [(nm, Value.ref D)]).all fun x => scope.names.lookup x.1 == some .local) = true)
    (hco : scope.isCoroutine = false) (hgen : scope.isGenerator = false) (hk : scope.kind = .function) :
    wpAny (model prog w) A (call (.ref f) args.pos args.kw) Q E s := by
  have X := kin G S
  obtain ⟨_, p, loose, mean, mg, mb, T⟩ := G
  refine wpAny_call (codeAny_call_function (fd := fnOf name qual params body scope dV kV doc pm an cdv ct) (body := body) hA.room (X _ _ ho) rfl hco hgen rfl (codeRec_of X hcd) (hbind _ _ _ fun D kd s1 hkd S1 => ?_))
  have hloc' : ∀ x ∈ front ++ [(nm, Value.ref D)], scope.names.lookup x.1 = some .local := fun x hx => by simpa using List.all_eq_true.mp (hloc D) x hx
  refine wpAny_newFunctionEnv (fun x hx => by simpa using List.all_eq_true.mp hcell x hx) hloc' (fun h₀ hns₀ hsb₀ => ⟨(T.nolimit.keeps S1.kp).fresh _ hsb₀, codeAny_func ?_⟩) hk
  have hk₀ : ∀ b o, s1.heap.get? b = some o → h₀.get? b = some o := fun b o e => hsb₀.extBut b o (Nat.ne_of_lt (Heap.lt_size e)) (Heap.get?_push_of_some _ e)
  have S' : St g z { s1 with heap := h₀, toks := s1.toks + (front ++ [(nm, Value.ref D)]).length } ((s1.heap.objs.size, .ns (m D)) :: (D, kd) :: us) := by
    refine S1.new (k := .ns (m D)) hk₀ (size_none _) (And.intro ?_ ?_) _
    · rw [← hm, ← initL_binds hnd hloc']; exact hns₀
    · rw [← hm]; exact (initL_keys _ hnd).1
  refine wpAny_mono (h (callEnv (fnOf name qual params body scope dV kV doc pm an cdv ct) s1.heap.objs.size f) s1.heap.objs.size D kd _ hkd ⟨hk, rfl, hnd, rfl, rfl, rfl, rfl, List.nodup_nil, hok⟩ ⟨rfl, rfl, rfl⟩ S') (fun fl s'' hq => ?_) fun e s'' he => he
  cases fl <;> exact hq
theorem not_mods {K : Frag} (G : Gd K g) (S : St g z s us) : (s.heap.objs.size == sysModules) = false := by
  obtain ⟨_, p, loose, mean, mg, mb, T⟩ := G
  exact beq_eq_false_iff_ne.mpr (Nat.ne_of_gt (modules_low (T.nolimit.keeps S.kp)))
theorem bind_new {K : Frag} {fd : FuncData} (G : Gd K g) (S : St g z s us) (e : bindArgs fd args = (alloc { cls := .type "dict", data := .dict #[] } >>= fun d => pure (front ++ [(nm, Value.ref d)]))) (A' : Around) (E' : Value → Shared → Prop) (Q' : List (Str × Value) → Shared → Prop)
    (h : ∀ D kd s', ((D == sysModules) = false ∧ kd = .raw (dictOf [] 0)) → St g z s' ((D, kd) :: us) → Q' (front ++ [(nm, .ref D)]) s') : wpAny (model prog w) A' (bindArgs fd args) Q' E' s := by
  rw [e]
  refine wpAny_bind (wpAny_alloc (wpAny_pure (h _ _ _ ⟨not_mods G S, rfl⟩ ?_)))
  exact S.push (k := .raw (dictOf [] 0)) (o := { cls := .type "dict", data := .dict #[] }) rfl (at_raw (Heap.get?_push_size _ rfl)) _
theorem ns_set {dx : Addr} {es es' : List DictEntry} {n n' : Nat} {name : Str} {v : Value} {ow ow' : List (Addr × Kd)} {A' : Around} {E' : Value → Shared → Prop} {Q' : Unit → Shared → Prop} (S : St g z s ow) (hd : Set1 dx (.raw (dictOf es n)) (.raw (dictOf es' n')) ow ow') (hl : (getL name es).isSome = true)
    (e : (putL name (PyData.keyHash w.params name) (.str name s.toks) v es, putN name es n) = (es', n')) (h : ∀ s', St g z s' ow' → Q' () s') : wpAny (model prog w) A' (nsSet dx name v) Q' E' s := by
  have D := S.get hd.has
  obtain ⟨e1, e2⟩ := Prod.mk.inj e
  have c : (!es.toArray.any (·.key.isStr name) && es.toArray.any (·.refKey)) = false := by
    rw [← Array.any_toList, ← Array.any_toList]
    unfold getL at hl
    split at hl
    · rename_i en he
      rw [List.any_eq_true.mpr ⟨en, List.mem_of_find?_eq_some he, List.find?_some he⟩]; rfl
    · split at hl
      · cases hl
      · rename_i q; rw [Bool.not_eq_true] at q
        show (!_ && es.any _) = false
        rw [q, Bool.and_false]
  unfold nsSet
  refine wpAny_bind (wpAny_bind (wpAny_askSetting (wpAny_pure (wpAny_bind (wpAny_mkText (wpAny_bind (wpAny_loadPart D ?_)))))))
  dsimp only
  rw [aRefKeyMayBeTheName_at, c]
  have eo : Obj.putName name (PyData.keyHash w.params name) (.str name s.toks) v (dictOf es n) = dictOf es' n' := by rw [putName_dict, e1, e2]
  have D' : (s.heap.update dx (Obj.putName name (PyData.keyHash w.params name) (.str name s.toks) v)).get? dx = some (dictOf es' n') := eo ▸ Heap.get?_update_self _ D (by rw [eo]; rfl)
  exact wpAny_updatePart D (h _ (S.upd hd (fun b o hne q => (Heap.get?_update_ne _ _ _ _ hne).trans q) (at_raw D') _))
theorem bind_new1 {K : Frag} {fd : FuncData} {k : Str} {v : Value} (G : Gd K g) (S : St g z s us) (e : bindArgs fd args = (alloc { cls := .type "dict", data := .dict #[] } >>= fun d => (forIn [(k, v)] PUnit.unit fun x _ => (nsSet d x.1 x.2 >>= fun _ => pure (ForInStep.yield PUnit.unit))) >>= fun _ => pure (front ++ [(nm, Value.ref d)]))) (A' : Around) (E' : Value → Shared → Prop) (Q' : List (Str × Value) → Shared → Prop)
    (h : ∀ D kd s', ((D == sysModules) = false ∧ ∃ t, kd = .raw (dictOf [⟨PyData.keyHash w.params k, .str k t, v⟩] 1)) → St g z s' ((D, kd) :: us) → Q' (front ++ [(nm, .ref D)]) s') : wpAny (model prog w) A' (bindArgs fd args) Q' E' s := by
  rw [e]
  refine wpAny_bind (wpAny_alloc (wpAny_bind ?_))
  have S1 := S.push (k := .raw (dictOf [] 0)) (o := { cls := .type "dict", data := .dict #[] }) rfl (at_raw (Heap.get?_push_size _ rfl)) s.toks
  rw [List.forIn_cons]
  refine wpAny_bind (wpAny_bind (ns_set S1 .hd rfl rfl fun s2 S2 => wpAny_pure ?_))
  dsimp only
  rw [List.forIn_nil]
  exact wpAny_pure (wpAny_pure (h _ _ _ ⟨not_mods G S, _, rfl⟩ S2))
end
/-! an empty dict is gone through -/
noncomputable def viewObj (d : Addr) : Obj := { cls := .type "dict_items", data := .fields #[.ref d] }
noncomputable def viewIt (d : Addr) : Obj := { cls := .type "dict_itemiterator", data := .fields #[.none, .bool false, .ref d, .int 0 0, .int 0 0, .int 0 0, .none, .none] }
section
variable {prog : Program} {w : World} {A : Around} {E : Value → Shared → Prop} {g : Heap} {z s : Shared} {ow ow' : List (Addr × Kd)} {d v it : Addr} {fr : Addr × Kd}
theorem emptyAt (S : St g z s ow) (h : Has d (.raw (dictOf [] 0)) ow) : s.heap.DictAt (strKind prog w) d [] 0 :=
  ⟨_, _, S.get h, ⟨rfl, rfl, rfl⟩, rfl, (fun e he => nomatch (show e ∈ ([] : List DictEntry) from by simp at he)), .nil, List.nodup_nil⟩
theorem gm_items {pl : Sem Bool} {Q : Value × List Value → Shared → Prop} (S : St g z s ow) (h : Has d (.raw (dictOf [] 0)) ow) (hq : Q (.builtin "dict.items", [.ref d]) s) : wpAny (model prog w) A (getMethod (.ref d) (Str.ofString "items") pl) Q E s :=
  getMethod_builtin ⟨_, S.get h, rfl⟩ PySem.F.plainAttrs_dict PySem.F.slot_dict_items PySem.F.type_dict_items (fun a q => by cases q; exact ⟨_, S.get h, rfl⟩) hq
theorem bi_items {Q : Value → Shared → Prop} (S : St g z s (fr :: ow)) (hn : (d == sysModules) = false) (h : Has d (.raw (dictOf [] 0)) (fr :: ow)) (hq : ∀ v s', St g z s' (fr :: (v, .raw (viewObj d)) :: ow) → Q (.ref v) s') : wpAny (model prog w) A (call (.builtin "dict.items") [.ref d]) Q E s := by
  refine call_meetsIn PySem.F.slot_dict_items ⟨_, S.get h, rfl⟩ PySem.F.entry_dict_items (PySem.F.args_dict_items_1 _) (meets_dict_items (strKind prog w) d hn) ⟨⟨_, (emptyAt S h).dictOf⟩, ?_⟩
  exact hq _ _ ((S.push (k := .raw (viewObj d)) (o := viewObj d) rfl (at_raw (Heap.get?_push_size _ rfl)) _).perm (.swap ..))
theorem it_items {Q : Value → Shared → Prop} (S : St g z s (fr :: ow)) (hv : Has v (.raw (viewObj d)) (fr :: ow)) (h : Has d (.raw (dictOf [] 0)) (fr :: ow)) (hq : ∀ it s', St g z s' (fr :: (it, .raw (viewIt d)) :: ow) → Q (.ref it) s') : wpAny (model prog w) A (pyIter (.ref v)) Q E s := by
  refine wpAny_pyIter_items (knd := strKind prog w) ⟨_, S.get hv, rfl, rfl⟩ (emptyAt S h) ?_
  exact hq _ _ ((S.push (k := .raw (viewIt d)) (o := viewIt d) rfl (at_raw (Heap.get?_push_size _ rfl)) _).perm (.swap ..))
theorem nx_items {Q : Option Value → Shared → Prop} (hA : A.handled = none) (S : St g z s ow) (hi : Pick (it, .raw (viewIt d)) ow ow') (h : Has d (.raw (dictOf [] 0)) ow) (hq : ∀ s', St g z s' ow' → Q none s') : wpAny (model prog w) A (pyNext (.ref it)) Q E s :=
  wpAny_pyNext_items_end (knd := strKind prog w) (d := d) (i := 0) (ep := 0) (kvs := []) (ok := .none) (ov := .none) hA (S.get hi.has) (emptyAt S h) rfl fun h' hx => hq _ (S.dropMid hi (fun b o hne q => hx b o hne q) _)
end

end TMSl
section TMStar
open PySem PySem.Spec PySem.Calls PyProof.Rows PySem.W
theorem St.ne2 {g : Heap} {z s : Shared} {ow ow' : List (Addr × Kd)} {a b : Addr} {k k2 : Kd} (S : St g z s ow) (h : Pick (a, k) ow ow') (h2 : Has b k2 ow') : a ≠ b := by
  intro e
  subst e
  have := (S.pick h).nd
  rw [List.map_cons, List.nodup_cons] at this
  exact this.1 (List.mem_map.mpr ⟨_, h2.mem, rfl⟩)
section
variable {prog : Program} {w : World} {A : Around} {E : Value → Shared → Prop} {s : Shared} {d m : Addr} {k : Str} {t : Tok} {v : Value}
noncomputable def oneOf (P : Params) (k : Str) (t : Tok) (v : Value) : Obj := dictOf [⟨PyData.keyHash P k, .str k t, v⟩] 1
theorem dict_inst : isSubtype (.type "dict") (.type "dict") = pure true := by rw [isSubtype_type]; kernel_rfl
theorem merge1 {Q : Unit → Shared → Prop} (hd : s.heap.get? d = some (dictOf [] 0)) (hm : s.heap.get? m = some (oneOf w.params k t v)) (hne : d ≠ m) (hS : (m == sysModules) = false)
    (hQ : ∀ h', h'.get? d = some (oneOf w.params k t v) → (∀ b o, b ≠ d → s.heap.get? b = some o → h'.get? b = some o) → Q () { s with heap := h' }) : wpAny (model prog w) A (mergeMapping d (.ref m) true) Q E s := by
  have hT : s.TypeIs (.ref m) "dict" := ⟨_, hm, rfl⟩
  unfold mergeMapping
  refine wpAny_bind (wpAny_isInstance hT dict_inst ?_)
  rw [if_pos rfl]
  refine wpAny_bind (wpAny_specialOf hT PySem.F.slot_dict_iter.lookup ?_)
  refine wpAny_bind (wpAny_pure ?_)
  have e0 : (some (Value.builtin "dict.__iter__") == some (Value.builtin "dict.__iter__")) = true := by decide
  rw [e0]
  dsimp only
  rw [if_neg (by rw [hS]; exact Bool.false_ne_true)]
  refine wpAny_bind (wpAny_dictEntries hd rfl ?_)
  rw [if_pos (by rfl)]
  refine wpAny_bind (wpAny_dictEntries hm rfl ?_)
  refine wpAny_bind ?_
  rw [← Array.forIn_toList]
  show wpAny _ _ (forIn [(⟨PyData.keyHash w.params k, .str k t, v⟩ : DictEntry)] PUnit.unit _) _ _ _
  rw [List.forIn_cons]
  refine wpAny_bind (wpAny_pure ?_)
  dsimp only
  rw [List.forIn_nil]
  refine wpAny_pure ?_
  refine wpAny_bind (wpAny_dictEntries hm rfl ?_)
  refine wpAny_bind (wpAny_dictEpoch hm rfl ?_)
  refine wpAny_bind ?_
  show wpAny _ _ (forIn [0] PUnit.unit _) _ _ _
  rw [List.forIn_cons]
  refine wpAny_bind ?_
  refine wpAny_bind (wpAny_dictEntries hm rfl ?_)
  show wpAny _ _ (holding [Value.str k t, v] (if true = true then dictFind d (.str k t) (PyData.keyHash w.params k) >>= fun r => (if r.isSome = true then _ else dictPut d (PyData.keyHash w.params k) (.str k t) v) else _) >>= _) _ _ _
  rw [if_pos rfl]
  have hk0 : KeysOf (strKind prog w) (#[] : Array DictEntry) := fun e he => by simp at he
  refine wpAny_bind (wpAny_holding (wpAny_bind (wpAny_dictFind_of (knd := strKind prog w) (k := k) (key := .str k t) (beq_self_eq_true k) hd rfl hk0 ?_)))
  rw [if_neg (by simp)]
  unfold dictPut
  refine wpAny_bind (wpAny_dictFind_of (knd := strKind prog w) (k := k) (key := .str k t) (beq_self_eq_true k) hd rfl hk0 ?_)
  rw [show Array.findIdx? (fun e : DictEntry => (PySem.strKind prog w).is k e.key) #[] = none from by simp]
  show wpAny _ _ (updateDictKeys d (·.push ⟨PyData.keyHash w.params k, .str k t, v⟩)) _ _ _
  have hg : (s.heap.update d (Obj.mapDictKeys (·.push ⟨PyData.keyHash w.params k, .str k t, v⟩))).get? d = some (oneOf w.params k t v) := Heap.get?_update_self _ hd rfl
  refine wpAny_updateDictKeys hd rfl ?_ (by simp) (by simp)
  have hm' : (s.heap.update d (Obj.mapDictKeys (·.push ⟨PyData.keyHash w.params k, .str k t, v⟩))).get? m = some (oneOf w.params k t v) := by rw [Heap.get?_update_other _ _ hne]; exact hm
  refine wpAny_bind (wpAny_dictEpoch hm' rfl ?_)
  rw [if_neg (by decide)]
  refine wpAny_pure ?_
  dsimp only
  rw [List.forIn_nil]
  refine wpAny_pure (wpAny_pure (hQ _ hg fun b o hb e => ?_))
  rw [Heap.get?_update_other _ _ (Ne.symm hb)]; exact e
end
section
variable {prog : Program} {w : World} {K : Frag} {A : Around} {E : Value → Shared → Prop} {g : Heap} {z s : Shared} {ow : List (Addr × Kd)} {fr : Addr × Kd} {env : Env} {pos kp : Pos} {e1 e2 : Expr} {v1 self v : Value} {q f D : Addr} {k : Str} {t : Tok}
theorem merged1 {fv : Value} {Q : Addr → Shared → Prop} (S : St g z s (fr :: ow)) (hD : Has D (.raw (oneOf w.params k t v)) ow) (hS : (D == sysModules) = false)
    (h2 : ∀ s1 p, St g z s1 (fr :: (p, .raw (dictOf [] 0)) :: ow) → ∀ R : Value → Shared → Prop, R (.ref D) s1 → wpAny (model prog w) A (eval e2 env) R E s1)
    (hq : ∀ d s', St g z s' (fr :: (d, .raw (oneOf w.params k t v)) :: ow) → Q d s') : wpAny (model prog w) A (mergedKeywords fv (backToKw pos (keywordEach [⟨none, e2, kp⟩] env))) Q E s := by
  unfold mergedKeywords
  refine wpAny_bind (wpAny_alloc ?_)
  have S1 := (S.push (k := .raw (dictOf [] 0)) (o := { cls := .type "dict", data := .dict #[] }) rfl (at_raw (Heap.get?_push_size _ rfl)) s.toks).perm (.swap ..)
  generalize s.heap.objs.size = d at S1
  generalize hs1 : ({ s with heap := s.heap.push { cls := .type "dict", data := .dict #[] } } : Shared) = s1
  replace S1 : St g z s1 (fr :: (d, .raw (dictOf [] 0)) :: ow) := hs1 ▸ S1
  refine wpAny_bind ?_
  refine wpAny_holding ?_
  extract_lets mg gp g0
  have hgp : gp [] = pure () := rfl
  rw [show backToKw pos (keywordEach [⟨none, e2, kp⟩] env) = [(none, (do let v ← eval e2 env; standAt pos; pure v))] from rfl]
  rw [List.forIn_cons]
  refine wpAny_bind (wpAny_bind ?_)
  show wpAny _ _ (gp [] >>= fun _ => (eval e2 env >>= fun v => standAt pos >>= fun _ => pure v) >>= fun r => (mg r).onRaise _ >>= fun _ => pure (ForInStep.yield [])) _ _ _
  rw [hgp]
  refine wpAny_bind (wpAny_pure ?_)
  refine wpAny_bind (wpAny_bind (h2 _ _ S1 _ (wpAny_bind (wpAny_standAt (wpAny_pure ?_)))))
  have hDg : s1.heap.get? D = some (oneOf w.params k t v) := S1.get (a := D) (k := .raw (oneOf w.params k t v)) (.tl (.tl hD))
  have hdg : s1.heap.get? d = some (dictOf [] 0) := S1.get (a := d) (k := .raw (dictOf [] 0)) (.tl .hd)
  have hne : d ≠ D := S1.ne2 (.tl .hd) (.tl hD)
  refine wpAny_bind (wpAny_onRaise ?_)
  refine wpAny_holding (wpAny_tryCatch (wpAny_onRaise (merge1 hdg hDg hne hS fun h' g1 g2 => ?_)))
  refine wpAny_pure ?_
  dsimp only
  rw [List.forIn_nil]
  refine wpAny_pure ?_
  show wpAny _ _ (gp []) _ _ _
  rw [hgp]
  refine wpAny_pure (wpAny_pure (hq _ _ ?_))
  exact S1.upd (.tl .hd) g2 (at_raw g1) _
theorem call_SK {Q : Value → Shared → Prop} (G : Gd K g) (S : St g z s (fr :: ow)) (hq : Has q (.raw (methodObj (.ref f) self)) ow) (hf : fnIn K f = true) (hD : Has D (.raw (oneOf w.params k t v)) ow) (hS : (D == sysModules) = false)
    (he : starEach [e1] env = [(false, eval e1 env)]) (h1 : ∀ R : Value → Shared → Prop, R v1 s → wpAny (model prog w) A (eval e1 env) R E s)
    (h2 : ∀ s1 p, St g z s1 (fr :: (p, .raw (dictOf [] 0)) :: ow) → ∀ R : Value → Shared → Prop, R (.ref D) s1 → wpAny (model prog w) A (eval e2 env) R E s1)
    (hc : ∀ d s', St g z s' (fr :: (d, .raw (oneOf w.params k t v)) :: ow) → wpAny (model prog w) A (call (.ref q) [v1] [(k, v)]) Q E s') :
    wpAny (model prog w) A (callWith pos (.ref q) [] (backTo pos (starEach [e1] env)) (backToKw pos (keywordEach [⟨none, e2, kp⟩] env))) Q E s := by
  unfold callWith
  refine wpAny_bind (wpAny_holding ?_)
  unfold evalArgs
  have hb : backTo pos (starEach [e1] env) = [(false, eval e1 env)] := by rw [he]; rfl
  rw [hb]
  extract_lets jp st jp2
  have hst : st = true := rfl
  show wpAny _ _ (spliced [(false, eval e1 env)] >>= fun r => pure (r, none) >>= jp) _ _ _
  rw [← hb]
  refine wpAny_bind (sp_cons (h1 _ (sp_nil (wpAny_bind (wpAny_pure ?_)))) he)
  show wpAny _ _ (holding _ _) _ _ _
  refine wpAny_holding ?_
  rw [show (backToKw pos (keywordEach [⟨none, e2, kp⟩] env)).all (·.1.isSome) = false from rfl]
  extract_lets rl
  rw [if_neg Bool.false_ne_true]
  refine wpAny_bind (merged1 S hD hS h2 fun d s1 S1 => ?_)
  refine wpAny_bind (wpAny_pure ?_)
  refine wpAny_bind (wpAny_holding ?_)
  unfold keywordsIn
  have hdg : s1.heap.get? d = some (oneOf w.params k t v) := S1.get (a := d) (k := .raw (oneOf w.params k t v)) (.tl .hd)
  extract_lets kw0
  refine wpAny_bind (wpAny_dictEntries hdg rfl ?_)
  refine wpAny_bind ?_
  rw [← Array.forIn_toList]
  show wpAny _ _ (forIn [(⟨PyData.keyHash w.params k, .str k t, v⟩ : DictEntry)] kw0 _) _ _ _
  rw [List.forIn_cons]
  refine wpAny_bind (wpAny_pure ?_)
  dsimp only
  rw [List.forIn_nil]
  refine wpAny_pure (wpAny_pure (wpAny_pure (wpAny_bind (wpAny_standAt ?_))))
  have hqg : s1.heap.get? q = some (methodObj (.ref f) self) := S1.get (a := q) (k := .raw (methodObj (.ref f) self)) (.tl (.tl hq))
  obtain ⟨kk, hk', LL⟩ := keeps_M (M := model prog w) (self := self) hf s1.heap ⟨hqg, kin G S1⟩
  rw [hst]
  refine wpAny_bind (LL.here ?_)
  have tail : ∀ {t : Sem Value}, wpAny (model prog w) A t Q E s1 → wpAny (model prog w) A (t >>= fun r => holding [r] point >>= fun _ => pure r) Q E s1 :=
    fun ht => wpAny_bind (wpAny_mono ht (fun r s₂ hr => wpAny_bind (wpAny_holding (wpAny_point (wpAny_pure hr)))) fun _ _ x => x)
  have marked (mk : Value) : wpAny (model prog w) A (callMarked mk (.ref q) [v1] [(k, v)]) Q E s1 := by unfold callMarked; exact Calls.wpAny_keep (hc d s1 S1)
  rcases hk' with rfl | rfl | rfl <;> dsimp only <;> first | exact tail (marked _) | exact tail (wpAny_operating (hc d s1 S1))
end
end TMStar
section TMFly
open PySem PySem.Spec PySem.Calls PyProof.Rows PySem.W
theorem Has.of_mem {α β : Type} {x : α} {o : β} : ∀ {l : List (α × β)}, (x, o) ∈ l → Has x o l
  | (a, b) :: r, h => by
    rcases List.mem_cons.mp h with e | h
    · cases e; exact .hd
    · exact .tl (Has.of_mem h)
noncomputable def excObj (cls : String) (t : Value) : Obj := { cls := .type cls, data := .fields #[t, .none, .none, .none, .bool false, .none] }
/-- the frames that a run has about it are owned -/
noncomputable def FramesIn (l : List Env) (ow : List (Addr × Kd)) : Prop := ∀ env ∈ l, env.scope.kind = .function ∧ ∃ L m, env.frame = some L ∧ Has L (.ns m) ow
noncomputable def frLs (l : List Env) : List Addr := l.filterMap (·.frame)
/-- what stays while an exception goes by -/
noncomputable def baseOf (h : Heap) (l : List Env) (e : Addr) : Heap := hideAll h (e :: frLs l)
section
variable {prog : Program} {w : World} {M : Model} {A : Around} {E : Value → Shared → Prop} {g : Heap} {z s s0 : Shared} {ow : List (Addr × Kd)} {l outer : List Env} {env : Env} {e L : Addr} {cls : String} {t a0 cl : Value} {base : Heap}
theorem frs_has (F : FramesIn l ow) {b : Addr} (hb : b ∈ frLs l) : ∃ m, Has b (.ns m) ow := by
  obtain ⟨env, he, hf⟩ := List.mem_filterMap.mp hb
  obtain ⟨_, L, m, h1, h2⟩ := F env he
  rw [h1] at hf
  cases hf
  exact ⟨m, h2⟩
theorem fun_frames (S : St g z s ow) (F : FramesIn l ow) (hb : ∀ b ∈ frLs l, base.get? b = none) : s.heap.FunFrames base l := by
  induction l with
  | nil => trivial
  | cons env r ih =>
    obtain ⟨hk, L, m, hf, hh⟩ := F env (.head _)
    obtain ⟨⟨o, es, ep, ho, hd, _⟩, _⟩ : s.heap.Ns L (lkO m) ∧ _ := S.get hh
    have hm : L ∈ frLs (env :: r) := List.mem_filterMap.mpr ⟨env, .head _, hf⟩
    refine ⟨by rw [hk]; decide, ⟨L, o, hf, hb L hm, ho, fun vs q => by rw [hd] at q; cases q⟩, ih (fun x hx => F x (.tail _ hx)) fun b hb' => hb b ?_⟩
    unfold frLs at *
    rw [List.filterMap_cons, hf]
    exact .tail _ hb'
structure Fl (s0 s : Shared) : Prop where
  up : s0.heap.UpToSlots s.heap
  rest : s.gens = s0.gens ∧ s.drawn = s0.drawn ∧ s.os = s0.os
theorem Fl.refl (s : Shared) : Fl s s := ⟨.refl _, rfl, rfl, rfl⟩
theorem Fl.heap (x : Fl s0 s) {h' : Heap} (k : s.heap.UpToSlots h') : Fl s0 { s with heap := h' } := ⟨x.up.trans k, x.rest⟩
/-- when it is over, what was owned is owned -/
theorem St.fly (S : St g z s0 ow) (F : FramesIn l ow) (hge : g.get? e = none) (hoe : ∀ p ∈ ow, p.1 ≠ e) (hb : (baseOf s0.heap l e).StaysIn s.heap) (x : Fl s0 s) : St g z s ow := by
  have keep : ∀ b o, s0.heap.get? b = some o → b ≠ e → b ∉ frLs l → s.heap.get? b = some o := fun b o ho h1 h2 => hb b o (hideAll_get _ ho fun hm => by
    rcases List.mem_cons.mp hm with q | q
    · exact h1 q
    · exact h2 q)
  refine ⟨fun b o ho => keep b o (S.kp b o ho) (fun q => by rw [q, hge] at ho; cases ho) (fun q => ?_), fun p hp => ?_, S.frs, S.nd, ?_⟩
  · obtain ⟨m, hm⟩ := frs_has F q
    have := S.frs _ hm.mem
    rw [ho] at this; cases this
  · by_cases q : p.1 ∈ frLs l
    · obtain ⟨m, hm⟩ := frs_has F q
      have e2 : p = (p.1, .ns m) := by
        obtain ⟨a, k⟩ := p
        have h1 : ow.lookup a = some k := lookup_has (Has.of_mem hp) S.nd
        have h2 : ow.lookup a = some (.ns m) := lookup_has hm S.nd
        rw [h1] at h2
        cases h2; rfl
      obtain ⟨n1, n2⟩ : s0.heap.Ns p.1 (lkO m) ∧ _ := S.get hm
      rw [e2]
      exact ⟨x.up.ns n1, n2⟩
    · exact Kd.at_keep (S.own p hp) fun o ho => keep _ o ho (hoe p hp) q
  · exact ⟨x.rest.1.trans S.rest.1, x.rest.2.1.trans S.rest.2.1, x.rest.2.2.trans S.rest.2.2⟩
theorem base_stays (s : Shared) (l : List Env) (e : Addr) : (baseOf s.heap l e).StaysIn s.heap := fun b o h => of_hideAll _ h
theorem base_e (s : Shared) (l : List Env) (e : Addr) : (baseOf s.heap l e).get? e = none := hideAll_none _ (.head _)
/-- the first frame that an exception is noted in -/
theorem note_first {Q : Unit → Shared → Prop} (hfr : A.frames = some (env :: outer)) (hl : s.heap.FunFrames base (env :: outer)) (hf : env.frame = some L) (he : s.heap.get? e = some (excObj cls t)) (hkb : base.StaysIn s.heap) (hen : base.get? e = none)
    (h : ∀ h', Heap.HeldW base (env :: outer) e (.type cls) t L h' → s.heap.UpToSlots h' → Q () { s with heap := h' }) : wpAny M A (noteFrame (.ref e) env) Q E s := by
  unfold noteFrame
  simp only [hf]
  refine wpAny_bind (wpAny_field (x := .none) he rfl rfl ?_)
  rw [if_neg (by decide)]
  refine wpAny_entryW hfr hl hf he hkb hen rfl (by show 1 < 6; decide) rfl fun h' hN => ?_
  obtain ⟨k1, k2, k3, k4⟩ := hN
  exact h h' ⟨k1, hen, k2, k3⟩ k4
theorem leave_held {Q : Unit → Shared → Prop} (hf : env.frame = some L) (hh : Heap.HeldW base (env :: outer) e cl a0 L s.heap) (hQ : ∀ h', Heap.FlyingW base outer e cl a0 h' → s.heap.UpToSlots h' → Q () { s with heap := h' }) : wpAny M A (leaving env (.ref e)) Q E s := by
  unfold leaving
  refine wpAny_bind (wpAny_noteFrame_againW hf hh.2.2.2 ?_)
  refine wpAny_landsW hh fun h' hfl hu => ?_
  obtain ⟨k1, k2, ⟨_, _, k3⟩, k4⟩ := hfl
  exact hQ h' ⟨k1, k2, k3, k4⟩ hu
theorem leave_first {Q : Unit → Shared → Prop} (hfr : A.frames = some (env :: outer)) (hl : s.heap.FunFrames base (env :: outer)) (hf : env.frame = some L) (he : s.heap.get? e = some (excObj cls t)) (hkb : base.StaysIn s.heap) (hen : base.get? e = none)
    (hQ : ∀ h', Heap.FlyingW base outer e (.type cls) t h' → s.heap.UpToSlots h' → Q () { s with heap := h' }) : wpAny M A (leaving env (.ref e)) Q E s := by
  refine wpAny_leaving_firstW hfr hl hf he hkb hen rfl rfl rfl fun h' hL => ?_
  obtain ⟨k1, ⟨_, _, k2⟩, k3, k4⟩ := hL
  exact hQ h' ⟨k1, hen, k2, k3⟩ k4
theorem came_back (hf : env.frame = some L) (hh : Heap.HeldW base (env :: outer) e cl a0 L s.heap) (hE : ∀ h', Heap.HeldW base (env :: outer) e cl a0 L h' → s.heap.UpToSlots h' → E (.ref e) { s with heap := h' }) : cameBackBy M A env E (.ref e) s := by
  obtain ⟨f1, f2, f3, oe, vs, T, oT, ts, he, hcls, hd, h1, hnT, hTe, hT, hdT, h3⟩ := hh
  have hsz3 : 3 < ts.size := (Array.getElem?_eq_some_iff.mp h3).1
  have other : ∀ b, b ≠ T → (s.heap.update T (Obj.mapFields (·.setIfInBounds 3 (rawInt L)))).get? b = s.heap.get? b := fun b hb => Heap.get?_update_other _ _ (Ne.symm hb)
  have noRecord : ∀ b o, s.heap.get? b = some o → (∀ vs, o.data ≠ .fields vs) → b ≠ T := fun b o hb hnf q => by
    rw [q, hT] at hb; injection hb with hb; subst hb; exact hnf ts hdT
  unfold cameBackBy
  refine wpAny_bind (wpAny_field he hd h1 ?_)
  rw [if_neg (show ¬ ((Value.ref T == Value.none) = true) from Bool.false_ne_true)]
  unfold setFlight
  rw [hf]
  refine wpAny_bind (wpAny_field he hd h1 ?_)
  rw [if_pos (show (Value.ref T != Value.none) = true from by simp)]
  refine wpAny_setField hT hdT hsz3 (hE _ ⟨fun b o hbo => (other b fun q => by rw [q, hnT] at hbo; cases hbo).trans (f1 b o hbo), f2, f3.of_keeps fun b o hb hnf => ⟨o, (other b (noRecord b o hb hnf)).trans hb, rfl⟩, ?_⟩ fun b o hb hnf => ⟨o.slots, (other b (noRecord b o hb hnf)).trans hb⟩)
  exact ⟨oe, vs, T, _, _, (other e (Ne.symm hTe)).trans he, hcls, hd, h1, hnT, hTe, Heap.get?_update_self _ hT (Obj.isFreed_of_fields (Obj.data_mapFields hdT _)), Obj.data_mapFields hdT _, by simp [hsz3]⟩
end
/-! `next` of a list's iterator that is at its end -/
section
variable {prog : Program} {w : World} {A : Around} {E Q : Value → Shared → Prop} {g : Heap} {z s : Shared} {ow ow' : List (Addr × Kd)} {I l : Addr} {i : Nat} {xs : List Value}
theorem bi_nextEnd (hA : A.handled = none) (S : St g z s ow) (hI : Pick (I, .lit l i) ow ow') (hl : s.heap.IsList l xs.toArray) (hx : xs[i]? = none)
    (h : ∀ e t s', St g z s' ow' → s'.heap.get? e = some (excObj "StopIteration" t) → g.get? e = none → (∀ p ∈ ow', p.1 ≠ e) → E (.ref e) s') : wpAny (model prog w) A (call (.builtin "next") [.ref I]) Q E s := by
  have hit : s.heap.IsListIter I l i := S.get hI.has
  obtain ⟨oi, hoi, hci, hdi⟩ := id hit
  obtain ⟨ol, hol, _, nl, hdl⟩ := id hl
  refine Calls.call_function_entry kind_next plain_next entry_next (args_next1 _) ?_
  unfold Builtin.«next»
  refine wpAny_bind (m := PySem.someArgs "next" 1 2 _) (wpAny_pure ?_)
  refine wpAny_bind (wpAny_specialOf hit.typeIs slot_listiter_next.lookup ?_)
  refine wpAny_ite_false (by rfl) ?_
  refine wpAny_bind (m := callSpecial? (.ref I) (Str.ofString "__next__")) (wpAny_callSpecial?_slot (name := Str.ofString "__next__") hit.typeIs slot_listiter_next ?_)
  refine wpAny_call_entry slot_listiter_next hit.typeIs entry_listiter_next ?_ (args_listiter_next _)
  show wpAny _ _ (do let seq ← field (.ref I) 0; _) _ _ s
  refine wpAny_bind (wpAny_field hoi hdi (x := .ref l) rfl ?_)
  refine wpAny_ite_false (by rfl) ?_
  refine wpAny_bind (m := field (.ref I) 1) (wpAny_field hoi hdi (x := .int i 0) rfl ?_)
  refine wpAny_bind (m := seqItems? (.ref l)) (wpAny_seqItems hol hdl ?_)
  show wpAny _ _ (match xs.toArray[(i : Int).toNat]? with | some x => _ | none => _) _ _ s
  rw [Int.toNat_natCast, show xs.toArray[i]? = none from by simpa using hx]
  dsimp only
  refine wpAny_bind (wpAny_rule ?_)
  refine wpAny_bind (wpAny_setField hoi hdi (by simp) ?_)
  have S1 : St g z { s with heap := s.heap.update I (Obj.mapFields (·.setIfInBounds 0 .none)) } ow' := S.dropMid hI (fun b o hne q => (Heap.get?_update_other _ _ (Ne.symm hne)).trans q) s.toks
  generalize s.heap.update I (Obj.mapFields (·.setIfInBounds 0 Value.none)) = h1 at S1 ⊢
  unfold Builtin.SmallTypes.stopIteration
  refine wpAny_bind ?_
  simp only [newExc, newTuple]
  refine wpAny_bind (wpAny_newObj_type ?_ (by size_fits))
  refine wpAny_bind (m := firstArgMember _ _) (wpAny_of_eq (a := Value.none) (by first | rfl | (simp only [firstArgMember]; rfl)) ?_)
  refine wpAny_newObj_type ?_ (by size_fits)
  simp only [raiseNew]
  refine wpAny_bind (wpAny_handled ?_)
  rw [show A.in1.in1.handled = none from hA]
  refine wpAny_bind (wpAny_pure (wpAny_throw ?_))
  have S2 := S1.ext (h' := (h1.push { cls := .type "tuple", data := .seq #[] }).push (excObj "StopIteration" (.ref h1.objs.size))) (fun b o hb => Heap.get?_push_of_some _ (Heap.get?_push_of_some _ hb)) s.toks
  have hz : h1.objs.size ≤ (h1.push { cls := .type "tuple", data := .seq #[] }).objs.size := by rw [Heap.size_push]; exact Nat.le_succ _
  refine h _ (.ref h1.objs.size) _ S2 (Heap.get?_push_size _ rfl) (S1.fresh hz) fun p hp q => ?_
  have := S1.lt p hp
  rw [q] at this
  exact absurd this (Nat.not_lt.mpr hz)
end

end TMFly
section TMCell
open PySem PySem.Spec PySem.Calls PyProof.Rows PySem.W
/-! a comprehension with one cell of its own -/
section
variable {prog : Program} {w : World} {A : Around} {E : Value → Shared → Prop} {g : Heap} {z s : Shared} {ow : List (Addr × Kd)} {env : Env} {L : Addr} {nm nm' : List (Str × NameKind)} {clo cl : List (Str × Addr)}
theorem one_cell {cs : List (Str × Addr)} {x : Str} {n : Addr} {new : List (Addr × Kd)} (hcs : (x, n) :: cl = cs ++ cl) (hmap : new.map (·.1) = cs.map (·.2)) (hne : ∀ p ∈ new, p.2 = Kd.cel none) : cs = [(x, n)] ∧ new = [(n, .cel none)] := by
  have e0 : cs = [(x, n)] := by
    have : [(x, n)] ++ cl = cs ++ cl := hcs
    exact (List.append_cancel_right this).symm
  subst e0
  refine ⟨rfl, ?_⟩
  cases new with
  | nil => simp at hmap
  | cons p r =>
    simp only [List.map_cons, List.map_nil, List.cons.injEq, List.map_eq_nil_iff] at hmap
    obtain ⟨h1, rfl⟩ := hmap
    obtain ⟨a, k⟩ := p
    have := hne (a, k) (.head _)
    dsimp only at h1 this
    rw [h1, this]
theorem comp_go1 {m : List (Str × Option Value)} {ks : List Str} {x : Str}
    {scope : Scope} {elt : Expr} {gens : List Comprehension} {pos : Pos} {it : Value} {Q : Value → Shared → Prop} (e : EO env L nm clo) (S : St g z s ow) (hnm : relabelN scope.names nm = nm') (hnd : (nm'.map (·.1)).Nodup) (hok : nmOk nm' = true) (hkind : scope.kind = .function)
    (hc : ∀ n, cellsFrom n scope.names cl = (x, n) :: cl) (hks : x :: cl.map (·.1) = ks) (hn : ks.Nodup) (hm : initL nm' [] = m)
    (h : ∀ C D c cenv s', EO cenv C nm' ((x, c) :: cl) → St g z s' ((C, .ns m) :: (c, .cel none) :: (D, .lst []) :: ow) → codeAny (model prog w) A (.compStart (.ListComp elt gens scope pos) 0 it (.ref D) cenv) (CompR prog w A g z C D Q E) s') :
    CompGo prog w A env scope cl (.ListComp elt gens scope pos) it Q E s := by
  refine comp_go e S hnm hnd hok hkind (fun cs q => ?_) fun C D cs cenv s' new eo S' hne hcs hmap => ?_
  · rw [← q, hc, List.map_cons, hks]; exact hn
  · rw [hc] at hcs
    obtain ⟨rfl, rfl⟩ := one_cell hcs hmap hne
    rw [hm] at S'
    exact h C D _ cenv s' eo S'
theorem comp_goU1 {m : List (Str × Option Value)} {ks : List Str} {x : Str}
    {scope : Scope} {elt : Expr} {gens : List Comprehension} {pos py : Pos} {it : Value} {y : Str} {rs : List Stmt} {Q : Flow → Shared → Prop} (e : EO env L nm clo) (S : St g z s ow) (hnm : relabelN scope.names nm = nm') (hnd : (nm'.map (·.1)).Nodup) (hok : nmOk nm' = true) (hkind : scope.kind = .function)
    (hc : ∀ n, cellsFrom n scope.names cl = (x, n) :: cl) (hks : x :: cl.map (·.1) = ks) (hn : ks.Nodup) (hm : initL nm' [] = m)
    (h : ∀ C D c cenv s', EO cenv C nm' ((x, c) :: cl) → St g z s' ((C, .ns m) :: (c, .cel none) :: (D, .lst []) :: ow) → codeAny (model prog w) A (.compStart (.ListComp elt gens scope pos) 0 it (.ref D) cenv) (CompRU prog w A g z C D env y py rs Q E) s') :
    CompGoU prog w A env scope cl (.ListComp elt gens scope pos) it y py rs Q E s := by
  unfold CompGoU
  refine wpAny_newList ?_ (by simp)
  have S1 : St g z { s with heap := s.heap.push { cls := .type "list", data := .seq ([] : List Value).toArray } } ((s.heap.objs.size, .lst []) :: ow) := S.push rfl (at_lst ⟨0, Heap.get?_push_size _ rfl⟩) _
  refine new_env0 (nm' := nm') S1 hnd fun C cs s' new S2 hne hcs hmap => ?_
  rw [hc] at hcs
  obtain ⟨rfl, rfl⟩ := one_cell hcs hmap hne
  rw [hm] at S2
  have eo : EO { newEnv scope C env.globals ([(x, C + 1)] ++ cl) env.qual none .none (some env) builtinsNs with scope := relabel scope env } C nm' ((x, C + 1) :: cl) := by
    refine ⟨hkind, (relabel_names e scope).trans hnm, hnd, rfl, e.glob, rfl, e.blt, ?_, hok⟩
    rw [List.map_cons, hks]; exact hn
  refine codeAny_mono (h C s.heap.objs.size _ _ s' eo S2) fun r s'' hr => ?_
  cases r with
  | ok f =>
    refine wpAny_mono hr (fun _ s₃ hr' => ?_) fun _ _ h' => h'
    obtain ⟨m1, ow', S3, hq⟩ := hr'
    exact ⟨lkO m1, (S3.own _ (.head _)).1, fun h' hb => hq _ (S3.dropAt (fun b o hne q => (hb.2 b hne).trans q) _)⟩
  | error x => exact hr
end
/-! a slice of a list that was made for it -/
section
variable {prog : Program} {w : World} {A : Around} {E : Value → Shared → Prop} {s : Shared} {env : Env} {Q : Value → Shared → Prop}
theorem sub_tmp {value : Expr} {lower upper : Option Expr} {p pos : Pos} {T id : String} (hl : typeLookup (.type T) "__getitem__" = pure (some (.builtin id)))
    (h : wpAny (model prog w) A (eval value env) (fun o s₁ => wpAny (model prog w) A (eval (.Slice lower upper none p) env) (fun i s₂ => s₂.TypeIs o T ∧ wpAny (model prog w) A (getItem o i) Q E s₂) E s₁) E s) :
    wpAny (model prog w) A (eval (.Subscript value (.Slice lower upper none p) pos) env) Q E s := by
  rw [eval_Subscript]
  refine wpAny_bind (wpAny_mono h (fun o s₁ h₁ => wpAny_bind (wpAny_holding (wpAny_mono h₁ (fun i s₂ h₂ => wpAny_bind (wpAny_standAt ?_)) fun _ _ x => x)))
    fun _ _ x => x)
  have fin : wpAny (model prog w) A (operate [i, o] (getItem o i)) (fun r s₃ => wpAny (model prog w) A (letTemporaryGo value o r >>= fun _ => pure r) Q E s₃) E s₂ :=
    wpAny_operating (wpAny_mono h₂.2 (fun r s₃ h₃ => wpAny_bind (wpAny_letTemporaryGo (wpAny_pure h₃))) fun _ _ x => x)
  first
    | (refine wpAny_bind ?_
       rw [getitemInPython_of_ne h₂.1.not_modules]
       refine wpAny_bind (wpAny_specialOf h₂.1 hl ?_)
       first
         | exact wpAny_pure (wpAny_bind fin)
         | exact wpAny_bind (wpAny_pure (wpAny_bind fin))
         | exact wpAny_bind fin)
    | (refine wpAny_bind (wpAny_specialOf h₂.1 hl ?_)
       first
         | exact wpAny_bind (wpAny_pure (wpAny_bind fin))
         | exact wpAny_bind fin)
theorem r_sliceT {value : Expr} {lower upper : Option Expr} {p pos : Pos} (g : Heap) (z : Shared) (h : wpAny (model prog w) A (eval value env) (fun o s₁ => wpAny (model prog w) A (evalPart lower env) (fun vl s₂ => wpAny (model prog w) A (evalPart upper env) (fun vu s₃ => SlL g z o vl vu Q s₃) E s₂) E s₁) E s) :
    wpAny (model prog w) A (eval (.Subscript value (.Slice lower upper none p) pos) env) Q E s := by
  refine sub_tmp (T := "list") list_getitem_lookup (wpAny_mono h (fun o s₁ h₁ => wpAny_Slice (wpAny_mono h₁ (fun vl s₂ h₂ => wpAny_mono h₂ (fun vu s₃ h₃ => ?_) fun _ _ e => e) fun _ _ e => e)) fun _ _ e => e)
  obtain ⟨l, items, lo, hi, rfl, hl, hsz, pl, pu, hQ⟩ := h₃
  rw [evalPart_none]
  refine wpAny_pure ⟨(hl.push _).typeIs, wpAny_getItem_list_slice (hl.push _) (Heap.IsSliceOf.new ..) pl pu .none (by simp) ?_ hsz⟩
  rw [Heap.size_push]
  exact hQ
end

end TMCell
section TMSum
open PySem PySem.Spec PySem.Calls PyProof.Rows PySem.W
theorem VL.allInts {xs : List Int} {vs : List Value} (h : VL isI xs vs) : AllInts vs.toArray ∧ numsOf vs = xs := by
  induction h with
  | nil => exact ⟨fun v hv => by simp at hv, rfl⟩
  | cons hp _ ih =>
    obtain ⟨t, rfl⟩ := hp
    refine ⟨fun v hv => ?_, by show _ :: numsOf _ = _; rw [ih.2]⟩
    rcases List.mem_cons.mp (by simpa using hv) with e | e
    · exact ⟨_, _, e⟩
    · exact ih.1 v (by simpa using e)
section
variable {prog : Program} {w : World} {A : Around} {E : Value → Shared → Prop} {g : Heap} {z s : Shared} {ow : List (Addr × Kd)} {l : Addr} {xs : List Int} {vs : List Value}
theorem bi_sumI {Q : Value → Shared → Prop} (hA : A.handled = none) (S : St g z s ow) (hl : Has l (.lst vs) ow) (hv : VL isI xs vs) (h : ∀ t s', St g z s' ow → Q (.int xs.sum t) s') : wpAny (model prog w) A (call (.builtin "sum") [.ref l]) Q E s := by
  obtain ⟨h1, h2⟩ := hv.allInts
  have hL := S.isL hl
  obtain ⟨ys, e⟩ := h1.items
  rw [e] at hL
  refine sum_intListG hA hL fun h' tk t' hk => ?_
  have hn : ys.toList.map (·.1) = xs := by rw [← nums_intItems, ← e]; simpa using h2
  rw [preSum_eq, hn, List.take_of_length_le (by rw [← hn]; simp)]
  exact h t' _ (S.ext hk tk)
theorem bi_maxI {Q : Value → Shared → Prop} (hA : A.handled = none) (S : St g z s ow) (hl : Has l (.lst vs) ow) (hv : VL isI xs vs) (hne : xs ≠ []) (h : ∀ m t s', m ∈ xs → (∀ x ∈ xs, x ≤ m) → St g z s' ow → Q (.int m t) s') : wpAny (model prog w) A (call (.builtin "max") [.ref l]) Q E s := by
  obtain ⟨h1, h2⟩ := hv.allInts
  have hL := S.isL hl
  obtain ⟨ys, e⟩ := h1.items
  rw [e] at hL
  have hn : ys.toList.map (·.1) = xs := by rw [← nums_intItems, ← e]; simpa using h2
  have hsz : 0 < ys.size := by
    cases q : ys.size with
    | zero =>
      exfalso
      apply hne
      rw [← hn]
      have : ys.toList = [] := by
        apply List.eq_nil_of_length_eq_zero
        simpa using q
      rw [this]; rfl
    | succ n => exact Nat.succ_pos n
  refine max_intList hA hL hsz fun v h' tk he hk => ?_
  obtain ⟨b1, b2⟩ := argBest_gt (numAt ys) (ys.size - 1)
  have hb : argBest (fun i j => decide (numAt ys i > numAt ys j)) (ys.size - 1) < ys.size := by omega
  have hx : ∀ (j : Nat) (hj : j < ys.size), numAt ys j = xs.getD j 0 := fun j hj => by
    rw [numAt_eq, hn]
  have hxl : xs.length = ys.size := by rw [← hn]; simp
  obtain ⟨tv, rfl⟩ := intItems_at he
  refine h _ _ _ ?_ ?_ (S.ext hk tk)
  · rw [hx _ hb, List.getD_eq_getElem?_getD, List.getElem?_eq_getElem (by omega)]
    exact List.getElem_mem _
  · intro x hxm
    obtain ⟨j, hj, rfl⟩ := List.getElem_of_mem hxm
    have := b2 j (by omega)
    rw [hx j (by omega), List.getD_eq_getElem?_getD, List.getElem?_eq_getElem hj] at this
    exact this
/-- a number in a list of numbers -/
theorem c_inI {Q : Value → Shared → Prop} {k : Int} {t : Tok} (S : St g z s ow) (hl : Has l (.lst vs) ow) (hv : VL isI xs vs) (h : Q (.bool (xs.contains k)) s) : wpAny (model prog w) A (compareOp .In (.int k t) (.ref l)) Q E s := by
  obtain ⟨n, e⟩ := S.lst hl
  refine PySem.SeqRoads2.in_list (items := vs.toArray) (n := n) (fun y => match y with | .int i _ => i == k | _ => false) (fun y hy => ?_) e ?_
  · obtain ⟨a, u, rfl⟩ := hv.allInts.1 y hy
    exact MeetsSeq.EqGives.int a k u t
  · rw [← Array.any_toList]
    have : vs.toArray.toList.any (fun y => match y with | .int i _ => i == k | _ => false) = xs.contains k := by
      rw [show vs.toArray.toList = vs from rfl]
      clear e h hl S
      induction hv with
      | nil => rfl
      | @cons x v xs vs hp _ ih =>
        obtain ⟨tx, rfl⟩ := hp
        rw [List.any_cons, ih, List.contains_cons]
        dsimp only
        congr 1
        exact Bool.eq_iff_iff.mpr ⟨fun q => by simpa using (beq_iff_eq.mp q).symm, fun q => by simpa using (beq_iff_eq.mp q).symm⟩
    rw [this]; exact h
end
section
variable {prog : Program} {w : World} {A : Around} {E : Value → Shared → Prop} {g : Heap} {z s : Shared} {ow : List (Addr × Kd)} {fr : Addr × Kd} {Q : Value → Shared → Prop}
theorem mk_sliceF {l : Addr} {xs : List Value} {k : Int} {t : Tok} (S : St g z s (fr :: ow)) (hl : s.heap.IsList l xs.toArray) (hsz : xs.length ≤ sizeLine) (hk : 0 ≤ k) (hk2 : k.toNat ≤ xs.length) (h : ∀ a s', St g z s' (fr :: (a, .lst (xs.drop k.toNat)) :: ow) → Q (.ref a) s') : SlL g z (.ref l) (.int k t) .none Q s := by
  refine ⟨l, xs.toArray, some k, none, rfl, hl, by simpa using hsz, .int k t, .none, ?_⟩
  obtain ⟨n, rfl⟩ : ∃ n : Nat, k = n := ⟨k.toNat, by omega⟩
  rw [Int.toNat_natCast] at *
  rw [slicePick_from _ _ (by simpa using hk2)]
  have S1 := S.ext (h' := s.heap.push { cls := .type "slice", data := .fields #[.int n t, .none, .none] }) (fun b o e => Heap.get?_push_of_some _ e) s.toks
  have S2 := S1.push (o := { cls := .type "list", data := .seq (xs.toArray.toList.drop n).toArray }) (k := .lst (xs.drop n)) rfl (at_lst ⟨0, by have := Heap.get?_push_size (h := s.heap.push { cls := .type "slice", data := .fields #[.int n t, .none, .none] }) (o := { cls := .type "list", data := .seq (xs.toArray.toList.drop n).toArray }) rfl; simpa using this⟩) s.toks
  have e : (s.heap.push { cls := .type "slice", data := .fields #[.int n t, .none, .none] }).objs.size = s.heap.objs.size + 1 := Heap.size_push ..
  have := h _ _ (S2.perm (.swap ..))
  rw [e] at this
  exact this
end

end TMSum
section TMAt
open PySem PySem.Spec PySem.Calls PyProof.Rows PySem.W
/-- what an object of Headers holds -/
noncomputable def hdE (P : Params) (tk : Tok) (l : Addr) : List DictEntry := [⟨PyData.keyHash P (Str.ofString "_headers"), .str (Str.ofString "_headers") tk, .ref l⟩]
section
variable {prog : Program} {w : World} {A : Around} {E : Value → Shared → Prop} {g : Heap} {z s : Shared} {ow ow' : List (Addr × Kd)} {x dx l : Addr} {tk : Tok} {fr : Addr × Kd}
theorem gm_conv {pl : Sem Bool} {Q : Value × List Value → Shared → Prop} (G : Gd (Mine.hd.heap_1 w.params) g) (S : St g z s ow) (hx : Has x (.raw (instObj 270 dx)) ow) (hdx : Has dx (.raw (dictOf (hdE w.params tk l) 1)) ow) (h : Q (.ref 169, [.ref x]) s) :
    wpAny (model prog w) A (getMethod (.ref x) (Str.ofString "_convert_string_type") pl) Q E s := gm_inst G S hx hdx (by k_is) (by k_is) (by k_is) (by rfl) h
theorem at_hdr {Q : Value → Shared → Prop} (G : Gd (Mine.hd.heap_1 w.params) g) (S : St g z s ow) (hx : Has x (.raw (instObj 270 dx)) ow) (hdx : Has dx (.raw (dictOf (hdE w.params tk l) 1)) ow) (h : ∀ s', St g z s' ow → Q (.ref l) s') :
    wpAny (model prog w) A (getAttr (.ref x) (Str.ofString "_headers") true) Q E s := at_own G S hx hdx (by k_is) (by k_is) (by k_is) (by k_is) (by rfl) (by rfl) h
end

end TMAt
section TMH
open PySem PySem.Spec PySem.Calls PyProof.Rows PySem.W
/-! the rules for every state at once (printed by mkh.py) -/
section
variable {g0 : Heap}
variable {z0 : Shared}
variable {ow0 : List (Addr × Kd)}
variable {kk : Nat}
variable {prog : Program}
variable {w : World}
variable {A : Around}
variable {E : Value → Shared → Prop}
variable {env : Env}
variable {rest : List Stmt}
variable {Q : Value → Shared → Prop}
variable {target : PySem.Expr}
variable {body : List Stmt}
variable {pos : Pos}
variable {test : PySem.Expr}
variable {M : Model}
variable {orelse : PySem.Expr}
variable {e : PySem.Expr}
variable {x : Str}
variable {p : Pos}
variable {op : Operator}
variable {value : PySem.Expr}
variable {L : Addr}
variable {nm : List (Str × NameKind)}
variable {cl : List (Str × Addr)}
variable {elts : List PySem.Expr}
variable {k : Nat}
variable {o : PySem.Expr}
variable {i : PySem.Expr}
variable {l : Addr}
variable {r : PySem.Expr}
variable {g : Heap}
variable {z : Shared}
variable {ow : List (Addr × Kd)}
variable {m : List (Str × Option Value)}
variable {v : Value}
variable {c : Addr}
variable {args : List PySem.Expr}
variable {K : Frag}
variable {slice : PySem.Expr}
variable {xs : List Value}
variable {t : Tok}
variable {j : Int}
variable {name : Str}
variable {apos : Pos}
variable {pl : Sem Bool}
variable {e₁ : PySem.Expr}
variable {e₂ : PySem.Expr}
variable {a : Int}
variable {b : Int}
variable {u : Tok}
variable {d : Addr}
variable {whole : Sem Value}
variable {ow' : List (Addr × Kd)}
variable {y : Str}
variable {fr : Addr × Kd}
variable {vs : List Value}
variable {f : Addr}
variable {R : Result → Shared → Prop}
variable {P : Shared → Prop}
variable {oc : Value}
variable {od : Option Addr}
variable {fd : FuncData}
variable {sl : Array (Option Value)}
variable {id : String}
variable {T : String}
variable {attr : Str}
variable {kws : List Keyword}
variable {dx : Addr}
variable {tk : Tok}
theorem h_x_for {Q : Flow → Shared → Prop} {iter : PySem.Expr} (h : ∀ (s : Shared), Se g0 z0 ow0 kk s → wpAny (model prog w) A (eval iter env) (fun x s₁ => wpAny (model prog w) A (pyIter x) (fun it s₂ => codeAny (model prog w) A (Code.forLoop target it body [] env) (ForR prog w A env (Then (model prog w) A env rest Q E) E) s₂) E s₁) E s) (hs : ∀ (x : Value), foldedSetIterable iter env x = pure x) : ∀ (s : Shared), Se g0 z0 ow0 kk s → wpAny (model prog w) A (execs (Stmt.For target iter body [] pos :: rest) env) Q E s := fun s S => Mine.x_for (h s S) hs
theorem h_x_while {Q : Flow → Shared → Prop} (h : ∀ (s : Shared), Se g0 z0 ow0 kk s → codeAny (model prog w) A (Code.whileLoop test body [] env) (ForR prog w A env (Then (model prog w) A env rest Q E) E) s) : ∀ (s : Shared), Se g0 z0 ow0 kk s → wpAny (model prog w) A (execs (Stmt.While test body [] pos :: rest) env) Q E s := fun s S => Mine.x_while (h s S)
theorem h_x_if {Q : Flow → Shared → Prop} {orelse : List Stmt} (h : ∀ (s : Shared), Se g0 z0 ow0 kk s → wpAny M A (PySem.isTrue test env (eval test env)) (fun b s₂ => if b = true then wpAny M A (execs body env) (Then M A env rest Q E) E s₂ else wpAny M A (execs orelse env) (Then M A env rest Q E) E s₂) E s) : ∀ (s : Shared), Se g0 z0 ow0 kk s → wpAny M A (execs (Stmt.If test body orelse pos :: rest) env) Q E s := fun s S => Mine.x_if (h s S)
theorem h_x_ret {Q : Flow → Shared → Prop} (h : ∀ (s : Shared), Se g0 z0 ow0 kk s → wpAny M A (eval e env) (fun v => Q (Flow.ret v)) E s) : ∀ (s : Shared), Se g0 z0 ow0 kk s → wpAny M A (execs (Stmt.Return (some e) pos :: rest) env) Q E s := fun s S => Mine.x_ret (h s S)
theorem h_x_aug {Q : Flow → Shared → Prop} (h : ∀ (s : Shared), Se g0 z0 ow0 kk s → wpAny M A (loadName env x) (fun old s₁ => wpAny M A (eval value env) (fun v s₂ => wpAny M A (inplaceOp op old v) (fun r s₃ => wpAny M A (storeName env x r) (fun x s₄ => wpAny M A (execs rest env) Q E s₄) E s₃) E s₂) E s₁) E s) : ∀ (s : Shared), Se g0 z0 ow0 kk s → wpAny M A (execs (Stmt.AugAssign (Expr.Name x p) op value pos :: rest) env) Q E s := fun s S => Mine.x_aug (h s S)
theorem h_x_nil {Q : Flow → Shared → Prop} (h : ∀ (s : Shared), Se g0 z0 ow0 kk s → Q Flow.next s) : ∀ (s : Shared), Se g0 z0 ow0 kk s → wpAny M A (execs [] env) Q E s := fun s S => Mine.x_nil (h s S)
theorem h_x_assert {Q : Flow → Shared → Prop} {msg : Option PySem.Expr} (h : ∀ (s : Shared), Se g0 z0 ow0 kk s → wpAny M A (PySem.isTrue test env (eval test env)) (fun b s₁ => b = true ∧ wpAny M A (execs rest env) Q E s₁) E s) : ∀ (s : Shared), Se g0 z0 ow0 kk s → wpAny M A (execs (Stmt.Assert test msg pos :: rest) env) Q E s := fun s S => Mine.x_assert (h s S)
theorem h_x_pass {Q : Flow → Shared → Prop} (h : ∀ (s : Shared), Se g0 z0 ow0 kk s → wpAny M A (execs rest env) Q E s) : ∀ (s : Shared), Se g0 z0 ow0 kk s → wpAny M A (execs (Stmt.Pass pos :: rest) env) Q E s := fun s S => Mine.x_pass (h s S)
theorem h_x_del {Q : Flow → Shared → Prop} {targets : List PySem.Expr} (h : ∀ (s : Shared), Se g0 z0 ow0 kk s → wpAny M A (deleteEach targets env) (fun x s₁ => wpAny M A (execs rest env) Q E s₁) E s) : ∀ (s : Shared), Se g0 z0 ow0 kk s → wpAny M A (execs (Stmt.Delete targets pos :: rest) env) Q E s := fun s S => Mine.x_del (h s S)
theorem h_x_ret0 {Q : Flow → Shared → Prop} (h : ∀ (s : Shared), Se g0 z0 ow0 kk s → Q (Flow.ret Value.none) s) : ∀ (s : Shared), Se g0 z0 ow0 kk s → wpAny (model prog w) A (execs (Stmt.Return none pos :: rest) env) Q E s := fun s S => Mine.x_ret0 (h s S)
theorem h_x_exprF {Q : Flow → Shared → Prop} (eo : EO env L nm cl) (h : ∀ (s : Shared), Se g0 z0 ow0 kk s → wpAny (model prog w) A (eval e env) (fun x s' => wpAny (model prog w) A (execs rest env) Q E s') E s) (hs : swapsWith e none (Pos.line pos) env = pure false) : ∀ (s : Shared), Se g0 z0 ow0 kk s → wpAny (model prog w) A (execs (Stmt.Expr e pos :: rest) env) Q E s := fun s S => Mine.x_exprF eo (h s S) hs
theorem h_x_assign {Q : Flow → Shared → Prop} (h : ∀ (s : Shared), Se g0 z0 ow0 kk s → wpAny M A (eval value env) (fun v s₁ => wpAny M A (storeName env x v) (fun x s₂ => wpAny M A (execs rest env) Q E s₂) E s₁) E s) (hs : autoParam (swapsWith value (some (Expr.Name x p)) (Pos.line pos) env = pure false) x_assign._auto_1) : ∀ (s : Shared), Se g0 z0 ow0 kk s → wpAny M A (execs (Stmt.Assign [Expr.Name x p] value pos :: rest) env) Q E s := fun s S => Mine.x_assign (h s S) hs
theorem h_x_tuple {Q : Flow → Shared → Prop} {tpos : Pos} (h : ∀ (s : Shared), Se g0 z0 ow0 kk s → wpAny M A (eval value env) (fun v s₁ => wpAny M A (assign (Expr.Tuple elts k tpos) env v) (fun x s₂ => wpAny M A (execs rest env) Q E s₂) E s₁) E s) (hs : autoParam (swapsWithSole [Expr.Tuple elts k tpos] value (Pos.line pos) env = pure false) x_tuple._auto_1) (hw : autoParam (swappedStores [Expr.Tuple elts k tpos] value env = pure none) x_tuple._auto_2) : ∀ (s : Shared), Se g0 z0 ow0 kk s → wpAny M A (execs (Stmt.Assign [Expr.Tuple elts k tpos] value pos :: rest) env) Q E s := fun s S => Mine.x_tuple (h s S) hs hw
theorem h_x_subs {Q : Flow → Shared → Prop} (h : ∀ (s : Shared), Se g0 z0 ow0 kk s → wpAny M A (eval value env) (fun v s₁ => wpAny M A (eval o env) (fun ov s₂ => wpAny M A (eval i env) (fun iv s₃ => wpAny M A (setItem ov iv v) (fun x s₄ => wpAny M A (execs rest env) Q E s₄) E s₃) E s₂) E s₁) E s) (hs : autoParam (swapsWith value (some (Expr.Subscript o i p)) (Pos.line pos) env = pure false) x_subs._auto_1) : ∀ (s : Shared), Se g0 z0 ow0 kk s → wpAny M A (execs (Stmt.Assign [Expr.Subscript o i p] value pos :: rest) env) Q E s := fun s S => Mine.x_subs (h s S) hs
theorem h_x_augsubs {Q : Flow → Shared → Prop} (h : ∀ (s : Shared), Se g0 z0 ow0 kk s → wpAny M A (eval o env) (fun ov s₁ => wpAny M A (eval i env) (fun iv s₂ => wpAny M A (getItem ov iv) (fun old s₃ => wpAny M A (eval value env) (fun v s₄ => wpAny M A (inplaceOp op old v) (fun new s₅ => wpAny M A (setItem ov iv new) (fun x s₆ => wpAny M A (execs rest env) Q E s₆) E s₅) E s₄) E s₃) E s₂) E s₁) E s) (ha : 
    autoParam
      (∀ (ov iv new : Value),
        augStore i ov iv new = do
          holding [new, ov, iv] (setItem ov iv new)
          release [new, ov, iv] []
          pure Flow.next)
      x_augsubs._auto_1
   ) : ∀ (s : Shared), Se g0 z0 ow0 kk s → wpAny M A (execs (Stmt.AugAssign (Expr.Subscript o i p) op value pos :: rest) env) Q E s := fun s S => Mine.x_augsubs (h s S) ha
theorem h_wpAny_BinOp {l : PySem.Expr} (h : ∀ (s : Shared), Se g0 z0 ow0 kk s → wpAny M A (eval l env) (fun a s₁ => wpAny M A (eval r env) (fun b s₂ => wpAny M A (binaryOp op a b) Q E s₂) E s₁) E s) : ∀ (s : Shared), Se g0 z0 ow0 kk s → wpAny M A (eval (Expr.BinOp l op r pos) env) Q E s := fun s S => PySem.wpAny_BinOp (h s S)
theorem h_r_loc (e : EO env L nm cl) (hk : Has x NameKind.local nm) (hv : Has x (some v) m) (h : ∀ (s : Shared), Se g z ((L, Kd.ns m) :: ow) kk s → Q v s) : ∀ (s : Shared), Se g z ((L, Kd.ns m) :: ow) kk s → wpAny M A (eval (Expr.Name x pos) env) Q E s := fun s S => Mine.r_loc S.1 e hk hv (h s S)
theorem h_r_int {i : Int} (h : ∀ (s' : Shared), Se g z ow (kk + 1) s' → Q (Value.int i kk) s') : ∀ (s : Shared), Se g z ow kk s → wpAny (model prog w) A (eval (Expr.Constant (Const.int i) k pos) env) Q E s := fun s S0 => by obtain ⟨S, rfl⟩ := S0; exact wpAny_Constant_int (h _ ⟨S.tok _, rfl⟩)
theorem h_r_cel (e : EO env L nm cl) (hk : Has x NameKind.cell nm) (hc : Has x c cl) (hv : Has c (Kd.cel (some v)) ow) (h : ∀ (s : Shared), Se g z ow kk s → Q v s) : ∀ (s : Shared), Se g z ow kk s → wpAny M A (eval (Expr.Name x pos) env) Q E s := fun s S => Mine.r_cel S.1 e hk hc hv (h s S)
theorem h_r_freeG (e : EO env L nm cl) (hk : Has x NameKind.free nm) (hc : Has x c cl) (hv : Heap.IsCell g c (some v)) (h : ∀ (s : Shared), Se g z ow kk s → Q v s) : ∀ (s : Shared), Se g z ow kk s → wpAny M A (eval (Expr.Name x pos) env) Q E s := fun s S => Mine.r_freeG S.1 e hk hc hv (h s S)
theorem h_r_free (e : EO env L nm cl) (hk : Has x NameKind.free nm) (hc : Has x c cl) (hv : Has c (Kd.cel (some v)) ow) (h : ∀ (s : Shared), Se g z ow kk s → Q v s) : ∀ (s : Shared), Se g z ow kk s → wpAny M A (eval (Expr.Name x pos) env) Q E s := fun s S => Mine.r_free S.1 e hk hc hv (h s S)
theorem h_wpAny_Compare1 {l : PySem.Expr} {op : CmpOp} (h : ∀ (s : Shared), Se g0 z0 ow0 kk s → wpAny M A (eval l env) (fun a s₁ => wpAny M A (eval r env) (fun b s₂ => wpAny M A (compareOp op a b) Q E s₂) E s₁) E s) (hm : autoParam (behindInMarks op r = false) wpAny_Compare1._auto_1) : ∀ (s : Shared), Se g0 z0 ow0 kk s → wpAny M A (eval (Expr.Compare l [op] [r] pos) env) Q E s := fun s S => PySem.wpAny_Compare1 (h s S) hm
theorem h_r_str (h : ∀ (s' : Shared), Se g z ow (kk + 1) s' → Q (Value.str x kk) s') : ∀ (s : Shared), Se g z ow kk s → wpAny (model prog w) A (eval (Expr.Constant (Const.str x) k pos) env) Q E s := fun s S0 => by obtain ⟨S, rfl⟩ := S0; exact wpAny_Constant_str (h _ ⟨S.tok _, rfl⟩)
theorem h_r_bool {c : Bool} (h : ∀ (s : Shared), Se g0 z0 ow0 kk s → Q (Value.bool c) s) : ∀ (s : Shared), Se g0 z0 ow0 kk s → wpAny (model prog w) A (eval (Expr.Constant (Const.bool c) k pos) env) Q E s := fun s S => Mine.r_bool (h s S)
theorem h_r_none (h : ∀ (s : Shared), Se g0 z0 ow0 kk s → Q Value.none s) : ∀ (s : Shared), Se g0 z0 ow0 kk s → wpAny (model prog w) A (eval (Expr.Constant Const.none k pos) env) Q E s := fun s S => Mine.r_none (h s S)
theorem h_r_call {np : Pos} (h : ∀ (s : Shared), Se g0 z0 ow0 kk s → wpAny (model prog w) A (eval (Expr.Name x np) env) (fun f s₁ => wpAny (model prog w) A (callWith pos f [] (backTo pos (starEach args env)) []) Q E s₁) E s) : ∀ (s : Shared), Se g0 z0 ow0 kk s → wpAny (model prog w) A (eval (Expr.Call (Expr.Name x np) args [] pos) env) Q E s := fun s S => Mine.r_call (h s S)
theorem h_wpAny_UnaryOp {op : UnaryOp} {x : PySem.Expr} (h : ∀ (s : Shared), Se g0 z0 ow0 kk s → wpAny M A (eval x env) (fun v s₁ => wpAny M A (unaryOp op v) Q E s₁) E s) : ∀ (s : Shared), Se g0 z0 ow0 kk s → wpAny M A (eval (Expr.UnaryOp op x pos) env) Q E s := fun s S => PySem.wpAny_UnaryOp (h s S)
theorem h_IfExp_ {body : PySem.Expr} (h : ∀ (s : Shared), Se g0 z0 ow0 kk s → wpAny M A (PySem.isTrue test env (eval test env)) (fun c s₂ => if c = true then wpAny M A (eval body env) Q E s₂ else wpAny M A (eval orelse env) Q E s₂) E s) : ∀ (s : Shared), Se g0 z0 ow0 kk s → wpAny M A (eval (Expr.IfExp test body orelse pos) env) Q E s := fun s S => PyProof.Rows.IfExp_ (h s S)
theorem h_r_list (h : ∀ (s : Shared), Se g0 z0 ow0 kk s → wpAny (model prog w) A (spliced (backTo pos (starEach elts env))) (fun vs s₁ => MkL vs Q s₁) E s) : ∀ (s : Shared), Se g0 z0 ow0 kk s → wpAny (model prog w) A (eval (Expr.List elts pos) env) Q E s := fun s S => Mine.r_list (h s S)
theorem h_r_tup (h : ∀ (s : Shared), Se g0 z0 ow0 kk s → wpAny (model prog w) A (spliced (backTo pos (starEach elts env))) (fun vs s₁ => MkT vs Q s₁) E s) : ∀ (s : Shared), Se g0 z0 ow0 kk s → wpAny (model prog w) A (eval (Expr.Tuple elts k pos) env) Q E s := fun s S => Mine.r_tup (h s S)
theorem h_r_bltn (G : Gd K g) (e : EO env L nm cl) (hk : Has x NameKind.globalImplicit nm) (hg : nsIn K mainGlobals x = some none) (hb : bootBuiltins x = some v) (hx : x ≠ Str.ofString "__name__") (h : ∀ (s : Shared), Se g z ow kk s → Q v s) (hxd : autoParam ((x == Str.ofString "__debug__") = false) r_bltn._auto_1) : ∀ (s : Shared), Se g z ow kk s → wpAny M A (eval (Expr.Name x pos) env) Q E s := fun s S => Mine.r_bltn G S.1 e hk hg hb hx (h s S) hxd
theorem h_r_glob (G : Gd K g) (e : EO env L nm cl) (hk : Has x NameKind.globalImplicit nm) (hg : nsIn K mainGlobals x = some (some v)) (h : ∀ (s : Shared), Se g z ow kk s → Q v s) (hxd : autoParam ((x == Str.ofString "__debug__") = false) r_glob._auto_1) : ∀ (s : Shared), Se g z ow kk s → wpAny M A (eval (Expr.Name x pos) env) Q E s := fun s S => Mine.r_glob G S.1 e hk hg (h s S) hxd
theorem h_PyProof_Rows_Subscript_ (h : ∀ (s : Shared), Se g0 z0 ow0 kk s → wpAny M A (eval value env) (fun o s₁ => wpAny M A (eval slice env) (fun i s₂ => wpAny M A (subscriptTail value slice o i) Q E s₂) E s₁) E s) : ∀ (s : Shared), Se g0 z0 ow0 kk s → wpAny M A (eval (Expr.Subscript value slice pos) env) Q E s := fun s S => PyProof.Rows.Subscript_ (h s S)
theorem h_sub_list {k : Int} (hl : Has l (Kd.lst xs) ow) (h0 : 0 ≤ k) (hf : k < 2 ^ 63) (hx : xs[Int.toNat k]? = some v) (h : ∀ (s : Shared), Se g z ow kk s → Q v s) (hs : autoParam (subscripted slice false (Value.ref l) (Value.int k t) = operate [Value.ref l, Value.int k t] (getItem (Value.ref l) (Value.int k t))) sub_list._auto_1) (hg : autoParam (∀ (r : Value), letTemporaryGo value (Value.ref l) r = pure ()) sub_list._auto_2) : ∀ (s : Shared), Se g z ow kk s → wpAny (model prog w) A (subscriptTail value slice (Value.ref l) (Value.int k t)) Q E s := fun s S => Mine.sub_list S.1 hl h0 hf hx (h s S) hs hg
theorem h_sub_tup {k : Int} {j : Nat} (hl : Has l (Kd.tup xs) ow) (hlo : -2 ^ 63 ≤ k) (hf : k < 2 ^ 63) (hj : seqIndex? k (List.length xs) = some j) (hx : xs[j]? = some v) (h : ∀ (s : Shared), Se g z ow kk s → Q v s) (hs : autoParam (subscripted slice false (Value.ref l) (Value.int k t) = operate [Value.ref l, Value.int k t] (getItem (Value.ref l) (Value.int k t))) sub_tup._auto_1) (hg : autoParam (∀ (r : Value), letTemporaryGo value (Value.ref l) r = pure ()) sub_tup._auto_2) : ∀ (s : Shared), Se g z ow kk s → wpAny (model prog w) A (subscriptTail value slice (Value.ref l) (Value.int k t)) Q E s := fun s S => Mine.sub_tup S.1 hl hlo hf hj hx (h s S) hs hg
theorem h_sub_listG {k : Int} (hl : Heap.IsList g l (List.toArray xs)) (h0 : 0 ≤ k) (hf : k < 2 ^ 63) (hx : xs[Int.toNat k]? = some v) (h : ∀ (s : Shared), Se g z ow kk s → Q v s) (hs : subscripted slice false (Value.ref l) (Value.int k t) = operate [Value.ref l, Value.int k t] (getItem (Value.ref l) (Value.int k t))) (hg : ∀ (r : Value), letTemporaryGo value (Value.ref l) r = pure ()) : ∀ (s : Shared), Se g z ow kk s → wpAny (model prog w) A (subscriptTail value slice (Value.ref l) (Value.int k t)) Q E s := fun s S => Mine.sub_listG S.1 hl h0 hf hx (h s S) hs hg
theorem h_MethodCall_ (h : ∀ (s : Shared), Se g0 z0 ow0 kk s → wpAny M A (eval o env) (fun ov s₁ => wpAny M A (getMethod ov name pl) (fun fx s₂ => wpAny M A (callWith pos (Prod.fst fx) (Prod.snd fx) (backTo pos (starEach args env)) []) Q E s₂) E s₁) E s) (he : 
    autoParam
      (eval (Expr.Call (Expr.Attribute o name apos) args [] pos) env = do
        let ov ← eval o env
        standAt (Pos.atName apos)
        let __x ← holding [ov] (getMethod ov name pl)
        match __x with
          | (f, first) => callWith pos f first (backTo pos (starEach args env)) [])
      MethodCall_._auto_1
   ) : ∀ (s : Shared), Se g0 z0 ow0 kk s → wpAny M A (eval (Expr.Call (Expr.Attribute o name apos) args [] pos) env) Q E s := fun s S => PyProof.Rows.MethodCall_ (h s S) he
theorem h_BoolOp_and {rest : List PySem.Expr} (h : ∀ (s : Shared), Se g0 z0 ow0 kk s → wpAny M A (eval e₁ env) (fun v s₁ => wpAny M A (truthy v) (fun c s₂ => if c = true then wpAny M A (eval (Expr.BoolOp BoolOp.And (e₂ :: rest) pos) env) Q E s₂ else Q v s₂) E s₁) E s) : ∀ (s : Shared), Se g0 z0 ow0 kk s → wpAny M A (eval (Expr.BoolOp BoolOp.And (e₁ :: e₂ :: rest) pos) env) Q E s := fun s S => PyProof.Rows.BoolOp_and (h s S)
theorem h_BoolOp_or {rest : List PySem.Expr} (h : ∀ (s : Shared), Se g0 z0 ow0 kk s → wpAny M A (eval e₁ env) (fun v s₁ => wpAny M A (truthy v) (fun c s₂ => if c = true then Q v s₂ else wpAny M A (eval (Expr.BoolOp BoolOp.Or (e₂ :: rest) pos) env) Q E s₂) E s₁) E s) : ∀ (s : Shared), Se g0 z0 ow0 kk s → wpAny M A (eval (Expr.BoolOp BoolOp.Or (e₁ :: e₂ :: rest) pos) env) Q E s := fun s S => PyProof.Rows.BoolOp_or (h s S)
theorem h_BoolOp_one {op : BoolOp} (h : ∀ (s : Shared), Se g0 z0 ow0 kk s → wpAny M A (eval e env) Q E s) : ∀ (s : Shared), Se g0 z0 ow0 kk s → wpAny M A (eval (Expr.BoolOp op [e] pos) env) Q E s := fun s S => PyProof.Rows.BoolOp_one (h s S)
theorem h_r_add (h : ∀ (s' : Shared), Se g z ow (kk + 1) s' → Q (Value.int (a + b) kk) s') : ∀ (s : Shared), Se g z ow kk s → wpAny (model prog w) A (binaryOp Operator.Add (Value.int a t) (Value.int b u)) Q E s := fun s S0 => by obtain ⟨S, rfl⟩ := S0; exact PyProof.Rows.add_int (h _ ⟨S.tok _, rfl⟩)
theorem h_r_sub (h : ∀ (s' : Shared), Se g z ow (kk + 1) s' → Q (Value.int (a - b) kk) s') : ∀ (s : Shared), Se g z ow kk s → wpAny (model prog w) A (binaryOp Operator.Sub (Value.int a t) (Value.int b u)) Q E s := fun s S0 => by obtain ⟨S, rfl⟩ := S0; exact PyProof.Rows.sub_int (h _ ⟨S.tok _, rfl⟩)
theorem h_r_and (h : ∀ (s' : Shared), Se g z ow (kk + 1) s' → Q (Value.int (Builtin.bitAnd a b) kk) s') : ∀ (s : Shared), Se g z ow kk s → wpAny (model prog w) A (binaryOp Operator.BitAnd (Value.int a t) (Value.int b u)) Q E s := fun s S0 => by obtain ⟨S, rfl⟩ := S0; exact and_int (h _ ⟨S.tok _, rfl⟩)
theorem h_r_or (h : ∀ (s' : Shared), Se g z ow (kk + 1) s' → Q (Value.int (Builtin.bitOr a b) kk) s') : ∀ (s : Shared), Se g z ow kk s → wpAny (model prog w) A (binaryOp Operator.BitOr (Value.int a t) (Value.int b u)) Q E s := fun s S0 => by obtain ⟨S, rfl⟩ := S0; exact or_int (h _ ⟨S.tok _, rfl⟩)
theorem h_r_xor (h : ∀ (s' : Shared), Se g z ow (kk + 1) s' → Q (Value.int (Builtin.bitXor a b) kk) s') : ∀ (s : Shared), Se g z ow kk s → wpAny (model prog w) A (binaryOp Operator.BitXor (Value.int a t) (Value.int b u)) Q E s := fun s S0 => by obtain ⟨S, rfl⟩ := S0; exact xor_int (h _ ⟨S.tok _, rfl⟩)
theorem h_r_neg (h : ∀ (s' : Shared), Se g z ow (kk + 1) s' → Q (Value.int (-a) kk) s') : ∀ (s : Shared), Se g z ow kk s → wpAny (model prog w) A (unaryOp UnaryOp.USub (Value.int a t)) Q E s := fun s S0 => by obtain ⟨S, rfl⟩ := S0; exact PyProof.Rows.neg_int (h _ ⟨S.tok _, rfl⟩)
theorem h_r_inv (h : ∀ (s' : Shared), Se g z ow (kk + 1) s' → Q (Value.int (Builtin.bitNot a) kk) s') : ∀ (s : Shared), Se g z ow kk s → wpAny (model prog w) A (unaryOp UnaryOp.Invert (Value.int a t)) Q E s := fun s S0 => by obtain ⟨S, rfl⟩ := S0; exact invert_int (h _ ⟨S.tok _, rfl⟩)
theorem h_r_iadd (h : ∀ (s' : Shared), Se g z ow (kk + 1) s' → Q (Value.int (a + b) kk) s') : ∀ (s : Shared), Se g z ow kk s → wpAny (model prog w) A (inplaceOp Operator.Add (Value.int a t) (Value.int b u)) Q E s := fun s S0 => by obtain ⟨S, rfl⟩ := S0; exact PyProof.Rows.iadd_int (h _ ⟨S.tok _, rfl⟩)
theorem h_r_mod (hb : b ≠ 0) (h : ∀ (s' : Shared), Se g z ow (kk + 1) s' → Q (Value.int (Int.fmod a b) kk) s') : ∀ (s : Shared), Se g z ow kk s → wpAny (model prog w) A (binaryOp Operator.Mod (Value.int a t) (Value.int b u)) Q E s := fun s S0 => by obtain ⟨S, rfl⟩ := S0; exact mod_int' hb (h _ ⟨S.tok _, rfl⟩)
theorem h_r_fdiv (hb : b ≠ 0) (hp : Builtin.divisionGoesByPylong a b = false) (h : ∀ (s' : Shared), Se g z ow (kk + 1) s' → Q (Value.int (Int.fdiv a b) kk) s') : ∀ (s : Shared), Se g z ow kk s → wpAny (model prog w) A (binaryOp Operator.FloorDiv (Value.int a t) (Value.int b u)) Q E s := fun s S0 => by obtain ⟨S, rfl⟩ := S0; exact floordiv_int hb (h _ ⟨S.tok _, rfl⟩) (.inl hp)
theorem h_r_pow (h0 : 0 ≤ b) (hsz : ↑(Builtin.Int.intBits a) * b ≤ 2 ^ 27) (h : ∀ (s' : Shared), Se g z ow (kk + 1) s' → Q (Value.int (a ^ Int.toNat b) kk) s') : ∀ (s : Shared), Se g z ow kk s → wpAny (model prog w) A (binaryOp Operator.Pow (Value.int a t) (Value.int b u)) Q E s := fun s S0 => by obtain ⟨S, rfl⟩ := S0; exact pow_int h0 hsz (h _ ⟨S.tok _, rfl⟩)
theorem h_r_mul (hf : IntMulOk a b) (h : ∀ (s' : Shared), Se g z ow (kk + 1) s' → Q (Value.int (a * b) kk) s') : ∀ (s : Shared), Se g z ow kk s → wpAny (model prog w) A (binaryOp Operator.Mult (Value.int a t) (Value.int b u)) Q E s := fun s S0 => by obtain ⟨S, rfl⟩ := S0; exact PyProof.Rows.mul_int (h _ ⟨S.tok _, rfl⟩) hf
theorem h_r_shr (h0 : 0 ≤ b) (h : ∀ (s' : Shared), Se g z ow (kk + 1) s' → Q (Value.int (Int.fdiv a (2 ^ Int.toNat b)) kk) s') : ∀ (s : Shared), Se g z ow kk s → wpAny (model prog w) A (binaryOp Operator.RShift (Value.int a t) (Value.int b u)) Q E s := fun s S0 => by obtain ⟨S, rfl⟩ := S0; exact rshift_int h0 (h _ ⟨S.tok _, rfl⟩)
theorem h_r_isub (h : ∀ (s' : Shared), Se g z ow (kk + 1) s' → Q (Value.int (a - b) kk) s') : ∀ (s : Shared), Se g z ow kk s → wpAny (model prog w) A (inplaceOp Operator.Sub (Value.int a t) (Value.int b u)) Q E s := fun s S0 => by obtain ⟨S, rfl⟩ := S0; exact PyProof.Rows.isub_int (h _ ⟨S.tok _, rfl⟩)
theorem h_r_ior (h : ∀ (s' : Shared), Se g z ow (kk + 1) s' → Q (Value.int (Builtin.bitOr a b) kk) s') : ∀ (s : Shared), Se g z ow kk s → wpAny (model prog w) A (inplaceOp Operator.BitOr (Value.int a t) (Value.int b u)) Q E s := fun s S0 => by obtain ⟨S, rfl⟩ := S0; exact ior_int (h _ ⟨S.tok _, rfl⟩)
theorem h_r_ilshl (h0 : 0 ≤ b) (h1 : b ≤ 1000000) (ha : Int.natAbs a < 2 ^ 64) (h : ∀ (s' : Shared), Se g z ow (kk + 1) s' → Q (Value.int (a * 2 ^ Int.toNat b) kk) s') : ∀ (s : Shared), Se g z ow kk s → wpAny (model prog w) A (inplaceOp Operator.LShift (Value.int a t) (Value.int b u)) Q E s := fun s S0 => by obtain ⟨S, rfl⟩ := S0; exact ilshift_int_small h0 h1 ha (h _ ⟨S.tok _, rfl⟩)
theorem h_r_shl (hA : Around.handled A = none) (h0 : 0 ≤ b) (hsz : ↑(Builtin.Int.intBits a) + b ≤ 2 ^ 27) (h : ∀ (s' : Shared), Se g z ow (kk + 1) s' → Q (Value.int (a * 2 ^ Int.toNat b) kk) s') : ∀ (s : Shared), Se g z ow kk s → wpAny (model prog w) A (binaryOp Operator.LShift (Value.int a t) (Value.int b u)) Q E s := fun s S0 => by obtain ⟨S, rfl⟩ := S0; exact lshift_int_or hA (fun e => absurd h0 (by omega)) (fun _ => hsz) (fun _ => h _ ⟨S.tok _, rfl⟩)
theorem h_PyProof_Rows_lt_int (h : ∀ (s : Shared), Se g0 z0 ow0 kk s → Q (Value.bool (decide (a < b))) s) : ∀ (s : Shared), Se g0 z0 ow0 kk s → wpAny (model prog w) A (compareOp CmpOp.Lt (Value.int a t) (Value.int b u)) Q E s := fun s S => PyProof.Rows.lt_int (h s S)
theorem h_PyProof_Rows_gt_int (h : ∀ (s : Shared), Se g0 z0 ow0 kk s → Q (Value.bool (decide (b < a))) s) : ∀ (s : Shared), Se g0 z0 ow0 kk s → wpAny (model prog w) A (compareOp CmpOp.Gt (Value.int a t) (Value.int b u)) Q E s := fun s S => PyProof.Rows.gt_int (h s S)
theorem h_PyProof_Rows_eq_int (h : ∀ (s : Shared), Se g0 z0 ow0 kk s → Q (Value.bool (a == b)) s) : ∀ (s : Shared), Se g0 z0 ow0 kk s → wpAny (model prog w) A (compareOp CmpOp.Eq (Value.int a t) (Value.int b u)) Q E s := fun s S => PyProof.Rows.eq_int (h s S)
theorem h_PyProof_Rows_ne_int (h : ∀ (s : Shared), Se g0 z0 ow0 kk s → Q (Value.bool (a != b)) s) : ∀ (s : Shared), Se g0 z0 ow0 kk s → wpAny (model prog w) A (compareOp CmpOp.NotEq (Value.int a t) (Value.int b u)) Q E s := fun s S => PyProof.Rows.ne_int (h s S)
theorem h_PyProof_Rows_le_int (h : ∀ (s : Shared), Se g0 z0 ow0 kk s → Q (Value.bool (decide (a ≤ b))) s) : ∀ (s : Shared), Se g0 z0 ow0 kk s → wpAny (model prog w) A (compareOp CmpOp.LtE (Value.int a t) (Value.int b u)) Q E s := fun s S => PyProof.Rows.le_int (h s S)
theorem h_PyProof_Rows_ge_int (h : ∀ (s : Shared), Se g0 z0 ow0 kk s → Q (Value.bool (decide (b ≤ a))) s) : ∀ (s : Shared), Se g0 z0 ow0 kk s → wpAny (model prog w) A (compareOp CmpOp.GtE (Value.int a t) (Value.int b u)) Q E s := fun s S => PyProof.Rows.ge_int (h s S)
theorem h_PyProof_Rows_is_bool {c : Bool} {d : Bool} (h : ∀ (s : Shared), Se g0 z0 ow0 kk s → Q (Value.bool (c == d)) s) : ∀ (s : Shared), Se g0 z0 ow0 kk s → wpAny M A (compareOp CmpOp.Is (Value.bool c) (Value.bool d)) Q E s := fun s S => PyProof.Rows.is_bool (h s S)
theorem h_PyProof_Rows_isnot_bool {c : Bool} {d : Bool} (h : ∀ (s : Shared), Se g0 z0 ow0 kk s → Q (Value.bool (c != d)) s) : ∀ (s : Shared), Se g0 z0 ow0 kk s → wpAny M A (compareOp CmpOp.IsNot (Value.bool c) (Value.bool d)) Q E s := fun s S => PyProof.Rows.isnot_bool (h s S)
theorem h_tr_bool {c : Bool} {Q : Bool → Shared → Prop} (h : ∀ (s : Shared), Se g0 z0 ow0 kk s → Q c s) : ∀ (s : Shared), Se g0 z0 ow0 kk s → wpAny (model prog w) A (truthy (Value.bool c)) Q E s := fun s S => Mine.tr_bool (h s S)
theorem h_tr_int {i : Int} {Q : Bool → Shared → Prop} (h : ∀ (s : Shared), Se g0 z0 ow0 kk s → Q (i != 0) s) : ∀ (s : Shared), Se g0 z0 ow0 kk s → wpAny (model prog w) A (truthy (Value.int i t)) Q E s := fun s S => Mine.tr_int (h s S)
theorem h_isTrue_and {x : PySem.Expr} {rest : List PySem.Expr} {Q : Bool → Shared → Prop} (h : ∀ (s : Shared), Se g0 z0 ow0 kk s → wpAny M A (PySem.isTrue x env (eval x env)) (fun c s' => if c = true then wpAny M A (PySem.isTrue (Expr.BoolOp BoolOp.And rest pos) env whole) Q E s' else Q false s') E s) : ∀ (s : Shared), Se g0 z0 ow0 kk s → wpAny M A (PySem.isTrue (Expr.BoolOp BoolOp.And (x :: rest) pos) env whole) Q E s := fun s S => PyProof.Rows.isTrue_and (h s S)
theorem h_isTrue_or {x : PySem.Expr} {rest : List PySem.Expr} {Q : Bool → Shared → Prop} (h : ∀ (s : Shared), Se g0 z0 ow0 kk s → wpAny M A (PySem.isTrue x env (eval x env)) (fun c s' => if c = true then Q true s' else wpAny M A (PySem.isTrue (Expr.BoolOp BoolOp.Or rest pos) env whole) Q E s') E s) : ∀ (s : Shared), Se g0 z0 ow0 kk s → wpAny M A (PySem.isTrue (Expr.BoolOp BoolOp.Or (x :: rest) pos) env whole) Q E s := fun s S => PyProof.Rows.isTrue_or (h s S)
theorem h_isTrue_and_nil {Q : Bool → Shared → Prop} (h : ∀ (s : Shared), Se g0 z0 ow0 kk s → Q true s) : ∀ (s : Shared), Se g0 z0 ow0 kk s → wpAny M A (PySem.isTrue (Expr.BoolOp BoolOp.And [] pos) env whole) Q E s := fun s S => PyProof.Rows.isTrue_and_nil (h s S)
theorem h_isTrue_or_nil {Q : Bool → Shared → Prop} (h : ∀ (s : Shared), Se g0 z0 ow0 kk s → Q false s) : ∀ (s : Shared), Se g0 z0 ow0 kk s → wpAny M A (PySem.isTrue (Expr.BoolOp BoolOp.Or [] pos) env whole) Q E s := fun s S => PyProof.Rows.isTrue_or_nil (h s S)
theorem h_isTrue_not {x : PySem.Expr} {Q : Bool → Shared → Prop} (h : ∀ (s : Shared), Se g0 z0 ow0 kk s → wpAny M A (PySem.isTrue x env (eval x env)) (fun c s' => Q (!c) s') E s) : ∀ (s : Shared), Se g0 z0 ow0 kk s → wpAny M A (PySem.isTrue (Expr.UnaryOp UnaryOp.Not x pos) env whole) Q E s := fun s S => PyProof.Rows.isTrue_not (h s S)
theorem h_isTrue_IfExp {body : PySem.Expr} {Q : Bool → Shared → Prop} (h : ∀ (s : Shared), Se g0 z0 ow0 kk s → wpAny M A (PySem.isTrue test env (eval test env)) (fun c s₂ => if c = true then wpAny M A (PySem.isTrue body env (eval body env)) Q E s₂ else wpAny M A (PySem.isTrue orelse env (eval orelse env)) Q E s₂) E s) : ∀ (s : Shared), Se g0 z0 ow0 kk s → wpAny M A (PySem.isTrue (Expr.IfExp test body orelse pos) env whole) Q E s := fun s S => PyProof.Rows.isTrue_IfExp (h s S)
theorem h_wpAny_isTrue_Compare1 {l : PySem.Expr} {op : CmpOp} {Q : Bool → Shared → Prop} (h : ∀ (s : Shared), Se g0 z0 ow0 kk s → wpAny M A (eval l env) (fun a s₁ => wpAny M A (eval r env) (fun b s₂ => wpAny M A (compareOp op a b) (fun c s₃ => wpAny M A (truthy c) Q E s₃) E s₂) E s₁) E s) (hm : autoParam (behindInMarks op r = false) wpAny_isTrue_Compare1._auto_1) : ∀ (s : Shared), Se g0 z0 ow0 kk s → wpAny M A (PySem.isTrue (Expr.Compare l [op] [r] pos) env whole) Q E s := fun s S => PySem.wpAny_isTrue_Compare1 (h s S) hm
theorem h_isTrue_plain {Q : Bool → Shared → Prop} (h : ∀ (s : Shared), Se g0 z0 ow0 kk s → wpAny M A whole (fun v s₁ => wpAny M A (truthy v) Q E s₁) E s) (he : 
    autoParam
      (PySem.isTrue e env whole = do
        let v ← whole
        standAt (Expr.pos e)
        holding [v] (truthy v))
      isTrue_plain._auto_1
   ) : ∀ (s : Shared), Se g0 z0 ow0 kk s → wpAny M A (PySem.isTrue e env whole) Q E s := fun s S => PyProof.Rows.isTrue_plain (h s S) he
theorem h_st_loc {m' : List (Str × Option Value)} {o : Option Value} {Q : Unit → Shared → Prop} (e : EO env L nm cl) (hk : Has x NameKind.local nm) (hs : Set1 x o (some v) m m') (h : ∀ (s' : Shared), Se g z ((L, Kd.ns m') :: ow) (kk + 1) s' → Q () s') : ∀ (s : Shared), Se g z ((L, Kd.ns m) :: ow) kk s → wpAny M A (storeName env x v) Q E s := fun s S => Mine.st_locT S.1 e hk hs (fun s' S' q => h s' ⟨S', q.trans (by rw [S.2])⟩)
theorem h_st_cel {o : Option Value} {Q : Unit → Shared → Prop} (e : EO env L nm cl) (hk : Has x NameKind.cell nm) (hc : Has x c cl) (hs : Set1 c (Kd.cel o) (Kd.cel (some v)) ow ow') (h : ∀ (s' : Shared), Se g z ow' kk s' → Q () s') : ∀ (s : Shared), Se g z ow kk s → wpAny M A (storeName env x v) Q E s := fun s S => Mine.st_celT S.1 e hk hc hs (fun s' S' q => h s' ⟨S', q.trans (by rw [S.2])⟩)
theorem h_as_name {Q : Unit → Shared → Prop} (h : ∀ (s : Shared), Se g0 z0 ow0 kk s → wpAny M A (storeName env x v) Q E s) : ∀ (s : Shared), Se g0 z0 ow0 kk s → wpAny M A (assign (Expr.Name x pos) env v) Q E s := fun s S => Mine.as_name (h s S)
theorem h_as_pair {Q : Unit → Shared → Prop} {t : Addr} {q : Pos} {tp : Pos} {a : Value} {b : Value} (hA : Around.handled A = none) (ht : Has t (Kd.tup [a, b]) ow) (h : ∀ (s' : Shared), Se g z ow kk s' → wpAny (model prog w) A (storeName env x a) (fun x s₁ => wpAny (model prog w) A (storeName env y b) Q E s₁) E s') : ∀ (s : Shared), Se g z ow kk s → wpAny (model prog w) A (assign (Expr.Tuple [Expr.Name x p, Expr.Name y q] k tp) env (Value.ref t)) Q E s := fun s S => Mine.as_pairT hA S.1 ht (fun s' S' q => h s' ⟨S', q.trans (by rw [S.2])⟩)
theorem h_ld_loc (e : EO env L nm cl) (hk : Has x NameKind.local nm) (hv : Has x (some v) m) (h : ∀ (s : Shared), Se g z ((L, Kd.ns m) :: ow) kk s → Q v s) : ∀ (s : Shared), Se g z ((L, Kd.ns m) :: ow) kk s → wpAny M A (loadName env x) Q E s := fun s S => Mine.ld_loc S.1 e hk hv (h s S)
theorem h_ld_cel (e : EO env L nm cl) (hk : Has x NameKind.cell nm) (hc : Has x c cl) (hv : Has c (Kd.cel (some v)) ow) (h : ∀ (s : Shared), Se g z ow kk s → Q v s) : ∀ (s : Shared), Se g z ow kk s → wpAny M A (loadName env x) Q E s := fun s S => Mine.ld_cel S.1 e hk hc hv (h s S)
theorem h_sp_nil {Q : List Value → Shared → Prop} (h : ∀ (s : Shared), Se g0 z0 ow0 kk s → Q [] s) : ∀ (s : Shared), Se g0 z0 ow0 kk s → wpAny (model prog w) A (spliced (backTo pos (starEach [] env))) Q E s := fun s S => Mine.sp_nil (h s S)
theorem h_sp_cons {rest : List PySem.Expr} {Q : List Value → Shared → Prop} (h : ∀ (s : Shared), Se g0 z0 ow0 kk s → wpAny (model prog w) A (eval e env) (fun v s₁ => wpAny (model prog w) A (spliced (backTo pos (starEach rest env))) (fun vs s₂ => Q (v :: vs) s₂) E s₁) E s) (he : autoParam (starEach (e :: rest) env = (false, eval e env) :: starEach rest env) sp_cons._auto_1) : ∀ (s : Shared), Se g0 z0 ow0 kk s → wpAny (model prog w) A (spliced (backTo pos (starEach (e :: rest) env))) Q E s := fun s S => Mine.sp_cons (h s S) he
theorem h_mk_list (hl : List.length vs ≤ sizeLine) (h : ∀ (a : Addr) (s' : Shared), Se g z (fr :: (a, Kd.lst vs) :: ow) kk s' → Q (Value.ref a) s') : ∀ (s : Shared), Se g z (fr :: ow) kk s → MkL vs Q s := fun s S => Mine.mk_listT S.1 hl (fun a0 s' S' q => h a0 s' ⟨S', q.trans (by rw [S.2])⟩)
theorem h_sw_pair {K : Shared → Prop} {t : Addr} {a : Value} {b : Value} (hA : Around.handled A = none) (ht : Has t (Kd.tup [a, b]) ow) (h : ∀ (s' : Shared), Se g z ow kk s' → wpAny (model prog w) A (storeName env y b) (fun x_2 s₁ => wpAny (model prog w) A (storeName env x a) (fun x s => K s) E s₁) E s') : ∀ (s : Shared), Se g z ow kk s → SwapK prog w A env x y K E (Value.ref t) s := fun s S => Mine.sw_pairT hA S.1 ht (fun s' S' q => h s' ⟨S', q.trans (by rw [S.2])⟩)
theorem h_mk_tup (hl : List.length vs ≤ sizeLine) (h : ∀ (a : Addr) (s' : Shared), Se g z (fr :: (a, Kd.tup vs) :: ow) kk s' → Q (Value.ref a) s') : ∀ (s : Shared), Se g z (fr :: ow) kk s → MkT vs Q s := fun s S => Mine.mk_tupT S.1 hl (fun a0 s' S' q => h a0 s' ⟨S', q.trans (by rw [S.2])⟩)
theorem h_ep_none (h : ∀ (s : Shared), Se g0 z0 ow0 kk s → Q Value.none s) : ∀ (s : Shared), Se g0 z0 ow0 kk s → wpAny (model prog w) A (evalPart none env) Q E s := fun s S => Mine.ep_none (h s S)
theorem h_ep_some (h : ∀ (s : Shared), Se g0 z0 ow0 kk s → wpAny (model prog w) A (eval e env) Q E s) : ∀ (s : Shared), Se g0 z0 ow0 kk s → wpAny (model prog w) A (evalPart (some e) env) Q E s := fun s S => Mine.ep_some (h s S)
theorem h_forR_ok {Q : Flow → Shared → Prop} {f : Flow} (h : ∀ (s : Shared), Se g0 z0 ow0 kk s → Q f s) : ∀ (s : Shared), Se g0 z0 ow0 kk s → ForR prog w A env Q E (Except.ok f) s := fun s S => Mine.forR_ok (h s S)
theorem h_forF_next {it : Value} (h : ∀ (s : Shared), Se g0 z0 ow0 kk s → codeAny (model prog w) A (Code.forLoop target it body [] env) R s) : ∀ (s : Shared), Se g0 z0 ow0 kk s → ForF prog w A env target it body R Flow.next s := fun s S => Mine.forF_next (h s S)
theorem h_whF_next (h : ∀ (s : Shared), Se g0 z0 ow0 kk s → codeAny (model prog w) A (Code.whileLoop test body [] env) R s) : ∀ (s : Shared), Se g0 z0 ow0 kk s → WhF prog w A env test body R Flow.next s := fun s S => Mine.whF_next (h s S)
theorem h_wpAny_deleteEach_cons {t : PySem.Expr} {rest : List PySem.Expr} {Q : Unit → Shared → Prop} (h : ∀ (s : Shared), Se g0 z0 ow0 kk s → wpAny M A (delete t env) (fun x s₁ => wpAny M A (deleteEach rest env) Q E s₁) E s) : ∀ (s : Shared), Se g0 z0 ow0 kk s → wpAny M A (deleteEach (t :: rest) env) Q E s := fun s S => PySem.wpAny_deleteEach_cons (h s S)
theorem h_wpAny_deleteEach_nil {Q : Unit → Shared → Prop} (h : ∀ (s : Shared), Se g0 z0 ow0 kk s → Q () s) : ∀ (s : Shared), Se g0 z0 ow0 kk s → wpAny M A (deleteEach [] env) Q E s := fun s S => PySem.wpAny_deleteEach_nil (h s S)
theorem h_wpAny_delete_Subscript {Q : Unit → Shared → Prop} (h : ∀ (s : Shared), Se g0 z0 ow0 kk s → wpAny M A (eval o env) (fun ov s₁ => wpAny M A (eval i env) (fun iv s₂ => wpAny M A (delItem ov iv) Q E s₂) E s₁) E s) : ∀ (s : Shared), Se g0 z0 ow0 kk s → wpAny M A (delete (Expr.Subscript o i pos) env) Q E s := fun s S => PySem.wpAny_delete_Subscript (h s S)
theorem h_del_first {Q : Unit → Shared → Prop} (hl : Set1 l (Kd.lst xs) (Kd.lst (List.tail xs)) ow ow') (h0 : 0 < List.length xs) (hf : List.length xs ≤ 1000) (h : ∀ (k' : Nat) (s' : Shared), Se g z ow' k' s' → Q () s') : ∀ (s : Shared), Se g z ow kk s → wpAny (model prog w) A (delItem (Value.ref l) (Value.int 0 t)) Q E s := fun s S => Mine.del_first S.1 hl h0 hf (fun s' S' => h _ s' ⟨S', rfl⟩)
theorem h_del_last {Q : Unit → Shared → Prop} (hl : Set1 l (Kd.lst xs) (Kd.lst (List.dropLast xs)) ow ow') (h0 : 0 < List.length xs) (hf : List.length xs ≤ 1000) (h : ∀ (k' : Nat) (s' : Shared), Se g z ow' k' s' → Q () s') : ∀ (s : Shared), Se g z ow kk s → wpAny (model prog w) A (delItem (Value.ref l) (Value.int (-1) t)) Q E s := fun s S => Mine.del_last S.1 hl h0 hf (fun s' S' => h _ s' ⟨S', rfl⟩)
theorem h_sub_last (hl : Has l (Kd.lst xs) ow) (h0 : 0 < List.length xs) (hf : List.length xs ≤ 1000) (hx : xs[List.length xs - 1]? = some v) (h : ∀ (s : Shared), Se g z ow kk s → Q v s) (hs : subscripted slice false (Value.ref l) (Value.int (-1) t) = operate [Value.ref l, Value.int (-1) t] (getItem (Value.ref l) (Value.int (-1) t))) (hg : ∀ (r : Value), letTemporaryGo value (Value.ref l) r = pure ()) : ∀ (s : Shared), Se g z ow kk s → wpAny (model prog w) A (subscriptTail value slice (Value.ref l) (Value.int (-1) t)) Q E s := fun s S => Mine.sub_last S.1 hl h0 hf hx (h s S) hs hg
theorem h_ifP_next {Q : Flow → Shared → Prop} (h : ∀ (s : Shared), Se g0 z0 ow0 kk s → P s) : ∀ (s : Shared), Se g0 z0 ow0 kk s → IfP P Q Flow.next s := fun s S => Mine.ifP_next (h s S)
theorem h_ifP_ret {Q : Flow → Shared → Prop} (h : ∀ (s : Shared), Se g0 z0 ow0 kk s → Q (Flow.ret v) s) : ∀ (s : Shared), Se g0 z0 ow0 kk s → IfP P Q (Flow.ret v) s := fun s S => Mine.ifP_ret (h s S)
theorem h_then_next {Q : Flow → Shared → Prop} (h : ∀ (s : Shared), Se g0 z0 ow0 kk s → wpAny M A (execs rest env) Q E s) : ∀ (s : Shared), Se g0 z0 ow0 kk s → Then M A env rest Q E Flow.next s := fun s S => Mine.then_next (h s S)
theorem h_then_ret {Q : Flow → Shared → Prop} (h : ∀ (s : Shared), Se g0 z0 ow0 kk s → Q (Flow.ret v) s) : ∀ (s : Shared), Se g0 z0 ow0 kk s → Then M A env rest Q E (Flow.ret v) s := fun s S => Mine.then_ret (h s S)
theorem h_c_def0 {rest : List PySem.Expr} (G : Gd K g) (hk : keepIn K (Value.ref f) = true) (h : ∀ (s : Shared), Se g z ow kk s → wpAny (model prog w) A (spliced (backTo pos (starEach (e :: rest) env))) (fun vs s₁ => Frag.In K (Shared.heap s₁) ∧ wpAny (model prog w) A (call (Value.ref f) vs) Q E s₁) E s) (he : starEach (e :: rest) env = (false, eval e env) :: starEach rest env) (hplain : (List.any (backTo pos (starEach rest env)) fun x => Prod.fst x) = false) : ∀ (s : Shared), Se g z ow kk s → wpAny (model prog w) A (callWith pos (Value.ref f) [] (backTo pos (starEach (e :: rest) env)) []) Q E s := fun s S => Mine.c_def0 G S.1 hk (h s S) he hplain
theorem h_c_fnG {rest : List PySem.Expr} (hf : Heap.get? g f = some (Obj.mk oc od (Data.func fd) sl)) (h : ∀ (s : Shared), Se g z ow kk s → wpAny (model prog w) A (spliced (backTo pos (starEach (e :: rest) env))) (fun vs s₁ => FnAt f (Shared.heap s₁) ∧ wpAny (model prog w) A (call (Value.ref f) vs) Q E s₁) E s) (he : starEach (e :: rest) env = (false, eval e env) :: starEach rest env) (hplain : (List.any (backTo pos (starEach rest env)) fun x => Prod.fst x) = false) : ∀ (s : Shared), Se g z ow kk s → wpAny (model prog w) A (callWith pos (Value.ref f) [] (backTo pos (starEach (e :: rest) env)) []) Q E s := fun s S => Mine.c_fnG S.1 hf (h s S) he hplain
theorem h_c_fnO {rest : List PySem.Expr} (hf : Has f (Kd.raw (Obj.mk oc od (Data.func fd) sl)) ow) (h : ∀ (s : Shared), Se g z ow kk s → wpAny (model prog w) A (spliced (backTo pos (starEach (e :: rest) env))) (fun vs s₁ => FnAt f (Shared.heap s₁) ∧ wpAny (model prog w) A (call (Value.ref f) vs) Q E s₁) E s) (he : starEach (e :: rest) env = (false, eval e env) :: starEach rest env) (hplain : (List.any (backTo pos (starEach rest env)) fun x => Prod.fst x) = false) : ∀ (s : Shared), Se g z ow kk s → wpAny (model prog w) A (callWith pos (Value.ref f) [] (backTo pos (starEach (e :: rest) env)) []) Q E s := fun s S => Mine.c_fnO S.1 hf (h s S) he hplain
theorem h_c_bltn {rest : List PySem.Expr} (h : ∀ (s : Shared), Se g0 z0 ow0 kk s → wpAny (model prog w) A (spliced (backTo pos (starEach (e :: rest) env))) (fun vs s₁ => wpAny (model prog w) A (call (Value.builtin id) vs) Q E s₁) E s) (he : autoParam (starEach (e :: rest) env = (false, eval e env) :: starEach rest env) c_bltn._auto_1) (hplain : autoParam ((List.any (backTo pos (starEach rest env)) fun x => Prod.fst x) = false) c_bltn._auto_2) : ∀ (s : Shared), Se g0 z0 ow0 kk s → wpAny (model prog w) A (callWith pos (Value.builtin id) [] (backTo pos (starEach (e :: rest) env)) []) Q E s := fun s S => Mine.c_bltn (h s S) he hplain
theorem h_c_type {rest : List PySem.Expr} (h : ∀ (s : Shared), Se g0 z0 ow0 kk s → wpAny (model prog w) A (spliced (backTo pos (starEach (e :: rest) env))) (fun vs s₁ => wpAny (model prog w) A (call (Value.type T) vs) Q E s₁) E s) (he : autoParam (starEach (e :: rest) env = (false, eval e env) :: starEach rest env) c_type._auto_1) (hplain : autoParam ((List.any (backTo pos (starEach rest env)) fun x => Prod.fst x) = false) c_type._auto_2) : ∀ (s : Shared), Se g0 z0 ow0 kk s → wpAny (model prog w) A (callWith pos (Value.type T) [] (backTo pos (starEach (e :: rest) env)) []) Q E s := fun s S => Mine.c_type (h s S) he hplain
theorem h_c_m1 {a : Value} {rest : List PySem.Expr} (h : ∀ (s : Shared), Se g0 z0 ow0 kk s → wpAny (model prog w) A (spliced (backTo pos (starEach (e :: rest) env))) (fun vs s₁ => wpAny (model prog w) A (call (Value.builtin id) (a :: vs)) Q E s₁) E s) (he : starEach (e :: rest) env = (false, eval e env) :: starEach rest env) (hplain : (List.any (backTo pos (starEach rest env)) fun x => Prod.fst x) = false) : ∀ (s : Shared), Se g0 z0 ow0 kk s → wpAny (model prog w) A (callWith pos (Value.builtin id) [a] (backTo pos (starEach (e :: rest) env)) []) Q E s := fun s S => Mine.c_m1 (h s S) he hplain
theorem h_c_m0 {a : Value} (h : ∀ (s : Shared), Se g0 z0 ow0 kk s → wpAny (model prog w) A (call (Value.builtin id) [a]) Q E s) : ∀ (s : Shared), Se g0 z0 ow0 kk s → wpAny (model prog w) A (callWith pos (Value.builtin id) [a] (backTo pos (starEach [] env)) []) Q E s := fun s S => Mine.c_m0 (h s S)
theorem h_gm_append {Q : Value × List Value → Shared → Prop} (hl : Has l (Kd.lst xs) ow) (h : ∀ (s : Shared), Se g z ow kk s → Q (Value.builtin "list.append", [Value.ref l]) s) : ∀ (s : Shared), Se g z ow kk s → wpAny (model prog w) A (getMethod (Value.ref l) (Str.ofString "append") pl) Q E s := fun s S => Mine.gm_append S.1 hl (h s S)
theorem h_gm_reverse {Q : Value × List Value → Shared → Prop} (hl : Has l (Kd.lst xs) ow) (h : ∀ (s : Shared), Se g z ow kk s → Q (Value.builtin "list.reverse", [Value.ref l]) s) : ∀ (s : Shared), Se g z ow kk s → wpAny (model prog w) A (getMethod (Value.ref l) (Str.ofString "reverse") pl) Q E s := fun s S => Mine.gm_reverse S.1 hl (h s S)
theorem h_gm_bits {Q : Value × List Value → Shared → Prop} (h : ∀ (s : Shared), Se g0 z0 ow0 kk s → Q (Value.builtin "int.bit_length", [Value.int a t]) s) : ∀ (s : Shared), Se g0 z0 ow0 kk s → wpAny (model prog w) A (getMethod (Value.int a t) (Str.ofString "bit_length") pl) Q E s := fun s S => Mine.gm_bits (h s S)
theorem h_PySem_GM_upper {Q : Value × List Value → Shared → Prop} (h : ∀ (s : Shared), Se g0 z0 ow0 kk s → Q (Value.builtin "str.upper", [Value.str x t]) s) : ∀ (s : Shared), Se g0 z0 ow0 kk s → wpAny M A (getMethod (Value.str x t) (Str.ofString "upper") pl) Q E s := fun s S => by with_reducible exact PySem.GM.upper (h s S)
theorem h_PySem_GM_lower {Q : Value × List Value → Shared → Prop} (h : ∀ (s : Shared), Se g0 z0 ow0 kk s → Q (Value.builtin "str.lower", [Value.str x t]) s) : ∀ (s : Shared), Se g0 z0 ow0 kk s → wpAny M A (getMethod (Value.str x t) (Str.ofString "lower") pl) Q E s := fun s S => by with_reducible exact PySem.GM.lower (h s S)
theorem h_PySem_GM_join {Q : Value × List Value → Shared → Prop} (h : ∀ (s : Shared), Se g0 z0 ow0 kk s → Q (Value.builtin "str.join", [Value.str x t]) s) : ∀ (s : Shared), Se g0 z0 ow0 kk s → wpAny M A (getMethod (Value.str x t) (Str.ofString "join") pl) Q E s := fun s S => by with_reducible exact PySem.GM.join (h s S)
theorem h_PySem_GM_split {Q : Value × List Value → Shared → Prop} (h : ∀ (s : Shared), Se g0 z0 ow0 kk s → Q (Value.builtin "str.split", [Value.str x t]) s) : ∀ (s : Shared), Se g0 z0 ow0 kk s → wpAny M A (getMethod (Value.str x t) (Str.ofString "split") pl) Q E s := fun s S => by with_reducible exact PySem.GM.split (h s S)
theorem h_PySem_GM_find {Q : Value × List Value → Shared → Prop} (h : ∀ (s : Shared), Se g0 z0 ow0 kk s → Q (Value.builtin "str.find", [Value.str x t]) s) : ∀ (s : Shared), Se g0 z0 ow0 kk s → wpAny M A (getMethod (Value.str x t) (Str.ofString "find") pl) Q E s := fun s S => by with_reducible exact PySem.GM.find (h s S)
theorem h_PySem_GM_startswith {Q : Value × List Value → Shared → Prop} (h : ∀ (s : Shared), Se g0 z0 ow0 kk s → Q (Value.builtin "str.startswith", [Value.str x t]) s) : ∀ (s : Shared), Se g0 z0 ow0 kk s → wpAny M A (getMethod (Value.str x t) (Str.ofString "startswith") pl) Q E s := fun s S => by with_reducible exact PySem.GM.startswith (h s S)
theorem h_PySem_GM_endswith {Q : Value × List Value → Shared → Prop} (h : ∀ (s : Shared), Se g0 z0 ow0 kk s → Q (Value.builtin "str.endswith", [Value.str x t]) s) : ∀ (s : Shared), Se g0 z0 ow0 kk s → wpAny M A (getMethod (Value.str x t) (Str.ofString "endswith") pl) Q E s := fun s S => by with_reducible exact PySem.GM.endswith (h s S)
theorem h_o_mulList {k : Int} (hl : Has l (Kd.lst [v]) ow) (hlo : 0 ≤ k) (hhi : k ≤ 1000) (h : ∀ (k' : Nat) (a : Addr) (s' : Shared), Se g z (fr :: (a, Kd.lst (List.replicate (Int.toNat k) v)) :: ow) k' s' → Q (Value.ref a) s') : ∀ (s : Shared), Se g z (fr :: ow) kk s → wpAny (model prog w) A (binaryOp Operator.Mult (Value.ref l) (Value.int k u)) Q E s := fun s S => Mine.o_mulList S.1 hl hlo hhi (fun a0 s' S' => h _ a0 s' ⟨S', rfl⟩)
theorem h_o_addList {b : Addr} {ys : List Value} (hl : Has l (Kd.lst xs) ow) (hb : Has b (Kd.lst ys) ow) (hsz : List.length xs + List.length ys ≤ 1000) (h : ∀ (k' : Nat) (a : Addr) (s' : Shared), Se g z (fr :: (a, Kd.lst (xs ++ ys)) :: ow) k' s' → Q (Value.ref a) s') : ∀ (s : Shared), Se g z (fr :: ow) kk s → wpAny (model prog w) A (binaryOp Operator.Add (Value.ref l) (Value.ref b)) Q E s := fun s S => Mine.o_addList S.1 hl hb hsz (fun a0 s' S' => h _ a0 s' ⟨S', rfl⟩)
theorem h_s_add (hx : Str.length x + Str.length y ≤ 1000) (h : ∀ (k' : Nat) (t : Tok) (s' : Shared), Se g z ow k' s' → Q (Value.str (x ++ y) t) s') : ∀ (s : Shared), Se g z ow kk s → wpAny (model prog w) A (binaryOp Operator.Add (Value.str x t) (Value.str y u)) Q E s := fun s S => Mine.s_add S.1 hx (fun a0 s' S' => h _ a0 s' ⟨S', rfl⟩)
theorem h_s_eq (h : ∀ (s : Shared), Se g0 z0 ow0 kk s → Q (Value.bool (Array.toList (Str.cps x) == Array.toList (Str.cps y))) s) : ∀ (s : Shared), Se g0 z0 ow0 kk s → wpAny (model prog w) A (compareOp CmpOp.Eq (Value.str x t) (Value.str y u)) Q E s := fun s S => Mine.s_eq (h s S)
theorem h_s_ne (h : ∀ (s : Shared), Se g0 z0 ow0 kk s → Q (Value.bool (Array.toList (Str.cps x) != Array.toList (Str.cps y))) s) : ∀ (s : Shared), Se g0 z0 ow0 kk s → wpAny (model prog w) A (compareOp CmpOp.NotEq (Value.str x t) (Value.str y u)) Q E s := fun s S => Mine.s_ne (h s S)
theorem h_s_notin (h : ∀ (s : Shared), Se g0 z0 ow0 kk s → Q (Value.bool !Txt.contains x y) s) : ∀ (s : Shared), Se g0 z0 ow0 kk s → wpAny (model prog w) A (compareOp CmpOp.NotIn (Value.str y u) (Value.str x t)) Q E s := fun s S => Mine.s_notin (h s S)
theorem h_bi_reversed (hl : ∀ (s : Shared), Se g z (fr :: ow) kk s → Heap.IsList (Shared.heap s) l (List.toArray xs)) (h : ∀ (k' : Nat) (I : Addr) (s' : Shared), Se g z (fr :: (I, Kd.rvi l (↑(List.length xs) - 1)) :: ow) k' s' → Q (Value.ref I) s') : ∀ (s : Shared), Se g z (fr :: ow) kk s → wpAny (model prog w) A (call (Value.type "reversed") [Value.ref l]) Q E s := fun s S => Mine.bi_reversed S.1 (hl s S) (fun a0 s' S' => h _ a0 s' ⟨S', rfl⟩)
theorem h_bi_bits (h : ∀ (s' : Shared), Se g z ow (kk + 1) s' → Q (Value.int (↑(Builtin.Int.intBits a)) kk) s') : ∀ (s : Shared), Se g z ow kk s → wpAny (model prog w) A (call (Value.builtin "int.bit_length") [Value.int a t]) Q E s := fun s S0 => by obtain ⟨S, rfl⟩ := S0; exact call_int_bit_length (h _ ⟨S.tok _, rfl⟩)
theorem h_bi_reverse (hl : Set1 l (Kd.lst xs) (Kd.lst (List.reverse xs)) ow ow') (hsz : List.length xs ≤ 1000) (h : ∀ (k' : Nat) (s' : Shared), Se g z ow' k' s' → Q Value.none s') : ∀ (s : Shared), Se g z ow kk s → wpAny (model prog w) A (call (Value.builtin "list.reverse") [Value.ref l]) Q E s := fun s S => Mine.bi_reverse S.1 hl hsz (fun s' S' => h _ s' ⟨S', rfl⟩)
theorem h_bi_append (hl : Set1 l (Kd.lst xs) (Kd.lst (xs ++ [v])) ow ow') (hsz : List.length xs ≤ 1000) (h : ∀ (k' : Nat) (s' : Shared), Se g z ow' k' s' → Q Value.none s') : ∀ (s : Shared), Se g z ow kk s → wpAny (model prog w) A (call (Value.builtin "list.append") [Value.ref l, v]) Q E s := fun s S => Mine.bi_append S.1 hl hsz (fun s' S' => h _ s' ⟨S', rfl⟩)
theorem h_bi_lenL (hl : Has l (Kd.lst xs) ow) (hf : List.length xs ≤ 1000) (h : ∀ (k' : Nat) (t : Tok) (s' : Shared), Se g z ow k' s' → Q (Value.int (↑(List.length xs)) t) s') : ∀ (s : Shared), Se g z ow kk s → wpAny (model prog w) A (call (Value.builtin "len") [Value.ref l]) Q E s := fun s S => Mine.bi_lenL S.1 hl hf (fun a0 s' S' => h _ a0 s' ⟨S', rfl⟩)
theorem h_s_upper (hx : Str.length (Txt.upper x) ≤ 1000) (h : ∀ (s' : Shared), Se g z ow (kk + 1) s' → Q (Value.str (Txt.upper x) kk) s') : ∀ (s : Shared), Se g z ow kk s → wpAny (model prog w) A (call (Value.builtin "str.upper") [Value.str x t]) Q E s := fun s S0 => by obtain ⟨S, rfl⟩ := S0; exact SC.upper (fitL hx) (h _ ⟨S.tok _, rfl⟩)
theorem h_s_lower (hx : Str.length (Txt.lower x) ≤ 1000) (h : ∀ (s' : Shared), Se g z ow (kk + 1) s' → Q (Value.str (Txt.lower x) kk) s') : ∀ (s : Shared), Se g z ow kk s → wpAny (model prog w) A (call (Value.builtin "str.lower") [Value.str x t]) Q E s := fun s S0 => by obtain ⟨S, rfl⟩ := S0; exact SC.lower (fitL hx) (h _ ⟨S.tok _, rfl⟩)
theorem h_s_starts (h : ∀ (s : Shared), Se g0 z0 ow0 kk s → Q (Value.bool (Txt.startswith x y)) s) : ∀ (s : Shared), Se g0 z0 ow0 kk s → wpAny (model prog w) A (call (Value.builtin "str.startswith") [Value.str x t, Value.str y u]) Q E s := fun s S => Mine.s_starts (h s S)
theorem h_s_ends (h : ∀ (s : Shared), Se g0 z0 ow0 kk s → Q (Value.bool (Txt.endswith x y)) s) : ∀ (s : Shared), Se g0 z0 ow0 kk s → wpAny (model prog w) A (call (Value.builtin "str.endswith") [Value.str x t, Value.str y u]) Q E s := fun s S => Mine.s_ends (h s S)
theorem h_s_len (hx : Str.length x ≤ 1000) (h : ∀ (k' : Nat) (t : Tok) (s' : Shared), Se g z ow k' s' → Q (Value.int (↑(Str.length x)) t) s') : ∀ (s : Shared), Se g z ow kk s → wpAny (model prog w) A (call (Value.builtin "len") [Value.str x t]) Q E s := fun s S => Mine.s_len S.1 hx (fun a0 s' S' => h _ a0 s' ⟨S', rfl⟩)
theorem h_s_find4 {i : Int} {v1 : Tok} {v2 : Tok} (h : ∀ (s' : Shared), Se g z ow (kk + 1) s' → Q (Value.int (find4 x y i j) kk) s') : ∀ (s : Shared), Se g z ow kk s → wpAny (model prog w) A (call (Value.builtin "str.find") [Value.str x t, Value.str y u, Value.int i v1, Value.int j v2]) Q E s := fun s S0 => by obtain ⟨S, rfl⟩ := S0; exact call_gives F.slot_str_find (typeIs_str _ _ _) F.entry_str_find (F.args_str_find_4 _ _ _ _) gives_find4 (h _ ⟨S.tok _, rfl⟩)
theorem h_b_trL {Q : Bool → Shared → Prop} (hl : Has l (Kd.lst xs) ow) (hf : List.length xs ≤ 1000) (h : ∀ (k' : Nat) (s' : Shared), Se g z ow k' s' → Q (!List.isEmpty xs) s') : ∀ (s : Shared), Se g z ow kk s → wpAny (model prog w) A (truthy (Value.ref l)) Q E s := fun s S => Mine.b_trL S.1 hl hf (fun s' S' => h _ s' ⟨S', rfl⟩)
theorem h_s_joinStr (hA : Around.handled A = none) (hx : Str.length x ≤ 100) (hy : Str.length y ≤ 100) (h : ∀ (k' : Nat) (t : Tok) (s' : Shared), Se g z ow k' s' → Q (Value.str (Txt.join x (signs y)) t) s') : ∀ (s : Shared), Se g z ow kk s → wpAny (model prog w) A (call (Value.builtin "str.join") [Value.str x t, Value.str y u]) Q E s := fun s S => Mine.s_joinStr hA S.1 hx hy (fun a0 s' S' => h _ a0 s' ⟨S', rfl⟩)
theorem h_r_sliceS {lower : Option PySem.Expr} {upper : Option PySem.Expr} (h : ∀ (s : Shared), Se g0 z0 ow0 kk s → wpAny (model prog w) A (eval value env) (fun o s₁ => wpAny (model prog w) A (evalPart lower env) (fun vl s₂ => wpAny (model prog w) A (evalPart upper env) (fun vu s₃ => SlS o vl vu Q s₃) E s₂) E s₁) E s) (ht : ∀ (o r : Value), letTemporaryGo value o r = pure ()) : ∀ (s : Shared), Se g0 z0 ow0 kk s → wpAny (model prog w) A (eval (Expr.Subscript value (Expr.Slice lower upper none p) pos) env) Q E s := fun s S => Mine.r_sliceS (h s S) ht
theorem h_mk_slU {k : Int} (hx : Str.length x ≤ 1000) (hc : Str.length (cutI x none (some k)) ≤ 1000) (h : ∀ (k' : Nat) (t : Tok) (s' : Shared), Se g z ow k' s' → Q (Value.str (cutI x none (some k)) t) s') : ∀ (s : Shared), Se g z ow kk s → SlS (Value.str x t) Value.none (Value.int k u) Q s := fun s S => Mine.mk_slU S.1 hx hc (fun a0 s' S' => h _ a0 s' ⟨S', rfl⟩)
theorem h_mk_slF {k : Int} (hx : Str.length x ≤ 1000) (hc : Str.length (cutI x (some k) none) ≤ 1000) (h : ∀ (k' : Nat) (t : Tok) (s' : Shared), Se g z ow k' s' → Q (Value.str (cutI x (some k) none) t) s') : ∀ (s : Shared), Se g z ow kk s → SlS (Value.str x t) (Value.int k u) Value.none Q s := fun s S => Mine.mk_slF S.1 hx hc (fun a0 s' S' => h _ a0 s' ⟨S', rfl⟩)
theorem h_c_eqNil {b : Addr} (hu : Around.units A < cLine) (hl : Has l (Kd.lst []) ow) (hb : Has b (Kd.lst []) ow) (h : ∀ (s : Shared), Se g z ow kk s → Q (Value.bool true) s) : ∀ (s : Shared), Se g z ow kk s → wpAny (model prog w) A (compareOp CmpOp.Eq (Value.ref l) (Value.ref b)) Q E s := fun s S => Mine.c_eqNil S.1 hu hl hb (h s S)
theorem h_s_truthy {Q : Bool → Shared → Prop} (hx : Str.length x ≤ 1000) (h : ∀ (k' : Nat) (s' : Shared), Se g z ow k' s' → Q ((Str.length x : Int) != 0) s') : ∀ (s : Shared), Se g z ow kk s → wpAny (model prog w) A (truthy (Value.str x t)) Q E s := fun s S => Mine.s_truthy S.1 hx (fun s' S' => h _ s' ⟨S', rfl⟩)
theorem h_bi_divmod (hb : b ≠ 0) (hs : Int.natAbs b < 2 ^ 64) (h : ∀ (k' : Nat) (T : Addr) (t1 t2 : Tok) (s' : Shared), Se g z (fr :: (T, Kd.tup [Value.int (Int.fdiv a b) t1, Value.int (Int.fmod a b) t2]) :: ow) k' s' → Q (Value.ref T) s') : ∀ (s : Shared), Se g z (fr :: ow) kk s → wpAny (model prog w) A (call (Value.builtin "divmod") [Value.int a t, Value.int b u]) Q E s := fun s S => Mine.bi_divmod S.1 hb hs (fun a0 a1 a2 s' S' => h _ a0 a1 a2 s' ⟨S', rfl⟩)
theorem h_bi_range (h : ∀ (k' : Nat) (r : Addr) (s' : Shared), Se g z (fr :: (r, Kd.rng 0 a 1) :: ow) k' s' → Q (Value.ref r) s') : ∀ (s : Shared), Se g z (fr :: ow) kk s → wpAny (model prog w) A (call (Value.type "range") [Value.int a t]) Q E s := fun s S => Mine.bi_range S.1 (fun a0 s' S' => h _ a0 s' ⟨S', rfl⟩)
theorem h_it_zip {Z : Addr} {TI : Addr} {TO : Addr} (hz : Has Z (Kd.raw (zipO TI TO Value.none)) ow) (h : ∀ (s : Shared), Se g z ow kk s → Q (Value.ref Z) s) : ∀ (s : Shared), Se g z ow kk s → wpAny (model prog w) A (pyIter (Value.ref Z)) Q E s := fun s S => Mine.it_zip S.1 hz (h s S)
theorem h_mk_enumS (ha : strIterType x = "str_ascii_iterator") (h : ∀ (k' : Nat) (e it : Addr) (s' : Shared), Se g z (fr :: (e, Kd.enm it 0) :: (it, Kd.sit x t 0) :: ow) k' s' → Q (Value.ref e) s') : ∀ (s : Shared), Se g z (fr :: ow) kk s → wpAny (model prog w) A (call (Value.type "enumerate") [Value.str x t]) Q E s := fun s S => Mine.mk_enumS S.1 ha (fun a0 a1 s' S' => h _ a0 a1 s' ⟨S', rfl⟩)
theorem h_mk_enum (hl : ∀ (s : Shared), Se g z (fr :: ow) kk s → Heap.IsList (Shared.heap s) l (List.toArray xs)) (h : ∀ (k' : Nat) (e it : Addr) (s' : Shared), Se g z (fr :: (e, Kd.enm it 0) :: (it, Kd.lit l 0) :: ow) k' s' → Q (Value.ref e) s') : ∀ (s : Shared), Se g z (fr :: ow) kk s → wpAny (model prog w) A (call (Value.type "enumerate") [Value.ref l]) Q E s := fun s S => Mine.mk_enum S.1 (hl s S) (fun a0 a1 s' S' => h _ a0 a1 s' ⟨S', rfl⟩)
theorem h_it_rvi {I : Addr} (hI : Has I (Kd.rvi l j) ow) (h : ∀ (s : Shared), Se g z ow kk s → Q (Value.ref I) s) : ∀ (s : Shared), Se g z ow kk s → wpAny (model prog w) A (pyIter (Value.ref I)) Q E s := fun s S => Mine.it_rvi S.1 hI (h s S)
theorem h_it_enum {e : Addr} {it : Addr} {i : Nat} (he : Has e (Kd.enm it i) ow) (h : ∀ (s : Shared), Se g z ow kk s → Q (Value.ref e) s) : ∀ (s : Shared), Se g z ow kk s → wpAny (model prog w) A (pyIter (Value.ref e)) Q E s := fun s S => Mine.it_enum S.1 he (h s S)
theorem h_it_list (hl : ∀ (s : Shared), Se g z (fr :: ow) kk s → Heap.IsList (Shared.heap s) l (List.toArray xs)) (h : ∀ (k' : Nat) (I : Addr) (s' : Shared), Se g z (fr :: (I, Kd.lit l 0) :: ow) k' s' → Q (Value.ref I) s') : ∀ (s : Shared), Se g z (fr :: ow) kk s → wpAny (model prog w) A (pyIter (Value.ref l)) Q E s := fun s S => Mine.it_list S.1 (hl s S) (fun a0 s' S' => h _ a0 s' ⟨S', rfl⟩)
theorem h_bi_typeS (h : ∀ (s : Shared), Se g0 z0 ow0 kk s → Q (Value.type "str") s) : ∀ (s : Shared), Se g0 z0 ow0 kk s → wpAny (model prog w) A (call (Value.type "type") [Value.str x t]) Q E s := fun s S => Mine.bi_typeS (h s S)
theorem h_bi_typeL (hl : Has l (Kd.lst xs) ow) (h : ∀ (s : Shared), Se g z ow kk s → Q (Value.type "list") s) : ∀ (s : Shared), Se g z ow kk s → wpAny (model prog w) A (call (Value.type "type") [Value.ref l]) Q E s := fun s S => Mine.bi_typeL S.1 hl (h s S)
theorem h_is_typ (h : ∀ (s : Shared), Se g0 z0 ow0 kk s → Q (Value.bool true) s) : ∀ (s : Shared), Se g0 z0 ow0 kk s → wpAny (model prog w) A (compareOp CmpOp.Is (Value.type T) (Value.type T)) Q E s := fun s S => Mine.is_typ (h s S)
theorem h_isnot_typ (h : ∀ (s : Shared), Se g0 z0 ow0 kk s → Q (Value.bool false) s) : ∀ (s : Shared), Se g0 z0 ow0 kk s → wpAny (model prog w) A (compareOp CmpOp.IsNot (Value.type T) (Value.type T)) Q E s := fun s S => Mine.isnot_typ (h s S)
theorem h_isnot_refN {a : Addr} (h : ∀ (s : Shared), Se g0 z0 ow0 kk s → Q (Value.bool true) s) : ∀ (s : Shared), Se g0 z0 ow0 kk s → wpAny (model prog w) A (compareOp CmpOp.IsNot (Value.ref a) Value.none) Q E s := fun s S => Mine.isnot_refN (h s S)
theorem h_isnot_strN (h : ∀ (s : Shared), Se g0 z0 ow0 kk s → Q (Value.bool true) s) : ∀ (s : Shared), Se g0 z0 ow0 kk s → wpAny (model prog w) A (compareOp CmpOp.IsNot (Value.str x t) Value.none) Q E s := fun s S => Mine.isnot_strN (h s S)
theorem h_tr_none {R : Bool → Shared → Prop} (h : ∀ (s : Shared), Se g0 z0 ow0 kk s → R false s) : ∀ (s : Shared), Se g0 z0 ow0 kk s → wpAny (model prog w) A (truthy Value.none) R E s := fun s S => Mine.tr_none (h s S)
theorem h_r_attr {xp : Pos} (h : ∀ (s : Shared), Se g0 z0 ow0 kk s → wpAny (model prog w) A (eval (Expr.Name x xp) env) (fun o s₁ => wpAny (model prog w) A (getAttr o attr true) Q E s₁) E s) : ∀ (s : Shared), Se g0 z0 ow0 kk s → wpAny (model prog w) A (eval (Expr.Attribute (Expr.Name x xp) attr pos) env) Q E s := fun s S => Mine.r_attr (h s S)
theorem h_methodCall_KW (h : ∀ (s : Shared), Se g0 z0 ow0 kk s → wpAny M A (eval o env) (fun ov s₁ => wpAny M A (getMethod ov name pl) (fun fx s₂ => wpAny M A (callWith pos (Prod.fst fx) (Prod.snd fx) (backTo pos (starEach args env)) (backToKw pos (keywordEach kws env))) Q E s₂) E s₁) E s) (he : 
    autoParam
      (eval (Expr.Call (Expr.Attribute o name apos) args kws pos) env = do
        let ov ← eval o env
        standAt (Pos.atName apos)
        let __x ← holding [ov] (getMethod ov name pl)
        match __x with
          | (f, first) => callWith pos f first (backTo pos (starEach args env)) (backToKw pos (keywordEach kws env)))
      methodCall_KW._auto_1
   ) : ∀ (s : Shared), Se g0 z0 ow0 kk s → wpAny M A (eval (Expr.Call (Expr.Attribute o name apos) args kws pos) env) Q E s := fun s S => PySem.W.methodCall_KW (h s S) he
theorem h_x_asgA {Q : Flow → Shared → Prop} (h : ∀ (s : Shared), Se g0 z0 ow0 kk s → wpAny (model prog w) A (eval value env) (fun v s₁ => wpAny (model prog w) A (eval o env) (fun ov s₂ => wpAny (model prog w) A (setAttr ov attr v) (fun x s₃ => wpAny (model prog w) A (execs rest env) Q E s₃) E s₂) E s₁) E s) (hs : swapsWith value (some (Expr.Attribute o attr p)) (Pos.line pos) env = pure false) : ∀ (s : Shared), Se g0 z0 ow0 kk s → wpAny (model prog w) A (execs (Stmt.Assign [Expr.Attribute o attr p] value pos :: rest) env) Q E s := fun s S => Mine.x_asgA (h s S) hs
theorem h_c_kw {first : List Value} {rest : List PySem.Expr} (G : Gd K g) (hk : keepIn K (Value.ref f) = true) (h : ∀ (s : Shared), Se g z ow kk s → wpAny (model prog w) A (spliced (backTo pos (starEach (e :: rest) env))) (fun vs s₁ => wpAny (model prog w) A (evalAll (List.map (fun x => Prod.snd x) (backToKw pos (keywordEach kws env)))) (fun ks s₂ => Frag.In K (Shared.heap s₂) ∧ wpAny (model prog w) A (call (Value.ref f) (first ++ vs) (List.zip (List.filterMap (fun x => Prod.fst x) (backToKw pos (keywordEach kws env))) ks)) Q E s₂) E s₁) E s) (hall : (List.all (backToKw pos (keywordEach kws env)) fun x => Option.isSome (Prod.fst x)) = true) (hplain : ((List.any (backTo pos (starEach (e :: rest) env)) fun x => Prod.fst x) || List.any (backToKw pos (keywordEach kws env)) fun x => Option.isNone (Prod.fst x)) = false) (he : starEach (e :: rest) env = (false, eval e env) :: starEach rest env) : ∀ (s : Shared), Se g z ow kk s → wpAny (model prog w) A (callWith pos (Value.ref f) first (backTo pos (starEach (e :: rest) env)) (backToKw pos (keywordEach kws env))) Q E s := fun s S => Mine.c_kw G S.1 hk (h s S) hall hplain he
theorem h_kwAll_cons {rest : List Keyword} {Q : List Value → Shared → Prop} (h : ∀ (s : Shared), Se g0 z0 ow0 kk s → wpAny M A (eval value env) (fun v s₁ => wpAny M A (evalAll (List.map (fun x => Prod.snd x) (backToKw pos (keywordEach rest env)))) (fun vs s₂ => Q (v :: vs) s₂) E s₁) E s) : ∀ (s : Shared), Se g0 z0 ow0 kk s → wpAny M A (evalAll (List.map (fun x => Prod.snd x) (backToKw pos (keywordEach (Keyword.mk (some name) value p :: rest) env)))) Q E s := fun s S => PyProof.Rows.kwAll_cons (h s S)
theorem h_kwAll_nil {Q : List Value → Shared → Prop} (h : ∀ (s : Shared), Se g0 z0 ow0 kk s → Q [] s) : ∀ (s : Shared), Se g0 z0 ow0 kk s → wpAny M A (evalAll (List.map (fun x => Prod.snd x) (backToKw pos (keywordEach [] env)))) Q E s := fun s S => PyProof.Rows.kwAll_nil (h s S)
theorem h_c_defM {a : Value} {rest : List PySem.Expr} (G : Gd K g) (hk : keepIn K (Value.ref f) = true) (h : ∀ (s : Shared), Se g z ow kk s → wpAny (model prog w) A (spliced (backTo pos (starEach (e :: rest) env))) (fun vs s₁ => Frag.In K (Shared.heap s₁) ∧ wpAny (model prog w) A (call (Value.ref f) (a :: vs)) Q E s₁) E s) (he : starEach (e :: rest) env = (false, eval e env) :: starEach rest env) (hplain : (List.any (backTo pos (starEach rest env)) fun x => Prod.fst x) = false) : ∀ (s : Shared), Se g z ow kk s → wpAny (model prog w) A (callWith pos (Value.ref f) [a] (backTo pos (starEach (e :: rest) env)) []) Q E s := fun s S => Mine.c_defM G S.1 hk (h s S) he hplain
theorem h_c_defM0 {a : Value} (G : Gd K g) (hk : keepIn K (Value.ref f) = true) (h : ∀ (s : Shared), Se g z ow kk s → wpAny (model prog w) A (call (Value.ref f) [a]) Q E s) : ∀ (s : Shared), Se g z ow kk s → wpAny (model prog w) A (callWith pos (Value.ref f) [a] (backTo pos (starEach [] env)) []) Q E s := fun s S => Mine.c_defM0 G S.1 hk (h s S)
theorem h_r_slAll (h : ∀ (k' : Nat) (sl : Addr) (s' : Shared), Se g z (fr :: (sl, Kd.raw sliceAll) :: ow) k' s' → Q (Value.ref sl) s') : ∀ (s : Shared), Se g z (fr :: ow) kk s → wpAny (model prog w) A (eval (Expr.Slice none none none p) env) Q E s := fun s S => Mine.r_slAll S.1 (fun a0 s' S' => h _ a0 s' ⟨S', rfl⟩)
theorem h_gm_conv {x : Addr} {Q : Value × List Value → Shared → Prop} (G : Gd (hd.heap_1 (World.params w)) g) (hx : Has x (Kd.raw (instObj 270 dx)) ow) (hdx : Has dx (Kd.raw (dictOf (hdE (World.params w) tk l) 1)) ow) (h : ∀ (s : Shared), Se g z ow kk s → Q (Value.ref 169, [Value.ref x]) s) : ∀ (s : Shared), Se g z ow kk s → wpAny (model prog w) A (getMethod (Value.ref x) (Str.ofString "_convert_string_type") pl) Q E s := fun s S => Mine.gm_conv G S.1 hx hdx (h s S)
theorem h_at_hdr {x : Addr} (G : Gd (hd.heap_1 (World.params w)) g) (hx : Has x (Kd.raw (instObj 270 dx)) ow) (hdx : Has dx (Kd.raw (dictOf (hdE (World.params w) tk l) 1)) ow) (h : ∀ (k' : Nat) (s' : Shared), Se g z ow k' s' → Q (Value.ref l) s') : ∀ (s : Shared), Se g z ow kk s → wpAny (model prog w) A (getAttr (Value.ref x) (Str.ofString "_headers") true) Q E s := fun s S => Mine.at_hdr G S.1 hx hdx (fun s' S' => h _ s' ⟨S', rfl⟩)
theorem h_gm_items {Q : Value × List Value → Shared → Prop} (h : Has d (Kd.raw (dictOf [] 0)) ow) (hq : ∀ (s : Shared), Se g z ow kk s → Q (Value.builtin "dict.items", [Value.ref d]) s) : ∀ (s : Shared), Se g z ow kk s → wpAny (model prog w) A (getMethod (Value.ref d) (Str.ofString "items") pl) Q E s := fun s S => Mine.gm_items S.1 h (hq s S)
theorem h_bi_items (hn : (d == sysModules) = false) (h : Has d (Kd.raw (dictOf [] 0)) (fr :: ow)) (hq : ∀ (k' : Nat) (v : Addr) (s' : Shared), Se g z (fr :: (v, Kd.raw (viewObj d)) :: ow) k' s' → Q (Value.ref v) s') : ∀ (s : Shared), Se g z (fr :: ow) kk s → wpAny (model prog w) A (call (Value.builtin "dict.items") [Value.ref d]) Q E s := fun s S => Mine.bi_items S.1 hn h (fun a0 s' S' => hq _ a0 s' ⟨S', rfl⟩)
theorem h_it_items {v : Addr} (hv : Has v (Kd.raw (viewObj d)) (fr :: ow)) (h : Has d (Kd.raw (dictOf [] 0)) (fr :: ow)) (hq : ∀ (k' : Nat) (it : Addr) (s' : Shared), Se g z (fr :: (it, Kd.raw (viewIt d)) :: ow) k' s' → Q (Value.ref it) s') : ∀ (s : Shared), Se g z (fr :: ow) kk s → wpAny (model prog w) A (pyIter (Value.ref v)) Q E s := fun s S => Mine.it_items S.1 hv h (fun a0 s' S' => hq _ a0 s' ⟨S', rfl⟩)
theorem h_mk_zip {Q : Value → Shared → Prop} {l1 l2 : Addr} {xs ys : List Value} (hl1 : ∀ s, Se g0 z0 (fr :: ow0) kk s → s.heap.IsList l1 xs.toArray) (hl2 : ∀ s, Se g0 z0 (fr :: ow0) kk s → s.heap.IsList l2 ys.toArray) (h : ∀ k' Z TI TO i1 i2, ZipApart Z TI TO i1 i2 l1 l2 → ∀ s', Se g0 z0 (fr :: (Z, .raw (zipO TI TO .none)) :: (TI, .raw (pairO (.ref i1) (.ref i2))) :: (TO, .raw (pairO .none .none)) :: (i1, .lit l1 0) :: (i2, .lit l2 0) :: ow0) k' s' → Q (.ref Z) s') : ∀ s, Se g0 z0 (fr :: ow0) kk s → wpAny (model prog w) A (call (.type "zip") [.ref l1, .ref l2]) Q E s := fun s S => mk_zip S.1 (hl1 s S) (hl2 s S) fun Z TI TO i1 i2 s' D S' => h _ Z TI TO i1 i2 D s' ⟨S', rfl⟩
theorem h_c_in {K : Frag} (G : Gd K g0) {P : Shared → Prop} (h : ∀ s, Se g0 z0 ow0 kk s → P s) : ∀ s, Se g0 z0 ow0 kk s → K.In s.heap ∧ P s := fun s S => c_in G S.1 (h s S)
theorem h_fn_inG {f : Addr} {oc : Value} {od : Option Addr} {fd : FuncData} {sl : Array (Option Value)} (hf : g0.get? f = some ⟨oc, od, .func fd, sl⟩) {P : Shared → Prop} (h : ∀ s, Se g0 z0 ow0 kk s → P s) : ∀ s, Se g0 z0 ow0 kk s → FnAt f s.heap ∧ P s := fun s S => fn_inG S.1 hf (h s S)
theorem h_fn_inO {f : Addr} {oc : Value} {od : Option Addr} {fd : FuncData} {sl : Array (Option Value)} (hf : Has f (.raw ⟨oc, od, .func fd, sl⟩) ow0) {P : Shared → Prop} (h : ∀ s, Se g0 z0 ow0 kk s → P s) : ∀ s, Se g0 z0 ow0 kk s → FnAt f s.heap ∧ P s := fun s S => fn_inO S.1 hf (h s S)
theorem h_if_t {c : Prop} [Decidable c] {a b : Shared → Prop} (hc : c) (h : ∀ s, Se g0 z0 ow0 kk s → a s) : ∀ s, Se g0 z0 ow0 kk s → if c then a s else b s := fun s S => if_t hc (h s S)
theorem h_if_f {c : Prop} [Decidable c] {a b : Shared → Prop} (hc : ¬ c) (h : ∀ s, Se g0 z0 ow0 kk s → b s) : ∀ s, Se g0 z0 ow0 kk s → if c then a s else b s := fun s S => if_f hc (h s S)
end

end TMH
section TMX
theorem exE1_1 {α1 : Type} {P1 : α1 → Prop} {G : Prop} (h : ∃ a1, P1 a1) (k : ∀ a1, P1 a1 → G) : G := h.elim fun a1 h => k a1 h
theorem exI1_1 {α1 : Type} {P1 : α1 → Prop} (a1 : α1) (h1 : P1 a1) : ∃ a1, P1 a1 := ⟨a1, h1⟩
theorem exE2_1 {α1 α2 : Type} {P1 : α1 → α2 → Prop} {G : Prop} (h : ∃ a1 a2, P1 a1 a2) (k : ∀ a1 a2, P1 a1 a2 → G) : G := h.elim fun a1 h => h.elim fun a2 h => k a1 a2 h
theorem exI2_1 {α1 α2 : Type} {P1 : α1 → α2 → Prop} (a1 : α1) (a2 : α2) (h1 : P1 a1 a2) : ∃ a1 a2, P1 a1 a2 := ⟨a1, a2, h1⟩
theorem exE2_2 {α1 α2 : Type} {P1 P2 : α1 → α2 → Prop} {G : Prop} (h : ∃ a1 a2, P1 a1 a2 ∧ P2 a1 a2) (k : ∀ a1 a2, P2 a1 a2 → P1 a1 a2 → G) : G := h.elim fun a1 h => h.elim fun a2 h => k a1 a2 h.2 h.1
theorem exI2_2 {α1 α2 : Type} {P1 P2 : α1 → α2 → Prop} (a1 : α1) (a2 : α2) (h1 : P1 a1 a2) (h2 : P2 a1 a2) : ∃ a1 a2, P1 a1 a2 ∧ P2 a1 a2 := ⟨a1, a2, h1, h2⟩
theorem exE2_3 {α1 α2 : Type} {P1 P2 P3 : α1 → α2 → Prop} {G : Prop} (h : ∃ a1 a2, P1 a1 a2 ∧ P2 a1 a2 ∧ P3 a1 a2) (k : ∀ a1 a2, P3 a1 a2 → P1 a1 a2 → P2 a1 a2 → G) : G := h.elim fun a1 h => h.elim fun a2 h => k a1 a2 h.2.2 h.1 h.2.1
theorem exI2_3 {α1 α2 : Type} {P1 P2 P3 : α1 → α2 → Prop} (a1 : α1) (a2 : α2) (h1 : P1 a1 a2) (h2 : P2 a1 a2) (h3 : P3 a1 a2) : ∃ a1 a2, P1 a1 a2 ∧ P2 a1 a2 ∧ P3 a1 a2 := ⟨a1, a2, h1, h2, h3⟩
theorem exE3_1 {α1 α2 α3 : Type} {P1 : α1 → α2 → α3 → Prop} {G : Prop} (h : ∃ a1 a2 a3, P1 a1 a2 a3) (k : ∀ a1 a2 a3, P1 a1 a2 a3 → G) : G := h.elim fun a1 h => h.elim fun a2 h => h.elim fun a3 h => k a1 a2 a3 h
theorem exI3_1 {α1 α2 α3 : Type} {P1 : α1 → α2 → α3 → Prop} (a1 : α1) (a2 : α2) (a3 : α3) (h1 : P1 a1 a2 a3) : ∃ a1 a2 a3, P1 a1 a2 a3 := ⟨a1, a2, a3, h1⟩
theorem exE3_2 {α1 α2 α3 : Type} {P1 P2 : α1 → α2 → α3 → Prop} {G : Prop} (h : ∃ a1 a2 a3, P1 a1 a2 a3 ∧ P2 a1 a2 a3) (k : ∀ a1 a2 a3, P2 a1 a2 a3 → P1 a1 a2 a3 → G) : G := h.elim fun a1 h => h.elim fun a2 h => h.elim fun a3 h => k a1 a2 a3 h.2 h.1
theorem exI3_2 {α1 α2 α3 : Type} {P1 P2 : α1 → α2 → α3 → Prop} (a1 : α1) (a2 : α2) (a3 : α3) (h1 : P1 a1 a2 a3) (h2 : P2 a1 a2 a3) : ∃ a1 a2 a3, P1 a1 a2 a3 ∧ P2 a1 a2 a3 := ⟨a1, a2, a3, h1, h2⟩
theorem exE4_1 {α1 α2 α3 α4 : Type} {P1 : α1 → α2 → α3 → α4 → Prop} {G : Prop} (h : ∃ a1 a2 a3 a4, P1 a1 a2 a3 a4) (k : ∀ a1 a2 a3 a4, P1 a1 a2 a3 a4 → G) : G := h.elim fun a1 h => h.elim fun a2 h => h.elim fun a3 h => h.elim fun a4 h => k a1 a2 a3 a4 h
theorem exI4_1 {α1 α2 α3 α4 : Type} {P1 : α1 → α2 → α3 → α4 → Prop} (a1 : α1) (a2 : α2) (a3 : α3) (a4 : α4) (h1 : P1 a1 a2 a3 a4) : ∃ a1 a2 a3 a4, P1 a1 a2 a3 a4 := ⟨a1, a2, a3, a4, h1⟩
theorem exE4_2 {α1 α2 α3 α4 : Type} {P1 P2 : α1 → α2 → α3 → α4 → Prop} {G : Prop} (h : ∃ a1 a2 a3 a4, P1 a1 a2 a3 a4 ∧ P2 a1 a2 a3 a4) (k : ∀ a1 a2 a3 a4, P2 a1 a2 a3 a4 → P1 a1 a2 a3 a4 → G) : G := h.elim fun a1 h => h.elim fun a2 h => h.elim fun a3 h => h.elim fun a4 h => k a1 a2 a3 a4 h.2 h.1
theorem exI4_2 {α1 α2 α3 α4 : Type} {P1 P2 : α1 → α2 → α3 → α4 → Prop} (a1 : α1) (a2 : α2) (a3 : α3) (a4 : α4) (h1 : P1 a1 a2 a3 a4) (h2 : P2 a1 a2 a3 a4) : ∃ a1 a2 a3 a4, P1 a1 a2 a3 a4 ∧ P2 a1 a2 a3 a4 := ⟨a1, a2, a3, a4, h1, h2⟩
theorem exE4_3 {α1 α2 α3 α4 : Type} {P1 P2 P3 : α1 → α2 → α3 → α4 → Prop} {G : Prop} (h : ∃ a1 a2 a3 a4, P1 a1 a2 a3 a4 ∧ P2 a1 a2 a3 a4 ∧ P3 a1 a2 a3 a4) (k : ∀ a1 a2 a3 a4, P3 a1 a2 a3 a4 → P1 a1 a2 a3 a4 → P2 a1 a2 a3 a4 → G) : G := h.elim fun a1 h => h.elim fun a2 h => h.elim fun a3 h => h.elim fun a4 h => k a1 a2 a3 a4 h.2.2 h.1 h.2.1
theorem exI4_3 {α1 α2 α3 α4 : Type} {P1 P2 P3 : α1 → α2 → α3 → α4 → Prop} (a1 : α1) (a2 : α2) (a3 : α3) (a4 : α4) (h1 : P1 a1 a2 a3 a4) (h2 : P2 a1 a2 a3 a4) (h3 : P3 a1 a2 a3 a4) : ∃ a1 a2 a3 a4, P1 a1 a2 a3 a4 ∧ P2 a1 a2 a3 a4 ∧ P3 a1 a2 a3 a4 := ⟨a1, a2, a3, a4, h1, h2, h3⟩
theorem exE4_4 {α1 α2 α3 α4 : Type} {P1 P2 P3 P4 : α1 → α2 → α3 → α4 → Prop} {G : Prop} (h : ∃ a1 a2 a3 a4, P1 a1 a2 a3 a4 ∧ P2 a1 a2 a3 a4 ∧ P3 a1 a2 a3 a4 ∧ P4 a1 a2 a3 a4) (k : ∀ a1 a2 a3 a4, P4 a1 a2 a3 a4 → P1 a1 a2 a3 a4 → P2 a1 a2 a3 a4 → P3 a1 a2 a3 a4 → G) : G := h.elim fun a1 h => h.elim fun a2 h => h.elim fun a3 h => h.elim fun a4 h => k a1 a2 a3 a4 h.2.2.2 h.1 h.2.1 h.2.2.1
theorem exI4_4 {α1 α2 α3 α4 : Type} {P1 P2 P3 P4 : α1 → α2 → α3 → α4 → Prop} (a1 : α1) (a2 : α2) (a3 : α3) (a4 : α4) (h1 : P1 a1 a2 a3 a4) (h2 : P2 a1 a2 a3 a4) (h3 : P3 a1 a2 a3 a4) (h4 : P4 a1 a2 a3 a4) : ∃ a1 a2 a3 a4, P1 a1 a2 a3 a4 ∧ P2 a1 a2 a3 a4 ∧ P3 a1 a2 a3 a4 ∧ P4 a1 a2 a3 a4 := ⟨a1, a2, a3, a4, h1, h2, h3, h4⟩
theorem exE5_3 {α1 α2 α3 α4 α5 : Type} {P1 P2 P3 : α1 → α2 → α3 → α4 → α5 → Prop} {G : Prop} (h : ∃ a1 a2 a3 a4 a5, P1 a1 a2 a3 a4 a5 ∧ P2 a1 a2 a3 a4 a5 ∧ P3 a1 a2 a3 a4 a5) (k : ∀ a1 a2 a3 a4 a5, P3 a1 a2 a3 a4 a5 → P1 a1 a2 a3 a4 a5 → P2 a1 a2 a3 a4 a5 → G) : G := h.elim fun a1 h => h.elim fun a2 h => h.elim fun a3 h => h.elim fun a4 h => h.elim fun a5 h => k a1 a2 a3 a4 a5 h.2.2 h.1 h.2.1
theorem exI5_3 {α1 α2 α3 α4 α5 : Type} {P1 P2 P3 : α1 → α2 → α3 → α4 → α5 → Prop} (a1 : α1) (a2 : α2) (a3 : α3) (a4 : α4) (a5 : α5) (h1 : P1 a1 a2 a3 a4 a5) (h2 : P2 a1 a2 a3 a4 a5) (h3 : P3 a1 a2 a3 a4 a5) : ∃ a1 a2 a3 a4 a5, P1 a1 a2 a3 a4 a5 ∧ P2 a1 a2 a3 a4 a5 ∧ P3 a1 a2 a3 a4 a5 := ⟨a1, a2, a3, a4, a5, h1, h2, h3⟩
theorem exE5_4 {α1 α2 α3 α4 α5 : Type} {P1 P2 P3 P4 : α1 → α2 → α3 → α4 → α5 → Prop} {G : Prop} (h : ∃ a1 a2 a3 a4 a5, P1 a1 a2 a3 a4 a5 ∧ P2 a1 a2 a3 a4 a5 ∧ P3 a1 a2 a3 a4 a5 ∧ P4 a1 a2 a3 a4 a5) (k : ∀ a1 a2 a3 a4 a5, P4 a1 a2 a3 a4 a5 → P1 a1 a2 a3 a4 a5 → P2 a1 a2 a3 a4 a5 → P3 a1 a2 a3 a4 a5 → G) : G := h.elim fun a1 h => h.elim fun a2 h => h.elim fun a3 h => h.elim fun a4 h => h.elim fun a5 h => k a1 a2 a3 a4 a5 h.2.2.2 h.1 h.2.1 h.2.2.1
theorem exI5_4 {α1 α2 α3 α4 α5 : Type} {P1 P2 P3 P4 : α1 → α2 → α3 → α4 → α5 → Prop} (a1 : α1) (a2 : α2) (a3 : α3) (a4 : α4) (a5 : α5) (h1 : P1 a1 a2 a3 a4 a5) (h2 : P2 a1 a2 a3 a4 a5) (h3 : P3 a1 a2 a3 a4 a5) (h4 : P4 a1 a2 a3 a4 a5) : ∃ a1 a2 a3 a4 a5, P1 a1 a2 a3 a4 a5 ∧ P2 a1 a2 a3 a4 a5 ∧ P3 a1 a2 a3 a4 a5 ∧ P4 a1 a2 a3 a4 a5 := ⟨a1, a2, a3, a4, a5, h1, h2, h3, h4⟩
theorem exE6_3 {α1 α2 α3 α4 α5 α6 : Type} {P1 P2 P3 : α1 → α2 → α3 → α4 → α5 → α6 → Prop} {G : Prop} (h : ∃ a1 a2 a3 a4 a5 a6, P1 a1 a2 a3 a4 a5 a6 ∧ P2 a1 a2 a3 a4 a5 a6 ∧ P3 a1 a2 a3 a4 a5 a6) (k : ∀ a1 a2 a3 a4 a5 a6, P3 a1 a2 a3 a4 a5 a6 → P1 a1 a2 a3 a4 a5 a6 → P2 a1 a2 a3 a4 a5 a6 → G) : G := h.elim fun a1 h => h.elim fun a2 h => h.elim fun a3 h => h.elim fun a4 h => h.elim fun a5 h => h.elim fun a6 h => k a1 a2 a3 a4 a5 a6 h.2.2 h.1 h.2.1
theorem exI6_3 {α1 α2 α3 α4 α5 α6 : Type} {P1 P2 P3 : α1 → α2 → α3 → α4 → α5 → α6 → Prop} (a1 : α1) (a2 : α2) (a3 : α3) (a4 : α4) (a5 : α5) (a6 : α6) (h1 : P1 a1 a2 a3 a4 a5 a6) (h2 : P2 a1 a2 a3 a4 a5 a6) (h3 : P3 a1 a2 a3 a4 a5 a6) : ∃ a1 a2 a3 a4 a5 a6, P1 a1 a2 a3 a4 a5 a6 ∧ P2 a1 a2 a3 a4 a5 a6 ∧ P3 a1 a2 a3 a4 a5 a6 := ⟨a1, a2, a3, a4, a5, a6, h1, h2, h3⟩
theorem exE10_4 {α1 α2 α3 α4 α5 α6 α7 α8 α9 α10 : Type} {P1 P2 P3 P4 : α1 → α2 → α3 → α4 → α5 → α6 → α7 → α8 → α9 → α10 → Prop} {G : Prop} (h : ∃ a1 a2 a3 a4 a5 a6 a7 a8 a9 a10, P1 a1 a2 a3 a4 a5 a6 a7 a8 a9 a10 ∧ P2 a1 a2 a3 a4 a5 a6 a7 a8 a9 a10 ∧ P3 a1 a2 a3 a4 a5 a6 a7 a8 a9 a10 ∧ P4 a1 a2 a3 a4 a5 a6 a7 a8 a9 a10) (k : ∀ a1 a2 a3 a4 a5 a6 a7 a8 a9 a10, P4 a1 a2 a3 a4 a5 a6 a7 a8 a9 a10 → P1 a1 a2 a3 a4 a5 a6 a7 a8 a9 a10 → P2 a1 a2 a3 a4 a5 a6 a7 a8 a9 a10 → P3 a1 a2 a3 a4 a5 a6 a7 a8 a9 a10 → G) : G := h.elim fun a1 h => h.elim fun a2 h => h.elim fun a3 h => h.elim fun a4 h => h.elim fun a5 h => h.elim fun a6 h => h.elim fun a7 h => h.elim fun a8 h => h.elim fun a9 h => h.elim fun a10 h => k a1 a2 a3 a4 a5 a6 a7 a8 a9 a10 h.2.2.2 h.1 h.2.1 h.2.2.1
theorem exI10_4 {α1 α2 α3 α4 α5 α6 α7 α8 α9 α10 : Type} {P1 P2 P3 P4 : α1 → α2 → α3 → α4 → α5 → α6 → α7 → α8 → α9 → α10 → Prop} (a1 : α1) (a2 : α2) (a3 : α3) (a4 : α4) (a5 : α5) (a6 : α6) (a7 : α7) (a8 : α8) (a9 : α9) (a10 : α10) (h1 : P1 a1 a2 a3 a4 a5 a6 a7 a8 a9 a10) (h2 : P2 a1 a2 a3 a4 a5 a6 a7 a8 a9 a10) (h3 : P3 a1 a2 a3 a4 a5 a6 a7 a8 a9 a10) (h4 : P4 a1 a2 a3 a4 a5 a6 a7 a8 a9 a10) : ∃ a1 a2 a3 a4 a5 a6 a7 a8 a9 a10, P1 a1 a2 a3 a4 a5 a6 a7 a8 a9 a10 ∧ P2 a1 a2 a3 a4 a5 a6 a7 a8 a9 a10 ∧ P3 a1 a2 a3 a4 a5 a6 a7 a8 a9 a10 ∧ P4 a1 a2 a3 a4 a5 a6 a7 a8 a9 a10 := ⟨a1, a2, a3, a4, a5, a6, a7, a8, a9, a10, h1, h2, h3, h4⟩
theorem exE11_4 {α1 α2 α3 α4 α5 α6 α7 α8 α9 α10 α11 : Type} {P1 P2 P3 P4 : α1 → α2 → α3 → α4 → α5 → α6 → α7 → α8 → α9 → α10 → α11 → Prop} {G : Prop} (h : ∃ a1 a2 a3 a4 a5 a6 a7 a8 a9 a10 a11, P1 a1 a2 a3 a4 a5 a6 a7 a8 a9 a10 a11 ∧ P2 a1 a2 a3 a4 a5 a6 a7 a8 a9 a10 a11 ∧ P3 a1 a2 a3 a4 a5 a6 a7 a8 a9 a10 a11 ∧ P4 a1 a2 a3 a4 a5 a6 a7 a8 a9 a10 a11) (k : ∀ a1 a2 a3 a4 a5 a6 a7 a8 a9 a10 a11, P4 a1 a2 a3 a4 a5 a6 a7 a8 a9 a10 a11 → P1 a1 a2 a3 a4 a5 a6 a7 a8 a9 a10 a11 → P2 a1 a2 a3 a4 a5 a6 a7 a8 a9 a10 a11 → P3 a1 a2 a3 a4 a5 a6 a7 a8 a9 a10 a11 → G) : G := h.elim fun a1 h => h.elim fun a2 h => h.elim fun a3 h => h.elim fun a4 h => h.elim fun a5 h => h.elim fun a6 h => h.elim fun a7 h => h.elim fun a8 h => h.elim fun a9 h => h.elim fun a10 h => h.elim fun a11 h => k a1 a2 a3 a4 a5 a6 a7 a8 a9 a10 a11 h.2.2.2 h.1 h.2.1 h.2.2.1
theorem exI11_4 {α1 α2 α3 α4 α5 α6 α7 α8 α9 α10 α11 : Type} {P1 P2 P3 P4 : α1 → α2 → α3 → α4 → α5 → α6 → α7 → α8 → α9 → α10 → α11 → Prop} (a1 : α1) (a2 : α2) (a3 : α3) (a4 : α4) (a5 : α5) (a6 : α6) (a7 : α7) (a8 : α8) (a9 : α9) (a10 : α10) (a11 : α11) (h1 : P1 a1 a2 a3 a4 a5 a6 a7 a8 a9 a10 a11) (h2 : P2 a1 a2 a3 a4 a5 a6 a7 a8 a9 a10 a11) (h3 : P3 a1 a2 a3 a4 a5 a6 a7 a8 a9 a10 a11) (h4 : P4 a1 a2 a3 a4 a5 a6 a7 a8 a9 a10 a11) : ∃ a1 a2 a3 a4 a5 a6 a7 a8 a9 a10 a11, P1 a1 a2 a3 a4 a5 a6 a7 a8 a9 a10 a11 ∧ P2 a1 a2 a3 a4 a5 a6 a7 a8 a9 a10 a11 ∧ P3 a1 a2 a3 a4 a5 a6 a7 a8 a9 a10 a11 ∧ P4 a1 a2 a3 a4 a5 a6 a7 a8 a9 a10 a11 := ⟨a1, a2, a3, a4, a5, a6, a7, a8, a9, a10, a11, h1, h2, h3, h4⟩

end TMX
section TMW
open PySem PySem.Spec PySem.Calls PyProof.Rows PySem.W
theorem Has.hd1 {α β : Type} {x : α} {o : β} {b1 : α × β} {r : List (α × β)} : Has x o (b1 :: (x, o) :: r) := .tl (.hd)
theorem Has.hd2 {α β : Type} {x : α} {o : β} {b1 b2 : α × β} {r : List (α × β)} : Has x o (b1 :: b2 :: (x, o) :: r) := .tl (.tl (.hd))
theorem Has.hd3 {α β : Type} {x : α} {o : β} {b1 b2 b3 : α × β} {r : List (α × β)} : Has x o (b1 :: b2 :: b3 :: (x, o) :: r) := .tl (.tl (.tl (.hd)))
theorem Set1.hd1 {α β : Type} {x : α} {o o' : β} {b1 : α × β} {r : List (α × β)} : Set1 x o o' (b1 :: (x, o) :: r) (b1 :: (x, o') :: r) := .tl (.hd)
theorem Set1.hd2 {α β : Type} {x : α} {o o' : β} {b1 b2 : α × β} {r : List (α × β)} : Set1 x o o' (b1 :: b2 :: (x, o) :: r) (b1 :: b2 :: (x, o') :: r) := .tl (.tl (.hd))
theorem Set1.hd3 {α β : Type} {x : α} {o o' : β} {b1 b2 b3 : α × β} {r : List (α × β)} : Set1 x o o' (b1 :: b2 :: b3 :: (x, o) :: r) (b1 :: b2 :: b3 :: (x, o') :: r) := .tl (.tl (.tl (.hd)))
theorem Pick.hd1 {α : Type} {x b1 : α} {r : List α} : Pick x (b1 :: x :: r) (b1 :: r) := .tl (.hd)
theorem Pick.hd2 {α : Type} {x b1 b2 : α} {r : List α} : Pick x (b1 :: b2 :: x :: r) (b1 :: b2 :: r) := .tl (.tl (.hd))
theorem Pick.hd3 {α : Type} {x b1 b2 b3 : α} {r : List α} : Pick x (b1 :: b2 :: b3 :: x :: r) (b1 :: b2 :: b3 :: r) := .tl (.tl (.tl (.hd)))
theorem Has.tl4 {α β : Type} {x : α} {o : β} {b1 b2 b3 b4 : α × β} {r : List (α × β)} (h : Has x o r) : Has x o (b1 :: b2 :: b3 :: b4 :: r) := .tl (.tl (.tl (.tl h)))
theorem Set1.tl4 {α β : Type} {x : α} {o o' : β} {b1 b2 b3 b4 : α × β} {r r' : List (α × β)} (h : Set1 x o o' r r') : Set1 x o o' (b1 :: b2 :: b3 :: b4 :: r) (b1 :: b2 :: b3 :: b4 :: r') := .tl (.tl (.tl (.tl h)))
theorem Pick.tl4 {α : Type} {x b1 b2 b3 b4 : α} {r r' : List α} (h : Pick x r r') : Pick x (b1 :: b2 :: b3 :: b4 :: r) (b1 :: b2 :: b3 :: b4 :: r') := .tl (.tl (.tl (.tl h)))
section
variable {g0 : Heap} {z0 : Shared} {ow0 : List (Addr × Kd)} {kk : Nat} {M : Model} {A : Around} {E : Value → Shared → Prop} {env : Env} {value : PySem.Expr} {pos : Pos}
theorem Se.st {s : Shared} (S : Se g0 z0 ow0 kk s) : St g0 z0 s ow0 := S.1
theorem startE {s : Shared} {G : Shared → Prop} (S : Se g0 z0 ow0 kk s) (n : ∀ s, Se g0 z0 ow0 kk s → G s) : G s := n s S
theorem h_isl {l : Addr} {vs : List Value} (h : Has l (.lst vs) ow0) : ∀ s, Se g0 z0 ow0 kk s → s.heap.IsList l vs.toArray := fun _ S => S.1.isL h
theorem is_evN {Q} {a0 a1 a2} (h : ∀ s, Se g0 z0 ow0 kk s → wpAny M A (eval (PySem.Expr.Name a0 a1) a2) Q E s) : ∀ s, Se g0 z0 ow0 kk s → wpAny M A (eval (PySem.Expr.Name a0 a1) a2) Q E s := h
theorem is_evC {Q} {a0 a1 a2 a3} (h : ∀ s, Se g0 z0 ow0 kk s → wpAny M A (eval (PySem.Expr.Constant a0 a1 a2) a3) Q E s) : ∀ s, Se g0 z0 ow0 kk s → wpAny M A (eval (PySem.Expr.Constant a0 a1 a2) a3) Q E s := h
theorem is_eval {Q} {a0 a1} (h : ∀ s, Se g0 z0 ow0 kk s → wpAny M A (eval a0 a1) Q E s) : ∀ s, Se g0 z0 ow0 kk s → wpAny M A (eval a0 a1) Q E s := h
theorem is_execs {Q} {a0 a1} (h : ∀ s, Se g0 z0 ow0 kk s → wpAny M A (execs a0 a1) Q E s) : ∀ s, Se g0 z0 ow0 kk s → wpAny M A (execs a0 a1) Q E s := h
theorem is_isTrue {Q} {a0 a1 a2} (h : ∀ s, Se g0 z0 ow0 kk s → wpAny M A (isTrue a0 a1 a2) Q E s) : ∀ s, Se g0 z0 ow0 kk s → wpAny M A (isTrue a0 a1 a2) Q E s := h
theorem is_truthy {Q} {a0} (h : ∀ s, Se g0 z0 ow0 kk s → wpAny M A (truthy a0) Q E s) : ∀ s, Se g0 z0 ow0 kk s → wpAny M A (truthy a0) Q E s := h
theorem is_binaryOp {Q} {a0 a1 a2} (h : ∀ s, Se g0 z0 ow0 kk s → wpAny M A (binaryOp a0 a1 a2) Q E s) : ∀ s, Se g0 z0 ow0 kk s → wpAny M A (binaryOp a0 a1 a2) Q E s := h
theorem is_compareOp {Q} {a0 a1 a2} (h : ∀ s, Se g0 z0 ow0 kk s → wpAny M A (compareOp a0 a1 a2) Q E s) : ∀ s, Se g0 z0 ow0 kk s → wpAny M A (compareOp a0 a1 a2) Q E s := h
theorem is_inplaceOp {Q} {a0 a1 a2} (h : ∀ s, Se g0 z0 ow0 kk s → wpAny M A (inplaceOp a0 a1 a2) Q E s) : ∀ s, Se g0 z0 ow0 kk s → wpAny M A (inplaceOp a0 a1 a2) Q E s := h
theorem is_unaryOp {Q} {a0 a1} (h : ∀ s, Se g0 z0 ow0 kk s → wpAny M A (unaryOp a0 a1) Q E s) : ∀ s, Se g0 z0 ow0 kk s → wpAny M A (unaryOp a0 a1) Q E s := h
theorem is_call {Q} {a0 a1 a2} (h : ∀ s, Se g0 z0 ow0 kk s → wpAny M A (call a0 a1 a2) Q E s) : ∀ s, Se g0 z0 ow0 kk s → wpAny M A (call a0 a1 a2) Q E s := h
theorem is_getMethod {Q} {a0 a1 a2} (h : ∀ s, Se g0 z0 ow0 kk s → wpAny M A (getMethod a0 a1 a2) Q E s) : ∀ s, Se g0 z0 ow0 kk s → wpAny M A (getMethod a0 a1 a2) Q E s := h
theorem is_pyIter {Q} {a0} (h : ∀ s, Se g0 z0 ow0 kk s → wpAny M A (pyIter a0) Q E s) : ∀ s, Se g0 z0 ow0 kk s → wpAny M A (pyIter a0) Q E s := h
variable {Q : Value → Shared → Prop}
theorem h_Subscript_N {a b} (h : ∀ s, Se g0 z0 ow0 kk s → wpAny M A (eval value env) (fun o s₁ => wpAny M A (eval (.Name a b) env) (fun i s₂ => wpAny M A (subscriptTail value (.Name a b) o i) Q E s₂) E s₁) E s) : ∀ s, Se g0 z0 ow0 kk s → wpAny M A (eval (.Subscript value (.Name a b) pos) env) Q E s := h_PyProof_Rows_Subscript_ h
theorem h_Subscript_C {a b c} (h : ∀ s, Se g0 z0 ow0 kk s → wpAny M A (eval value env) (fun o s₁ => wpAny M A (eval (.Constant a b c) env) (fun i s₂ => wpAny M A (subscriptTail value (.Constant a b c) o i) Q E s₂) E s₁) E s) : ∀ s, Se g0 z0 ow0 kk s → wpAny M A (eval (.Subscript value (.Constant a b c) pos) env) Q E s := h_PyProof_Rows_Subscript_ h
theorem h_Subscript_U {a b c} (h : ∀ s, Se g0 z0 ow0 kk s → wpAny M A (eval value env) (fun o s₁ => wpAny M A (eval (.UnaryOp a b c) env) (fun i s₂ => wpAny M A (subscriptTail value (.UnaryOp a b c) o i) Q E s₂) E s₁) E s) : ∀ s, Se g0 z0 ow0 kk s → wpAny M A (eval (.Subscript value (.UnaryOp a b c) pos) env) Q E s := h_PyProof_Rows_Subscript_ h
end
/-! the walk's words, as data (printed by gentac.py): a word is said by «ktd_said "m.WORD"», which fails by itself where no word fits.
The brackets' language: first, seq, rep(eat), no (fail if it goes), red(ucible), unf(olding all), case, exact, refine, apply, intro, simp (only), all (a <;> b); a row 'lemma slot slot ..': _ a hole, a figure n a hole behind n binders, else a side word. -/
def words : String := "
a=( red assumption )
st=( first ( red assumption ) ( exact ( Se.st ( by ( red assumption ) ) ) ) )
h=( red ( rep ( first ( exact Has.hd ) ( exact Has.hd1 ) ( exact Has.hd2 ) ( exact Has.hd3 ) ( apply Has.tl4 ) ( seq ( refine ( Has.app ?a1 _ ) ) ( case a1 assumption ) ) assumption ( apply Has.tl ) ) ) )
s=( red ( rep ( first ( exact Set1.hd ) ( exact Set1.hd1 ) ( exact Set1.hd2 ) ( exact Set1.hd3 ) ( apply Set1.tl4 ) ( apply Set1.tl ) ) ) )
p=( red ( rep ( first ( exact Pick.hd ) ( exact Pick.hd1 ) ( exact Pick.hd2 ) ( exact Pick.hd3 ) ( apply Pick.tl4 ) ( apply Pick.tl ) ) ) )
tl=( red ( rep ( first ( exact Tl.nil ) ( exact Tl.app ) ( apply Tl.cons ) ) ) )
keep=( red ( rep ( first ( exact Keep.nil ) ( exact Keep.all ) ( exact Keep.app ) ( seq ( refine ( Keep.cons ?a1 ?_ ) ) ( case a1 p ) ) ( refine ( Keep.skip ?_ ) ) ) ) )
r=rfl
k=k_is
ascii=kernel_rfl
dec=decide
ur=( unf rfl )
bt=( red ( first ( exact bt_enumerate ) ( exact bt_zip ) ( exact bt_range ) ( exact bt_type ) ( exact bt_list ) ( exact bt_str ) ( exact bt_reversed ) ( exact bt_ZeroDivisionError ) ( exact bt_StopIteration ) ( exact bt_iter ) ( exact bt_next ) ( exact bt_sum ) ( exact bt_max ) ( exact bt_len ) ( exact bt_divmod ) ) )
hn=( exact ( AOk.handled ( by a ) ) )
i1r=( seq ( intro 1 ) rfl )
i2r=( seq ( intro 2 ) rfl )
i3r=( seq ( intro 3 ) rfl )
iur=( seq ( intro 1 ) ( unf rfl ) )
n=( first decide a omega )
dk=( first a decide omega )
mul=( first a ( exact ( mulL ( by decide ) ) ) ( exact ( mulR ( by decide ) ) ) ( exact ( mulL ( by omega ) ) ) ( exact ( mulR ( by omega ) ) ) )
pyl=( first a rfl )
szl=( exact ( szl ( by ( unf ( exact ( Nat.le_of_ble_eq_true rfl ) ) ) ) ) )
Lisl=( exact ( h_isl ( by h ) ) )
sd=( first a ( exact ( shl_ok ( by dk ) ( by dk ) ) ) )
len=( first a decide omega ( seq ( simp List.length_replicate ) omega ) ( seq ( simp len_app ) omega ) )
fits=( exact ( AOk.fits ( by a ) ) )
cmp=( first ( red rfl ) decide ( all ( simp beq_iff_eq bne_iff_ne decide_eq_true_eq Bool.not_eq_true Bool.not_eq_false ne_eq Bool.true_eq_false Bool.false_eq_true not_false_eq_true decide_eq_false_iff_not beq_eq_false_iff_ne Bool.not_true Bool.not_false Bool.not_eq_eq_eq_not ) ( first done a omega ) ) )
hif=( first ( seq ( red ( refine ( h_if_t ?h ?_ ) ) ) ( case h cmp ) ) ( seq ( red ( refine ( h_if_f ?h ?_ ) ) ) ( case h cmp ) ) )
ev=( first ( seq ( no ( no ( red ( refine ( is_evN ?_ ) ) ) ) ) Gvn ) ( seq ( no ( no ( red ( refine ( is_evC ?_ ) ) ) ) ) Gvc ) Gv )
e0=( first ( seq ( no ( no ( red ( refine ( is_eval ?_ ) ) ) ) ) ev ) ( seq ( no ( no ( red ( refine ( is_execs ?_ ) ) ) ) ) Gx ) ( seq ( no ( no ( red ( refine ( is_isTrue ?_ ) ) ) ) ) Gb ) ( seq ( no ( no ( red ( refine ( is_truthy ?_ ) ) ) ) ) Gb ) ( seq ( no ( no ( red ( refine ( is_binaryOp ?_ ) ) ) ) ) Go ) ( seq ( no ( no ( red ( refine ( is_compareOp ?_ ) ) ) ) ) Gc ) ( seq ( no ( no ( red ( refine ( is_inplaceOp ?_ ) ) ) ) ) Go ) ( seq ( no ( no ( red ( refine ( is_unaryOp ?_ ) ) ) ) ) Go ) ( seq ( no ( no ( red ( refine ( is_call ?_ ) ) ) ) ) Gcl ) ( seq ( no ( no ( red ( refine ( is_getMethod ?_ ) ) ) ) ) Gm ) ( seq ( no ( no ( red ( refine ( is_pyIter ?_ ) ) ) ) ) Git ) Gs hif )
Bgo=( seq ( first ( seq ( refine ( startE ?hE ?hn ) ) ( case hE ( red assumption ) ) ) ( seq ( refine ( startS ?hS ?hn ) ) ( case hS ( red assumption ) ) ) ) ( first e0 Gxi ) ( rep ( first e0 Gxi ) ) ( intro 2 ) )
go=( rep ( first Bgo xtra ) )
Bgos=( seq ( first ( seq ( refine ( startE ?hE ?hn ) ) ( case hE ( red assumption ) ) ) ( seq ( refine ( startS ?hS ?hn ) ) ( case hS ( red assumption ) ) ) ) ( first e0 Gsl ) ( rep ( first e0 Gsl ) ) ( intro 2 ) )
gos=( rep ( first Bgos xtra ) )
Bgo0=( seq ( first ( seq ( refine ( startE ?hE ?hn ) ) ( case hE ( red assumption ) ) ) ( seq ( refine ( startS ?hS ?hn ) ) ( case hS ( red assumption ) ) ) ) e0 ( rep e0 ) ( intro 2 ) )
go0=( rep ( first Bgo0 xtra ) )
Gx=h_x_for _ i1r;h_x_while _;h_x_ret _;h_x_aug _;h_x_nil _;h_x_assert _;h_x_pass _;h_x_del _;h_x_ret0 _;h_x_exprF a _ r;h_x_assign _ r;h_x_tuple _ r r;h_x_subs _ r;h_x_augsubs _ i3r;h_x_asgA _ r
Gxi=h_x_if _
Gv=h_wpAny_BinOp _;h_wpAny_Compare1 _ r;h_r_call _;h_wpAny_UnaryOp _;h_IfExp_ _;h_r_list _;h_r_tup _;h_Subscript_N _;h_Subscript_C _;h_Subscript_U _;h_MethodCall_ _ r;h_BoolOp_and _;h_BoolOp_or _;h_BoolOp_one _;h_r_attr _;h_methodCall_KW _ r;h_r_slAll 2
Gvn=h_r_loc a h h _;h_r_cel a h h h _;h_r_freeG a h h a _;h_r_free a h h h _;h_r_bltn a a h k bt dec _;h_r_glob a a h k _
Gvc=h_r_int _;h_r_str _;h_r_bool _;h_r_none _
Gs=h_sub_list h dk dk a _ ur iur;h_sub_tup h dk dk r r _ ur iur;h_sub_listG a dk dk a _ ur iur;h_st_loc a h s _;h_st_cel a h h s _;h_as_name _;h_as_pair hn h _;h_ld_loc a h h _;h_ld_cel a h h h _;h_sp_nil _;h_sp_cons _ r;h_mk_list szl 1;h_sw_pair hn h _;h_mk_tup szl 1;h_ep_none _;h_ep_some _;h_forR_ok _;h_forF_next _;h_whF_next _;h_wpAny_deleteEach_cons _;h_wpAny_deleteEach_nil _;h_wpAny_delete_Subscript _;h_del_first s a len 1;h_del_last s a len 1;h_sub_last h a len a _ ur iur;h_ifP_next _;h_ifP_ret _;h_then_next _;h_then_ret _;h_c_def0 a k _ r r;h_c_fnG a _ r r;h_fn_inG a _;h_c_fnO h _ r r;h_fn_inO h _;h_c_bltn _ r r;h_c_type _ r r;h_c_m1 _ r r;h_c_m0 _;h_c_in a _;h_mk_slU len len 2;h_mk_slF len len 2;h_c_kw a k _ r r r;h_kwAll_cons _;h_kwAll_nil _;h_c_defM a k _ r r;h_c_defM0 a k _;h_at_hdr a h h 1
Go=h_r_add _;h_r_sub _;h_r_and _;h_r_or _;h_r_xor _;h_r_neg _;h_r_inv _;h_r_iadd _;h_r_mod n _;h_r_fdiv n pyl _;h_r_pow dk dk _;h_r_mul mul _;h_r_shr n _;h_r_isub _;h_r_ior _;h_r_ilshl dk dk dk _;h_r_shl hn n sd _;h_o_mulList h dk dk 2;h_o_addList h h len 2;h_s_add len 2
Gc=h_PyProof_Rows_lt_int _;h_PyProof_Rows_gt_int _;h_PyProof_Rows_eq_int _;h_PyProof_Rows_ne_int _;h_PyProof_Rows_le_int _;h_PyProof_Rows_ge_int _;h_PyProof_Rows_is_bool _;h_PyProof_Rows_isnot_bool _;h_s_eq _;h_s_ne _;h_s_notin _;h_c_eqNil fits h h _;h_is_typ _;h_isnot_typ _;h_isnot_refN _;h_isnot_strN _
Gb=h_tr_bool _;h_tr_int _;h_isTrue_and _;h_isTrue_or _;h_isTrue_and_nil _;h_isTrue_or_nil _;h_isTrue_not _;h_isTrue_IfExp _;h_wpAny_isTrue_Compare1 _ r;h_isTrue_plain _ r;h_b_trL h len 1;h_s_truthy len 1;h_tr_none _
Gm=h_gm_append h _;h_gm_reverse h _;h_gm_bits _;h_PySem_GM_upper _;h_PySem_GM_lower _;h_PySem_GM_join _;h_PySem_GM_split _;h_PySem_GM_find _;h_PySem_GM_startswith _;h_PySem_GM_endswith _;h_gm_conv a h h _;h_gm_items h _
Gcl=h_bi_reversed Lisl 2;h_bi_bits _;h_bi_reverse s len 1;h_bi_append s len 1;h_bi_lenL h len 2;h_s_upper len _;h_s_lower len _;h_s_starts _;h_s_ends _;h_s_len len 2;h_s_find4 _;h_s_joinStr hn len len 2;h_bi_divmod n dk 4;h_bi_range 2;h_mk_zip Lisl Lisl 7;h_mk_enumS ascii 3;h_mk_enum Lisl 3;h_bi_typeS _;h_bi_typeL h _;h_bi_items a h 2
Gsl=h_r_sliceS _ i2r
Git=h_it_zip h _;h_it_rvi h _;h_it_enum h _;h_it_list Lisl 2;h_it_items h h 2
"
section
open Lean
set_option compiler.extract_closed false
def words1 (w : String) : String := ((((words.splitOn ("\n" ++ w ++ "=")).tail.headD "").splitOn "\n").headD "")
def at1 (x : String) : Syntax := .atom .none x
def brackets (s : String) : Syntax := mkNullNode (((s.splitOn " ").foldl (fun st t =>
  if t == "(" then #[] :: st else
  match st with
  | [] => []
  | a :: r => if t == ")" then (match r with | b :: q => b.push (mkNullNode a) :: q | [] => []) else a.push (at1 t) :: r) [#[]]).headD #[])
def row1 (s : String) : Syntax :=
  let ps := s.splitOn " "
  let r := ps.tail.foldl (fun (r : Nat × Array Syntax × Array Syntax) p =>
    let i := r.1
    if p == "_" then (i + 1, r.2.1.push (at1 "?_"), r.2.2)
    else if p.isNat then (i + 1, r.2.1.push (mkNullNode #[at1 "fun", at1 p]), r.2.2)
    else let x := "a" ++ toString i; (i + 1, r.2.1.push (at1 ("?" ++ x)), r.2.2.push (mkNullNode #[at1 "case", at1 x, at1 p])))
    (0, #[at1 (ps.headD "")], #[])
  mkNullNode (#[at1 "seq", mkNullNode #[at1 "red", mkNullNode #[at1 "refine", mkNullNode r.2.1]]] ++ r.2.2)
def rows1 (w : String) : Syntax := mkNullNode (#[at1 "first"] ++ ((w.splitOn ";").map row1).toArray)
def tn (k : String) (xs : Array Syntax) : Syntax := mkNode (.str `Lean.Parser.Tactic k) xs
def mn (k : String) (xs : Array Syntax) : Syntax := mkNode (.str `Lean.Parser.Term k) xs
def oc : Syntax := tn "optConfig" #[mkNullNode]
def sq (xs : Array Syntax) : Syntax := tn "tacticSeq" #[tn "tacticSeq1Indented" #[mkNullNode xs]]
def sep (a : String) (xs : List Syntax) : Array Syntax := ((xs.flatMap fun x => [mkAtom a, x]).drop 1).toArray
def par (xs : List Syntax) : Syntax := tn "paren" #[mkAtom "(", sq (sep ";" xs), mkAtom ")"]
def nat1 (s : Syntax) : Nat := s.getAtomVal.toNat?.getD 0
def holes (n : Nat) : Array Syntax := Array.replicate n (mn "hole" #[mkAtom "_"])
/-- a term (true) or a tactic (false) of the brackets -/
def tell1 (lc : String → Syntax) (u : Bool → Syntax → Syntax) (b : Bool) (s : Syntax) : Syntax :=
    let f := (if s.isAtom then s else s.getArg 0).getAtomVal
    let as := s.getArgs.toList.tail
    match b, s.isAtom with
    | true, true =>
      if f == "?_" then mn "syntheticHole" #[mkAtom "?", mkAtom "_"]
      else if f == "_" then mn "hole" #[mkAtom "_"]
      else if f.startsWith "?" then mn "syntheticHole" #[mkAtom "?", lc (f.drop 1).toString]
      else mkIdent f.toName
    | true, false =>
      if f == "by" then mn "byTactic" #[mkAtom "by", sq #[u false (s.getArg 1)]]
      else if f == "fun" then mn "fun" #[mkAtom "fun", mn "basicFun" #[mkNullNode (holes (nat1 (s.getArg 1))), mkNullNode, mkAtom "=>", mn "syntheticHole" #[mkAtom "?", mkAtom "_"]]]
      else mn "app" #[mkIdent f.toName, mkNullNode (as.map (u true)).toArray]
    | false, true =>
      if f == "assumption" || f == "done" then tn f #[mkAtom f]
      else if f == "decide" || f == "omega" then tn f #[mkAtom f, oc]
      else if f == "rfl" then tn "tacticRfl" #[mkAtom f]
      else if f == "k_is" then mkNode `PySem.W.tacticK_is #[mkAtom f]
      else if f == "kernel_rfl" then mkNode `tacticKernel_rfl #[mkAtom f]
      else mkNode `PySem.W.tacticKtd_said_ #[mkAtom "ktd_said", Syntax.mkStrLit ("m." ++ f)]
    | false, false =>
      let t := s.getArg 1
      if f == "exact" || f == "apply" then tn f #[mkAtom f, u true t]
      else if f == "refine" then tn "refine'" #[mkAtom "refine'", u true t]
      else if f == "intro" then tn f #[mkAtom f, mkNullNode (holes (nat1 t))]
      else if f == "simp" then tn f #[mkAtom f, oc, mkNullNode, mkNullNode #[mkAtom "only"], mkNullNode #[mkAtom "[", mkNullNode (sep "," (as.map fun x => tn "simpLemma" #[mkNullNode, mkNullNode, mkIdent x.getAtomVal.toName])), mkAtom "]"], mkNullNode]
      else if f == "case" then tn f #[mkAtom f, mkNullNode #[tn "caseArg" #[mkNode `Lean.binderIdent #[lc t.getAtomVal], mkNullNode]], mkAtom "=>", sq #[u false (s.getArg 2)]]
      else if f == "first" then tn f #[mkAtom f, mkNullNode (as.map fun x => mkNode `group #[mkAtom "|", sq #[u false x]]).toArray]
      else if f == "rep" then tn "tacticRepeat_" #[mkAtom "repeat", sq #[u false t]]
      else if f == "no" then tn "failIfSuccess" #[mkAtom "fail_if_success", sq #[u false t]]
      else if f == "red" then tn "withReducible" #[mkAtom "with_reducible", sq #[u false t]]
      else if f == "unf" then tn "withUnfoldingAll" #[mkAtom "with_unfolding_all", sq #[u false t]]
      else if f == "all" then par [tn "tactic_<;>_" #[u false t, mkAtom "<;>", u false (s.getArg 2)]]
      else par (as.map (u false))
def tell (lc : String → Syntax) : Bool → Syntax → Syntax := Nat.repeat (tell1 lc) 40 fun _ _ => .missing
def told (s : Syntax) : MacroM (TSyntax `tactic) := do
  let n ← MonadQuotation.getCurrMacroScope
  let m ← MonadQuotation.getContext
  return ⟨tell (fun x => mkIdent (addMacroScope m (Name.mkSimple x) n)) false s⟩
def said1 (rows : String) : MacroM (TSyntax `tactic) := told (rows1 rows)
def word (w : String) : MacroM (TSyntax `tactic) := do
  let k := (w.drop 2).toString
  let r := words1 k
  if !w.startsWith "m." || r == "" then Macro.throwUnsupported
  told (if k.startsWith "G" then rows1 r else (brackets r).getArg 0)
end

end TMW
open PySem PySem.Spec PySem.Calls PyProof.Rows PySem.W
section W1
local macro_rules | `(tactic| ktd_said $s:str) => word s.getString

section TF1
open PySem PySem.Spec PySem.Calls PyProof.Rows PySem.W
set_option maxHeartbeats 1000000
noncomputable def octetsOf (n d : Int) : List Int := (if d.fmod 2 = 1 then [64, 64 + n.fdiv 64] else if n > 63 then [64 + n.fdiv 64] else []) ++ [n.fmod 64 + 128 * d.fdiv 2]
theorem octets_con {prog : Program} {w : World} (n d : Int) (tn td : Tok) : Con prog w (Mine.hd.heap_1 w.params) (.ref 284) [.int n tn, .int d td] [] 5 [] fun v us => ∃ l vs, v = .ref l ∧ us = [(l, .lst vs)] ∧ VL isI (octetsOf n d) vs := by
  intro g z s A Q E G S hA h
  refine' enter_cellsK (f := 284) (vals := [.int n tn, .int d td]) (binds := [((Str.ofString "number"), .int n tn), ((Str.ofString "dress"), .int d td)]) (m := [((Str.ofString "row"), none)]) (cs := fun n => [((Str.ofString "dress"), n + 1), ((Str.ofString "number"), n)]) ?ho1 ?hcd1 G S hA ?hbind1 ?hnd1 ?hok1 ?hm1 ?hcs1 ?body1 ?hbk1 ?hcn1 ?c11 ?c21 ?c31
  case ho1 => k_is
  case hcd1 => k_is
  case hbind1 => kernel_rfl
  case hnd1 => decide +kernel
  case hok1 => decide +kernel
  case hm1 => kernel_rfl
  case hcs1 => intro n; kernel_rfl
  case hbk1 => kernel_rfl
  case hcn1 => kernel_rfl
  case c11 => rfl
  case c21 => rfl
  case c31 => rfl
  intro env L s eo ex S
  refine absE ?_
  intro EE hEE
  obtain ⟨c_number, c_dress, eo, S⟩ : ∃ c_number c_dress, EO env L [((Str.ofString "number"), .cell), ((Str.ofString "dress"), .cell), ((Str.ofString "row"), .local), ((Str.ofString "enumerate"), .globalImplicit)] [((Str.ofString "dress"), c_dress), ((Str.ofString "number"), c_number)] ∧ St g z s ((L, .ns [((Str.ofString "row"), none)]) :: (c_dress, .cel (some (.int d td))) :: (c_number, .cel (some (.int n tn))) :: []) := ⟨L + 1, L + 1 + 1, eo, S⟩
  replace hA := hA.deeper env
  ktd_said "m.go"
  refine' r_comp (cl := [((Str.ofString "number"), c_number), ((Str.ofString "dress"), c_dress)]) ?e2 ?hcl2 ?hk2 ?hn2 ?body2 ?hs2
  case e2 => assumption
  case hcl2 => kernel_rfl
  case hk2 => rfl
  case hn2 => kernel_rfl
  case hs2 => intro _; rfl
  ktd_said "m.go"
  refine' comp_go0 (nm' := [((Str.ofString ".0"), .local), ((Str.ofString "place"), .local), ((Str.ofString "octet"), .local), ((Str.ofString "dress"), .cell), ((Str.ofString "number"), .cell)]) (m := [((Str.ofString ".0"), none), ((Str.ofString "place"), none), ((Str.ofString "octet"), none)]) (ks := [(Str.ofString "number"), (Str.ofString "dress")]) ?e3 ?S ?hnm3 ?hnd3 ?hok3 ?hk3 ?hc3 ?hks3 ?hn3 ?hm3 ?body3
  case e3 => assumption
  case S => ktd_said "m.st"
  case hnm3 => kernel_rfl
  case hnd3 => decide +kernel
  case hok3 => decide +kernel
  case hk3 => rfl
  case hc3 => kernel_rfl
  case hks3 => kernel_rfl
  case hn3 => decide +kernel
  case hm3 => kernel_rfl
  intro C D cenv s ceo S
  refine absR ?_
  intro RR hRR
  refine comp_start rfl ?_ (fun A' => it_enum (by ktd_said "m.st") (by ktd_said "m.h") ⟨rfl, rfl⟩)
  by_cases hd : d.fmod 2 = 1
  · refine comp1 ?_
    refine nx_enum (j := 0) (by ktd_said "m.st") (by ktd_said "m.s") (by ktd_said "m.s") (St.isL (by ktd_said "m.st") (by ktd_said "m.h")) rfl rfl (fun _ _ h => n1_some h) (fun _ _ _ _ => ?_)
    ktd_said "m.go"
    refine compA_go (by ktd_said "m.st") (by ktd_said "m.s") (by ktd_said "m.szl") (fun _ _ => ?_)
    refine comp1 ?_
    refine nx_enum (j := 1) (by ktd_said "m.st") (by ktd_said "m.s") (by ktd_said "m.s") (St.isL (by ktd_said "m.st") (by ktd_said "m.h")) rfl rfl (fun _ _ h => n1_some h) (fun _ _ _ _ => ?_)
    ktd_said "m.go"
    refine compA_go (by ktd_said "m.st") (by ktd_said "m.s") (by ktd_said "m.szl") (fun _ _ => ?_)
    refine comp1 ?_
    refine nx_enum (j := 2) (by ktd_said "m.st") (by ktd_said "m.s") (by ktd_said "m.s") (St.isL (by ktd_said "m.st") (by ktd_said "m.h")) rfl rfl (fun _ _ h => n1_some h) (fun _ _ _ _ => ?_)
    ktd_said "m.go"
    refine compA_go (by ktd_said "m.st") (by ktd_said "m.s") (by ktd_said "m.szl") (fun _ _ => ?_)
    refine comp1 ?_
    refine nx_enumEnd (AOk.handled (by with_reducible assumption)) (by ktd_said "m.st") (by ktd_said "m.h") (by ktd_said "m.p") (St.isL (by ktd_said "m.st") (by ktd_said "m.h")) rfl (fun _ _ => n1_none ?_)
    refine leafR (by with_reducible assumption) (comp_end (fr := (L, .ns _)) (by ktd_said "m.st") (by ktd_said "m.p") (fun _ _ => ?_))
    refine h _ _ _ ⟨D, _, rfl, rfl, ?_⟩ (St.keep (by ktd_said "m.st") (by ktd_said "m.keep"))
    unfold octetsOf
    rw [if_pos hd]
    exact .cons .mk (.cons .mk (.cons .mk .nil))
  · by_cases hn : n > 63
    · refine comp1 ?_
      refine nx_enum (j := 0) (by ktd_said "m.st") (by ktd_said "m.s") (by ktd_said "m.s") (St.isL (by ktd_said "m.st") (by ktd_said "m.h")) rfl rfl (fun _ _ h => n1_some h) (fun _ _ _ _ => ?_)
      ktd_said "m.go"
      refine comp1 ?_
      refine nx_enum (j := 1) (by ktd_said "m.st") (by ktd_said "m.s") (by ktd_said "m.s") (St.isL (by ktd_said "m.st") (by ktd_said "m.h")) rfl rfl (fun _ _ h => n1_some h) (fun _ _ _ _ => ?_)
      ktd_said "m.go"
      refine compA_go (by ktd_said "m.st") (by ktd_said "m.s") (by ktd_said "m.szl") (fun _ _ => ?_)
      refine comp1 ?_
      refine nx_enum (j := 2) (by ktd_said "m.st") (by ktd_said "m.s") (by ktd_said "m.s") (St.isL (by ktd_said "m.st") (by ktd_said "m.h")) rfl rfl (fun _ _ h => n1_some h) (fun _ _ _ _ => ?_)
      ktd_said "m.go"
      refine compA_go (by ktd_said "m.st") (by ktd_said "m.s") (by ktd_said "m.szl") (fun _ _ => ?_)
      refine comp1 ?_
      refine nx_enumEnd (AOk.handled (by with_reducible assumption)) (by ktd_said "m.st") (by ktd_said "m.h") (by ktd_said "m.p") (St.isL (by ktd_said "m.st") (by ktd_said "m.h")) rfl (fun _ _ => n1_none ?_)
      refine leafR (by with_reducible assumption) (comp_end (fr := (L, .ns _)) (by ktd_said "m.st") (by ktd_said "m.p") (fun _ _ => ?_))
      refine h _ _ _ ⟨D, _, rfl, rfl, ?_⟩ (St.keep (by ktd_said "m.st") (by ktd_said "m.keep"))
      unfold octetsOf
      rw [if_neg hd, if_pos hn]
      exact .cons .mk (.cons .mk .nil)
    · refine comp1 ?_
      refine nx_enum (j := 0) (by ktd_said "m.st") (by ktd_said "m.s") (by ktd_said "m.s") (St.isL (by ktd_said "m.st") (by ktd_said "m.h")) rfl rfl (fun _ _ h => n1_some h) (fun _ _ _ _ => ?_)
      ktd_said "m.go"
      refine comp1 ?_
      refine nx_enum (j := 1) (by ktd_said "m.st") (by ktd_said "m.s") (by ktd_said "m.s") (St.isL (by ktd_said "m.st") (by ktd_said "m.h")) rfl rfl (fun _ _ h => n1_some h) (fun _ _ _ _ => ?_)
      ktd_said "m.go"
      refine comp1 ?_
      refine nx_enum (j := 2) (by ktd_said "m.st") (by ktd_said "m.s") (by ktd_said "m.s") (St.isL (by ktd_said "m.st") (by ktd_said "m.h")) rfl rfl (fun _ _ h => n1_some h) (fun _ _ _ _ => ?_)
      ktd_said "m.go"
      refine compA_go (by ktd_said "m.st") (by ktd_said "m.s") (by ktd_said "m.szl") (fun _ _ => ?_)
      refine comp1 ?_
      refine nx_enumEnd (AOk.handled (by with_reducible assumption)) (by ktd_said "m.st") (by ktd_said "m.h") (by ktd_said "m.p") (St.isL (by ktd_said "m.st") (by ktd_said "m.h")) rfl (fun _ _ => n1_none ?_)
      refine leafR (by with_reducible assumption) (comp_end (fr := (L, .ns _)) (by ktd_said "m.st") (by ktd_said "m.p") (fun _ _ => ?_))
      refine h _ _ _ ⟨D, _, rfl, rfl, ?_⟩ (St.keep (by ktd_said "m.st") (by ktd_said "m.keep"))
      unfold octetsOf
      rw [if_neg hd, if_neg hn]
      exact .cons .mk .nil

end TF1
section TF2
open PySem PySem.Spec PySem.Calls PyProof.Rows PySem.W
set_option pp.maxSteps 400
set_option maxHeartbeats 1000000
theorem abc_at : ∀ i, i < 5 → (Str.ofString "abcde").cps[i]? = some (97 + i) := by decide +kernel
theorem up_len : ∀ i, i < 5 → (Txt.upper ⟨#[97 + i]⟩).length = 1 := by decide +kernel
theorem lets_len (t g : Int) : ∀ n, n ≤ 5 → ((letsTo t g n).map (·.length)).sum + (letsTo t g n).length * (Str.ofString "").length ≤ n
  | 0, _ => by simp [letsTo]
  | n + 1, h => by
    have ih := lets_len t g n (by omega)
    have e : (Str.ofString "").length = 0 := by decide +kernel
    rw [e] at ih ⊢
    have q : (sgn g n).length = 1 := by
      unfold sgn
      split
      · exact up_len n (by omega)
      · rfl
    unfold letsTo
    split <;> simp [q] <;> simp at ih <;> omega
theorem name_con {prog : Program} {w : World} (t gr : Int) (u v : Tok) : Con prog w (Mine.hd.heap_1 w.params) (.ref 303) [.int t u, .int gr v] [] 5 [] fun r us => isS (nameOf t gr) r ∧ us = [] := by
  intro g z s A Q E G S hA h
  refine' enter_cellsK (f := 303) (vals := [.int t u, .int gr v]) (binds := [((Str.ofString "term"), .int t u), ((Str.ofString "great"), .int gr v)]) (m := []) (cs := fun n => [((Str.ofString "great"), n + 1), ((Str.ofString "term"), n)]) ?ho1 ?hcd1 G S hA ?hbind1 ?hnd1 ?hok1 ?hm1 ?hcs1 ?body1 ?hbk1 ?hcn1 ?c11 ?c21 ?c31
  case ho1 => k_is
  case hcd1 => k_is
  case hbind1 => kernel_rfl
  case hnd1 => decide +kernel
  case hok1 => decide +kernel
  case hm1 => kernel_rfl
  case hcs1 => intro n; kernel_rfl
  case hbk1 => kernel_rfl
  case hcn1 => kernel_rfl
  case c11 => rfl
  case c21 => rfl
  case c31 => rfl
  intro env L s eo ex S
  refine absE ?_
  intro EE hEE
  obtain ⟨c_term, c_great, eo, S⟩ : ∃ c_term c_great, EO env L [((Str.ofString "term"), .cell), ((Str.ofString "great"), .cell), ((Str.ofString "enumerate"), .globalImplicit)] [((Str.ofString "great"), c_great), ((Str.ofString "term"), c_term)] ∧ St g z s ((L, .ns []) :: (c_great, .cel (some (.int gr v))) :: (c_term, .cel (some (.int t u))) :: []) := ⟨L + 1, L + 1 + 1, eo, S⟩
  replace hA := hA.deeper env
  ktd_said "m.go"
  refine' r_comp (cl := [((Str.ofString "term"), c_term), ((Str.ofString "great"), c_great)]) ?e2 ?hcl2 ?hk2 ?hn2 ?body2 ?hs2
  case e2 => assumption
  case hcl2 => kernel_rfl
  case hk2 => rfl
  case hn2 => kernel_rfl
  case hs2 => intro _; rfl
  ktd_said "m.go"
  rename_i x1 e it s1 S1
  try replace S1 := Se.st S1
  refine' comp_go0 (nm' := [((Str.ofString ".0"), .local), ((Str.ofString "place"), .local), ((Str.ofString "letter"), .local), ((Str.ofString "great"), .cell), ((Str.ofString "term"), .cell)]) (m := [((Str.ofString ".0"), none), ((Str.ofString "place"), none), ((Str.ofString "letter"), none)]) (ks := [(Str.ofString "term"), (Str.ofString "great")]) ?e3 ?S ?hnm3 ?hnd3 ?hok3 ?hk3 ?hc3 ?hks3 ?hn3 ?hm3 ?body3
  case e3 => assumption
  case S => ktd_said "m.st"
  case hnm3 => kernel_rfl
  case hnd3 => decide +kernel
  case hok3 => decide +kernel
  case hk3 => rfl
  case hc3 => kernel_rfl
  case hks3 => kernel_rfl
  case hn3 => decide +kernel
  case hm3 => kernel_rfl
  intro C D cenv s ceo S
  refine absR ?_
  intro RR hRR
  refine comp_start rfl ?_ (fun A' => it_enum (by ktd_said "m.st") (by ktd_said "m.h") ⟨rfl, rfl⟩)
  refine loop_ind (P := fun i s => ∃ p q vs x, VL isS (letsTo t gr i) vs ∧ St g z s ((C, .ns [((Str.ofString ".0"), none), ((Str.ofString "place"), p), ((Str.ofString "letter"), q)]) :: (D, .lst vs) :: (L, .ns []) :: (e, .enm it i) :: (it, .sit (Str.ofString "abcde") x i) :: (c_great, .cel (some (.int gr v))) :: (c_term, .cel (some (.int t u))) :: [])) 5 ?_ ?_ _ (exI4_2 _ _ _ _ .nil S)
  · intro i hi ih s hP
    refine exE4_2 hP (fun p q vs x S hv => ?_)
    clear hP
    refine comp1 ?_
    refine nx_enumS (AOk.handled (by with_reducible assumption)) (by ktd_said "m.st") (by ktd_said "m.s") (by ktd_said "m.s") (abc_at i hi) rfl (fun _ _ h => n1_some h) (fun _ _ _ _ _ => ?_)
    ktd_said "m.go"
    have e0 : letsTo t gr (i + 1) = letsTo t gr i ++ (if bit t i then [sgn gr i] else []) := rfl
    have fin : ∀ {y : Str} {k : Tok}, bit t i = true → y = sgn gr i → VL isS (letsTo t gr (i + 1)) (vs ++ [.str y k]) := fun hb e => by rw [e0, if_pos hb, e]; exact hv.snoc .mk
    cases hb : bit t i
    · refine if_f (fun q => absurd (show bit t i = true from q) (by rw [hb]; decide)) ?_
      refine ih _ (exI4_2 _ _ vs x ?_ (St.keep (by ktd_said "m.st") (by ktd_said "m.keep")))
      rw [e0, hb, if_neg (by decide), List.append_nil]
      exact hv
    · refine if_t (show _ from hb) ?_
      ktd_said "m.go"
      have hsz : vs.length ≤ sizeLine := by
        have h1 := hv.len
        have h2 := lets_len t gr i (by omega)
        have e1 : (Str.ofString "").length = 0 := by decide +kernel
        have h3 : ∀ n, n ≤ 5 → (letsTo t gr n).length ≤ n := by
          intro n hn
          induction n with
          | zero => simp [letsTo]
          | succ n ih => have := ih (by omega); unfold letsTo; split <;> simp <;> omega
        exact szl (by have := h3 i (by omega); omega)
      cases hg : bit gr i
      · refine if_f (fun q => absurd (show bit gr i = true from q) (by rw [hg]; decide)) ?_
        ktd_said "m.go"
        refine compA_go (by ktd_said "m.st") (by ktd_said "m.s") hsz (fun _ _ => ?_)
        exact ih _ (exI4_2 _ _ _ x (fin (y := ⟨#[97 + i]⟩) hb (by unfold sgn; rw [hg]; rfl)) (St.keep (by ktd_said "m.st") (by ktd_said "m.keep")))
      · refine if_t (show _ from hg) ?_
        have hu : (Txt.upper ⟨#[97 + i]⟩).length ≤ 1000 := by rw [up_len i hi]; decide
        ktd_said "m.go"
        refine compA_go (by ktd_said "m.st") (by ktd_said "m.s") hsz (fun _ _ => ?_)
        exact ih _ (exI4_2 _ _ _ x (fin (y := Txt.upper ⟨#[97 + i]⟩) hb (by unfold sgn; rw [hg]; rfl)) (St.keep (by ktd_said "m.st") (by ktd_said "m.keep")))
  · intro s hP
    refine exE4_2 hP (fun p q vs x S hv => ?_)
    clear hP
    refine comp1 ?_
    refine nx_enumSEnd (AOk.handled (by with_reducible assumption)) (by ktd_said "m.st") (by ktd_said "m.h") (by ktd_said "m.p") (by decide +kernel) (fun _ _ => n1_none ?_)
    refine leafR (by with_reducible assumption) (comp_end (fr := (L, .ns _)) (by ktd_said "m.st") (by ktd_said "m.p") (fun _ _ => ?_))
    ktd_said "m.go"
    refine s_join (by ktd_said "m.st") (by ktd_said "m.h") hv (Nat.le_trans (lets_len t gr 5 (Nat.le_refl _)) (by decide)) (fun _ _ _ => ?_)
    exact h _ _ _ ⟨.mk, rfl⟩ (St.keep (by ktd_said "m.st") (by ktd_said "m.keep"))

end TF2
section TF3
open PySem PySem.Spec PySem.Calls PyProof.Rows PySem.W
set_option pp.maxSteps 400
set_option maxHeartbeats 1000000
theorem value_con {prog : Program} {w : World} (t : Int) (u : Tok) : Con prog w (Mine.hd.heap_1 w.params) (.ref 308) [.int t u] [] 10 [] fun r us => isS (valueOf t) r ∧ us = [] := by
  intro g z s A Q E G S hA h
  refine' enter_plainK (f := 308) (args := ⟨[.int t u], []⟩) (binds := [((Str.ofString "term"), .int t u)]) (m := [((Str.ofString "term"), some (.int t u))]) ?ho1 ?hcd1 G S hA ?hbind1 ?hnd1 ?hok1 ?hm1 ?body1 ?hcell1 ?hloc1 ?c11 ?c21 ?c31
  case ho1 => k_is
  case hcd1 => k_is
  case hbind1 => exact BindsTo.of_eq (by kernel_rfl)
  case hnd1 => decide +kernel
  case hok1 => decide +kernel
  case hm1 => kernel_rfl
  case hcell1 => kernel_rfl
  case hloc1 => kernel_rfl
  case c11 => rfl
  case c21 => rfl
  case c31 => rfl
  intro env L s eo ex S
  refine absE ?_
  intro EE hEE
  replace eo : EO env L [((Str.ofString "term"), .local), ((Str.ofString "_law_name"), .globalImplicit)] [] := eo
  replace hA := hA.deeper env
  ktd_said "m.go"
  refine' r_comp (cl := []) ?e2 ?hcl2 ?hk2 ?hn2 ?body2 ?hs2
  case e2 => assumption
  case hcl2 => kernel_rfl
  case hk2 => rfl
  case hn2 => kernel_rfl
  case hs2 => intro _; rfl
  ktd_said "m.go"
  refine (name_con t 0 _ _).useV (by assumption) (by ktd_said "m.st") (hA.mono (by decide)) (fun v s' hv S' => ?_)
  obtain ⟨tk, rfl⟩ := hv
  refine it_str S' (name_ok t 0).1 (fun it s1 S1 => ?_)
  refine' comp_go0 (nm' := [((Str.ofString ".0"), .local), ((Str.ofString "letter"), .local)]) (m := [((Str.ofString ".0"), none), ((Str.ofString "letter"), none)]) (ks := []) ?e3 ?S ?hnm3 ?hnd3 ?hok3 ?hk3 ?hc3 ?hks3 ?hn3 ?hm3 ?body3
  case e3 => assumption
  case S => ktd_said "m.st"
  case hnm3 => kernel_rfl
  case hnd3 => decide +kernel
  case hok3 => decide +kernel
  case hk3 => rfl
  case hc3 => kernel_rfl
  case hks3 => kernel_rfl
  case hn3 => decide +kernel
  case hm3 => kernel_rfl
  intro C D cenv s ceo S
  refine absR ?_
  intro RR hRR
  refine comp_start rfl ?_ (fun A' => it_siter (by ktd_said "m.st") (by ktd_said "m.h") ⟨rfl, rfl⟩)
  refine loop_ind (P := fun i s => ∃ p vs, VL isS (partsV (nameOf t 0) i) vs ∧ St g z s ((C, .ns [((Str.ofString ".0"), none), ((Str.ofString "letter"), p)]) :: (D, .lst vs) :: (L, .ns [((Str.ofString "term"), some (.int t u))]) :: (it, .sit (nameOf t 0) tk i) :: [])) (nameOf t 0).cps.size ?_ ?_ _ (exI2_2 _ _ .nil S)
  · intro i hi ih s hP
    refine exE2_2 hP (fun p vs S hv => ?_)
    clear hP
    refine comp0 ?_
    have hc : (nameOf t 0).cps[i]? = some (nameOf t 0).cps[i] := Array.getElem?_eq_getElem hi
    refine nx_strN (by ktd_said "m.st") (by ktd_said "m.s") hc (fun _ _ h => n0_some h) (fun _ _ _ => ?_)
    have hsz : (⟨#[(nameOf t 0).cps[i]]⟩ : Str).length + (Str.ofString "...").length ≤ 1000 := by rw [len_dots]; show 1 + 3 ≤ 1000; decide
    ktd_said "m.go"
    have h5 := (name_ok t 0).2
    have h6 := partsV_len (nameOf t 0) i
    refine compA_go (by ktd_said "m.st") (by ktd_said "m.s") (szl (by have := hv.len; omega)) (fun _ _ => ?_)
    refine ih _ (exI2_2 _ _ ?_ (St.keep (by ktd_said "m.st") (by ktd_said "m.keep")))
    have e : partsV (nameOf t 0) (i + 1) = partsV (nameOf t 0) i ++ [(⟨#[(nameOf t 0).cps[i]]⟩ : Str) ++ Str.ofString "..."] := by
      unfold partsV
      rw [List.take_add_one, List.map_append]
      have e2 : (nameOf t 0).cps.toList[i]? = some (nameOf t 0).cps[i] := by rw [Array.getElem?_toList]; exact hc
      rw [e2]
      rfl
    rw [e]
    exact hv.snoc .mk
  · intro s hP
    refine exE2_2 hP (fun p vs S hv => ?_)
    clear hP
    refine comp0 ?_
    refine nx_strEnd (AOk.handled (by with_reducible assumption)) (by ktd_said "m.st") (by ktd_said "m.p") (by simp) (fun _ _ => n0_none ?_)
    refine leafR (by with_reducible assumption) (comp_end (fr := (L, .ns _)) (by ktd_said "m.st") (by ktd_said "m.p") (fun _ _ => ?_))
    ktd_said "m.go"
    have h5 := (name_ok t 0).2
    have h6 := partsV_len (nameOf t 0) (nameOf t 0).cps.size
    refine s_join (by ktd_said "m.st") (by ktd_said "m.h") hv (by rw [partsV_sum, len_nil]; omega) (fun _ _ _ => ?_)
    have hsz : (Str.ofString "...").length + (Txt.join (Str.ofString "") (partsV (nameOf t 0) (nameOf t 0).cps.size)).length ≤ 1000 := by
      have := value_join_len t
      rw [len_dots]
      omega
    ktd_said "m.go"
    exact h _ _ _ ⟨.mk, rfl⟩ (St.keep (by ktd_said "m.st") (by ktd_said "m.keep"))
theorem pairs_con {prog : Program} {w : World} (t gr : Int) (u v : Tok) : Con prog w (Mine.hd.heap_1 w.params) (.ref 315) [.int t u, .int gr v] [] 15 [] fun r us => ∃ l a b t1 t2 t3 t4, r = .ref l ∧ us = [(l, .lst [.ref a, .ref b]), (a, .tup [.str (nameOf t gr) t1, .str (valueOf t) t2]), (b, .tup [.str (nameOf t (Builtin.bitNot gr)) t3, .str (nameOf t 0) t4])] := by
  intro g z s A Q E G S hA h
  refine' enter_plainK (f := 315) (args := ⟨[.int t u, .int gr v], []⟩) (binds := [((Str.ofString "term"), .int t u), ((Str.ofString "great"), .int gr v)]) (m := [((Str.ofString "term"), some (.int t u)), ((Str.ofString "great"), some (.int gr v))]) ?ho4 ?hcd4 G S hA ?hbind4 ?hnd4 ?hok4 ?hm4 ?body4 ?hcell4 ?hloc4 ?c14 ?c24 ?c34
  case ho4 => k_is
  case hcd4 => k_is
  case hbind4 => exact BindsTo.of_eq (by kernel_rfl)
  case hnd4 => decide +kernel
  case hok4 => decide +kernel
  case hm4 => kernel_rfl
  case hcell4 => kernel_rfl
  case hloc4 => kernel_rfl
  case c14 => rfl
  case c24 => rfl
  case c34 => rfl
  intro env L s eo ex S
  refine absE ?_
  intro EE hEE
  replace eo : EO env L [((Str.ofString "term"), .local), ((Str.ofString "great"), .local), ((Str.ofString "_law_name"), .globalImplicit), ((Str.ofString "_law_value"), .globalImplicit)] [] := eo
  replace hA := hA.deeper env
  ktd_said "m.go"
  refine (name_con t gr _ _).useV (by assumption) (by ktd_said "m.st") (hA.mono (by decide)) (fun v1 s1 hv S1 => ?_)
  obtain ⟨t1, rfl⟩ := hv
  ktd_said "m.go"
  refine (value_con t _).useV (by assumption) (by ktd_said "m.st") (hA.mono (by decide)) (fun v1 s1 hv S1 => ?_)
  obtain ⟨t2, rfl⟩ := hv
  ktd_said "m.go"
  refine (name_con t (Builtin.bitNot gr) _ _).useV (by assumption) (by ktd_said "m.st") (hA.mono (by decide)) (fun v1 s1 hv S1 => ?_)
  obtain ⟨t3, rfl⟩ := hv
  ktd_said "m.go"
  refine (name_con t 0 _ _).useV (by assumption) (by ktd_said "m.st") (hA.mono (by decide)) (fun v1 s1 hv S1 => ?_)
  obtain ⟨t4, rfl⟩ := hv
  ktd_said "m.go"
  exact h _ _ _ ⟨_, _, _, _, _, _, _, rfl, rfl⟩ (St.keep (by ktd_said "m.st") (by ktd_said "m.keep"))

end TF3
section TF4
open PySem PySem.Spec PySem.Calls PyProof.Rows PySem.W
set_option pp.maxSteps 400
set_option maxHeartbeats 1000000
theorem VL.set {α : Type} {P : α → Value → Prop} {xs : List α} {vs : List Value} (h : VL P xs vs) : ∀ {i : Nat} {x : α} {v : Value}, P x v → VL P (xs.set i x) (vs.set i v) := by
  induction h with
  | nil => intro i x v _; exact .nil
  | cons hp ht ih =>
    intro i x v hx
    cases i with
    | zero => exact .cons hx ht
    | succ i => exact .cons hp (ih hx)
theorem sums_con {prog : Program} {w : World} {g : Heap} {z s : Shared} {A : Around} {Q E : Value → Shared → Prop} {us : List (Addr × Kd)} {sl : Addr} {xs : List Int} {vs : List Value} (G : Gd (Mine.hd.heap_1 w.params) g) (S : St g z s us) (hA : AOk A 5)
    (hl : g.IsList sl vs.toArray) (hv : VL isI xs vs) (hn : vs.length ≤ 1000) (h : ∀ l ts ys s', ys.length = 5 → (∀ y ∈ ys, 0 ≤ y ∧ y < 1000000) → VL isI ys ts → St g z s' ((l, .lst ts) :: us) → Q (.ref l) s') : wpAny (model prog w) A (call (.ref 279) [.ref sl]) Q E s := by
  refine' enter_plainK (f := 279) (args := ⟨[.ref sl], []⟩) (binds := [((Str.ofString "script"), .ref sl)]) (m := [((Str.ofString "script"), some (.ref sl)), ((Str.ofString "sums"), none), ((Str.ofString "turn"), none), ((Str.ofString "x"), none)]) ?ho1 ?hcd1 G S hA ?hbind1 ?hnd1 ?hok1 ?hm1 ?body1 ?hcell1 ?hloc1 ?c11 ?c21 ?c31
  case ho1 => k_is
  case hcd1 => k_is
  case hbind1 => exact BindsTo.of_eq (by kernel_rfl)
  case hnd1 => decide +kernel
  case hok1 => decide +kernel
  case hm1 => kernel_rfl
  case hcell1 => kernel_rfl
  case hloc1 => kernel_rfl
  case c11 => rfl
  case c21 => rfl
  case c31 => rfl
  intro env L s eo ex S
  refine absE ?_
  intro EE hEE
  replace eo : EO env L [((Str.ofString "script"), .local), ((Str.ofString "sums"), .local), ((Str.ofString "turn"), .local), ((Str.ofString "x"), .local), ((Str.ofString "enumerate"), .globalImplicit)] [] := eo
  replace hA := hA.deeper env
  ktd_said "m.go"
  refine r_sliceL g z ?_ (by intro _ _; rfl)
  ktd_said "m.go"
  refine mk_sliceL (by ktd_said "m.st") (isl_keep hl (St.kp (by ktd_said "m.st"))) (szl hn) (by decide) (fun a sa Sa => ?_)
  ktd_said "m.go"
  rename_i e it s1 S1
  try replace S1 := Se.st S1
  have hlen : (vs.take (60 : Int).toNat).length ≤ 1000 := by rw [List.length_take]; omega
  refine loop_ind (P := fun i s => ∃ l0 p q ts ys, List.length ys = 5 ∧ VL isI ys ts ∧ St g z s ((L, .ns [((Str.ofString "script"), some (.ref sl)), ((Str.ofString "sums"), some (.ref l0)), ((Str.ofString "turn"), p), ((Str.ofString "x"), q)]) :: (e, .enm it i) :: (it, .lit a i) :: (a, .lst (vs.take (60 : Int).toNat)) :: (l0, .lst ts) :: us)) (vs.take (60 : Int).toNat).length ?_ ?_ _ (exI5_3 _ _ _ _ [_, _, _, _, _] rfl (.cons .mk (.cons .mk (.cons .mk (.cons .mk (.cons .mk .nil))))) S1)
  · intro i hi ih s hP
    refine exE5_3 hP (fun l0 p q ts ys S hy ht => ?_)
    clear hP
    refine for_turn ?_
    have hx : (vs.take (60 : Int).toNat)[i]? = some (vs.take (60 : Int).toNat)[i] := List.getElem?_eq_getElem hi
    obtain ⟨xi, _, ⟨ti, hxi⟩⟩ := hv.get2 (i := i) (v := (vs.take (60 : Int).toNat)[i]) (by rw [List.getElem?_take_of_lt (by rw [List.length_take] at hi; omega)] at hx; exact hx)
    rw [hxi] at hx
    refine nx_enum (j := (i : Int)) (by ktd_said "m.st") (by ktd_said "m.s") (by ktd_said "m.s") (St.isL (by ktd_said "m.st") (by ktd_said "m.h")) hx rfl (fun _ _ h => forN_some h) (fun _ _ _ _ => ?_)
    have hk : ((i : Int).fmod 5).toNat < ys.length := by
      have := Int.fmod_nonneg (Int.natCast_nonneg i) (show (0 : Int) ≤ 5 by decide)
      have := Int.fmod_lt_of_pos (i : Int) (show (0 : Int) < 5 by decide)
      omega
    have k0 : 0 ≤ (i : Int).fmod 5 := Int.fmod_nonneg (Int.natCast_nonneg i) (by decide)
    have k1 : (i : Int).fmod 5 < 2 ^ 63 := by have := Int.fmod_lt_of_pos (i : Int) (show (0 : Int) < 5 by decide); omega
    obtain ⟨_, hg, ⟨ty, rfl⟩⟩ := ht.get (List.getElem?_eq_getElem hk)
    ktd_said "m.go"
    refine get_list (by ktd_said "m.st") (by ktd_said "m.h") k0 k1 hg ?_
    ktd_said "m.go"
    refine set_list (by ktd_said "m.st") (by ktd_said "m.s") k0 k1 (by have := ht.len; omega) (fun _ _ => ?_)
    ktd_said "m.go"
    refine ih _ (exI5_3 l0 _ _ _ _ ?_ (ht.set .mk) (St.keep (by ktd_said "m.st") (by ktd_said "m.keep")))
    rw [List.length_set]; exact hy
  · intro s hP
    refine exE5_3 hP (fun l0 p q ts ys S hy ht => ?_)
    clear hP
    refine for_turn ?_
    refine nx_enumEnd (AOk.handled (by with_reducible assumption)) (by ktd_said "m.st") (by ktd_said "m.h") (by ktd_said "m.p") (St.isL (by ktd_said "m.st") (by ktd_said "m.h")) (List.getElem?_eq_none (Nat.le_refl _)) (fun _ _ => forN_none ?_)
    ktd_said "m.go"
    refine' r_comp (cl := []) ?e2 ?hcl2 ?hk2 ?hn2 ?body2 ?hs2
    case e2 => assumption
    case hcl2 => kernel_rfl
    case hk2 => rfl
    case hn2 => kernel_rfl
    case hs2 => intro _; rfl
    ktd_said "m.go"
    rename_i I s2 S2
    try replace S2 := Se.st S2
    refine' comp_go0 (nm' := [((Str.ofString ".0"), .local), ((Str.ofString "one"), .local)]) (m := [((Str.ofString ".0"), none), ((Str.ofString "one"), none)]) (ks := []) ?e3 ?S ?hnm3 ?hnd3 ?hok3 ?hk3 ?hc3 ?hks3 ?hn3 ?hm3 ?body3
    case e3 => assumption
    case S => ktd_said "m.st"
    case hnm3 => kernel_rfl
    case hnd3 => decide +kernel
    case hok3 => decide +kernel
    case hk3 => rfl
    case hc3 => kernel_rfl
    case hks3 => kernel_rfl
    case hn3 => decide +kernel
    case hm3 => kernel_rfl
    intro C D cenv s ceo S
    refine absR ?_
    intro RR hRR
    refine comp_start rfl ?_ (fun A' => it_listiter (by ktd_said "m.st") (by ktd_said "m.h") ⟨rfl, rfl⟩)
    refine loop_ind (P := fun i s => ∃ r us', VL isI ((ys.take i).map fun y => y.fmod (10 ^ (6 : Int).toNat)) us' ∧ St g z s ((C, .ns [((Str.ofString ".0"), none), ((Str.ofString "one"), r)]) :: (D, .lst us') :: (L, .ns [((Str.ofString "script"), some (.ref sl)), ((Str.ofString "sums"), some (.ref l0)), ((Str.ofString "turn"), p), ((Str.ofString "x"), q)]) :: (I, .lit l0 i) :: (l0, .lst ts) :: us)) ts.length ?_ ?_ _ (exI2_2 _ _ .nil (St.keep S (by ktd_said "m.keep")))
    · intro i hi ih s hP
      refine exE2_2 hP (fun r us' S hv' => ?_)
      clear hP
      refine comp0 ?_
      obtain ⟨yi, hyi, ⟨ti, hti⟩⟩ := ht.get2 (List.getElem?_eq_getElem hi)
      have hx : ts[i]? = some ts[i] := List.getElem?_eq_getElem hi
      rw [hti] at hx
      refine nx_lstN (by ktd_said "m.st") (by ktd_said "m.s") (St.isL (by ktd_said "m.st") (by ktd_said "m.h")) hx (fun _ _ h => n0_some h) (fun _ _ => ?_)
      ktd_said "m.go"
      refine compA_go (by ktd_said "m.st") (by ktd_said "m.s") (szl (by have := hv'.len; rw [List.length_map, List.length_take] at this; omega)) (fun _ _ => ?_)
      refine ih _ (exI2_2 _ _ ?_ (St.keep (by ktd_said "m.st") (by ktd_said "m.keep")))
      rw [List.take_add_one, hyi, List.map_append]
      exact hv'.snoc .mk
    · intro s hP
      refine exE2_2 hP (fun r us' S hv' => ?_)
      clear hP
      refine comp0 ?_
      refine nx_listEnd (AOk.handled (by with_reducible assumption)) (by ktd_said "m.st") (by ktd_said "m.p") (St.isL (by ktd_said "m.st") (by ktd_said "m.h")) (List.getElem?_eq_none (Nat.le_refl _)) (fun _ _ => n0_none ?_)
      refine leafR (by with_reducible assumption) (comp_end (fr := (L, .ns _)) (by ktd_said "m.st") (by ktd_said "m.p") (fun _ _ => ?_))
      rw [ht.len, List.take_length] at hv'
      refine h D us' _ _ (by rw [List.length_map]; exact hy) (fun y hm => ?_) hv' (St.keep (by ktd_said "m.st") (by ktd_said "m.keep"))
      obtain ⟨y0, _, rfl⟩ := List.mem_map.mp hm
      exact ⟨Int.fmod_nonneg_of_pos _ (by decide), Int.fmod_lt_of_pos _ (by decide)⟩

end TF4
section TF5
open PySem PySem.Spec PySem.Calls PyProof.Rows PySem.W
set_option pp.maxSteps 400
set_option maxHeartbeats 1000000
/-- how a number is read from octets: after the one at b, from place i on, with val so far -/
inductive VRun (xs : List Int) : Nat → Int → Int → Nat → Int → Prop
  | stop {i : Nat} {val b : Int} : (Builtin.bitAnd b 64 != 0) = false → VRun xs i val b i val
  | more {i j : Nat} {val b c r : Int} : (Builtin.bitAnd b 64 != 0) = true → val.natAbs < 2 ^ 64 → xs[i]? = some c → VRun xs (i + 1) (Builtin.bitOr (val * 2 ^ (6 : Int).toNat) (Builtin.bitAnd c 63)) c j r → VRun xs i val b j r
theorem vrun_ind {xs : List Int} {P : Nat → Int → Int → Shared → Prop} {C : Shared → Prop} {i : Nat} {val b : Int} {j : Nat} {r : Int} (H : VRun xs i val b j r)
    (more : ∀ i val b c, (Builtin.bitAnd b 64 != 0) = true → val.natAbs < 2 ^ 64 → xs[i]? = some c → (∀ s, P (i + 1) (Builtin.bitOr (val * 2 ^ (6 : Int).toNat) (Builtin.bitAnd c 63)) c s → C s) → ∀ s, P i val b s → C s)
    (stop : ∀ b, (Builtin.bitAnd b 64 != 0) = false → ∀ s, P j r b s → C s) : ∀ s, P i val b s → C s := by
  induction H with
  | stop h => exact stop _ h
  | more h h' hc _ ih => exact more _ _ _ _ h h' hc (ih stop)
theorem parse_con {prog : Program} {w : World} {xs : List Int} {vs : List Value} {I l : Addr} {i j : Nat} {b r : Int} (hv : VL isI xs vs) (hb : xs[i]? = some b) (hr : VRun xs (i + 1) (Builtin.bitAnd b 63) b j r) :
    Con prog w (Mine.hd.heap_1 w.params) (.ref 117) [.ref I] [] 5 [(I, .lit l i), (l, .lst vs)] fun v us => isI r v ∧ us = [(I, .lit l j), (l, .lst vs)] := by
  intro g z s A Q E G S hA h
  refine' enter_plainK (f := 117) (args := ⟨[.ref I], []⟩) (binds := [((Str.ofString "iterator"), .ref I)]) (m := [((Str.ofString "iterator"), some (.ref I)), ((Str.ofString "b"), none), ((Str.ofString "val"), none)]) ?ho1 ?hcd1 G S hA ?hbind1 ?hnd1 ?hok1 ?hm1 ?body1 ?hcell1 ?hloc1 ?c11 ?c21 ?c31
  case ho1 => k_is
  case hcd1 => k_is
  case hbind1 => exact BindsTo.of_eq (by kernel_rfl)
  case hnd1 => decide +kernel
  case hok1 => decide +kernel
  case hm1 => kernel_rfl
  case hcell1 => kernel_rfl
  case hloc1 => kernel_rfl
  case c11 => rfl
  case c21 => rfl
  case c31 => rfl
  intro env L s eo ex S
  refine absE ?_
  intro EE hEE
  replace eo : EO env L [((Str.ofString "iterator"), .local), ((Str.ofString "b"), .local), ((Str.ofString "val"), .local), ((Str.ofString "next"), .globalImplicit)] [] := eo
  replace hA := hA.deeper env
  obtain ⟨_, hg, ⟨tb, rfl⟩⟩ := hv.get hb
  ktd_said "m.go"
  refine bi_next (by ktd_said "m.st") (by ktd_said "m.s") (St.isL (by ktd_said "m.st") (by ktd_said "m.h")) hg (fun _ _ => ?_)
  ktd_said "m.go"
  refine vrun_ind (P := fun i val b s => ∃ tv tb, St g z s [(L, .ns [((Str.ofString "iterator"), some (.ref I)), ((Str.ofString "b"), some (.int b tb)), ((Str.ofString "val"), some (.int val tv))]), (I, .lit l i), (l, .lst vs)]) hr ?_ ?_ _ (exI2_1 _ _ (by ktd_said "m.st"))
  · intro i val b c h64 hval hc ih s hP
    refine exE2_1 hP (fun tv tb S => ?_)
    clear hP
    obtain ⟨_, hg, ⟨tc, rfl⟩⟩ := hv.get hc
    refine while_turn ?_
    ktd_said "m.go"
    try refine if_t h64 ?_
    ktd_said "m.go"
    refine bi_next (by ktd_said "m.st") (by ktd_said "m.s") (St.isL (by ktd_said "m.st") (by ktd_said "m.h")) hg (fun _ _ => ?_)
    ktd_said "m.go"
    exact ih _ (exI2_1 _ _ (St.keep (by ktd_said "m.st") (by ktd_said "m.keep")))
  · intro b h64 s hP
    refine exE2_1 hP (fun tv tb S => ?_)
    clear hP
    refine while_turn ?_
    ktd_said "m.go"
    try refine if_f (by rw [h64]; decide) ?_
    ktd_said "m.go"
    exact h _ _ _ ⟨.mk, rfl⟩ (St.keep (by ktd_said "m.st") (by ktd_said "m.keep"))

end TF5
section TF6
open PySem PySem.Spec PySem.Calls PyProof.Rows PySem.W
set_option pp.maxSteps 400
set_option maxHeartbeats 1000000
theorem i2d_con {prog : Program} {w : World} {tb : List (Addr × Kd)} {a n : Nat} {ta tn : Tok} (ha : a < 2 ^ (n * 8)) (ha2 : a < 2 ^ 63) (hn : 1 ≤ n) (hn2 : n ≤ 64) (T : TabSt 54 p54 q54 tb) :
    Con prog w (Mine.hd.heap_1 w.params) (.ref 59) [.int a ta, .int n tn] [] 20 tb fun r us => ∃ l ts tb', r = .ref l ∧ us = (l, .lst ts) :: tb' ∧ TabSt 54 p54 q54 tb' ∧ VL isI (zs (dig (2 ^ n) a (figs a n))) ts := by
  intro g z s A Q E G S hA h
  refine' enter_cellsK (f := 59) (vals := [.int a ta, .int n tn]) (binds := [((Str.ofString "a"), .int a ta), ((Str.ofString "n"), .int n tn)]) (m := [((Str.ofString "a"), some (.int a ta))]) (cs := fun n => [((Str.ofString "inner"), n + 2), ((Str.ofString "a_digits"), n + 1), ((Str.ofString "n"), n)]) ?ho1 ?hcd1 G S hA ?hbind1 ?hnd1 ?hok1 ?hm1 ?hcs1 ?body1 ?hbk1 ?hcn1 ?c11 ?c21 ?c31
  case ho1 => k_is
  case hcd1 => k_is
  case hbind1 => kernel_rfl
  case hnd1 => decide +kernel
  case hok1 => decide +kernel
  case hm1 => kernel_rfl
  case hcs1 => intro n; kernel_rfl
  case hbk1 => kernel_rfl
  case hcn1 => kernel_rfl
  case c11 => rfl
  case c21 => rfl
  case c31 => rfl
  intro env L s eo ex S
  refine absE ?_
  intro EE hEE
  obtain ⟨c_n, c_a_digits, c_inner, eo, S⟩ : ∃ c_n c_a_digits c_inner, EO env L [((Str.ofString "a"), .local), ((Str.ofString "n"), .cell), ((Str.ofString "a_digits"), .cell), ((Str.ofString "inner"), .cell), ((Str.ofString "len"), .globalImplicit)] [((Str.ofString "inner"), c_inner), ((Str.ofString "a_digits"), c_a_digits), ((Str.ofString "n"), c_n)] ∧ St g z s ((L, .ns [((Str.ofString "a"), some (.int a ta))]) :: (c_inner, .cel none) :: (c_a_digits, .cel none) :: (c_n, .cel (some (.int n tn))) :: tb) := ⟨L + 1, L + 1 + 1, L + 1 + 2, eo, S⟩
  replace hA := hA.deeper env
  have hb : Builtin.Int.intBits a ≤ 64 := bits_le (by omega)
  have hk0 := figs_fdiv (x := a) hn
  have hk8 := figs_le hn ha
  have hk1 : 0 ≤ (((Builtin.Int.intBits a : Nat) : Int) + n - 1).fdiv n := by rw [hk0]; omega
  have hk2 : (((Builtin.Int.intBits a : Nat) : Int) + n - 1).fdiv n ≤ 1000 := by rw [hk0]; omega
  have hp : Builtin.divisionGoesByPylong (((Builtin.Int.intBits a : Nat) : Int) + n - 1) n = false := nopyl (by omega)
  ktd_said "m.go"
  have C : CodeHd g 58 54 := codeHd_of G (by k_is) rfl rfl rfl rfl rfl rfl rfl (by decide)
  rename_i l s1 S1
  try replace S1 := Se.st S1
  have hq : qualnameIn env (Str.ofString "inner") (Str.ofString "inner") = q54 := by
    have hkk : env.kindOf (Str.ofString "inner") = some .cell := eo.kindOf (by ktd_said "m.h")
    rw [qualnameIn, hkk, ex.qual]
    decide +kernel
  refine x_def (ow := [_, _, _, _, _]) (clos := [((Str.ofString "n"), c_n), ((Str.ofString "inner"), c_inner), ((Str.ofString "a_digits"), c_a_digits)]) G S1 T eo ex C (by kernel_rfl) hq rfl rfl rfl (fun f c' ctv doc pm s2 S2 => ?_)
  refine st_cel S2 eo (by ktd_said "m.h") (by ktd_said "m.h") (by ktd_said "m.s") (fun s3 S3 => ?_)
  refine with_obj (f := f) S3 (by ktd_said "m.h") (fun fo hfo hfh => ?_)
  have inner : ∀ (m : Nat) (x a b : Nat) (xi ai bi : Int) (tx ta' tb' : Tok) (pre old suf : List Value), 0 < m → b = a + m → x < (2 ^ n) ^ m → x < 2 ^ 63 → xi = x → ai = a → bi = b → pre.length = a → old.length = m → (pre ++ old ++ suf).length ≤ 1000 →
     ∀ (g : Heap) (_hf : g.get? f = some fo) (_hcod : g.CodeRec (.ref c') q54) (_h1 : g.IsCell c_a_digits (some (.ref l))) (_h2 : g.IsCell c_inner (some (.ref f))) (_h3 : g.IsCell c_n (some (.int n tn)))
       (z s : Shared) (A : Around) (Q E : Value → Shared → Prop), Gd (Mine.hd.heap_1 w.params) g → St g z s [(l, .lst (pre ++ old ++ suf))] → AOk A (m + 1) → (∀ v s' new, VL isI (zs (dig (2 ^ n) x m)) new → St g z s' [(l, .lst (pre ++ new ++ suf))] → Q v s') → wpAny (model prog w) A (call (.ref f) [.int xi tx, .int ai ta', .int bi tb']) Q E s := by
    subst hfo
    intro m
    induction m using Nat.strongRecOn with
    | _ m ih =>
      intro x a b xi ai bi tx ta' tb' pre old suf hm hab hx hx63 hxi hai hbi hpre hold hsz g hf hcod h1 h2 h3 z s A Q E G S hA h
      clear S1 S2 S3 hfh
      refine' enter_plain (args := ⟨[.int xi tx, .int ai ta', .int bi tb'], []⟩) (binds := [((Str.ofString "x"), .int xi tx), ((Str.ofString "L"), .int ai ta'), ((Str.ofString "R"), .int bi tb')]) (m := [((Str.ofString "x"), some (.int xi tx)), ((Str.ofString "L"), some (.int ai ta')), ((Str.ofString "R"), some (.int bi tb')), ((Str.ofString "mid"), none), ((Str.ofString "shift"), none), ((Str.ofString "upper"), none), ((Str.ofString "lower"), none)]) G S hA (S.kp _ _ hf) rfl (hcod.keeps S.kp) ?hbind2 ?hnd2 ?hok2 ?hm2 ?hcnd2 ?body2 ?hcell2 ?hloc2 ?c12 ?c22 ?c32
      case hbind2 => exact BindsTo.of_eq (by kernel_rfl)
      case hnd2 => decide +kernel
      case hok2 => decide +kernel
      case hm2 => kernel_rfl
      case hcnd2 => exact (show List.Nodup [(Str.ofString "n"), (Str.ofString "inner"), (Str.ofString "a_digits")] from by decide +kernel)
      case hcell2 => kernel_rfl
      case hloc2 => kernel_rfl
      case c12 => rfl
      case c22 => rfl
      case c32 => rfl
      intro env L s eo ex S
      refine absE ?_
      intro EE hEE
      replace eo : EO env L [((Str.ofString "x"), .local), ((Str.ofString "L"), .local), ((Str.ofString "R"), .local), ((Str.ofString "mid"), .local), ((Str.ofString "shift"), .local), ((Str.ofString "upper"), .local), ((Str.ofString "lower"), .local), ((Str.ofString "a_digits"), .free), ((Str.ofString "inner"), .free), ((Str.ofString "n"), .free)] _ := eo
      replace hA := hA.deeper env
      ktd_said "m.go"
      have hB : 0 < 2 ^ n := Nat.two_pow_pos n
      by_cases h1m : m = 1
      · subst h1m
        refine if_t (by rw [hai, hbi, hab]; simp) ?_
        ktd_said "m.go"
        obtain ⟨o, rfl⟩ : ∃ o, old = [o] := by
          cases old with
          | nil => simp at hold
          | cons o r => cases r with
            | nil => exact ⟨o, rfl⟩
            | cons => simp at hold
        have hsz' : a < 1000 := by simp [hpre] at hsz; omega
        refine set_list (xs := pre ++ [o] ++ suf) (by ktd_said "m.st") (by ktd_said "m.s") (by omega) (by omega) (by simp; omega) (fun _ _ => ?_)
        ktd_said "m.go"
        refine h _ _ [.int xi tx] ?_ (St.keep (by ktd_said "m.st") ?_)
        · rw [hxi]
          have : dig (2 ^ n) x 1 = [x] := by
            unfold dig dig
            rw [Nat.mod_eq_of_lt (by simpa using hx)]
          rw [this]
          exact .one .mk
        · have e : (pre ++ [o] ++ suf).set ai.toNat (.int xi tx) = pre ++ [.int xi tx] ++ suf := by
            rw [hai, Int.toNat_natCast, ← hpre]
            simp
          rw [e]
          ktd_said "m.keep"
      · refine if_f (by rw [hai, hbi, hab]; simp; omega) ?_
        have hmid : (ai + bi).fdiv (2 ^ (1 : Int).toNat) = ((a + m / 2 : Nat) : Int) := by
          rw [show (1 : Int).toNat = 1 from rfl, hai, hbi, hab, show ((a : Int) + ((a + m : Nat) : Int)) = ((a + (a + m) : Nat) : Int) from by omega, fdivN]
          congr 1
          omega
        have hm2 : m / 2 + (m - m / 2) = m := by omega
        have hml : m ≤ 1000 := by simp [hold] at hsz; omega
        have hsh : ((ai + bi).fdiv (2 ^ (1 : Int).toNat) - ai) * (n : Int) = ((n * (m / 2) : Nat) : Int) := by
          rw [hmid, hai, show (((a + m / 2 : Nat) : Int) - (a : Int)) = ((m / 2 : Nat) : Int) from by omega]
          push_cast
          rw [Int.mul_comm]
        have hs0 : 0 ≤ ((ai + bi).fdiv (2 ^ (1 : Int).toNat) - ai) * (n : Int) := by rw [hsh]; omega
        have hs1 : ((ai + bi).fdiv (2 ^ (1 : Int).toNat) - ai) * (n : Int) ≤ 1000000 := by
          rw [hsh]
          have : n * (m / 2) ≤ 64 * 1000 := Nat.mul_le_mul hn2 (by omega)
          omega
        have hup : xi.fdiv (2 ^ (((ai + bi).fdiv (2 ^ (1 : Int).toNat) - ai) * (n : Int)).toNat) = ((x / 2 ^ (n * (m / 2)) : Nat) : Int) := by
          rw [hsh, Int.toNat_natCast, hxi, fdivN]
        have hupN : (xi.fdiv (2 ^ (((ai + bi).fdiv (2 ^ (1 : Int).toNat) - ai) * (n : Int)).toNat)).natAbs < 2 ^ 64 := by
          rw [hup, Int.natAbs_natCast]
          have := Nat.div_le_self x (2 ^ (n * (m / 2)))
          omega
        have hlow : Builtin.bitXor xi (xi.fdiv (2 ^ (((ai + bi).fdiv (2 ^ (1 : Int).toNat) - ai) * (n : Int)).toNat) * 2 ^ (((ai + bi).fdiv (2 ^ (1 : Int).toNat) - ai) * (n : Int)).toNat) = ((x % 2 ^ (n * (m / 2)) : Nat) : Int) := by
          rw [hup, hsh, Int.toNat_natCast, hxi, xor_low]
        ktd_said "m.go"
        rename_i S5
        try replace S5 := Se.st S5
        obtain ⟨g2, S6, gk, _, back⟩ := S5.enter1 (p := (l, .lst (pre ++ old ++ suf))) (by ktd_said "m.p")
        have eold : pre ++ old ++ suf = pre ++ old.take (m / 2) ++ (old.drop (m / 2) ++ suf) := by
          rw [List.append_assoc, List.append_assoc, ← List.append_assoc (List.take _ _), List.take_append_drop]
        rw [eold] at S6
        have pw : ∀ k, (2 ^ n) ^ k = 2 ^ (n * k) := fun k => (Nat.pow_mul 2 n k).symm
        refine ih (m / 2) (by omega) (x % 2 ^ (n * (m / 2))) a (a + m / 2) _ _ _ _ _ _ pre (old.take (m / 2)) (old.drop (m / 2) ++ suf) (by omega) rfl (by rw [pw]; exact Nat.mod_lt _ (Nat.two_pow_pos _)) (Nat.lt_of_le_of_lt (Nat.mod_le _ _) hx63) hlow hai hmid hpre (by rw [List.length_take]; omega) (by rw [← eold]; exact hsz)
          g2 (gk _ _ hf) (hcod.keeps gk) (h1.keeps gk) (h2.keeps gk) (h3.keeps gk) _ _ _ _ _ (G.keeps gk) S6 (hA.mono (by omega)) (fun v s7 new1 hv1 S7 => ?_)
        replace S7 := back _ _ S7
        dsimp only [List.cons_append, List.nil_append] at S7
        have S8 := S7.perm (.swap ..)
        ktd_said "m.go"
        rename_i s8 S8
        try replace S8 := Se.st S8
        obtain ⟨g3, S9, gk3, _, back3⟩ := S8.enter1 (p := (l, .lst (pre ++ new1 ++ (old.drop (m / 2) ++ suf)))) (by ktd_said "m.p")
        have eold2 : pre ++ new1 ++ (old.drop (m / 2) ++ suf) = (pre ++ new1) ++ old.drop (m / 2) ++ suf := by
          simp only [List.append_assoc]
        have hn1 : new1.length = m / 2 := by rw [hv1.len, List.length_map, dig_len]
        have hdm : x / 2 ^ (n * (m / 2)) < (2 ^ n) ^ (m - m / 2) := by
          rw [pw]
          refine Nat.div_lt_of_lt_mul ?_
          rw [← Nat.pow_add, ← Nat.mul_add, hm2, ← pw]
          exact hx
        rw [eold2] at S9
        refine ih (m - m / 2) (by omega) (x / 2 ^ (n * (m / 2))) (a + m / 2) b _ _ _ _ _ _ (pre ++ new1) (old.drop (m / 2)) suf (by omega) (by omega) hdm (Nat.lt_of_le_of_lt (Nat.div_le_self _ _) hx63) hup hmid hbi (by rw [List.length_append, hpre, hn1]) (by rw [List.length_drop]; omega) (by simp [hpre, hn1]; simp [hpre, hold] at hsz; omega)
          g3 (gk3 _ _ hf) (hcod.keeps gk3) (h1.keeps gk3) (h2.keeps gk3) (h3.keeps gk3) _ _ _ _ _ (G.keeps gk3) S9 (hA.mono (by omega)) (fun v2 s10 new2 hv2 S10 => ?_)
        replace S10 := back3 _ _ S10
        dsimp only [List.cons_append, List.nil_append] at S10
        ktd_said "m.go"
        refine h _ _ (new1 ++ new2) ?_ (St.keep (by ktd_said "m.st") ?_)
        · have e := dig_app (2 ^ n) hB (m / 2) (m - m / 2) x
          rw [hm2] at e
          rw [e, pw, show zs (dig (2 ^ n) (x % 2 ^ (n * (m / 2))) (m / 2) ++ dig (2 ^ n) (x / 2 ^ (n * (m / 2))) (m - m / 2)) = zs (dig (2 ^ n) (x % 2 ^ (n * (m / 2))) (m / 2)) ++ zs (dig (2 ^ n) (x / 2 ^ (n * (m / 2))) (m - m / 2)) from List.map_append]
          exact hv1.app hv2
        · rw [show pre ++ (new1 ++ new2) ++ suf = pre ++ new1 ++ new2 ++ suf from by simp only [List.append_assoc]]
          ktd_said "m.keep"
  ktd_said "m.go"
  by_cases ha0 : a = 0
  · subst ha0
    refine if_f (by decide) ?_
    ktd_said "m.go"
    refine h _ _ _ ⟨l, _, _, rfl, rfl, .inr ⟨c', rfl⟩, ?_⟩ (St.keep (by ktd_said "m.st") (by ktd_said "m.keep"))
    rw [hk0, figs_zero hn]
    exact .nil
  · refine if_t (by simpa using ha0) ?_
    ktd_said "m.go"
    rename_i S5
    try replace S5 := Se.st S5
    obtain ⟨g2, S6, gk, hat, back⟩ := S5.enter1 (p := (l, .lst _)) (by ktd_said "m.p")
    have q1 : g2.get? f = some fo := by rw [hfo]; exact hat f (.raw _) (by ktd_said "m.h")
    have q2 : g2.CodeRec (.ref c') q54 := hat c' (.cod _) (by ktd_said "m.h")
    have q3 : g2.IsCell c_a_digits (some (.ref l)) := hat c_a_digits (.cel _) (by ktd_said "m.h")
    have q4 : g2.IsCell c_inner (some (.ref f)) := hat c_inner (.cel _) (by ktd_said "m.h")
    have q5 : g2.IsCell c_n (some (.int n tn)) := hat c_n (.cel _) (by ktd_said "m.h")
    refine inner (figs a n) a 0 (figs a n) _ _ _ _ _ _ [] _ [] (figs_pos hn ha0) (by omega) (figs_enough hn) ha2 rfl rfl ?_ rfl ?_ ?_ g2 q1 q2 q3 q4 q5 _ _ _ _ _ (G.keeps gk) (by rw [List.nil_append, List.append_nil]; exact S6) (hA.mono (by omega)) (fun v s7 new hv S7 => ?_)
    · rw [List.length_replicate, hk0, Int.toNat_natCast]
    · rw [List.length_replicate, hk0, Int.toNat_natCast]
    · simp only [List.nil_append, List.append_nil]
      rw [List.length_replicate, hk0, Int.toNat_natCast]
      omega
    replace S7 := back _ _ S7
    simp only [List.cons_append, List.nil_append, List.append_nil] at S7
    have S8 := S7.perm (.swap ..)
    ktd_said "m.go"
    exact h _ _ _ ⟨l, _, _, rfl, rfl, .inr ⟨c', rfl⟩, hv⟩ (St.keep (by ktd_said "m.st") (by ktd_said "m.keep"))

end TF6
section TF7
open PySem PySem.Spec PySem.Calls PyProof.Rows PySem.W
set_option pp.maxSteps 400
set_option maxHeartbeats 1000000
theorem d2i_con {prog : Program} {w : World} {tb : List (Addr × Kd)} {dl : Addr} {nums : List Nat} {ds : List Value} {n e : Nat} {tn : Tok} (hv : VL isI (zs nums) ds) (hlen : nums.length ≤ 2 ^ e) (he : e ≤ 6) (hsm : undig (2 ^ n) nums < 2 ^ 63) (hn2 : n ≤ 64) (T : TabSt 61 p61 q61 tb) :
    Con prog w (Mine.hd.heap_1 w.params) (.ref 66) [.ref dl, .int n tn] [] 20 ((dl, .lst ds) :: tb) fun r us => ∃ tb', isI (undig (2 ^ n) nums : Nat) r ∧ us = (dl, .lst ds) :: tb' ∧ TabSt 61 p61 q61 tb' := by
  intro g z s A Q E G S hA h
  refine' enter_cellsK (f := 66) (vals := [.ref dl, .int n tn]) (binds := [((Str.ofString "digits"), .ref dl), ((Str.ofString "n"), .int n tn)]) (m := []) (cs := fun n => [((Str.ofString "inner"), n + 2), ((Str.ofString "n"), n + 1), ((Str.ofString "digits"), n)]) ?ho1 ?hcd1 G S hA ?hbind1 ?hnd1 ?hok1 ?hm1 ?hcs1 ?body1 ?hbk1 ?hcn1 ?c11 ?c21 ?c31
  case ho1 => k_is
  case hcd1 => k_is
  case hbind1 => kernel_rfl
  case hnd1 => decide +kernel
  case hok1 => decide +kernel
  case hm1 => kernel_rfl
  case hcs1 => intro n; kernel_rfl
  case hbk1 => kernel_rfl
  case hcn1 => kernel_rfl
  case c11 => rfl
  case c21 => rfl
  case c31 => rfl
  intro env L s eo ex S
  refine absE ?_
  intro EE hEE
  obtain ⟨c_digits, c_n, c_inner, eo, S⟩ : ∃ c_digits c_n c_inner, EO env L [((Str.ofString "digits"), .cell), ((Str.ofString "n"), .cell), ((Str.ofString "inner"), .cell), ((Str.ofString "len"), .globalImplicit)] [((Str.ofString "inner"), c_inner), ((Str.ofString "n"), c_n), ((Str.ofString "digits"), c_digits)] ∧ St g z s ((L, .ns []) :: (c_inner, .cel none) :: (c_n, .cel (some (.int n tn))) :: (c_digits, .cel (some (.ref dl))) :: (dl, .lst ds) :: tb) := ⟨L + 1, L + 1 + 1, L + 1 + 2, eo, S⟩
  replace hA := hA.deeper env
  have C : CodeHd g 65 61 := codeHd_of G (by k_is) rfl rfl rfl rfl rfl rfl rfl (by decide)
  have hq : qualnameIn env (Str.ofString "inner") (Str.ofString "inner") = q61 := by
    have hkk : env.kindOf (Str.ofString "inner") = some .cell := eo.kindOf (by ktd_said "m.h")
    rw [qualnameIn, hkk, ex.qual]
    decide +kernel
  have hlv : ds.length = nums.length := by rw [hv.len, List.length_map]
  have h64 : ds.length ≤ 64 := by
    rw [hlv]
    exact Nat.le_trans hlen (Nat.pow_le_pow_right (by decide) he)
  refine x_def (ow := [_, _, _, _]) (clos := [((Str.ofString "n"), c_n), ((Str.ofString "inner"), c_inner), ((Str.ofString "digits"), c_digits)]) G S T eo ex C (by kernel_rfl) hq rfl rfl rfl (fun f c' ctv doc pm s2 S2 => ?_)
  refine st_cel S2 eo (by ktd_said "m.h") (by ktd_said "m.h") (by ktd_said "m.s") (fun s3 S3 => ?_)
  refine with_obj (f := f) S3 (by ktd_said "m.h") (fun fo hfo hfh => ?_)
  have inner : ∀ (e m : Nat) (a b : Nat) (ai bi : Int) (ta' tb' : Tok), 0 < m → m ≤ 2 ^ e → b = a + m → ai = a → bi = b → b ≤ nums.length →
     ∀ (g : Heap) (_hf : g.get? f = some fo) (_hcod : g.CodeRec (.ref c') q61) (_h1 : g.IsCell c_digits (some (.ref dl))) (_h2 : g.IsCell c_inner (some (.ref f))) (_h3 : g.IsCell c_n (some (.int n tn))) (_h4 : g.IsList dl ds.toArray)
       (z s : Shared) (A : Around) (Q E : Value → Shared → Prop), Gd (Mine.hd.heap_1 w.params) g → St g z s [] → AOk A (e + 2) → (∀ v s', isI (undig (2 ^ n) ((nums.drop a).take m) : Nat) v → St g z s' [] → Q v s') → wpAny (model prog w) A (call (.ref f) [.int ai ta', .int bi tb']) Q E s := by
    subst hfo
    intro e
    induction e using Nat.strongRecOn with
    | _ e ih =>
      intro m a b ai bi ta' tb' hm hme hab hai hbi hbn g hf hcod h1 h2 h3 h4 z s A Q E G S hA h
      clear S2 S3 hfh
      refine' enter_plain (args := ⟨[.int ai ta', .int bi tb'], []⟩) (binds := [((Str.ofString "L"), .int ai ta'), ((Str.ofString "R"), .int bi tb')]) (m := [((Str.ofString "L"), some (.int ai ta')), ((Str.ofString "R"), some (.int bi tb')), ((Str.ofString "mid"), none), ((Str.ofString "shift"), none)]) G S hA (S.kp _ _ hf) rfl (hcod.keeps S.kp) ?hbind2 ?hnd2 ?hok2 ?hm2 ?hcnd2 ?body2 ?hcell2 ?hloc2 ?c12 ?c22 ?c32
      case hbind2 => exact BindsTo.of_eq (by kernel_rfl)
      case hnd2 => decide +kernel
      case hok2 => decide +kernel
      case hm2 => kernel_rfl
      case hcnd2 => exact (show List.Nodup [(Str.ofString "n"), (Str.ofString "inner"), (Str.ofString "digits")] from by decide +kernel)
      case hcell2 => kernel_rfl
      case hloc2 => kernel_rfl
      case c12 => rfl
      case c22 => rfl
      case c32 => rfl
      intro env L s eo ex S
      refine absE ?_
      intro EE hEE
      replace eo : EO env L [((Str.ofString "L"), .local), ((Str.ofString "R"), .local), ((Str.ofString "mid"), .local), ((Str.ofString "shift"), .local), ((Str.ofString "digits"), .free), ((Str.ofString "inner"), .free), ((Str.ofString "n"), .free)] _ := eo
      replace hA := hA.deeper env
      ktd_said "m.go"
      by_cases h1m : m = 1
      · subst h1m
        refine if_t (by rw [hai, hbi, hab]; simp) ?_
        obtain ⟨d, hd⟩ : ∃ d, nums[a]? = some d := ⟨_, List.getElem?_eq_getElem (by omega)⟩
        obtain ⟨_, hg, ⟨td, rfl⟩⟩ := hv.get (i := a) (x := (d : Int)) (by rw [List.getElem?_map, hd]; rfl)
        have hg' : ds[ai.toNat]? = some (.int d td) := by rw [hai, Int.toNat_natCast]; exact hg
        ktd_said "m.go"
        refine h _ _ ⟨td, ?_⟩ (St.keep (by ktd_said "m.st") (by ktd_said "m.keep"))
        have : (nums.drop a).take 1 = [d] := by
          have hlt : a < nums.length := by omega
          rw [List.drop_eq_getElem_cons hlt, List.take_succ_cons, List.take_zero]
          rw [List.getElem?_eq_getElem hlt] at hd
          rw [Option.some.inj hd]
        rw [this]
        show Value.int d td = Value.int ((d + 2 ^ n * 0 : Nat) : Int) td
        simp
      · refine if_f (by rw [hai, hbi, hab]; simp; omega) ?_
        have he1 : 1 ≤ e := by
          rcases Nat.eq_zero_or_pos e with q | q
          · subst q; simp at hme; omega
          · exact q
        have hmid : (ai + bi).fdiv (2 ^ (1 : Int).toNat) = ((a + m / 2 : Nat) : Int) := by
          rw [show (1 : Int).toNat = 1 from rfl, hai, hbi, hab, show ((a : Int) + ((a + m : Nat) : Int)) = ((a + (a + m) : Nat) : Int) from by omega, fdivN]
          congr 1
          omega
        have hm2 : m / 2 + (m - m / 2) = m := by omega
        have hml : m ≤ 64 := by omega
        have hsh : ((ai + bi).fdiv (2 ^ (1 : Int).toNat) - ai) * (n : Int) = ((n * (m / 2) : Nat) : Int) := by
          rw [hmid, hai, show (((a + m / 2 : Nat) : Int) - (a : Int)) = ((m / 2 : Nat) : Int) from by omega]
          push_cast
          rw [Int.mul_comm]
        have hs0 : 0 ≤ ((ai + bi).fdiv (2 ^ (1 : Int).toNat) - ai) * (n : Int) := by rw [hsh]; omega
        have hs1 : ((ai + bi).fdiv (2 ^ (1 : Int).toNat) - ai) * (n : Int) ≤ 1000000 := by
          rw [hsh]
          have : n * (m / 2) ≤ 64 * 1000 := Nat.mul_le_mul hn2 (by omega)
          omega
        ktd_said "m.go"
        rename_i S5
        try replace S5 := Se.st S5
        obtain ⟨g2, S6, gk, _, back⟩ := St.enter (us := []) (hd := _) S5
        have hpe : 2 ^ e = 2 * 2 ^ (e - 1) := by
          rw [show e = (e - 1) + 1 from by omega, Nat.pow_succ, Nat.mul_comm]
          simp
        refine ih (e - 1) (by omega) (m - m / 2) (a + m / 2) b _ _ _ _ (by omega) (by omega) (by omega) hmid hbi hbn g2 (gk _ _ hf) (hcod.keeps gk) (h1.keeps gk) (h2.keeps gk) (h3.keeps gk) (isl_keep h4 gk) _ _ _ _ _ (G.keeps gk) S6 (hA.mono (by omega)) (fun v1 s7 hv1 S7 => ?_)
        replace S7 := back _ _ S7
        simp only [List.nil_append] at S7
        obtain ⟨t1, rfl⟩ := hv1
        have b1 : undig (2 ^ n) ((nums.drop (a + m / 2)).take (m - m / 2)) < 2 ^ 63 := Nat.lt_of_le_of_lt (Nat.le_trans (undig_take_le _ _ _) (undig_drop_le _ (Nat.two_pow_pos n) _ _)) hsm
        have b2 : ((undig (2 ^ n) ((nums.drop (a + m / 2)).take (m - m / 2)) : Nat) : Int).natAbs < 2 ^ 64 := by rw [Int.natAbs_natCast]; omega
        ktd_said "m.go"
        rename_i S8
        try replace S8 := Se.st S8
        obtain ⟨g3, S9, gk3, _, back3⟩ := St.enter (us := []) (hd := _) S8
        refine ih (e - 1) (by omega) (m / 2) a (a + m / 2) _ _ _ _ (by omega) (by omega) rfl hai hmid (by omega) g3 (gk3 _ _ hf) (hcod.keeps gk3) (h1.keeps gk3) (h2.keeps gk3) (h3.keeps gk3) (isl_keep h4 gk3) _ _ _ _ _ (G.keeps gk3) S9 (hA.mono (by omega)) (fun v2 s10 hv2 S10 => ?_)
        replace S10 := back3 _ _ S10
        simp only [List.nil_append] at S10
        obtain ⟨t2, rfl⟩ := hv2
        ktd_said "m.go"
        refine h _ _ (isI_of ?_) (St.keep (by ktd_said "m.st") (by ktd_said "m.keep"))
        rw [hsh, Int.toNat_natCast]
        have es : (nums.drop a).take m = (nums.drop a).take (m / 2) ++ (nums.drop (a + m / 2)).take (m - m / 2) := by
          have := List.take_add (l := nums.drop a) (i := m / 2) (j := m - m / 2)
          rw [hm2, List.drop_drop] at this
          exact this
        rw [es, undig_app, List.length_take, List.length_drop, Nat.min_eq_left (by omega), ← Nat.pow_mul]
        push_cast
        rw [Int.mul_comm, Int.add_comm]
  ktd_said "m.go"
  by_cases hd0 : ds = []
  · have hn0 : nums = [] := by
      rw [← List.length_eq_zero_iff, ← hlv, hd0]; rfl
    refine if_f (by rw [hd0]; decide) ?_
    ktd_said "m.go"
    refine h _ _ _ ⟨_, ?_, rfl, .inr ⟨c', rfl⟩⟩ (St.keep (by ktd_said "m.st") (by ktd_said "m.keep"))
    rw [hn0]
    exact ⟨_, rfl⟩
  · refine if_t (by cases ds with | nil => exact absurd rfl hd0 | cons => rfl) ?_
    ktd_said "m.go"
    rename_i S5
    try replace S5 := Se.st S5
    obtain ⟨g2, S6, gk, hat0, back⟩ := St.enter (us := []) (hd := _) S5
    have hat : ∀ (a : Addr) (k : Kd), Has a k _ → k.at g2 a := fun a k h => hat0 _ h.mem
    have q1 : g2.get? f = some fo := by rw [hfo]; exact hat f (.raw _) (by ktd_said "m.h")
    have q2 : g2.CodeRec (.ref c') q61 := hat c' (.cod _) (by ktd_said "m.h")
    have q3 : g2.IsCell c_digits (some (.ref dl)) := hat c_digits (.cel _) (by ktd_said "m.h")
    have q4 : g2.IsCell c_inner (some (.ref f)) := hat c_inner (.cel _) (by ktd_said "m.h")
    have q5 : g2.IsCell c_n (some (.int n tn)) := hat c_n (.cel _) (by ktd_said "m.h")
    have q6 : g2.PlainList dl ds.toArray := hat dl (.lst _) (by ktd_said "m.h")
    refine inner e nums.length 0 nums.length _ _ _ _ ?_ hlen (by omega) rfl (by rw [hlv]) (Nat.le_refl _) g2 q1 q2 q3 q4 q5 q6.isList _ _ _ _ _ (G.keeps gk) S6 (hA.mono (by omega)) (fun v s7 hv7 S7 => ?_)
    · rw [← hlv]
      exact List.length_pos_iff.mpr hd0
    replace S7 := back _ _ S7
    simp only [List.nil_append] at S7
    rw [List.drop_zero, List.take_length] at hv7
    exact h _ _ _ ⟨_, hv7, rfl, .inr ⟨c', rfl⟩⟩ (St.keep S7 (by ktd_said "m.keep"))

end TF7
section TF8
open PySem PySem.Spec PySem.Calls PyProof.Rows PySem.W
set_option pp.maxSteps 400
set_option maxHeartbeats 1000000
theorem div1_con {prog : Program} {w : World} {a b n : Int} {ta tb tn : Tok} (ha : a.natAbs < 2 ^ 64) (hb : b ≠ 0) (hb2 : b.natAbs < 2 ^ 64) (hn : 0 ≤ n) :
    Con prog w (Mine.hd.heap_1 w.params) (.ref 45) [.int a ta, .int b tb, .int n tn] [] 5 [] fun r us => ∃ T t1 t2, r = .ref T ∧ us = [(T, .tup [.int (a.fdiv b) t1, .int (a.fmod b) t2])] := by
  intro g z s A Q E G S hA h
  refine' enter_plainK (f := 45) (args := ⟨[.int a ta, .int b tb, .int n tn], []⟩) (binds := [((Str.ofString "a"), .int a ta), ((Str.ofString "b"), .int b tb), ((Str.ofString "n"), .int n tn)]) (m := [((Str.ofString "a"), some (.int a ta)), ((Str.ofString "b"), some (.int b tb)), ((Str.ofString "n"), some (.int n tn)), ((Str.ofString "pad"), none), ((Str.ofString "half_n"), none), ((Str.ofString "mask"), none), ((Str.ofString "b1"), none), ((Str.ofString "b2"), none), ((Str.ofString "q1"), none), ((Str.ofString "r"), none), ((Str.ofString "q2"), none)]) ?ho1 ?hcd1 G S hA ?hbind1 ?hnd1 ?hok1 ?hm1 ?body1 ?hcell1 ?hloc1 ?c11 ?c21 ?c31
  case ho1 => k_is
  case hcd1 => k_is
  case hbind1 => exact BindsTo.of_eq (by kernel_rfl)
  case hnd1 => decide +kernel
  case hok1 => decide +kernel
  case hm1 => kernel_rfl
  case hcell1 => kernel_rfl
  case hloc1 => kernel_rfl
  case c11 => rfl
  case c21 => rfl
  case c31 => rfl
  intro env L s eo ex S
  refine absE ?_
  intro EE hEE
  replace eo : EO env L [((Str.ofString "a"), .local), ((Str.ofString "b"), .local), ((Str.ofString "n"), .local), ((Str.ofString "pad"), .local), ((Str.ofString "half_n"), .local), ((Str.ofString "mask"), .local), ((Str.ofString "b1"), .local), ((Str.ofString "b2"), .local), ((Str.ofString "q1"), .local), ((Str.ofString "r"), .local), ((Str.ofString "q2"), .local), ((Str.ofString "_DIV_LIMIT"), .globalImplicit), ((Str.ofString "divmod"), .globalImplicit), ((Str.ofString "_div3n2n"), .globalImplicit)] [] := eo
  replace hA := hA.deeper env
  have hbits : Builtin.Int.intBits a ≤ 64 := bits_le ha
  ktd_said "m.go"
  exact h _ _ _ ⟨_, _, _, rfl, rfl⟩ (St.keep (by ktd_said "m.st") (by ktd_said "m.keep"))
theorem long_div {B b : Nat} (hb : 0 < b) (A d : Nat) : ((A % b) * B + d) / b + B * (A / b) = (A * B + d) / b ∧ ((A % b) * B + d) % b = (A * B + d) % b := by
  have e : A * B + d = (A % b) * B + d + b * (A / b * B) := by
    have := Nat.div_add_mod A b
    have e2 : A * B = (b * (A / b) + A % b) * B := by rw [this]
    rw [e2, Nat.add_mul, Nat.mul_assoc]
    omega
  constructor
  · rw [e, Nat.add_mul_div_left _ _ hb, Nat.mul_comm B]
  · rw [e, Nat.add_mul_mod_self_left]
theorem dig_lt {B : Nat} (hB : 0 < B) : ∀ (k x : Nat), ∀ d ∈ dig B x k, d < B
  | 0, _, d, h => absurd h List.not_mem_nil
  | k + 1, x, d, h => by
    rcases List.mem_cons.mp h with rfl | h
    · exact Nat.mod_lt _ hB
    · exact dig_lt hB k _ d h
theorem divpos_con {prog : Program} {w : World} {a b : Nat} {ta tb' : Tok} (ha : a < 2 ^ 40) (hb : 0 < b) (hb2 : b < 2 ^ 32) (hab : a < 2 ^ (Builtin.Int.intBits (b : Int) * 8)) :
    ConT prog w (Mine.hd.heap_1 w.params) (.ref 73) [.int a ta, .int b tb'] [] 30 [] fun r us => ∃ T t1 t2, r = .ref T ∧ us = [(T, .tup [.int ((a / b : Nat) : Int) t1, .int ((a % b : Nat) : Int) t2])] := by
  rintro tb ⟨T1, T2, rfl, hT1, hT2⟩
  intro g z s A Q E G S hA h
  refine' enter_plainK (f := 73) (args := ⟨[.int a ta, .int b tb'], []⟩) (binds := [((Str.ofString "a"), .int a ta), ((Str.ofString "b"), .int b tb')]) (m := [((Str.ofString "a"), some (.int a ta)), ((Str.ofString "b"), some (.int b tb')), ((Str.ofString "n"), none), ((Str.ofString "a_digits"), none), ((Str.ofString "r"), none), ((Str.ofString "q_digits"), none), ((Str.ofString "a_digit"), none), ((Str.ofString "q_digit"), none), ((Str.ofString "q"), none)]) ?ho2 ?hcd2 G S hA ?hbind2 ?hnd2 ?hok2 ?hm2 ?body2 ?hcell2 ?hloc2 ?c12 ?c22 ?c32
  case ho2 => k_is
  case hcd2 => k_is
  case hbind2 => exact BindsTo.of_eq (by kernel_rfl)
  case hnd2 => decide +kernel
  case hok2 => decide +kernel
  case hm2 => kernel_rfl
  case hcell2 => kernel_rfl
  case hloc2 => kernel_rfl
  case c12 => rfl
  case c22 => rfl
  case c32 => rfl
  intro env L s eo ex S
  refine absE ?_
  intro EE hEE
  replace eo : EO env L [((Str.ofString "a"), .local), ((Str.ofString "b"), .local), ((Str.ofString "n"), .local), ((Str.ofString "a_digits"), .local), ((Str.ofString "r"), .local), ((Str.ofString "q_digits"), .local), ((Str.ofString "a_digit"), .local), ((Str.ofString "q_digit"), .local), ((Str.ofString "q"), .local), ((Str.ofString "_int2digits"), .globalImplicit), ((Str.ofString "reversed"), .globalImplicit), ((Str.ofString "_div2n1n"), .globalImplicit), ((Str.ofString "_digits2int"), .globalImplicit)] [] := eo
  replace hA := hA.deeper env
  generalize hn : Builtin.Int.intBits (b : Int) = n at hab
  have hn32 : n ≤ 32 := by rw [← hn]; exact intBits_le hb2
  have hn1 : 1 ≤ n := by
    rw [← hn, intBits_nat, if_neg (by omega)]
    omega
  have hbn : b < 2 ^ n := by rw [← hn]; exact lt_intBits b
  ktd_said "m.go"
  rw [hn] at *
  rename_i S1
  try replace S1 := Se.st S1
  simp only [List.nil_append] at S1
  refine (i2d_con (by rw [Nat.mul_comm]; rw [Nat.mul_comm]; exact hab) (by omega) hn1 (by omega) hT1).use (hd := (L, _) :: T2) G (S1.perm List.perm_middle.symm) (hA.mono (by decide)) (fun v s2 us2 hv S2 => ?_)
  obtain ⟨al, ts, T1', rfl, rfl, hT1', hts⟩ := hv
  replace S2 := S2.perm (ow' := (L, _) :: (al, .lst ts) :: (T1' ++ T2)) ((List.Perm.cons _ List.perm_middle).trans (.swap ..))
  ktd_said "m.go"
  rename_i I s3 S3
  try replace S3 := Se.st S3
  have hk : ts.length = figs a n := by rw [hts.len, List.length_map, dig_len]
  have hk8 : figs a n ≤ 8 := figs_le hn1 (by rw [Nat.mul_comm] at hab ⊢; exact hab)
  have hB : 0 < 2 ^ n := Nat.two_pow_pos n
  have hBn : 2 ^ n ≤ 2 ^ 32 := Nat.pow_le_pow_right (by decide) hn32
  obtain ⟨Af, hAf⟩ : ∃ Af : Nat → Nat, ∀ i, Af i = undig (2 ^ n) ((dig (2 ^ n) a (figs a n)).drop (figs a n - i)) := ⟨_, fun _ => rfl⟩
  have A0 : Af 0 = 0 := by
    rw [hAf, Nat.sub_zero, List.drop_of_length_le (by rw [dig_len]; exact Nat.le_refl _)]
    rfl
  have Ak : Af (figs a n) = a := by
    rw [hAf, Nat.sub_self, List.drop_zero, undig_dig _ _ _ (figs_enough hn1)]
  have S4 : ∃ ql tn tr, St g z s3 ((L, .ns [((Str.ofString "a"), some (.int a ta)), ((Str.ofString "b"), some (.int b tb')), ((Str.ofString "n"), some (.int n tn)), ((Str.ofString "a_digits"), some (.ref al)), ((Str.ofString "r"), some (.int 0 tr)), ((Str.ofString "q_digits"), some (.ref ql)), ((Str.ofString "a_digit"), none), ((Str.ofString "q_digit"), none), ((Str.ofString "q"), none)]) :: (I, .rvi al ((ts.length : Int) - 1)) :: (ql, .lst []) :: (al, .lst ts) :: (T1' ++ T2)) := ⟨_, _, _, S3⟩
  obtain ⟨ql, tn, tr, S4⟩ := S4
  replace S4 : St g z s3 ((L, .ns [((Str.ofString "a"), some (.int a ta)), ((Str.ofString "b"), some (.int b tb')), ((Str.ofString "n"), some (.int n tn)), ((Str.ofString "a_digits"), some (.ref al)), ((Str.ofString "r"), some (.int (Af 0 % b : Nat) tr)), ((Str.ofString "q_digits"), some (.ref ql)), ((Str.ofString "a_digit"), none), ((Str.ofString "q_digit"), none), ((Str.ofString "q"), none)]) :: (I, .rvi al (((figs a n : Nat) : Int) - 1 - (0 : Nat))) :: (ql, .lst []) :: (al, .lst ts) :: (T1' ++ T2)) := by
    rw [A0, Nat.zero_mod]
    rw [hk] at S4
    have e : ((figs a n : Nat) : Int) - 1 - ((0 : Nat) : Int) = (figs a n : Nat) - 1 := by omega
    rw [e]
    exact S4
  refine loop_ind (P := fun i s => ∃ tr v1 v2 nums qs, List.length nums = i ∧ VL isI (zs nums) qs ∧ undig (2 ^ n) nums.reverse = Af i / b ∧
      St g z s ((L, .ns [((Str.ofString "a"), some (.int a ta)), ((Str.ofString "b"), some (.int b tb')), ((Str.ofString "n"), some (.int n tn)), ((Str.ofString "a_digits"), some (.ref al)), ((Str.ofString "r"), some (.int (Af i % b : Nat) tr)), ((Str.ofString "q_digits"), some (.ref ql)), ((Str.ofString "a_digit"), v1), ((Str.ofString "q_digit"), v2), ((Str.ofString "q"), none)]) :: (I, .rvi al (((figs a n : Nat) : Int) - 1 - (i : Nat))) :: (ql, .lst qs) :: (al, .lst ts) :: (T1' ++ T2))) (figs a n) ?_ ?_ _ ⟨_, _, _, [], _, rfl, .nil, by rw [A0, Nat.zero_div]; rfl, S4⟩
  · intro i hi ih s hP
    refine exE5_4 hP (fun tr v1 v2 nums qs S hnl hqs hA1 => ?_)
    clear hP
    refine for_turn ?_
    have hj : figs a n - 1 - i < (dig (2 ^ n) a (figs a n)).length := by rw [dig_len]; omega
    obtain ⟨d, hd⟩ : ∃ d, (dig (2 ^ n) a (figs a n))[figs a n - 1 - i]? = some d := ⟨_, List.getElem?_eq_getElem hj⟩
    have hdB : d < 2 ^ n := dig_lt hB _ _ d (List.mem_of_getElem? hd)
    obtain ⟨_, hg, ⟨td, rfl⟩⟩ := hts.get (i := figs a n - 1 - i) (x := (d : Int)) (by rw [List.getElem?_map, hd]; rfl)
    refine nx_revN (i := figs a n - 1 - i) (by ktd_said "m.st") (by ktd_said "m.s") (by omega) (St.isL (by ktd_said "m.st") (by ktd_said "m.h")) hg (fun _ _ h => forN_some h) (fun _ _ => ?_)
    have hr : Af i % b < b := Nat.mod_lt _ hb
    have hrn : ((Af i % b : Nat) : Int).natAbs < 2 ^ 64 := by rw [Int.natAbs_natCast]; omega
    have hn' : (n : Int).toNat = n := Int.toNat_natCast n
    have ex0 : ((Af i % b : Nat) : Int) * 2 ^ (n : Int).toNat + (d : Int) = (((Af i % b) * 2 ^ n + d : Nat) : Int) := by
      rw [hn']; push_cast; rfl
    have hxs : (Af i % b) * 2 ^ n + d < 2 ^ 64 := by
      have h1 : (Af i % b) * 2 ^ n ≤ (2 ^ n - 1) * 2 ^ n := Nat.mul_le_mul_right _ (by omega)
      have h2 : (2 ^ n - 1) * 2 ^ n + 2 ^ n = 2 ^ n * 2 ^ n := by
        rw [Nat.sub_mul, Nat.one_mul]
        have := Nat.le_mul_of_pos_left (2 ^ n) hB
        omega
      have h3 : 2 ^ n * 2 ^ n ≤ 2 ^ 32 * 2 ^ 32 := Nat.mul_le_mul hBn hBn
      omega
    have hA' : Af (i + 1) = Af i * 2 ^ n + d := by
      rw [hAf (i + 1), hAf i]
      have e1 : figs a n - (i + 1) = figs a n - 1 - i := by omega
      have e2 : figs a n - i = figs a n - 1 - i + 1 := by omega
      rw [e1, e2, List.drop_eq_getElem_cons hj]
      rw [List.getElem?_eq_getElem hj] at hd
      rw [Option.some.inj hd]
      show d + 2 ^ n * _ = _
      rw [Nat.mul_comm, Nat.add_comm]
    obtain ⟨ld1, ld2⟩ := long_div (B := 2 ^ n) hb (Af i) d
    have hql : qs.length ≤ 1000 := by rw [hqs.len, List.length_map, hnl]; omega
    ktd_said "m.go"
    refine (div1_con (by rw [ex0, Int.natAbs_natCast]; exact hxs) (by omega) (by omega) (by omega)).use0 G (by ktd_said "m.st") (hA.mono (by decide)) (fun v s5 us5 hv S5 => ?_)
    obtain ⟨T, t1, t2, rfl, rfl⟩ := hv
    have f1 : (((Af i % b : Nat) : Int) * 2 ^ (n : Int).toNat + (d : Int)).fdiv (b : Int) = ((((Af i % b) * 2 ^ n + d) / b : Nat) : Int) := by
      rw [ex0, Int.fdiv_eq_ediv_of_nonneg _ (Int.natCast_nonneg b)]
      rfl
    have f2 : (((Af i % b : Nat) : Int) * 2 ^ (n : Int).toNat + (d : Int)).fmod (b : Int) = ((Af (i + 1) % b : Nat) : Int) := by
      rw [ex0, Int.fmod_eq_emod_of_nonneg _ (Int.natCast_nonneg b), hA', ← ld2]
      rfl
    rw [f1, f2] at S5
    dsimp only [List.cons_append, List.nil_append] at S5
    ktd_said "m.go"
    rename_i S7
    try replace S7 := Se.st S7
    rw [show ((figs a n : Nat) : Int) - 1 - (i : Int) - 1 = ((figs a n : Nat) : Int) - 1 - ((i + 1 : Nat) : Int) from by omega] at S7
    refine ih _ (exI5_4 _ _ _ (nums ++ [((Af i % b) * 2 ^ n + d) / b]) _ ?_ ?_ ?_ (St.keep S7 (by ktd_said "m.keep")))
    · rw [List.length_append, hnl]; rfl
    · rw [show zs (nums ++ [((Af i % b) * 2 ^ n + d) / b]) = zs nums ++ [((((Af i % b) * 2 ^ n + d) / b : Nat) : Int)] from List.map_append]
      exact hqs.snoc .mk
    · rw [List.reverse_append]
      show _ + 2 ^ n * undig (2 ^ n) nums.reverse = _
      rw [hA1, hA', ← ld1]
  · intro s hP
    refine exE5_4 hP (fun tr v1 v2 nums qs S hnl hqs hA1 => ?_)
    clear hP
    refine for_turn ?_
    refine nx_revEnd (AOk.handled (by with_reducible assumption)) (by ktd_said "m.st") (by ktd_said "m.p") (by omega) (fun _ _ => forN_none ?_)
    have hql : qs.length ≤ 1000 := by rw [hqs.len, List.length_map, hnl]; omega
    ktd_said "m.go"
    rename_i S5
    try replace S5 := Se.st S5
    have hrev : VL isI (zs nums.reverse) qs.reverse := by
      have := hqs.rev
      rw [← List.map_reverse] at this
      exact this
    have hdiv : undig (2 ^ n) nums.reverse = a / b := by rw [hA1, Ak]
    refine (d2i_con (e := 3) hrev (by rw [List.length_reverse, hnl]; omega) (by decide) (by rw [hdiv]; have := Nat.div_le_self a b; omega) (by omega) hT2).use (hd := _) G (S5.perm (perm3 _ _ _ _ _)) (hA.mono (by decide)) (fun v s6 us6 hv S6 => ?_)
    obtain ⟨T2', ⟨tq, rfl⟩, rfl, hT2'⟩ := hv
    replace S6 := S6.perm (perm3 _ _ _ _ _).symm
    rw [hdiv] at *
    rw [Ak] at S6
    ktd_said "m.go"
    rename_i S7
    try replace S7 := Se.st S7
    refine h _ _ _ ⟨[(_, .tup [.int ((a / b : Nat) : Int) tq, .int ((a % b : Nat) : Int) tr])], T1' ++ T2', rfl, ⟨T1', T2', rfl, hT1', hT2'⟩, _, _, _, rfl, rfl⟩ (St.keep S7 (by dsimp only [List.cons_append, List.nil_append]; ktd_said "m.keep"))
theorem bits_ge {b : Nat} (hb : 0 < b) : 1 ≤ Builtin.Int.intBits (b : Int) := by
  rw [intBits_nat, if_neg (by omega)]
  omega
/-- both not negative, or what is turned -/
theorem divmod_con {prog : Program} {w : World} {a b : Int} {ta tb' : Tok} (hb : b ≠ 0) (hb2 : b.natAbs < 2 ^ 32) (ha : a.natAbs < 2 ^ 39) (hab : ∀ x : Nat, x ≤ a.natAbs → x < 2 ^ (Builtin.Int.intBits (b.natAbs : Int) * 8)) :
    ConT prog w (Mine.hd.heap_1 w.params) (.ref 80) [.int a ta, .int b tb'] [] 50 [] fun r us => ∃ T t1 t2, r = .ref T ∧ us = [(T, .tup [.int (a.fdiv b) t1, .int (a.fmod b) t2])] := by
  -- both at least nought
  have c1 : ∀ (a b : Int) (ta tb' : Tok), 0 < b → b.natAbs < 2 ^ 32 → 0 ≤ a → a.natAbs < 2 ^ 40 → a.natAbs < 2 ^ (Builtin.Int.intBits (b.natAbs : Int) * 8) →
      ConT prog w (Mine.hd.heap_1 w.params) (.ref 80) [.int a ta, .int b tb'] [] 35 [] fun r us => ∃ T t1 t2, r = .ref T ∧ us = [(T, .tup [.int (a.fdiv b) t1, .int (a.fmod b) t2])] := by
    intro a b ta tb' hb hb2 ha ha2 hab tb T
    intro g z s A Q E G S hA h
    simp only [List.nil_append] at S
    refine' enter_plainK (f := 80) (args := ⟨[.int a ta, .int b tb'], []⟩) (binds := [((Str.ofString "a"), .int a ta), ((Str.ofString "b"), .int b tb')]) (m := [((Str.ofString "a"), some (.int a ta)), ((Str.ofString "b"), some (.int b tb')), ((Str.ofString "q"), none), ((Str.ofString "r"), none)]) ?ho3 ?hcd3 G S hA ?hbind3 ?hnd3 ?hok3 ?hm3 ?body3 ?hcell3 ?hloc3 ?c13 ?c23 ?c33
    case ho3 => k_is
    case hcd3 => k_is
    case hbind3 => exact BindsTo.of_eq (by kernel_rfl)
    case hnd3 => decide +kernel
    case hok3 => decide +kernel
    case hm3 => kernel_rfl
    case hcell3 => kernel_rfl
    case hloc3 => kernel_rfl
    case c13 => rfl
    case c23 => rfl
    case c33 => rfl
    intro env L s eo ex S
    refine absE ?_
    intro EE hEE
    replace eo : EO env L [((Str.ofString "a"), .local), ((Str.ofString "b"), .local), ((Str.ofString "q"), .local), ((Str.ofString "r"), .local), ((Str.ofString "ZeroDivisionError"), .globalImplicit), ((Str.ofString "int_divmod"), .globalImplicit), ((Str.ofString "_divmod_pos"), .globalImplicit)] [] := eo
    replace hA := hA.deeper env
    ktd_said "m.go"
    obtain ⟨x, rfl⟩ : ∃ x : Nat, a = x := ⟨a.toNat, by omega⟩
    obtain ⟨y, rfl⟩ : ∃ y : Nat, b = y := ⟨b.toNat, by omega⟩
    simp only [Int.natAbs_natCast] at *
    refine (divpos_con ha2 (by omega) hb2 hab).use0 G (by ktd_said "m.st") T (by ktd_said "m.tl") (hA.mono (by decide)) (fun v s' new tb2 hv T2 S2 => ?_)
    obtain ⟨Ta, t1, t2, rfl, rfl⟩ := hv
    dsimp only [List.cons_append, List.nil_append] at S2
    have f1 : (x : Int).fdiv (y : Int) = ((x / y : Nat) : Int) := by
      rw [Int.fdiv_eq_ediv_of_nonneg _ (Int.natCast_nonneg y)]; rfl
    have f2 : (x : Int).fmod (y : Int) = ((x % y : Nat) : Int) := by
      rw [Int.fmod_eq_emod_of_nonneg _ (Int.natCast_nonneg y)]; rfl
    rw [← f1, ← f2] at S2
    ktd_said "m.go"
    exact h _ _ _ ⟨[_], tb2, rfl, T2, _, _, _, rfl, rfl⟩ (St.keep (by ktd_said "m.st") (by dsimp only [List.cons_append, List.nil_append]; ktd_said "m.keep"))
  have c2 : ∀ (a b : Int) (ta tb' : Tok), 0 < b → b.natAbs < 2 ^ 32 → a.natAbs < 2 ^ 39 → (∀ x : Nat, x ≤ a.natAbs → x < 2 ^ (Builtin.Int.intBits (b.natAbs : Int) * 8)) →
      ConT prog w (Mine.hd.heap_1 w.params) (.ref 80) [.int a ta, .int b tb'] [] 40 [] fun r us => ∃ T t1 t2, r = .ref T ∧ us = [(T, .tup [.int (a.fdiv b) t1, .int (a.fmod b) t2])] := by
    intro a b ta tb' hb hb2 ha2 hab
    by_cases ha : 0 ≤ a
    · exact (c1 a b ta tb' hb hb2 ha (by omega) (hab _ (Nat.le_refl _))).mono (by decide)
    intro tb T
    intro g z s A Q E G S hA h
    simp only [List.nil_append] at S
    refine' enter_plainK (f := 80) (args := ⟨[.int a ta, .int b tb'], []⟩) (binds := [((Str.ofString "a"), .int a ta), ((Str.ofString "b"), .int b tb')]) (m := [((Str.ofString "a"), some (.int a ta)), ((Str.ofString "b"), some (.int b tb')), ((Str.ofString "q"), none), ((Str.ofString "r"), none)]) ?ho4 ?hcd4 G S hA ?hbind4 ?hnd4 ?hok4 ?hm4 ?body4 ?hcell4 ?hloc4 ?c14 ?c24 ?c34
    case ho4 => k_is
    case hcd4 => k_is
    case hbind4 => exact BindsTo.of_eq (by kernel_rfl)
    case hnd4 => decide +kernel
    case hok4 => decide +kernel
    case hm4 => kernel_rfl
    case hcell4 => kernel_rfl
    case hloc4 => kernel_rfl
    case c14 => rfl
    case c24 => rfl
    case c34 => rfl
    intro env L s eo ex S
    refine absE ?_
    intro EE hEE
    replace eo : EO env L [((Str.ofString "a"), .local), ((Str.ofString "b"), .local), ((Str.ofString "q"), .local), ((Str.ofString "r"), .local), ((Str.ofString "ZeroDivisionError"), .globalImplicit), ((Str.ofString "int_divmod"), .globalImplicit), ((Str.ofString "_divmod_pos"), .globalImplicit)] [] := eo
    replace hA := hA.deeper env
    ktd_said "m.go"
    have hn : Builtin.bitNot a = -a - 1 := rfl
    refine (c1 (Builtin.bitNot a) b _ _ hb hb2 (by rw [hn]; omega) (by rw [hn]; omega) (hab _ (by rw [hn]; omega))).use0 G (by ktd_said "m.st") T (by ktd_said "m.tl") (hA.mono (by decide)) (fun v s' new tb2 hv T2 S2 => ?_)
    obtain ⟨Ta, t1, t2, rfl, rfl⟩ := hv
    dsimp only [List.cons_append, List.nil_append] at S2
    have f0 := Int.mul_fdiv_add_fmod (Builtin.bitNot a) b
    have f1 := Int.fmod_nonneg_of_pos (Builtin.bitNot a) hb
    have f2 := Int.fmod_lt_of_pos (Builtin.bitNot a) hb
    have g0 := Int.mul_fdiv_add_fmod a b
    have g1 := Int.fmod_nonneg_of_pos a hb
    have g2 := Int.fmod_lt_of_pos a hb
    have key : Builtin.bitNot ((Builtin.bitNot a).fdiv b) = a.fdiv b ∧ b + Builtin.bitNot ((Builtin.bitNot a).fmod b) = a.fmod b := by
      generalize (Builtin.bitNot a).fdiv b = q1 at *
      generalize (Builtin.bitNot a).fmod b = r1 at *
      generalize a.fdiv b = q2 at *
      generalize a.fmod b = r2 at *
      unfold Builtin.bitNot at *
      have e : b * (q1 + q2 + 1) = b - 1 - r1 - r2 := by
        rw [Int.mul_add, Int.mul_add, Int.mul_one]
        omega
      have hq : q1 + q2 + 1 = 0 := by
        rcases Int.lt_trichotomy (q1 + q2 + 1) 0 with q | q | q
        · have := Int.mul_le_mul_of_nonneg_left (show q1 + q2 + 1 ≤ -1 by omega) (Int.le_of_lt hb)
          omega
        · exact q
        · have := Int.mul_le_mul_of_nonneg_left (show 1 ≤ q1 + q2 + 1 by omega) (Int.le_of_lt hb)
          omega
      rw [hq, Int.mul_zero] at e
      omega
    ktd_said "m.go"
    rename_i S3
    try replace S3 := Se.st S3
    rw [key.1, key.2] at S3
    exact h _ _ _ ⟨[_], tb2, rfl, T2, _, _, _, rfl, rfl⟩ (St.keep S3 (by dsimp only [List.cons_append, List.nil_append]; ktd_said "m.keep"))
  by_cases hb0 : 0 < b
  · exact (c2 a b ta tb' hb0 hb2 ha hab).mono (by decide)
  intro tb T
  intro g z s A Q E G S hA h
  simp only [List.nil_append] at S
  refine' enter_plainK (f := 80) (args := ⟨[.int a ta, .int b tb'], []⟩) (binds := [((Str.ofString "a"), .int a ta), ((Str.ofString "b"), .int b tb')]) (m := [((Str.ofString "a"), some (.int a ta)), ((Str.ofString "b"), some (.int b tb')), ((Str.ofString "q"), none), ((Str.ofString "r"), none)]) ?ho5 ?hcd5 G S hA ?hbind5 ?hnd5 ?hok5 ?hm5 ?body5 ?hcell5 ?hloc5 ?c15 ?c25 ?c35
  case ho5 => k_is
  case hcd5 => k_is
  case hbind5 => exact BindsTo.of_eq (by kernel_rfl)
  case hnd5 => decide +kernel
  case hok5 => decide +kernel
  case hm5 => kernel_rfl
  case hcell5 => kernel_rfl
  case hloc5 => kernel_rfl
  case c15 => rfl
  case c25 => rfl
  case c35 => rfl
  intro env L s eo ex S
  refine absE ?_
  intro EE hEE
  replace eo : EO env L [((Str.ofString "a"), .local), ((Str.ofString "b"), .local), ((Str.ofString "q"), .local), ((Str.ofString "r"), .local), ((Str.ofString "ZeroDivisionError"), .globalImplicit), ((Str.ofString "int_divmod"), .globalImplicit), ((Str.ofString "_divmod_pos"), .globalImplicit)] [] := eo
  replace hA := hA.deeper env
  ktd_said "m.go"
  refine (c2 (-a) (-b) _ _ (by omega) (by omega) (by omega) (by rw [Int.natAbs_neg, Int.natAbs_neg]; exact hab)).use0 G (by ktd_said "m.st") T (by ktd_said "m.tl") (hA.mono (by decide)) (fun v s' new tb2 hv T2 S2 => ?_)
  obtain ⟨Ta, t1, t2, rfl, rfl⟩ := hv
  dsimp only [List.cons_append, List.nil_append] at S2
  have k1 : (-a).fdiv (-b) = a.fdiv b := Int.neg_fdiv_neg a b
  have k2 : -((-a).fmod (-b)) = a.fmod b := by
    have e1 := Int.mul_fdiv_add_fmod (-a) (-b)
    have e2 := Int.mul_fdiv_add_fmod a b
    rw [k1] at e1
    rw [Int.neg_mul] at e1
    omega
  ktd_said "m.go"
  rename_i S3
  try replace S3 := Se.st S3
  rw [k1, k2] at S3
  exact h _ _ _ ⟨[_], tb2, rfl, T2, _, _, _, rfl, rfl⟩ (St.keep S3 (by dsimp only [List.cons_append, List.nil_append]; ktd_said "m.keep"))


end TF8
section TF9
open PySem PySem.Spec PySem.Calls PyProof.Rows PySem.W
set_option pp.maxSteps 400
set_option maxHeartbeats 1000000
theorem em_con {prog : Program} {w : World} {want got : Str} {tw tg : Tok} (hw : wantOk want = true) (hg : got.length ≤ 100) : Con prog w (Mine.hd.heap_1 w.params) (.ref 124) [.str want tw, .str got tg] [] 5 [] fun r us => r = .bool (emFun want got) ∧ us = [] := by
  intro g z s A Q E G S hA h
  unfold wantOk at hw
  rw [Bool.and_eq_true] at hw
  obtain ⟨hw1, hw2⟩ := hw
  replace hw1 : want.length ≤ 100 := by simpa using hw1
  refine' enter_plainK (f := 124) (args := ⟨[.str want tw, .str got tg], []⟩) (binds := [((Str.ofString "want"), .str want tw), ((Str.ofString "got"), .str got tg)]) (m := [((Str.ofString "want"), some (.str want tw)), ((Str.ofString "got"), some (.str got tg)), ((Str.ofString "ws"), none), ((Str.ofString "startpos"), none), ((Str.ofString "endpos"), none), ((Str.ofString "w"), none)]) ?ho1 ?hcd1 G S hA ?hbind1 ?hnd1 ?hok1 ?hm1 ?body1 ?hcell1 ?hloc1 ?c11 ?c21 ?c31
  case ho1 => k_is
  case hcd1 => k_is
  case hbind1 => exact BindsTo.of_eq (by kernel_rfl)
  case hnd1 => decide +kernel
  case hok1 => decide +kernel
  case hm1 => kernel_rfl
  case hcell1 => kernel_rfl
  case hloc1 => kernel_rfl
  case c11 => rfl
  case c21 => rfl
  case c31 => rfl
  intro env L s eo ex S
  refine absE ?_
  intro EE hEE
  replace eo : EO env L [((Str.ofString "want"), .local), ((Str.ofString "got"), .local), ((Str.ofString "ws"), .local), ((Str.ofString "startpos"), .local), ((Str.ofString "endpos"), .local), ((Str.ofString "w"), .local), ((Str.ofString "ELLIPSIS_MARKER"), .globalImplicit), ((Str.ofString "len"), .globalImplicit)] [] := eo
  replace hA := hA.deeper env
  ktd_said "m.go"
  by_cases hc : Txt.contains want dotsS = true
  · refine if_f (by rw [hc]; decide) ?_
    rw [hc] at hw2
    simp only [Bool.not_true, Bool.false_or, Bool.and_eq_true, decide_eq_true_eq, List.all_eq_true] at hw2
    obtain ⟨⟨⟨h2, h3⟩, h4⟩, h5⟩ := hw2
    have hfun : emFun want got = emFirst got (Txt.split want dotsS) := by unfold emFun; rw [if_pos hc]
    ktd_said "m.go"
    refine s_split (by ktd_said "m.st") (by decide +kernel) (by omega) h5 (fun l vs s1 hv S1 => ?_)
    replace hv : VL isS (Txt.split want dotsS) vs := hv
    generalize Txt.split want dotsS = ws at *
    clear h5 hw1
    have hvl := hv.len
    have hvs : vs.length ≤ 1000 := by omega
    have hv0 : 0 < vs.length := by omega
    obtain ⟨t0, hx0⟩ := hv.head hv0
    have hdl : ∀ ws : List Str, (∀ x ∈ ws, x.length ≤ 100) → (ws.headD ⟨#[]⟩).length ≤ 1000 := fun ws h => by
      cases ws with
      | nil => decide
      | cons a r => exact Nat.le_trans (h a (.head _)) (by decide)
    have hw0 := hdl ws h4
    ktd_said "m.go"
    refine ⟨by simp; omega, ?_⟩
    have kx : env.kindOf (Str.ofString "startpos") = some .local := eo.kindOf (by ktd_said "m.h")
    have ky : env.kindOf (Str.ofString "endpos") = some .local := eo.kindOf (by ktd_said "m.h")
    have bk : env.blockKind = .function := by unfold Env.blockKind; rw [eo.kind]; rfl
    refine x_swap ?_ rfl ?hw
    case hw =>
      unfold swappedStores
      simp only [List.length_cons, List.length_nil, bk, List.filterMap_cons, kx, ky]
      kernel_rfl
    ktd_said "m.go0"
    have hgl : got.length ≤ 1000 := by omega
    rename_i tg2 _ _ Tp _ _ _ _ _ _ _ S2
    try replace S2 := Se.st S2
    refine x_ifP (fun s => ∃ (ws1 : List Str) (vs1 : List Value) (st : Int) (ts te : Tok) (wv : Option Value), emFun want got = emLast got ws1 st ∧ VL isS ws1 vs1 ∧ (∀ x ∈ ws1, x.length ≤ 100) ∧ 1 ≤ vs1.length ∧ vs1.length ≤ 1000 ∧
      St g z s [(L, .ns [((Str.ofString "want"), some (.str want tw)), ((Str.ofString "got"), some (.str got tg)), ((Str.ofString "ws"), some (.ref l)), ((Str.ofString "startpos"), some (.int st ts)), ((Str.ofString "endpos"), some (.int got.length te)), ((Str.ofString "w"), wv)]), (l, .lst vs1)]) ?_ ?_
    · ktd_said "m.go0"
      by_cases h0 : (ws.headD ⟨#[]⟩).length = 0
      · refine if_f (by simpa using h0) ?_
        ktd_said "m.go0"
        rename_i S3
        try replace S3 := Se.st S3
        refine ⟨ws, vs, 0, _, _, _, ?_, hv, h4, by omega, hvs, St.keep S3 (by ktd_said "m.keep")⟩
        rw [hfun]
        unfold emFirst
        rw [if_neg (by simpa using h0)]
      · refine if_t (by simpa using h0) ?_
        have hf2 : emFirst got ws = if Txt.startswith got (ws.headD ⟨#[]⟩) then emLast got ws.tail (ws.headD ⟨#[]⟩).length else false := by
          unfold emFirst
          rw [if_pos (by simpa using h0)]
        ktd_said "m.go"
        by_cases h1 : Txt.startswith got (ws.headD ⟨#[]⟩) = true
        · refine if_t h1 ?_
          ktd_said "m.go"
          rename_i S3
          try replace S3 := Se.st S3
          refine ⟨ws.tail, vs.tail, _, _, _, _, ?_, hv.tail, fun x hx => h4 x (List.mem_of_mem_tail hx), by rw [List.length_tail]; omega, by rw [List.length_tail]; omega, St.keep S3 (by ktd_said "m.keep")⟩
          rw [hfun, hf2, if_pos h1]
        · refine if_f h1 ?_
          ktd_said "m.go"
          exact h _ _ _ ⟨by rw [hfun, hf2, if_neg h1]; rfl, rfl⟩ (St.keep (by ktd_said "m.st") (by ktd_said "m.keep"))
    · rintro s ⟨ws1, vs1, st, ts, te, wv, hf1, hv1, h41, hl1, hl2, S⟩
      obtain ⟨t1, hx1⟩ := hv1.last (by omega)
      have hw1 : (ws1.getLastD ⟨#[]⟩).length ≤ 1000 := by
        cases ws1 with
        | nil => decide
        | cons a r =>
          have : (a :: r).getLastD ⟨#[]⟩ ∈ (a :: r) := by
            rw [List.getLastD_eq_getLast?, List.getLast?_eq_some_getLast (by simp)]
            exact List.getLast_mem _
          exact Nat.le_trans (h41 _ this) (by decide)
      have hl0 : 0 < vs1.length := by omega
      ktd_said "m.go0"
      refine x_ifP (fun s => ∃ (ws2 : List Str) (vs2 : List Value) (en : Int) (te : Tok) (wv : Option Value), emFun want got = emGo got ws2 st en ∧ VL isS ws2 vs2 ∧ (∀ x ∈ ws2, x.length ≤ 100) ∧ vs2.length ≤ 1000 ∧
        St g z s [(L, .ns [((Str.ofString "want"), some (.str want tw)), ((Str.ofString "got"), some (.str got tg)), ((Str.ofString "ws"), some (.ref l)), ((Str.ofString "startpos"), some (.int st ts)), ((Str.ofString "endpos"), some (.int en te)), ((Str.ofString "w"), wv)]), (l, .lst vs2)]) ?_ ?_
      · ktd_said "m.go0"
        by_cases h0 : (ws1.getLastD ⟨#[]⟩).length = 0
        · refine if_f (by simpa using h0) ?_
          ktd_said "m.go0"
          rename_i S3
          try replace S3 := Se.st S3
          refine ⟨ws1, vs1, _, _, _, ?_, hv1, h41, hl2, St.keep S3 (by ktd_said "m.keep")⟩
          rw [hf1]
          unfold emLast
          rw [if_neg (by simpa using h0)]
        · refine if_t (by simpa using h0) ?_
          have hf2 : emLast got ws1 st = if Txt.endswith got (ws1.getLastD ⟨#[]⟩) then emGo got ws1.dropLast st (got.length - (ws1.getLastD ⟨#[]⟩).length) else false := by
            unfold emLast
            rw [if_pos (by simpa using h0)]
          ktd_said "m.go"
          by_cases h1 : Txt.endswith got (ws1.getLastD ⟨#[]⟩) = true
          · refine if_t h1 ?_
            ktd_said "m.go"
            rename_i S3
            try replace S3 := Se.st S3
            refine ⟨ws1.dropLast, vs1.dropLast, _, _, _, ?_, hv1.dropLast, fun x hx => h41 x ((List.dropLast_sublist _).mem hx), by rw [List.length_dropLast]; omega, St.keep S3 (by ktd_said "m.keep")⟩
            rw [hf1, hf2, if_pos h1]
          · refine if_f h1 ?_
            ktd_said "m.go"
            exact h _ _ _ ⟨by rw [hf1, hf2, if_neg h1]; rfl, rfl⟩ (St.keep (by ktd_said "m.st") (by ktd_said "m.keep"))
      · rintro s ⟨ws2, vs2, en, te, wv, hf2, hv2, h42, hl3, S⟩
        ktd_said "m.go"
        by_cases hse : st > en
        · refine if_t (by simpa using hse) ?_
          ktd_said "m.go"
          exact h _ _ _ ⟨by rw [hf2]; unfold emGo; rw [if_pos hse]; rfl, rfl⟩ (St.keep (by ktd_said "m.st") (by ktd_said "m.keep"))
        refine if_f (by simpa using hse) ?_
        ktd_said "m.go"
        rename_i I s3 S3
        try replace S3 := Se.st S3
        refine loop_ind (P := fun i s => ∃ (st : Int) (ts : Tok) (wv : Option Value), emFun want got = emLoop got (ws2.drop i) st en ∧
          St g z s [(L, .ns [((Str.ofString "want"), some (.str want tw)), ((Str.ofString "got"), some (.str got tg)), ((Str.ofString "ws"), some (.ref l)), ((Str.ofString "startpos"), some (.int st ts)), ((Str.ofString "endpos"), some (.int en te)), ((Str.ofString "w"), wv)]), (I, .lit l i), (l, .lst vs2)]) vs2.length ?_ ?_ _ ⟨_, _, _, by rw [hf2]; unfold emGo; rw [if_neg hse]; rfl, S3⟩
        · intro i hi ih s ⟨st, ts, wv, hf3, S⟩
          refine for_turn ?_
          have hiw : i < ws2.length := by rw [← hv2.len]; exact hi
          obtain ⟨_, hg, ⟨tw', rfl⟩⟩ := hv2.get (List.getElem?_eq_getElem hiw)
          refine nx_lstN (by ktd_said "m.st") (by ktd_said "m.s") (St.isL (by ktd_said "m.st") (by ktd_said "m.h")) hg (fun _ _ h => forN_some h) (fun _ _ => ?_)
          have hwl : (ws2[i]).length ≤ 1000 := Nat.le_trans (h42 _ (List.getElem_mem hiw)) (by decide)
          have hd : ws2.drop i = ws2[i] :: ws2.drop (i + 1) := List.drop_eq_getElem_cons hiw
          ktd_said "m.go"
          by_cases hneg : find4 got ws2[i] st en < 0
          · refine if_t (by simpa using hneg) ?_
            ktd_said "m.go"
            refine forF_ret ?_
            refine forR_ok ?_
            refine then_ret ?_
            exact h _ _ _ ⟨by rw [hf3, hd]; unfold emLoop; rw [if_pos hneg]; rfl, rfl⟩ (St.keep (by ktd_said "m.st") (by ktd_said "m.keep"))
          · refine if_f (by simpa using hneg) ?_
            ktd_said "m.go"
            rename_i S4
            try replace S4 := Se.st S4
            refine ih _ ⟨_, _, _, ?_, St.keep S4 (by ktd_said "m.keep")⟩
            rw [hf3, hd]
            conv => lhs; unfold emLoop
            rw [if_neg hneg]
        · intro s ⟨st, ts, wv, hf3, S⟩
          refine for_turn ?_
          refine nx_listEnd (AOk.handled (by with_reducible assumption)) (by ktd_said "m.st") (by ktd_said "m.p") (St.isL (by ktd_said "m.st") (by ktd_said "m.h")) (List.getElem?_eq_none (Nat.le_refl _)) (fun _ _ => forN_none ?_)
          ktd_said "m.go"
          exact h _ _ _ ⟨by rw [hf3, List.drop_of_length_le (by rw [hv2.len]; exact Nat.le_refl _)]; rfl, rfl⟩ (St.keep (by ktd_said "m.st") (by ktd_said "m.keep"))
  · refine if_t (by simpa using hc) ?_
    ktd_said "m.go"
    have hfun : emFun want got = (want.cps.toList == got.cps.toList) := by unfold emFun; rw [if_neg hc]
    exact h _ _ _ ⟨by rw [hfun]; rfl, rfl⟩ (St.keep (by ktd_said "m.st") (by ktd_said "m.keep"))

end TF9
section TF10
open PySem PySem.Spec PySem.Calls PyProof.Rows PySem.W
theorem takes_at {word : Str} (h : takesOk word = true) {i : Nat} {p : Str × Str} {b : Bool} (ha : (askedOf word)[i]? = some p) (hb : (dueOf word)[i]? = some b) : wantOk p.1 = true ∧ p.2.length ≤ 100 ∧ emFun p.1 p.2 = b := by
  unfold takesOk at h
  have h := (Bool.and_eq_true_iff.mp h).2
  have := List.all_eq_true.mp h (p, b) (List.mem_of_getElem? (i := i) (by rw [List.getElem?_zip_eq_some]; exact ⟨ha, hb⟩))
  simpa [and_assoc] using this
theorem takes_len {word : Str} (h : takesOk word = true) : word.length ≤ 5 ∧ (cutI word none (some 1)).length ≤ 5 ∧ (cutI word (some 1) none).length ≤ 5 ∧ (cutI word none (some (-1))).length ≤ 5 ∧ (Txt.join (Str.ofString "...") (signs word)).length ≤ 40 ∧ (Txt.join (Str.ofString "...") (signs (cutI word (some 1) none ++ cutI word none (some 1)))).length ≤ 40 := by
  unfold takesOk at h
  have h := (Bool.and_eq_true_iff.mp h).1
  simpa [and_assoc] using h
set_option pp.maxSteps 400
set_option maxHeartbeats 2000000
theorem takes_con {prog : Program} {w : World} {word : Str} {tw : Tok} (hw : takesOk word = true) : Con prog w (Mine.hd.heap_1 w.params) (.ref 332) [.str word tw] [] 10 [] fun r us => r = .bool true ∧ us = [] := by
  intro g z s A Q E G S hA h
  obtain ⟨hl1, hl2, hl3, hl4, hl5, hl6⟩ := takes_len hw
  have hdd := len_dots
  have hxx : (Str.ofString "x").length = 1 := by decide +kernel
  refine' enter_plainK (f := 332) (args := ⟨[.str word tw], []⟩) (binds := [((Str.ofString "word"), .str word tw)]) (m := [((Str.ofString "word"), some (.str word tw)), ((Str.ofString "asked"), none), ((Str.ofString "due"), none)]) ?ho1 ?hcd1 G S hA ?hbind1 ?hnd1 ?hok1 ?hm1 ?body1 ?hcell1 ?hloc1 ?c11 ?c21 ?c31
  case ho1 => k_is
  case hcd1 => k_is
  case hbind1 => exact BindsTo.of_eq (by kernel_rfl)
  case hnd1 => decide +kernel
  case hok1 => decide +kernel
  case hm1 => kernel_rfl
  case hcell1 => kernel_rfl
  case hloc1 => kernel_rfl
  case c11 => rfl
  case c21 => rfl
  case c31 => rfl
  intro env L s eo ex S
  refine absE ?_
  intro EE hEE
  replace eo : EO env L [((Str.ofString "word"), .local), ((Str.ofString "asked"), .local), ((Str.ofString "due"), .local), ((Str.ofString "len"), .globalImplicit), ((Str.ofString "zip"), .globalImplicit)] [] := eo
  replace hA := hA.deeper env
  ktd_said "m.gos"
  refine' r_comp (cl := []) ?e2 ?hcl2 ?hk2 ?hn2 ?body2 ?hs2
  case e2 => assumption
  case hcl2 => kernel_rfl
  case hk2 => rfl
  case hn2 => kernel_rfl
  case hs2 => intro _; rfl
  ktd_said "m.go"
  rename_i Z TI TO i1 i2 DZ s1 S1
  try replace S1 := Se.st S1
  obtain ⟨al, dl, vs, bs, tp, DZ, hT, S2, hbs⟩ : ∃ al dl vs bs tp, ZipApart Z TI TO i1 i2 al dl ∧ TupL isSS (askedOf word) vs tp ∧ St g z s1 ((L, .ns [((Str.ofString "word"), some (.str word tw)), ((Str.ofString "asked"), some (.ref al)), ((Str.ofString "due"), some (.ref dl))]) :: (Z, .raw (zipO TI TO .none)) :: (TI, .raw (pairO (.ref i1) (.ref i2))) :: (TO, .raw (pairO .none .none)) :: (i1, .lit al 0) :: (i2, .lit dl 0) :: (dl, .lst bs) :: (al, .lst vs) :: tp) ∧ bs = (dueOf word).map .bool :=
    ⟨_, _, _, _, _, DZ, .cons ⟨.mk, .mk⟩ (.cons ⟨.mk, .mk⟩ (.cons ⟨.mk, .mk⟩ (.cons ⟨.mk, .mk⟩ (.cons ⟨.mk, .mk⟩ (.cons ⟨.mk, .mk⟩ (.cons ⟨.mk, .mk⟩ (.cons ⟨.mk, .mk⟩ (.cons ⟨.mk, .mk⟩ .nil)))))))), St.keep S1 (by ktd_said "m.keep"), by rfl⟩
  clear S1 hl1 hl2 hl3 hl4 hl5 hl6 hdd hxx
  refine' comp_go0 (nm' := [((Str.ofString ".0"), .local), ((Str.ofString "pair"), .local), ((Str.ofString "right"), .local), ((Str.ofString "_ellipsis_match"), .globalImplicit)]) (m := [((Str.ofString ".0"), none), ((Str.ofString "pair"), none), ((Str.ofString "right"), none)]) (ks := []) ?e3 ?S ?hnm3 ?hnd3 ?hok3 ?hk3 ?hc3 ?hks3 ?hn3 ?hm3 ?body3
  case e3 => assumption
  case S => ktd_said "m.st"
  case hnm3 => kernel_rfl
  case hnd3 => decide +kernel
  case hok3 => decide +kernel
  case hk3 => rfl
  case hc3 => kernel_rfl
  case hks3 => kernel_rfl
  case hn3 => decide +kernel
  case hm3 => kernel_rfl
  intro C D cenv s ceo S
  refine absR ?_
  intro RR hRR
  clear S2
  refine comp_start rfl ?_ (fun A' => it_zip (by ktd_said "m.st") (by ktd_said "m.h") ⟨rfl, rfl⟩)
  refine loop_ind (P := fun i s => ∃ v1 v2 a b, St g z s ((C, .ns [((Str.ofString ".0"), none), ((Str.ofString "pair"), v1), ((Str.ofString "right"), v2)]) :: (D, .lst []) :: (L, .ns [((Str.ofString "word"), some (.str word tw)), ((Str.ofString "asked"), some (.ref al)), ((Str.ofString "due"), some (.ref dl))]) :: (Z, .raw (zipO TI TO .none)) :: (TI, .raw (pairO (.ref i1) (.ref i2))) :: (TO, .raw (pairO a b)) :: (i1, .lit al i) :: (i2, .lit dl i) :: (dl, .lst bs) :: (al, .lst vs) :: tp)) 9 ?_ ?_ _ (exI4_1 _ _ _ _ (St.keep (by ktd_said "m.st") (by ktd_said "m.keep")))
  · intro i hi ih s hP
    refine exE4_1 hP (fun v1 v2 a b S => ?_)
    clear hP
    have ha : (askedOf word)[i]? = some (askedOf word)[i] := List.getElem?_eq_getElem hi
    have hb : (dueOf word)[i]? = some (dueOf word)[i] := List.getElem?_eq_getElem hi
    generalize (askedOf word)[i] = p at ha
    generalize (dueOf word)[i] = d at hb
    obtain ⟨q1, q2, q3⟩ := takes_at hw ha hb
    obtain ⟨T, x, y, hv, hTx, ⟨t1, rfl⟩, ⟨t2, rfl⟩⟩ := hT.get ha
    refine comp1 ?_
    refine nx_zip (k := i) (by ktd_said "m.st") DZ (by ktd_said "m.h") (by ktd_said "m.h") (by ktd_said "m.s") (by ktd_said "m.s") (by ktd_said "m.s") (St.isL (by ktd_said "m.st") (by ktd_said "m.h")) (St.isL (by ktd_said "m.st") (by ktd_said "m.h")) hv (by rw [hbs, List.getElem?_map, hb]; rfl) (fun _ _ h => n1_some h) (fun _ _ _ => ?_)
    ktd_said "m.go"
    refine (em_con q1 q2).useV G (by ktd_said "m.st") (hA.mono (by decide)) (fun v s' hv S' => ?_)
    subst hv
    ktd_said "m.go"
    try refine if_f (by rw [q3]; simp) ?_
    exact ih _ (exI4_1 _ _ _ _ (St.keep (by ktd_said "m.st") (by ktd_said "m.keep")))
  · intro s hP
    refine exE4_1 hP (fun v1 v2 a b S => ?_)
    clear hP
    refine comp1 ?_
    refine nx_zipEnd (k := 9) (AOk.handled (by with_reducible assumption)) (by ktd_said "m.st") DZ (by ktd_said "m.p") (by ktd_said "m.h") (by ktd_said "m.p") (by ktd_said "m.p") (by ktd_said "m.p") (St.isL (by ktd_said "m.st") (by ktd_said "m.h")) (St.isL (by ktd_said "m.st") (by ktd_said "m.h")) (List.getElem?_eq_none (by rw [hT.len]; exact Nat.le_refl 9)) (fun _ _ => n1_none ?_)
    refine leafR (by with_reducible assumption) (comp_end (fr := (L, .ns _)) (by ktd_said "m.st") (by ktd_said "m.p") (fun _ _ => ?_))
    ktd_said "m.go"
    exact h _ _ _ ⟨rfl, rfl⟩ (St.keep (by ktd_said "m.st") (by ktd_said "m.keep"))

end TF10
section TF11
open PySem PySem.Spec PySem.Calls PyProof.Rows PySem.W
set_option pp.maxSteps 400
set_option maxHeartbeats 2000000
theorem halves_side {sg x : Int} {n : Nat} (hsg : sg = 1 ∨ sg = -1) (hn : n ≤ 16) (h1 : -(2 ^ n * 2 ^ n) ≤ x) (h2 : x < 2 ^ n * 2 ^ n) :
    sg * 2 ^ n ≠ 0 ∧ (sg * 2 ^ n : Int).natAbs < 2 ^ 32 ∧ (sg * x).natAbs < 2 ^ 39 ∧ ∀ y : Nat, y ≤ (sg * x).natAbs → y < 2 ^ (Builtin.Int.intBits ((sg * 2 ^ n : Int).natAbs : Int) * 8) := by
  have c1 : ((2 ^ n : Nat) : Int) = 2 ^ n := by push_cast; rfl
  have c2 : ((2 ^ n * 2 ^ n : Nat) : Int) = 2 ^ n * 2 ^ n := by push_cast; rfl
  have hb : (sg * 2 ^ n : Int).natAbs = 2 ^ n := by rw [sgn_abs hsg, ← c1, Int.natAbs_natCast]
  have h16 : 2 ^ n ≤ 2 ^ 16 := Nat.pow_le_pow_right (by decide) hn
  have hpos : 0 < 2 ^ n := Nat.two_pow_pos n
  have hm : 2 ^ n * 2 ^ n ≤ 2 ^ 16 * 2 ^ 16 := Nat.mul_le_mul h16 h16
  have hx : x.natAbs ≤ 2 ^ n * 2 ^ n := by omega
  rw [hb, sgn_abs hsg, bits_pow]
  refine ⟨fun e => ?_, by omega, by omega, fun y hy => ?_⟩
  · rw [e] at hb
    simp at hb
    omega
  · refine Nat.lt_of_le_of_lt (Nat.le_trans hy hx) ?_
    rw [← Nat.pow_add]
    exact Nat.pow_lt_pow_right (by decide) (by omega)
theorem halves_con {prog : Program} {w : World} {shade sg : Int} {t ts : Tok} (hs : -(2 ^ 32) ≤ shade ∧ shade < 2 ^ 32) (hsg : sg = 1 ∨ sg = -1) : ConT prog w (Mine.hd.heap_1 w.params) (.ref 327) [.int shade t, .int sg ts] [] 60 [] fun r us => ∃ l vs, r = .ref l ∧ us = [(l, .lst vs)] ∧ VL isI (halvesFun shade) vs := by
  intro tb T
  intro g z s A Q E G S hA h
  simp only [List.nil_append] at S
  refine' enter_cellsK (f := 327) (vals := [.int shade t, .int sg ts]) (binds := [((Str.ofString "shade"), .int shade t), ((Str.ofString "sign"), .int sg ts)]) (m := [((Str.ofString "shade"), some (.int shade t)), ((Str.ofString "parts"), none), ((Str.ofString "split"), none)]) (cs := fun n => [((Str.ofString "width"), n + 1), ((Str.ofString "sign"), n)]) ?ho1 ?hcd1 G S hA ?hbind1 ?hnd1 ?hok1 ?hm1 ?hcs1 ?body1 ?hbk1 ?hcn1 ?c11 ?c21 ?c31
  case ho1 => k_is
  case hcd1 => k_is
  case hbind1 => kernel_rfl
  case hnd1 => decide +kernel
  case hok1 => decide +kernel
  case hm1 => kernel_rfl
  case hcs1 => intro n; kernel_rfl
  case hbk1 => kernel_rfl
  case hcn1 => kernel_rfl
  case c11 => rfl
  case c21 => rfl
  case c31 => rfl
  intro env L s eo ex S
  refine absE ?_
  intro EE hEE
  obtain ⟨c_sign, c_width, eo, S⟩ : ∃ c_sign c_width, EO env L [((Str.ofString "shade"), .local), ((Str.ofString "sign"), .cell), ((Str.ofString "parts"), .local), ((Str.ofString "width"), .cell), ((Str.ofString "split"), .local)] [((Str.ofString "width"), c_width), ((Str.ofString "sign"), c_sign)] ∧ St g z s ((L, .ns [((Str.ofString "shade"), some (.int shade t)), ((Str.ofString "parts"), none), ((Str.ofString "split"), none)]) :: (c_width, .cel none) :: (c_sign, .cel (some (.int sg ts))) :: tb) := ⟨L + 1, L + 1 + 1, eo, S⟩
  replace hA := hA.deeper env
  have hsga : sg.natAbs < 2 ^ 64 := by rcases hsg with rfl | rfl <;> decide
  have hsg0 : sg ≠ 0 := by rcases hsg with rfl | rfl <;> decide
  have hI0 : InB 16 shade := by
    unfold InB
    have : (2 : Int) ^ 16 * 2 ^ 16 = 2 ^ 32 := by decide
    omega
  ktd_said "m.go"
  rename_i tp s1 S1
  try replace S1 := Se.st S1
  refine it_tup S1 (by ktd_said "m.h") (fun I s2 S2 => ?_)
  have S3 : ∃ pl t1 t2 t3 t4, St g z s2 ((L, .ns [((Str.ofString "shade"), some (.int shade t)), ((Str.ofString "parts"), some (.ref pl)), ((Str.ofString "split"), none)]) :: (I, .tit tp 0) :: (tp, .tup [.int 16 t1, .int 8 t2, .int 4 t3, .int 2 t4]) :: (pl, .lst [.int shade t]) :: (c_width, .cel none) :: (c_sign, .cel (some (.int sg ts))) :: tb) := ⟨_, _, _, _, _, S2⟩
  obtain ⟨pl, t1, t2, t3, t4, S3⟩ := S3
  clear S1 S2
  refine loop_ind (P := fun i s => ∃ pl vs cw sp tb, VL isI (hsAt shade i) vs ∧ TabS tb ∧ St g z s ((L, .ns [((Str.ofString "shade"), some (.int shade t)), ((Str.ofString "parts"), some (.ref pl)), ((Str.ofString "split"), sp)]) :: (I, .tit tp i) :: (tp, .tup [.int 16 t1, .int 8 t2, .int 4 t3, .int 2 t4]) :: (pl, .lst vs) :: (c_width, .cel cw) :: (c_sign, .cel (some (.int sg ts))) :: tb)) 4 ?_ ?_ _ (exI5_3 _ _ _ _ _ (.cons .mk .nil) T S3)
  · intro i hi ih s hP
    refine exE5_3 hP (fun pl vs cw sp tb S hv T => ?_)
    clear hP
    refine for_turn ?_
    obtain ⟨n, v, hn, hnv, hn2, hn16⟩ := w_of hi
    obtain ⟨tw, hx⟩ : ∃ tw, [Value.int 16 t1, .int 8 t2, .int 4 t3, .int 2 t4][i]? = some (.int (n : Int) tw) := by
      subst hn
      have : i = 0 ∨ i = 1 ∨ i = 2 ∨ i = 3 := by omega
      rcases this with rfl | rfl | rfl | rfl <;> exact ⟨_, rfl⟩
    have hbd := hsAt_bd hI0 i (by omega)
    rw [hn] at hbd
    have hstep : hsAt shade (i + 1) = stepH n (hsAt shade i) := by rw [← hn]; rfl
    have hlen : (hsAt shade i).length ≤ 8 := by rw [hsAt_len]; exact Nat.le_trans (Nat.pow_le_pow_right (by decide) (show i ≤ 3 by omega)) (by decide)
    generalize hsAt shade i = xs at *
    have hvl := hv.len
    refine nx_tupN (by ktd_said "m.st") (by ktd_said "m.s") (by ktd_said "m.h") hx (fun _ _ h => forN_some h) (fun _ _ => ?_)
    ktd_said "m.go"
    refine' x_asgC (cl := [((Str.ofString "width"), c_width), ((Str.ofString "sign"), c_sign)]) ?e2 ?hy2 ?hcl2 ?hk2 ?hn2 ?hp2 ?hno2 ?body2 ?hs2
    case e2 => assumption
    case hy2 => ktd_said "m.h"
    case hp2 => rfl
    case hno2 => kernel_rfl
    case hcl2 => kernel_rfl
    case hk2 => rfl
    case hn2 => kernel_rfl
    case hs2 => intro _; rfl
    ktd_said "m.go"
    rename_i J s4 S4
    try replace S4 := Se.st S4
    refine' comp_goU (nm' := [((Str.ofString ".0"), .local), ((Str.ofString "part"), .local), ((Str.ofString "int_divmod"), .globalImplicit), ((Str.ofString "sign"), .cell), ((Str.ofString "width"), .cell)]) (m := [((Str.ofString ".0"), none), ((Str.ofString "part"), none)]) (ks := [(Str.ofString "width"), (Str.ofString "sign")]) ?e3 ?S ?hnm3 ?hnd3 ?hok3 ?hk3 ?hc3 ?hks3 ?hn3 ?hm3 ?body3
    case e3 => assumption
    case S => ktd_said "m.st"
    case hnm3 => kernel_rfl
    case hnd3 => decide +kernel
    case hok3 => decide +kernel
    case hk3 => rfl
    case hc3 => kernel_rfl
    case hks3 => kernel_rfl
    case hn3 => decide +kernel
    case hm3 => kernel_rfl
    intro C D cenv s ceo S
    refine absR ?_
    intro RR hRR
    refine comp_start rfl ?_ (fun A' => it_listiter (by ktd_said "m.st") (by ktd_said "m.h") ⟨rfl, rfl⟩)
    refine loop_ind (P := fun j s => ∃ r us tq tb, TupL isII ((xs.take j).map (pairH sg n)) us tq ∧ TabS tb ∧ St g z s ((C, .ns [((Str.ofString ".0"), none), ((Str.ofString "part"), r)]) :: (D, .lst us) :: (L, .ns [((Str.ofString "shade"), some (.int shade t)), ((Str.ofString "parts"), some (.ref pl)), ((Str.ofString "split"), sp)]) :: (J, .lit pl j) :: (I, .tit tp (i + 1)) :: (tp, .tup [.int 16 t1, .int 8 t2, .int 4 t3, .int 2 t4]) :: (pl, .lst vs) :: (c_width, .cel (some (.int n tw))) :: (c_sign, .cel (some (.int sg ts))) :: (tq ++ tb))) vs.length ?_ ?_ _ (exI4_3 _ _ [] _ .nil T (by rw [List.nil_append]; exact St.keep S (by ktd_said "m.keep")))
    · intro j hj jh s hP
      refine exE4_3 hP (fun r us tq tb S hu T => ?_)
      clear hP
      refine comp0 ?_
      obtain ⟨x, hxj, ⟨tx, htx⟩⟩ := hv.get2 (List.getElem?_eq_getElem hj)
      have hxv : vs[j]? = some vs[j] := List.getElem?_eq_getElem hj
      rw [htx] at hxv
      obtain ⟨hb1, hb2⟩ := hbd x (List.mem_of_getElem? hxj)
      have hul := hu.len
      rw [List.length_map, List.length_take] at hul
      obtain ⟨k1, k2, k3, k4⟩ := halves_side hsg hn16 hb1 hb2
      refine nx_lstN (by ktd_said "m.st") (by ktd_said "m.s") (St.isL (by ktd_said "m.st") (by ktd_said "m.h")) hxv (fun _ _ h => n0_some h) (fun _ _ => ?_)
      ktd_said "m.go"
      rw [Int.toNat_natCast]
      refine (divmod_con k1 k2 k3 k4).use0 G (by ktd_said "m.st") T (by ktd_said "m.tl") (hA.mono (by decide)) (fun v s' new tb2 hv' T2 S2 => ?_)
      obtain ⟨Ta, u1, u2, rfl, rfl⟩ := hv'
      dsimp only [List.cons_append, List.nil_append] at S2
      refine compA_go (by ktd_said "m.st") (by ktd_said "m.s") (szl (by omega)) (fun s6 S6 => ?_)
      have S7 := S6.perm (perm_mv _ _ [_, _, _, _, _, _, _, _] tq tb2)
      refine jh _ (exI4_3 _ _ (tq ++ [(Ta, _)]) tb2 ?_ T2 S7)
      rw [List.take_add_one, hxj, List.map_append]
      exact hu.snoc ⟨.mk, .mk⟩
    · intro s hP
      refine exE4_3 hP (fun r us tq tb S hu T => ?_)
      clear hP
      refine comp0 ?_
      refine nx_listEnd (AOk.handled (by with_reducible assumption)) (by ktd_said "m.st") (by ktd_said "m.p") (St.isL (by ktd_said "m.st") (by ktd_said "m.h")) (List.getElem?_eq_none (Nat.le_refl _)) (fun _ _ => n0_none ?_)
      rw [hvl, List.take_length] at hu
      refine leafR (by with_reducible assumption) (comp_endU (by ktd_said "m.st") (by ktd_said "m.p") (by ktd_said "m.st") (by ktd_said "m.h") (by ktd_said "m.s") (fun _ _ => ?_))
      clear S
      rename_i s9 S9
      try replace S9 := Se.st S9
      refine' x_asgC (cl := [((Str.ofString "sign"), c_sign)]) ?e4 ?hy4 ?hcl4 ?hk4 ?hn4 ?hp4 ?hno4 ?body4 ?hs4
      case e4 => assumption
      case hy4 => ktd_said "m.h"
      case hp4 => rfl
      case hno4 => kernel_rfl
      case hcl4 => kernel_rfl
      case hk4 => rfl
      case hn4 => kernel_rfl
      case hs4 => intro _; rfl
      ktd_said "m.go"
      rename_i K s10 S10
      try replace S10 := Se.st S10
      have S11 : ∃ sl, St g z s10 ((L, .ns [((Str.ofString "shade"), some (.int shade t)), ((Str.ofString "parts"), some (.ref pl)), ((Str.ofString "split"), some (.ref sl))]) :: (K, .lit sl 0) :: (sl, .lst us) :: (I, .tit tp (i + 1)) :: (tp, .tup [.int 16 t1, .int 8 t2, .int 4 t3, .int 2 t4]) :: (pl, .lst vs) :: (c_width, .cel (some (.int n tw))) :: (c_sign, .cel (some (.int sg ts))) :: (tq ++ tb)) := ⟨_, St.keep S10 (by ktd_said "m.keep")⟩
      obtain ⟨sl, S11⟩ := S11
      clear S9 S10
      refine' comp_goU (nm' := [((Str.ofString ".0"), .local), ((Str.ofString "upper"), .local), ((Str.ofString "rest"), .local), ((Str.ofString "half"), .local), ((Str.ofString "sign"), .cell)]) (m := [((Str.ofString ".0"), none), ((Str.ofString "upper"), none), ((Str.ofString "rest"), none), ((Str.ofString "half"), none)]) (ks := [(Str.ofString "sign")]) ?e5 ?S ?hnm5 ?hnd5 ?hok5 ?hk5 ?hc5 ?hks5 ?hn5 ?hm5 ?body5
      case e5 => assumption
      case S => ktd_said "m.st"
      case hnm5 => kernel_rfl
      case hnd5 => decide +kernel
      case hok5 => decide +kernel
      case hk5 => rfl
      case hc5 => kernel_rfl
      case hks5 => kernel_rfl
      case hn5 => decide +kernel
      case hm5 => kernel_rfl
      intro C D cenv s ceo S
      refine absR ?_
      intro RR hRR
      refine comp_start rfl ?_ (fun A' => it_listiter (by ktd_said "m.st") (by ktd_said "m.h") ⟨rfl, rfl⟩)
      have hul := hu.len
      rw [List.length_map] at hul
      refine loop_ind (P := fun j s => ∃ r1 r2 r3 ws, VL isI (stepH n (xs.take j)) ws ∧ St g z s ((C, .ns [((Str.ofString ".0"), none), ((Str.ofString "upper"), r1), ((Str.ofString "rest"), r2), ((Str.ofString "half"), r3)]) :: (D, .lst ws) :: (L, .ns [((Str.ofString "shade"), some (.int shade t)), ((Str.ofString "parts"), some (.ref pl)), ((Str.ofString "split"), some (.ref sl))]) :: (K, .lit sl j) :: (sl, .lst us) :: (I, .tit tp (i + 1)) :: (tp, .tup [.int 16 t1, .int 8 t2, .int 4 t3, .int 2 t4]) :: (pl, .lst vs) :: (c_width, .cel (some (.int n tw))) :: (c_sign, .cel (some (.int sg ts))) :: (tq ++ tb))) us.length ?_ ?_ _ (exI4_2 _ _ _ _ .nil S)
      · intro j hj jh s hP
        refine exE4_2 hP (fun r1 r2 r3 ws S hw => ?_)
        clear hP
        have hjx : j < xs.length := by omega
        have hxj : xs[j]? = some xs[j] := List.getElem?_eq_getElem hjx
        generalize xs[j] = x at hxj
        obtain ⟨Ta, a, b, hua, hTa, ⟨ta, rfl⟩, ⟨tb', rfl⟩⟩ := hu.get (i := j) (x := pairH sg n x) (by rw [List.getElem?_map, hxj]; rfl)
        have hwl := hw.len
        rw [stepH_len, List.length_take] at hwl
        refine comp2o ?_ (by intro _; rfl) (AOk.handled (by with_reducible assumption))
        refine nx_lstT (by ktd_said "m.st") (by ktd_said "m.s") (St.isL (by ktd_said "m.st") (by ktd_said "m.h")) hua (fun _ _ h => n2_some h) (fun _ _ => ?_)
        unfold pairH at *
        ktd_said "m.go"
        refine it_tup (by ktd_said "m.st") (by ktd_said "m.h") (fun _ _ _ => ?_)
        refine comp_start rfl ?_ (fun A' => it_titer (by ktd_said "m.st") (by ktd_said "m.h") ⟨rfl, rfl⟩)
        refine comp2i ?_
        refine nx_tupN (by ktd_said "m.st") (by ktd_said "m.s") (by ktd_said "m.h") rfl (fun _ _ h => n0_some h) (fun _ _ => ?_)
        ktd_said "m.go"
        refine compA_go (by ktd_said "m.st") (by ktd_said "m.s") (szl (by omega)) (fun _ _ => ?_)
        refine comp2i ?_
        refine nx_tupN (by ktd_said "m.st") (by ktd_said "m.s") (by ktd_said "m.h") rfl (fun _ _ h => n0_some h) (fun _ _ => ?_)
        ktd_said "m.go"
        refine compA_go (by ktd_said "m.st") (by ktd_said "m.s") (szl (by rw [List.length_append]; simp only [List.length_cons, List.length_nil]; omega)) (fun _ _ => ?_)
        refine comp2i ?_
        refine nx_tupEnd (AOk.handled (by with_reducible assumption)) (by ktd_said "m.st") (by ktd_said "m.p") (by ktd_said "m.h") rfl (fun s12 S12 => n0_none ?_)
        refine jh _ (exI4_2 _ _ _ _ ?_ (St.keep S12 (by ktd_said "m.keep")))
        rw [List.take_add_one, hxj, stepH_app]
        show VL isI (stepH n _ ++ [x.fmod (2 ^ n), Builtin.bitXor (x.fmod (2 ^ n)) (x.fdiv (2 ^ n))]) _
        rw [← sg_fmod (x := x) hsg (2 ^ n), ← sg_fdiv (x := x) hsg (2 ^ n), show ∀ (l : List Int) a b, l ++ [a, b] = (l ++ [a]) ++ [b] from by simp]
        exact (hw.snoc .mk).snoc .mk
      · intro s hP
        refine exE4_2 hP (fun r1 r2 r3 ws S hw => ?_)
        clear hP
        refine comp2o ?_ (by intro _; rfl) (AOk.handled (by with_reducible assumption))
        refine nx_listEnd (AOk.handled (by with_reducible assumption)) (by ktd_said "m.st") (by ktd_said "m.p") (St.isL (by ktd_said "m.st") (by ktd_said "m.h")) (List.getElem?_eq_none (Nat.le_refl _)) (fun _ _ => n2_none ?_)
        rw [hul, List.take_length] at hw
        refine leafR (by with_reducible assumption) (comp_endU (by ktd_said "m.st") (by ktd_said "m.p") (by ktd_said "m.st") (by ktd_said "m.h") (by ktd_said "m.s") (fun _ _ => ?_))
        ktd_said "m.go"
        rename_i S13
        try replace S13 := Se.st S13
        refine ih _ (exI5_3 _ _ _ _ _ ?_ T (St.keep S13 (by ktd_said "m.keep")))
        rw [hstep]
        exact hw
  · intro s hP
    refine exE5_3 hP (fun pl vs cw sp tb S hv T => ?_)
    clear hP
    refine for_turn ?_
    refine nx_tupEnd (AOk.handled (by with_reducible assumption)) (by ktd_said "m.st") (by ktd_said "m.p") (by ktd_said "m.h") rfl (fun _ _ => forN_none ?_)
    have hlen : (hsAt shade 4).length ≤ 16 := by rw [hsAt_len]; decide
    rw [halvesFun_eq] at h
    generalize hsAt shade 4 = xs at *
    have hvl := hv.len
    ktd_said "m.go"
    refine' r_comp (cl := []) ?e6 ?hcl6 ?hk6 ?hn6 ?body6 ?hs6
    case e6 => assumption
    case hcl6 => kernel_rfl
    case hk6 => rfl
    case hn6 => kernel_rfl
    case hs6 => intro _; rfl
    ktd_said "m.go"
    rename_i J s4 S4
    try replace S4 := Se.st S4
    refine' comp_go0 (nm' := [((Str.ofString ".0"), .local), ((Str.ofString "part"), .local), ((Str.ofString "bit"), .local)]) (m := [((Str.ofString ".0"), none), ((Str.ofString "part"), none), ((Str.ofString "bit"), none)]) (ks := []) ?e7 ?S ?hnm7 ?hnd7 ?hok7 ?hk7 ?hc7 ?hks7 ?hn7 ?hm7 ?body7
    case e7 => assumption
    case S => ktd_said "m.st"
    case hnm7 => kernel_rfl
    case hnd7 => decide +kernel
    case hok7 => decide +kernel
    case hk7 => rfl
    case hc7 => kernel_rfl
    case hks7 => kernel_rfl
    case hn7 => decide +kernel
    case hm7 => kernel_rfl
    intro C D cenv s ceo S
    refine absR ?_
    intro RR hRR
    refine comp_start rfl ?_ (fun A' => it_listiter (by ktd_said "m.st") (by ktd_said "m.h") ⟨rfl, rfl⟩)
    refine loop_ind (P := fun j s => ∃ r1 r2 ws, VL isI (lastH (xs.take j)) ws ∧ St g z s ((C, .ns [((Str.ofString ".0"), none), ((Str.ofString "part"), r1), ((Str.ofString "bit"), r2)]) :: (D, .lst ws) :: (L, .ns [((Str.ofString "shade"), some (.int shade t)), ((Str.ofString "parts"), some (.ref pl)), ((Str.ofString "split"), sp)]) :: (J, .lit pl j) :: (pl, .lst vs) :: tb)) vs.length ?_ ?_ _ (exI3_2 _ _ _ .nil (St.keep S (by ktd_said "m.keep")))
    · intro j hj jh s hP
      refine exE3_2 hP (fun r1 r2 ws S hw => ?_)
      clear hP
      obtain ⟨x, hxj, ⟨tx, htx⟩⟩ := hv.get2 (List.getElem?_eq_getElem hj)
      have hxv : vs[j]? = some vs[j] := List.getElem?_eq_getElem hj
      rw [htx] at hxv
      have hwl := hw.len
      rw [lastH_len, List.length_take] at hwl
      have hpy : Builtin.divisionGoesByPylong x 2 = false := nopyl (by decide)
      refine comp2o ?_ (by intro _; rfl) (AOk.handled (by with_reducible assumption))
      refine nx_lstN (by ktd_said "m.st") (by ktd_said "m.s") (St.isL (by ktd_said "m.st") (by ktd_said "m.h")) hxv (fun _ _ h => n2_some h) (fun _ _ => ?_)
      ktd_said "m.go"
      refine it_tup (by ktd_said "m.st") (by ktd_said "m.h") (fun _ _ _ => ?_)
      refine comp_start rfl ?_ (fun A' => it_titer (by ktd_said "m.st") (by ktd_said "m.h") ⟨rfl, rfl⟩)
      refine comp2i ?_
      refine nx_tupN (by ktd_said "m.st") (by ktd_said "m.s") (by ktd_said "m.h") rfl (fun _ _ h => n0_some h) (fun _ _ => ?_)
      ktd_said "m.go"
      refine compA_go (by ktd_said "m.st") (by ktd_said "m.s") (szl (by omega)) (fun _ _ => ?_)
      refine comp2i ?_
      refine nx_tupN (by ktd_said "m.st") (by ktd_said "m.s") (by ktd_said "m.h") rfl (fun _ _ h => n0_some h) (fun _ _ => ?_)
      ktd_said "m.go"
      refine compA_go (by ktd_said "m.st") (by ktd_said "m.s") (szl (by rw [List.length_append]; simp only [List.length_cons, List.length_nil]; omega)) (fun _ _ => ?_)
      refine comp2i ?_
      refine nx_tupEnd (AOk.handled (by with_reducible assumption)) (by ktd_said "m.st") (by ktd_said "m.p") (by ktd_said "m.h") rfl (fun s12 S12 => n0_none ?_)
      refine jh _ (exI3_2 _ _ _ ?_ (St.keep S12 (by ktd_said "m.keep")))
      rw [List.take_add_one, hxj, lastH_app]
      show VL isI (lastH _ ++ [x.fmod 2, (Builtin.bitXor x (x.fdiv 2)).fmod 2]) _
      rw [show ∀ (l : List Int) a b, l ++ [a, b] = (l ++ [a]) ++ [b] from by simp]
      exact (hw.snoc .mk).snoc .mk
    · intro s hP
      refine exE3_2 hP (fun r1 r2 ws S hw => ?_)
      clear hP
      refine comp2o ?_ (by intro _; rfl) (AOk.handled (by with_reducible assumption))
      refine nx_listEnd (AOk.handled (by with_reducible assumption)) (by ktd_said "m.st") (by ktd_said "m.p") (St.isL (by ktd_said "m.st") (by ktd_said "m.h")) (List.getElem?_eq_none (Nat.le_refl _)) (fun _ _ => n2_none ?_)
      rw [hvl, List.take_length] at hw
      refine leafR (by with_reducible assumption) (comp_end (fr := (L, .ns _)) (by ktd_said "m.st") (by ktd_said "m.p") (fun _ S14 => ?_))
      exact h _ _ _ ⟨[_], tb, rfl, T, _, _, rfl, rfl, hw⟩ (St.keep S14 (by dsimp only [List.cons_append, List.nil_append]; ktd_said "m.keep"))

end TF11
section TF12
open PySem PySem.Spec PySem.Calls PyProof.Rows PySem.W
set_option pp.maxSteps 400
set_option maxHeartbeats 2000000
noncomputable def codeN : Array Nat := #[14, 10, 4, 1, 1, 22, 0, 31, 16, 127, 0, 13, 7, 22, 0, 31, 16, 127, 0, 1]
noncomputable def codeV : Array Nat := #[14, 14, 4, 1, 1, 9, 4294966783, 0, 0, 2147483648, 0, 0, 0, 0, 0, 13, 11, 9, 4294966783, 0, 0, 2147483648, 0, 0, 0, 0, 0, 1]
noncomputable def clean (b : Bool) (x : Str) : Bool := failsIn 500 (Sre.forSearch (if b then codeN else codeV) x.cps 0 0 x.cps.size false) && decide (x.cps.size ≤ 100)
theorem use_clean {b : Bool} {x : Str} {items : Array Value} {m : Nat} (h1 : ((items.map Builtin.Re.reRawOf).map (·.toNat)) = (if b then codeN else codeV)) (hm : m = 0) (hc : failsIn 500 (Sre.forSearch (if b then codeN else codeV) x.cps 0 0 x.cps.size false) = true) :
    failsIn 500 (Sre.forSearch ((items.map Builtin.Re.reRawOf).map (·.toNat)) x.cps m 0 x.cps.size false) = true := by rw [h1, hm]; exact hc
noncomputable abbrev k133 (P : Params) := (by k_is : List.lookup 133 (Mine.hd.heap_1 P) = some _)
noncomputable abbrev k134 (P : Params) := (by k_is : List.lookup 134 (Mine.hd.heap_1 P) = some _)
noncomputable abbrev k138 (P : Params) := (by k_is : List.lookup 138 (Mine.hd.heap_1 P) = some _)
noncomputable abbrev k139 (P : Params) := (by k_is : List.lookup 139 (Mine.hd.heap_1 P) = some _)
theorem conv_con {prog : Program} {w : World} {x : Addr} {t : Str} {tk : Tok} {b : Bool} (hc : clean b t = true) : Con prog w (Mine.hd.heap_1 w.params) (.ref 169) [.ref x, .str t tk] [((Str.ofString "name"), .bool b)] 5 [] fun r us => r = .str t tk ∧ us = [] := by
  intro g z s A Q E G S hA h
  unfold clean at hc
  rw [Bool.and_eq_true, decide_eq_true_eq] at hc
  obtain ⟨hc1, hc2⟩ := hc
  refine' enter_plainK (f := 169) (args := ⟨[.ref x, .str t tk], [((Str.ofString "name"), .bool b)]⟩) (binds := [((Str.ofString "self"), .ref x), ((Str.ofString "value"), .str t tk), ((Str.ofString "name"), .bool b)]) (m := [((Str.ofString "self"), some (.ref x)), ((Str.ofString "value"), some (.str t tk)), ((Str.ofString "name"), some (.bool b)), ((Str.ofString "regex"), none)]) ?ho1 ?hcd1 G S hA ?hbind1 ?hnd1 ?hok1 ?hm1 ?body1 ?hcell1 ?hloc1 ?c11 ?c21 ?c31
  case ho1 => k_is
  case hcd1 => k_is
  case hbind1 => exact BindsTo.of_eq (by kernel_rfl)
  case hnd1 => decide +kernel
  case hok1 => decide +kernel
  case hm1 => kernel_rfl
  case hcell1 => kernel_rfl
  case hloc1 => kernel_rfl
  case c11 => rfl
  case c21 => rfl
  case c31 => rfl
  intro env L s eo ex S
  refine absE ?_
  intro EE hEE
  replace eo : EO env L [((Str.ofString "self"), .local), ((Str.ofString "value"), .local), ((Str.ofString "name"), .local), ((Str.ofString "regex"), .local), ((Str.ofString "type"), .globalImplicit), ((Str.ofString "str"), .globalImplicit), ((Str.ofString "_name_disallowed_re"), .globalImplicit), ((Str.ofString "_value_disallowed_re"), .globalImplicit), ((Str.ofString "ValueError"), .globalImplicit), ((Str.ofString "AssertionError"), .globalImplicit), ((Str.ofString "repr"), .globalImplicit)] [] := eo
  replace hA := hA.deeper env
  ktd_said "m.go"
  cases b
  · refine if_f (by decide) ?_
    ktd_said "m.go"
    rename_i S1
    try replace S1 := Se.st S1
    refine gm_search ((kin G S1) _ _ (k139 w.params)) ?_
    ktd_said "m.go"
    refine call_search (t := 500) (c := 138) ((kin G (by ktd_said "m.st")) _ _ (k139 w.params)) rfl rfl ⟨_, _, _, (kin G (by ktd_said "m.st")) _ _ (k138 w.params)⟩ (use_clean (b := false) (by kernel_rfl) rfl hc1) (by decide) (by omega) ?_
    ktd_said "m.go"
    exact h _ _ _ ⟨rfl, rfl⟩ (St.keep (by ktd_said "m.st") (by ktd_said "m.keep"))
  · refine if_t rfl ?_
    ktd_said "m.go"
    rename_i S1
    try replace S1 := Se.st S1
    refine gm_search ((kin G S1) _ _ (k134 w.params)) ?_
    ktd_said "m.go"
    refine call_search (t := 500) (c := 133) ((kin G (by ktd_said "m.st")) _ _ (k134 w.params)) rfl rfl ⟨_, _, _, (kin G (by ktd_said "m.st")) _ _ (k133 w.params)⟩ (use_clean (b := true) (by kernel_rfl) rfl hc1) (by decide) (by omega) ?_
    ktd_said "m.go"
    exact h _ _ _ ⟨rfl, rfl⟩ (St.keep (by ktd_said "m.st") (by ktd_said "m.keep"))

end TF12
section TF13
open PySem PySem.Spec PySem.Calls PyProof.Rows PySem.W
section
variable {prog : Program} {w : World} {A : Around} {E : Value → Shared → Prop} {g : Heap} {z s : Shared} {ow ow' : List (Addr × Kd)} {x dx l : Addr} {tk : Tok} {fr : Addr × Kd}
theorem conv_use {t : Str} {tk : Tok} {b : Bool} {L : List Str} {d : Nat} {Q : Value → Shared → Prop} (G : Gd (Mine.hd.heap_1 w.params) g) (S : St g z s (fr :: ow)) (hA : AOk A d) (hd5 : 5 ≤ d) (hc : clean b t = true) (hL : L = [(Str.ofString "name")]) (h : ∀ s', St g z s' (fr :: ow) → Q (.str t tk) s') :
    wpAny (model prog w) A (call (.ref 169) ([.ref x] ++ [.str t tk]) (L.zip [.bool b])) Q E s := by
  subst hL
  refine (conv_con (x := x) (tk := tk) hc).useV G S (hA.mono hd5) (fun v s' hv S' => ?_)
  subst hv
  exact h _ S'
end
local macro_rules | `(tactic| ktd_said "m.xtra") => said1 "conv_use a st a dec assumption r 2"
set_option pp.maxSteps 400
set_option maxHeartbeats 2000000
/-- making an object of Headers around an empty list -/
theorem mk_headers {prog : Program} {w : World} {A : Around} {E : Value → Shared → Prop} {g : Heap} {z s : Shared} {ow ow' : List (Addr × Kd)} {fr : Addr × Kd} {l : Addr} {Q : Value → Shared → Prop} (G : Gd (Mine.hd.heap_1 w.params) g) (S : St g z s (fr :: (l, .lst []) :: ow)) (hA : AOk A 10)
    (h : ∀ x dx tk s', St g z s' (fr :: (x, .raw (instObj 270 dx)) :: (dx, .raw (dictOf (hdE w.params tk l) 1)) :: (l, .lst []) :: ow) → Q (.ref x) s') : wpAny (model prog w) A (call (.ref 270) [.ref l]) Q E s := by
  refine mk_inst (fI := 162) G S (by k_is) (by k_is) (by k_is) (fun x dx s S => ?_)
  replace hA : AOk (A.under (.builtin "type.__call__" ⟨.ref 270 :: [.ref l], []⟩)) 9 := AOk.under hA _ (Nat.le_of_eq rfl) (Nat.le_trans (Nat.le_of_eq rfl) (Nat.add_le_add_left (by decide : (1 : Nat) ≤ 16) _)) rfl
  refine' enterC (f := 162) (args := ⟨[.ref x, .ref l], []⟩) (binds := [((Str.ofString "self"), .ref x), ((Str.ofString "headers"), .ref l)]) (m := [((Str.ofString "self"), some (.ref x)), ((Str.ofString "headers"), some (.ref l)), ((Str.ofString "k"), none), ((Str.ofString "v"), none)]) ?ho1 ?hcd1 G S hA ?hbind1 ?hnd1 ?hok1 ?hm1 ?body1 ?hcell1 ?hloc1 ?c11 ?c21 ?c31
  case ho1 => k_is
  case hcd1 => k_is
  case hbind1 => exact binds_K (kin G S) rfl (by k_is) rfl rfl rfl
  case hnd1 => decide +kernel
  case hok1 => decide +kernel
  case hm1 => kernel_rfl
  case hcell1 => kernel_rfl
  case hloc1 => kernel_rfl
  case c11 => rfl
  case c21 => rfl
  case c31 => rfl
  intro env L s eo ex S
  refine absE ?_
  intro EE hEE
  replace eo : EO env L [((Str.ofString "self"), .local), ((Str.ofString "headers"), .local), ((Str.ofString "k"), .local), ((Str.ofString "v"), .local), ((Str.ofString "type"), .globalImplicit), ((Str.ofString "list"), .globalImplicit), ((Str.ofString "TypeError"), .globalImplicit), ((Str.ofString "__debug__"), .globalImplicit)] [] := eo
  replace hA := hA.deeper env
  ktd_said "m.go"
  rename_i tk s S
  try replace S := Se.st S
  refine st_own (K := Mine.hd.heap_1 w.params) (n' := 1) (es' := hdE w.params (s.toks + 1) l) G (by ktd_said "m.st") (by ktd_said "m.h") (by ktd_said "m.s") (by k_is) (by k_is) (by k_is) (by k_is) (by rfl) (by rfl) (Nat.le_of_ble_eq_true rfl) (fun s S => ?_)
  ktd_said "m.go"
  refine for_turn ?_
  refine nx_listEnd (AOk.handled (by with_reducible assumption)) (by ktd_said "m.st") (by ktd_said "m.p") (St.isL (by ktd_said "m.st") (by ktd_said "m.h")) rfl (fun _ _ => forN_none ?_)
  ktd_said "m.go"
  rename_i S9
  try replace S9 := Se.st S9
  exact And.intro rfl (h _ _ _ _ (St.keep S9 (by ktd_said "m.keep")))
/-- pairs that stand as tuples among tp -/
inductive TupR {α : Type} (P : α → Value → Value → Prop) (tp : List (Addr × Kd)) : List α → List Value → Prop
  | nil : TupR P tp [] []
  | cons {x : α} {T : Addr} {a b : Value} {xs : List α} {vs : List Value} : Has T (.tup [a, b]) tp → P x a b → TupR P tp xs vs → TupR P tp (x :: xs) (.ref T :: vs)
section
variable {α : Type} {P : α → Value → Value → Prop} {xs ys : List α} {vs ws : List Value} {tp tq : List (Addr × Kd)}
theorem TupR.len (h : TupR P tp xs vs) : vs.length = xs.length := by
  induction h with
  | nil => rfl
  | cons _ _ _ ih => simp [ih]
theorem TupR.app (h : TupR P tp xs vs) (h' : TupR P tp ys ws) : TupR P tp (xs ++ ys) (vs ++ ws) := by
  induction h with
  | nil => exact h'
  | cons h1 h2 _ ih => exact .cons h1 h2 ih
theorem TupR.more (h : TupR P tp xs vs) (q : List (Addr × Kd)) : TupR P (tp ++ q) xs vs := by
  induction h with
  | nil => exact .nil
  | cons h1 h2 _ ih => exact .cons (h1.app q) h2 ih
theorem Has.last {α β : Type} {x : α} {o : β} : ∀ l : List (α × β), Has x o (l ++ [(x, o)])
  | [] => .hd
  | _ :: r => .tl (Has.last r)
theorem TupR.snoc (h : TupR P tp xs vs) {x : α} {T : Addr} {a b : Value} (hp : P x a b) : TupR P (tp ++ [(T, .tup [a, b])]) (xs ++ [x]) (vs ++ [.ref T]) :=
  (h.more _).app (.cons (Has.last tp) hp .nil)
theorem TupR.get (h : TupR P tp xs vs) : ∀ {i : Nat} {x : α}, xs[i]? = some x → ∃ T a b, vs[i]? = some (.ref T) ∧ Has T (.tup [a, b]) tp ∧ P x a b := by
  induction h with
  | nil => intro i x e; simp at e
  | @cons x T a b xs vs h1 hp _ ih =>
    intro i y e
    cases i with
    | zero => simp at e; subst e; exact ⟨T, a, b, rfl, h1, hp⟩
    | succ i =>
      obtain ⟨T', a', b', h1, h2, h3⟩ := ih (by simpa using e)
      exact ⟨T', a', b', by simpa using h1, h2, h3⟩
end
theorem Has.pre {α β : Type} {x : α} {o : β} {l : List (α × β)} (h : Has x o l) : ∀ r : List (α × β), Has x o (r ++ l)
  | [] => h
  | _ :: r => .tl (h.pre r)
noncomputable abbrev lo (x : Str) : Str := Txt.lower x
noncomputable def RowsOk (xs : List (Str × Str)) : Prop := xs.length ≤ 100 ∧ ∀ p ∈ xs, p.1.length ≤ 100 ∧ (lo p.1).length ≤ 100 ∧ p.2.length ≤ 100
/-- the pairs of a table that are read one after another: found -/
noncomputable def getFun (xs : List (Str × Str)) (q dflt : Str) : Str := match xs.find? (fun p => (lo p.1).cps.toList == (lo q).cps.toList) with | some p => p.2 | none => dflt

end TF13
section TF14
open PySem PySem.Spec PySem.Calls PyProof.Rows PySem.W
local macro_rules | `(tactic| ktd_said "m.xtra") => said1 "conv_use a st a dec assumption r 2"
set_option pp.maxSteps 400
set_option maxHeartbeats 2000000
/-- a contract of a call as code -/
noncomputable def ConC (prog : Program) (w : World) (K : Frag) (f : Value) (args : List Value) (kw : List (Str × Value)) (d : Nat) (us : List (Addr × Kd)) (post : Value → List (Addr × Kd) → Prop) : Prop :=
  ∀ (g : Heap) (z s : Shared) (A : Around) (R : Result → Shared → Prop), Gd K g → St g z s us → AOk A d → (∀ v s' us', post v us' → St g z s' us' → R (.ok (.ret v)) s') → codeAny (model prog w) A (.call f ⟨args, kw⟩) R s
theorem ConC.con {prog : Program} {w : World} {K : Frag} {f : Value} {args : List Value} {kw : List (Str × Value)} {d : Nat} {us : List (Addr × Kd)} {post : Value → List (Addr × Kd) → Prop} (C : ConC prog w K f args kw d us post) : Con prog w K f args kw d us post :=
  fun g z s A Q E G S hA h => wpAny_call (C g z s A _ G S hA fun v s' us' hp hs => h v s' us' hp hs)
/-- by way of a bound method -/
theorem ConC.bound {prog : Program} {w : World} {K : Frag} {f self q : Addr} {args : List Value} {kw : List (Str × Value)} {d : Nat} {us : List (Addr × Kd)} {post : Value → List (Addr × Kd) → Prop} (C : ConC prog w K (.ref f) (.ref self :: args) kw d us post) :
    Con prog w K (.ref q) args kw d ((q, .raw (methodObj (.ref f) (.ref self))) :: us) fun v us' => ∃ us2, us' = (q, .raw (methodObj (.ref f) (.ref self))) :: us2 ∧ post v us2 := by
  intro g z s A Q E G S hA h
  have hq : s.heap.get? q = some (methodObj (.ref f) (.ref self)) := S.get (a := q) (k := .raw (methodObj (.ref f) (.ref self))) .hd
  have S0 : St g z s (us ++ [(q, .raw (methodObj (.ref f) (.ref self)))]) := S.perm (by
    have := List.perm_append_comm (l₁ := [(q, Kd.raw (methodObj (.ref f) (.ref self)))]) (l₂ := us)
    exact this)
  obtain ⟨g', S', gk, _, back⟩ := S0.enter
  refine wpAny_call (method_call hq (C g' s s A _ (G.keeps gk) S' hA fun v s' us' hp hs => ?_))
  exact h v s' _ ⟨us', rfl, hp⟩ ((back _ _ hs).perm (by
    have := List.perm_append_comm (l₁ := us') (l₂ := [(q, Kd.raw (methodObj (.ref f) (.ref self)))])
    exact this))
theorem getFun_nil (q d : Str) : getFun [] q d = d := rfl
theorem getFun_cons (p : Str × Str) (r : List (Str × Str)) (q d : Str) : getFun (p :: r) q d = if ((lo p.1).cps.toList == (lo q).cps.toList) = true then p.2 else getFun r q d := by
  unfold getFun
  rw [List.find?_cons]
  cases ((lo p.1).cps.toList == (lo q).cps.toList) <;> rfl
theorem get_con {prog : Program} {w : World} {x dx l : Addr} {tk t td : Tok} {q dflt : Str} {xs : List (Str × Str)} {vs : List Value} {tp : List (Addr × Kd)} (hT : TupR isSS tp xs vs) (hxs : RowsOk xs) (hq : clean true (lo q) = true) (hq2 : (Txt.lower q).length ≤ 1000) :
    ConC prog w (Mine.hd.heap_1 w.params) (.ref 217) [.ref x, .str q t] [((Str.ofString "default"), .str dflt td)] 10 ((x, .raw (instObj 270 dx)) :: (dx, .raw (dictOf (hdE w.params tk l) 1)) :: (l, .lst vs) :: tp)
      fun r us => isS (getFun xs q dflt) r ∧ us = ((x, .raw (instObj 270 dx)) :: (dx, .raw (dictOf (hdE w.params tk l) 1)) :: (l, .lst vs) :: tp) := by
  intro g z s A R G S hA h
  obtain ⟨hx1, hx2⟩ := hxs
  have hvl := hT.len
  refine' enterC (f := 217) (args := ⟨[.ref x, .str q t], [((Str.ofString "default"), .str dflt td)]⟩) (binds := [((Str.ofString "self"), .ref x), ((Str.ofString "name"), .str q t), ((Str.ofString "default"), .str dflt td)]) (m := [((Str.ofString "self"), some (.ref x)), ((Str.ofString "name"), some (.str q t)), ((Str.ofString "default"), some (.str dflt td)), ((Str.ofString "k"), none), ((Str.ofString "v"), none)]) ?ho1 ?hcd1 G S hA ?hbind1 ?hnd1 ?hok1 ?hm1 ?body1 ?hcell1 ?hloc1 ?c11 ?c21 ?c31
  case ho1 => k_is
  case hcd1 => k_is
  case hbind1 => exact binds_K (kin G S) rfl (by k_is) rfl rfl rfl
  case hnd1 => decide +kernel
  case hok1 => decide +kernel
  case hm1 => kernel_rfl
  case hcell1 => kernel_rfl
  case hloc1 => kernel_rfl
  case c11 => rfl
  case c21 => rfl
  case c31 => rfl
  intro env L s eo ex S
  refine absE ?_
  intro EE hEE
  replace eo : EO env L [((Str.ofString "self"), .local), ((Str.ofString "name"), .local), ((Str.ofString "default"), .local), ((Str.ofString "k"), .local), ((Str.ofString "v"), .local)] [] := eo
  replace hA := hA.deeper env
  ktd_said "m.go"
  rename_i I s1 S1
  try replace S1 := Se.st S1
  have S2 : ∃ tn kv vv, St g z s1 ((L, .ns [((Str.ofString "self"), some (.ref x)), ((Str.ofString "name"), some (.str (Txt.lower q) tn)), ((Str.ofString "default"), some (.str dflt td)), ((Str.ofString "k"), kv), ((Str.ofString "v"), vv)]) :: (I, .lit l 0) :: (x, .raw (instObj 270 dx)) :: (dx, .raw (dictOf (hdE w.params tk l) 1)) :: (l, .lst vs) :: tp) := ⟨_, _, _, S1⟩
  obtain ⟨tn, S2⟩ := S2
  clear S1
  have hq3 : clean true (Txt.lower q) = true := hq
  refine loop_ind (P := fun i s => getFun xs q dflt = getFun (xs.drop i) q dflt ∧ ∃ kv vv, St g z s ((L, .ns [((Str.ofString "self"), some (.ref x)), ((Str.ofString "name"), some (.str (Txt.lower q) tn)), ((Str.ofString "default"), some (.str dflt td)), ((Str.ofString "k"), kv), ((Str.ofString "v"), vv)]) :: (I, .lit l i) :: (x, .raw (instObj 270 dx)) :: (dx, .raw (dictOf (hdE w.params tk l) 1)) :: (l, .lst vs) :: tp)) xs.length ?_ ?_ _ ⟨rfl, S2⟩
  · intro i hi ih s ⟨he, kv, vv, S⟩
    refine for_turn ?_
    have hxi : xs[i]? = some xs[i] := List.getElem?_eq_getElem hi
    have hdr : xs.drop i = xs[i] :: xs.drop (i + 1) := List.drop_eq_getElem_cons hi
    obtain ⟨b1, b2, b3⟩ := hx2 _ (List.getElem_mem hi)
    generalize xs[i] = p at *
    obtain ⟨T, a, b, hv, hTa, ⟨t1, rfl⟩, ⟨t2, rfl⟩⟩ := hT.get hxi
    rw [hdr, getFun_cons] at he
    have b4 : (Txt.lower p.1).length ≤ 1000 := by have : (lo p.1).length = (Txt.lower p.1).length := rfl; omega
    refine nx_lstT (by ktd_said "m.st") (by ktd_said "m.s") (St.isL (by ktd_said "m.st") (by ktd_said "m.h")) hv (fun _ _ h => forN_some h) (fun _ _ => ?_)
    ktd_said "m.go"
    by_cases hb : ((Txt.lower p.1).cps.toList == (Txt.lower q).cps.toList) = true
    · refine if_t hb ?_
      rw [if_pos hb] at he
      ktd_said "m.go"
      exact h _ _ _ ⟨by rw [he]; exact .mk, rfl⟩ (St.keep (by ktd_said "m.st") (by ktd_said "m.keep"))
    · refine if_f hb ?_
      rw [if_neg hb] at he
      ktd_said "m.go"
      exact ih _ ⟨he, _, _, St.keep (by ktd_said "m.st") (by ktd_said "m.keep")⟩
  · intro s ⟨he, kv, vv, S⟩
    refine for_turn ?_
    refine nx_listEnd (AOk.handled (by with_reducible assumption)) (by ktd_said "m.st") (by ktd_said "m.p") (St.isL (by ktd_said "m.st") (by ktd_said "m.h")) (List.getElem?_eq_none (by omega)) (fun _ _ => forN_none ?_)
    rw [List.drop_length, getFun_nil] at he
    ktd_said "m.go"
    exact h _ _ _ ⟨by rw [he]; exact .mk, rfl⟩ (St.keep (by ktd_said "m.st") (by ktd_said "m.keep"))
theorem values_con {prog : Program} {w : World} {x dx l : Addr} {tk : Tok} {xs : List (Str × Str)} {vs : List Value} {tp : List (Addr × Kd)} (hT : TupR isSS tp xs vs) (hxs : RowsOk xs) :
    Con prog w (Mine.hd.heap_1 w.params) (.ref 227) [.ref x] [] 10 ((x, .raw (instObj 270 dx)) :: (dx, .raw (dictOf (hdE w.params tk l) 1)) :: (l, .lst vs) :: tp)
      fun r us => ∃ D ws, r = .ref D ∧ VL isS (xs.map (·.2)) ws ∧ us = ((D, .lst ws) :: ((x, .raw (instObj 270 dx)) :: (dx, .raw (dictOf (hdE w.params tk l) 1)) :: (l, .lst vs) :: tp)) := by
  intro g z s A Q E G S hA h
  obtain ⟨hx1, hx2⟩ := hxs
  have hvl := hT.len
  refine' enter_plainK (f := 227) (args := ⟨[.ref x], []⟩) (binds := [((Str.ofString "self"), .ref x)]) (m := [((Str.ofString "self"), some (.ref x))]) ?ho2 ?hcd2 G S hA ?hbind2 ?hnd2 ?hok2 ?hm2 ?body2 ?hcell2 ?hloc2 ?c12 ?c22 ?c32
  case ho2 => k_is
  case hcd2 => k_is
  case hbind2 => exact BindsTo.of_eq (by kernel_rfl)
  case hnd2 => decide +kernel
  case hok2 => decide +kernel
  case hm2 => kernel_rfl
  case hcell2 => kernel_rfl
  case hloc2 => kernel_rfl
  case c12 => rfl
  case c22 => rfl
  case c32 => rfl
  intro env L s eo ex S
  refine absE ?_
  intro EE hEE
  replace eo : EO env L [((Str.ofString "self"), .local)] [] := eo
  replace hA := hA.deeper env
  ktd_said "m.go"
  refine' r_comp (cl := []) ?e3 ?hcl3 ?hk3 ?hn3 ?body3 ?hs3
  case e3 => assumption
  case hcl3 => kernel_rfl
  case hk3 => rfl
  case hn3 => kernel_rfl
  case hs3 => intro _; rfl
  ktd_said "m.go"
  rename_i I s1 S1
  try replace S1 := Se.st S1
  refine' comp_go0 (nm' := [((Str.ofString ".0"), .local), ((Str.ofString "k"), .local), ((Str.ofString "v"), .local)]) (m := [((Str.ofString ".0"), none), ((Str.ofString "k"), none), ((Str.ofString "v"), none)]) (ks := []) ?e4 ?S ?hnm4 ?hnd4 ?hok4 ?hk4 ?hc4 ?hks4 ?hn4 ?hm4 ?body4
  case e4 => assumption
  case S => ktd_said "m.st"
  case hnm4 => kernel_rfl
  case hnd4 => decide +kernel
  case hok4 => decide +kernel
  case hk4 => rfl
  case hc4 => kernel_rfl
  case hks4 => kernel_rfl
  case hn4 => decide +kernel
  case hm4 => kernel_rfl
  intro C D cenv s ceo S
  refine absR ?_
  intro RR hRR
  refine comp_start rfl ?_ (fun A' => it_listiter (by ktd_said "m.st") (by ktd_said "m.h") ⟨rfl, rfl⟩)
  refine loop_ind (P := fun i s => ∃ kv vv ws, VL isS ((xs.take i).map (·.2)) ws ∧ St g z s ((C, .ns [((Str.ofString ".0"), none), ((Str.ofString "k"), kv), ((Str.ofString "v"), vv)]) :: (D, .lst ws) :: (L, .ns [((Str.ofString "self"), some (.ref x))]) :: (I, .lit l i) :: ((x, .raw (instObj 270 dx)) :: (dx, .raw (dictOf (hdE w.params tk l) 1)) :: (l, .lst vs) :: tp))) xs.length ?_ ?_ _ (exI3_2 _ _ _ .nil S)
  · intro i hi ih s hP
    refine exE3_2 hP (fun kv vv ws S hw => ?_)
    clear hP
    refine comp0 ?_
    have hxi : xs[i]? = some xs[i] := List.getElem?_eq_getElem hi
    obtain ⟨b1, b2, b3⟩ := hx2 _ (List.getElem_mem hi)
    generalize xs[i] = p at *
    obtain ⟨T, a, b, hv, hTa, ⟨t1, rfl⟩, ⟨t2, rfl⟩⟩ := hT.get hxi
    have hwl := hw.len
    rw [List.length_map, List.length_take] at hwl
    refine nx_lstT (by ktd_said "m.st") (by ktd_said "m.s") (St.isL (by ktd_said "m.st") (by ktd_said "m.h")) hv (fun _ _ h => n0_some h) (fun _ _ => ?_)
    ktd_said "m.go"
    refine compA_go (by ktd_said "m.st") (by ktd_said "m.s") (szl (by omega)) (fun s6 S6 => ?_)
    refine ih _ (exI3_2 _ _ _ ?_ (St.keep S6 (by ktd_said "m.keep")))
    rw [List.take_add_one, hxi, List.map_append]
    exact hw.snoc .mk
  · intro s hP
    refine exE3_2 hP (fun kv vv ws S hw => ?_)
    clear hP
    refine comp0 ?_
    refine nx_listEnd (AOk.handled (by with_reducible assumption)) (by ktd_said "m.st") (by ktd_said "m.p") (St.isL (by ktd_said "m.st") (by ktd_said "m.h")) (List.getElem?_eq_none (by omega)) (fun _ _ => n0_none ?_)
    rw [List.take_length] at hw
    refine leafR (by with_reducible assumption) (comp_end (fr := (L, .ns _)) (by ktd_said "m.st") (by ktd_said "m.p") (fun _ _ => ?_))
    exact h _ _ _ ⟨_, _, rfl, hw, rfl⟩ (St.keep (by ktd_said "m.st") (by ktd_said "m.keep"))
/-- what a delete leaves -/
noncomputable def delFun (xs : List (Str × Str)) (q : Str) : List (Str × Str) := xs.filter fun p => (lo p.1).cps.toList != (lo q).cps.toList
theorem del_con {prog : Program} {w : World} {x dx l : Addr} {tk t : Tok} {q : Str} {xs : List (Str × Str)} {vs : List Value} {tp : List (Addr × Kd)} (hT : TupR isSS tp xs vs) (hxs : RowsOk xs) (hq : clean true (lo q) = true) (hq2 : (Txt.lower q).length ≤ 1000) :
    Con prog w (Mine.hd.heap_1 w.params) (.ref 188) [.ref x, .str q t] [] 10 ((x, .raw (instObj 270 dx)) :: (dx, .raw (dictOf (hdE w.params tk l) 1)) :: (l, .lst vs) :: tp)
      fun r us => r = .none ∧ ∃ ws, TupR isSS tp (delFun xs q) ws ∧ us = ((x, .raw (instObj 270 dx)) :: (dx, .raw (dictOf (hdE w.params tk l) 1)) :: (l, .lst ws) :: tp) := by
  intro g z s A Q E G S hA h
  obtain ⟨hx1, hx2⟩ := hxs
  have hvl := hT.len
  have hq3 : clean true (Txt.lower q) = true := hq
  refine' enter_cellsK (f := 188) (vals := [.ref x, .str q t]) (binds := [((Str.ofString "self"), .ref x), ((Str.ofString "name"), .str q t)]) (m := [((Str.ofString "self"), some (.ref x))]) (cs := fun n => [((Str.ofString "name"), n)]) ?ho5 ?hcd5 G S hA ?hbind5 ?hnd5 ?hok5 ?hm5 ?hcs5 ?body5 ?hbk5 ?hcn5 ?c15 ?c25 ?c35
  case ho5 => k_is
  case hcd5 => k_is
  case hbind5 => kernel_rfl
  case hnd5 => decide +kernel
  case hok5 => decide +kernel
  case hm5 => kernel_rfl
  case hcs5 => intro n; kernel_rfl
  case hbk5 => kernel_rfl
  case hcn5 => kernel_rfl
  case c15 => rfl
  case c25 => rfl
  case c35 => rfl
  intro env L s eo ex S
  refine absE ?_
  intro EE hEE
  obtain ⟨c_name, eo, S⟩ : ∃ c_name, EO env L [((Str.ofString "self"), .local), ((Str.ofString "name"), .cell)] [((Str.ofString "name"), c_name)] ∧ St g z s ((L, .ns [((Str.ofString "self"), some (.ref x))]) :: (c_name, .cel (some (.str q t))) :: ((x, .raw (instObj 270 dx)) :: (dx, .raw (dictOf (hdE w.params tk l) 1)) :: (l, .lst vs) :: tp)) := ⟨L + 1, eo, S⟩
  replace hA := hA.deeper env
  ktd_said "m.go"
  rename_i s1 S1
  try replace S1 := Se.st S1
  have S2 : ∃ tn, St g z s1 ((L, .ns [((Str.ofString "self"), some (.ref x))]) :: (c_name, .cel (some (.str (Txt.lower q) tn))) :: ((x, .raw (instObj 270 dx)) :: (dx, .raw (dictOf (hdE w.params tk l) 1)) :: (l, .lst vs) :: tp)) := ⟨_, S1⟩
  obtain ⟨tn, S2⟩ := S2
  clear S1
  refine' r_comp (cl := [((Str.ofString "name"), c_name)]) ?e6 ?hcl6 ?hk6 ?hn6 ?body6 ?hs6
  case e6 => assumption
  case hcl6 => kernel_rfl
  case hk6 => rfl
  case hn6 => kernel_rfl
  case hs6 => intro _; rfl
  ktd_said "m.go"
  rename_i I s3 S3
  try replace S3 := Se.st S3
  refine' comp_go0 (nm' := [((Str.ofString ".0"), .local), ((Str.ofString "kv"), .local), ((Str.ofString "name"), .cell)]) (m := [((Str.ofString ".0"), none), ((Str.ofString "kv"), none)]) (ks := [(Str.ofString "name")]) ?e7 ?S ?hnm7 ?hnd7 ?hok7 ?hk7 ?hc7 ?hks7 ?hn7 ?hm7 ?body7
  case e7 => assumption
  case S => ktd_said "m.st"
  case hnm7 => kernel_rfl
  case hnd7 => decide +kernel
  case hok7 => decide +kernel
  case hk7 => rfl
  case hc7 => kernel_rfl
  case hks7 => kernel_rfl
  case hn7 => decide +kernel
  case hm7 => kernel_rfl
  intro C D cenv s ceo S
  refine absR ?_
  intro RR hRR
  clear S2 S3
  refine comp_start rfl ?_ (fun A' => it_listiter (by ktd_said "m.st") (by ktd_said "m.h") ⟨rfl, rfl⟩)
  refine loop_ind (P := fun i s => ∃ kv ws, TupR isSS tp (delFun (xs.take i) q) ws ∧ ws.length ≤ i ∧ St g z s ((C, .ns [((Str.ofString ".0"), none), ((Str.ofString "kv"), kv)]) :: (D, .lst ws) :: (L, .ns [((Str.ofString "self"), some (.ref x))]) :: (I, .lit l i) :: (c_name, .cel (some (.str (Txt.lower q) tn))) :: ((x, .raw (instObj 270 dx)) :: (dx, .raw (dictOf (hdE w.params tk l) 1)) :: (l, .lst vs) :: tp))) xs.length ?_ ?_ _ (exI2_3 _ _ .nil (Nat.le_refl _) S)
  · intro i hi ih s hP
    refine exE2_3 hP (fun kv ws S hw hwl => ?_)
    clear hP
    refine comp1 ?_
    have hxi : xs[i]? = some xs[i] := List.getElem?_eq_getElem hi
    obtain ⟨b1, b2, b3⟩ := hx2 _ (List.getElem_mem hi)
    generalize xs[i] = p at *
    obtain ⟨T, a, b, hv, hTa, ⟨t1, rfl⟩, ⟨t2, rfl⟩⟩ := hT.get hxi
    have b4 : (Txt.lower p.1).length ≤ 1000 := by have : (lo p.1).length = (Txt.lower p.1).length := rfl; omega
    have hstep : delFun (xs.take (i + 1)) q = delFun (xs.take i) q ++ delFun [p] q := by
      unfold delFun
      rw [List.take_add_one, hxi, List.filter_append]; rfl
    refine nx_lstN (by ktd_said "m.st") (by ktd_said "m.s") (St.isL (by ktd_said "m.st") (by ktd_said "m.h")) hv (fun _ _ h => n1_some h) (fun _ _ => ?_)
    ktd_said "m.go"
    by_cases hb : ((Txt.lower p.1).cps.toList != (Txt.lower q).cps.toList) = true
    · refine if_t hb ?_
      ktd_said "m.go"
      refine compA_go (by ktd_said "m.st") (by ktd_said "m.s") (szl (by omega)) (fun s6 S6 => ?_)
      refine ih _ (exI2_3 _ _ ?_ ?_ (St.keep S6 (by ktd_said "m.keep")))
      · rw [hstep]
        have e : delFun [p] q = [p] := by unfold delFun; rw [List.filter_cons, if_pos hb]; rfl
        rw [e]
        exact hw.app (.cons hTa ⟨.mk, .mk⟩ .nil)
      · rw [List.length_append]; simp only [List.length_cons, List.length_nil]; omega
    · refine if_f hb ?_
      refine ih _ (exI2_3 _ _ ?_ (Nat.le_succ_of_le hwl) (St.keep (by ktd_said "m.st") (by ktd_said "m.keep")))
      rw [hstep]
      have e : delFun [p] q = [] := by unfold delFun; rw [List.filter_cons, if_neg hb]; rfl
      rw [e, List.append_nil]
      exact hw
  · intro s hP
    refine exE2_3 hP (fun kv ws S hw hwl => ?_)
    clear hP
    refine comp1 ?_
    refine nx_listEnd (AOk.handled (by with_reducible assumption)) (by ktd_said "m.st") (by ktd_said "m.p") (St.isL (by ktd_said "m.st") (by ktd_said "m.h")) (List.getElem?_eq_none (by omega)) (fun _ _ => n1_none ?_)
    rw [List.take_length] at hw
    refine leafR (by with_reducible assumption) (comp_end (fr := (L, .ns _)) (by ktd_said "m.st") (by ktd_said "m.p") (fun s7 S7 => ?_))
    clear S
    ktd_said "m.go"
    rename_i sl s8 S8
    try replace S8 := Se.st S8
    have hne : l ≠ D := S8.ne2 (a := l) (k := .lst vs) (k2 := .lst ws) (by ktd_said "m.p") (by ktd_said "m.h")
    refine set_all (sl := sl) (xs := vs) (ys := ws) S8 (by ktd_said "m.s") (by ktd_said "m.h") (by ktd_said "m.h") hne (szl (by omega)) (fun s9 S9 => ?_)
    ktd_said "m.go"
    exact h _ _ _ ⟨rfl, _, hw, rfl⟩ (St.keep (by ktd_said "m.st") (by ktd_said "m.keep"))
theorem join_one (x v : Str) : Txt.join x [v] = v := by
  first | rfl | (simp [Txt.join]) | trace_state
theorem perm_mv0 {α : Type} (fr p : α) (pre tp : List α) : List.Perm (fr :: p :: (pre ++ tp)) (fr :: (pre ++ (tp ++ [p]))) := by
  have := perm_mv fr p pre tp []
  rwa [List.append_nil, List.append_nil] at this
/-- one more pair -/
theorem add_con {prog : Program} {w : World} {x dx l : Addr} {tk t1 t2 : Tok} {n v : Str} {vs : List Value} {tp : List (Addr × Kd)} (hn : clean true n = true) (hv : clean false v = true) (hvl : v.length ≤ 500) (hl : vs.length ≤ 500) :
    Con prog w (Mine.hd.heap_1 w.params) (.ref 267) [.ref x, .str n t1, .str v t2] [] 10 ((x, .raw (instObj 270 dx)) :: (dx, .raw (dictOf (hdE w.params tk l) 1)) :: (l, .lst vs) :: tp)
      fun r us => r = .none ∧ ∃ T u1 u2, us = ((x, .raw (instObj 270 dx)) :: (dx, .raw (dictOf (hdE w.params tk l) 1)) :: (l, .lst (vs ++ [.ref T])) :: (tp ++ [(T, .tup [.str n u1, .str v u2])])) := by
  intro g z s A Q E G S hA h
  refine enter_by (f := 267) (args := ⟨[.ref x, .str n t1, .str v t2], []⟩) (front := [((Str.ofString "self"), .ref x), ((Str.ofString "_name"), .str n t1), ((Str.ofString "_value"), .str v t2)]) (nm := (Str.ofString "_params")) (m := fun D => [((Str.ofString "self"), some (.ref x)), ((Str.ofString "_name"), some (.str n t1)), ((Str.ofString "_value"), some (.str v t2)), ((Str.ofString "_params"), some (.ref D)), ((Str.ofString "parts"), none), ((Str.ofString "k"), none), ((Str.ofString "v"), none)]) (by k_is) (by k_is) G S hA (bind_new G S (by kernel_rfl)) (by decide +kernel) (by decide +kernel) (fun D => by kernel_rfl) (fun env L Dp kd s hkd eo ex S => ?_) (by decide +kernel) (fun D => by kernel_rfl) rfl rfl rfl
  obtain ⟨hDm, rfl⟩ := hkd
  replace eo : EO env L [((Str.ofString "self"), .local), ((Str.ofString "_name"), .local), ((Str.ofString "_value"), .local), ((Str.ofString "_params"), .local), ((Str.ofString "parts"), .local), ((Str.ofString "k"), .local), ((Str.ofString "v"), .local), ((Str.ofString "_formatparam"), .globalImplicit)] [] := eo
  replace hA := hA.deeper env
  ktd_said "m.go"
  refine for_turn ?_
  refine nx_items (AOk.handled (by with_reducible assumption)) (by ktd_said "m.st") (by ktd_said "m.p") (by ktd_said "m.h") (fun s9 S9 => forN_none ?_)
  ktd_said "m.go"
  rename_i s10 S10
  try replace S10 := Se.st S10
  rw [List.nil_append] at S10
  refine s_join (ys := [v]) S10 (by ktd_said "m.h") (.cons .mk .nil) (by simp only [List.map_cons, List.map_nil, List.sum_cons, List.sum_nil, List.length_cons, List.length_nil]; rw [show (Str.ofString "; ").length = 2 from by decide +kernel]; omega) (fun u s11 S11 => ?_)
  rw [join_one]
  ktd_said "m.go"
  rename_i s12 S12
  try replace S12 := Se.st S12
  have S13 : ∃ T m, St g z s12 ((L, .ns m) :: (T, .tup [.str n t1, .str v u]) :: (x, .raw (instObj 270 dx)) :: (dx, .raw (dictOf (hdE w.params tk l) 1)) :: (l, .lst (vs ++ [.ref T])) :: tp) := ⟨_, _, St.keep S12 (by ktd_said "m.keep")⟩
  obtain ⟨T, m, S13⟩ := S13
  have S14 := S13.perm (perm_mv0 _ _ [_, _, _] tp)
  exact h _ _ _ ⟨rfl, _, _, _, rfl⟩ S14.drop

end TF14
section TF15
open PySem PySem.Spec PySem.Calls PyProof.Rows PySem.W
theorem Con.useR {prog : Program} {w : World} {K : Frag} {f : Value} {args : List Value} {kw : List (Str × Value)} {d : Nat} {us : List (Addr × Kd)} {post : Value → List (Addr × Kd) → Prop} {g : Heap} {z s : Shared} {A : Around} {Q E : Value → Shared → Prop} (C : Con prog w K f args kw d us post) (pre : List (Addr × Kd)) (G : Gd K g) (S : St g z s (pre ++ us)) (hA : AOk A d)
    (h : ∀ v s' us', post v us' → St g z s' (pre ++ us') → Q v s') : wpAny (model prog w) A (call f args kw) Q E s :=
  C.use (hd := pre) G (S.perm List.perm_append_comm) hA fun v s' us' hp S' => h v s' us' hp (S'.perm List.perm_append_comm)
set_option pp.maxSteps 400
set_option maxHeartbeats 2000000
theorem gni_con {prog : Program} {w : World} {x dx l mth : Addr} {tk t td : Tok} {q dflt : Str} {xs : List (Str × Str)} {vs : List Value} {tp : List (Addr × Kd)} (hT : TupR isSS tp xs vs) (hxs : RowsOk xs) (hq : clean true (lo q) = true) (hq2 : (Txt.lower q).length ≤ 1000) :
    Con prog w (Mine.hd.heap_1 w.params) (.ref 110) [.str q t, .ref mth] [((Str.ofString "default"), .str dflt td)] 15 ((mth, .raw (methodObj (.ref 217) (.ref x))) :: (x, .raw (instObj 270 dx)) :: (dx, .raw (dictOf (hdE w.params tk l) 1)) :: (l, .lst vs) :: tp)
      fun r us => ∃ T u, r = .ref T ∧ us = (T, .tup [.str (getFun xs q dflt) u, .str (getFun xs q dflt) u]) :: (mth, .raw (methodObj (.ref 217) (.ref x))) :: (x, .raw (instObj 270 dx)) :: (dx, .raw (dictOf (hdE w.params tk l) 1)) :: (l, .lst vs) :: tp := by
  intro g z s A Q E G S hA h
  refine enter_by (f := 110) (args := ⟨[.str q t, .ref mth], [((Str.ofString "default"), .str dflt td)]⟩) (front := [((Str.ofString "name_index"), .str q t), ((Str.ofString "get_name"), .ref mth)]) (nm := (Str.ofString "extrainfo")) (m := fun D => [((Str.ofString "name_index"), some (.str q t)), ((Str.ofString "get_name"), some (.ref mth)), ((Str.ofString "extrainfo"), some (.ref D)), ((Str.ofString "argval"), none)]) (by k_is) (by k_is) G S hA (bind_new1 (w := w) (k := (Str.ofString "default")) (v := .str dflt td) G S (by kernel_rfl)) (by decide +kernel) (by decide +kernel) (fun D => by kernel_rfl) (fun env L D kd s hkd eo ex S => ?_) (by decide +kernel) (fun D => by kernel_rfl) rfl rfl rfl
  obtain ⟨hDm, tt, rfl⟩ := hkd
  replace eo : EO env L [((Str.ofString "name_index"), .local), ((Str.ofString "get_name"), .local), ((Str.ofString "extrainfo"), .local), ((Str.ofString "argval"), .local), ((Str.ofString "UNKNOWN"), .globalImplicit)] [] := eo
  replace hA := hA.deeper env
  ktd_said "m.go"
  refine wpAny_Call_Name_kw ?_
  ktd_said "m.go"
  rename_i sA S
  try replace S := Se.st S
  refine call_SK (D := D) (k := (Str.ofString "default")) (t := tt) (v := .str dflt td) (v1 := .str q t) (f := 217) (self := .ref x) G S (by ktd_said "m.h") (by k_is) (.hd) hDm (by rfl) (fun R hR => r_loc S eo (by ktd_said "m.h") (by ktd_said "m.h") hR) (fun s1 p S1 R hR => r_loc S1 eo (by ktd_said "m.h") (by ktd_said "m.h") hR) (fun dd s1 S1 => ?_)
  refine ((get_con (q := q) (t := t) (dflt := dflt) (td := td) hT hxs hq hq2).bound (q := mth)).useR [(L, .ns _), (dd, .raw _), (D, .raw _)] G S1 (hA.mono (by decide)) (fun v s2 us2 hv S2 => ?_)
  obtain ⟨us3, rfl, ⟨u, rfl⟩, rfl⟩ := hv
  dsimp only [List.cons_append, List.nil_append] at S2
  ktd_said "m.go"
  rename_i T s3 S3
  try replace S3 := Se.st S3
  exact h _ _ _ ⟨_, u, rfl, rfl⟩ (St.keep S3 (by ktd_said "m.keep"))

end TF15
section TFEq
open PySem PySem.Spec PySem.Calls PyProof.Rows PySem.W PyProof.V PySem.SeqAt
noncomputable def pdSS (p : Str × Str) : PyData := .tuple [.str p.1, .str p.2]
theorem same_pdSS (p q : Str × Str) : PySem.Spec.same (pdSS p) (pdSS q) = decide (p = q) := by
  obtain ⟨a, b⟩ := p
  obtain ⟨c, d⟩ := q
  simp only [pdSS, PySem.Spec.same, PySem.Spec.sameAll]
  by_cases h1 : a = c <;> by_cases h2 : b = d <;> simp [h1, h2]
theorem sameAll_pd : ∀ xs ys : List (Str × Str), PySem.Spec.sameAll (xs.map pdSS) (ys.map pdSS) = decide (xs = ys)
  | [], [] => by simp [PySem.Spec.sameAll]
  | [], _ :: _ => by simp [PySem.Spec.sameAll]
  | _ :: _, [] => by simp [PySem.Spec.sameAll]
  | p :: r, q :: t => by
    simp only [List.map_cons, PySem.Spec.sameAll, same_pdSS, sameAll_pd r t]
    by_cases h : p = q <;> simp [h]
theorem noMix_pd (p q : Str × Str) : noMix (pdSS p) (pdSS q) = true := by simp [pdSS, noMix, noMixAll]
theorem noMixAll_pd : ∀ xs ys : List (Str × Str), noMixAll (xs.map pdSS) (ys.map pdSS) = true
  | [], [] => by simp [noMixAll]
  | [], _ :: _ => by simp [noMixAll]
  | _ :: _, [] => by simp [noMixAll]
  | p :: r, q :: t => by simp [noMixAll, noMix_pd, noMixAll_pd r t]
noncomputable def sOk (p : Str × Str) : Prop := PyData.strOk p.1 = true ∧ PyData.strOk p.2 = true
theorem lay_pd {p : Str × Str} (h : sOk p) : PyData.canLay0 (pdSS p) = true := by simp [pdSS, PyData.canLay0, PyData.canLayAll0, h.1, h.2]
theorem layAll_pd : ∀ {xs : List (Str × Str)}, (∀ p ∈ xs, sOk p) → PyData.canLayAll0 (xs.map pdSS) = true
  | [], _ => by simp [PyData.canLayAll0]
  | p :: r, h => by simp [PyData.canLayAll0, lay_pd (h p (.head _)), layAll_pd (xs := r) fun q hq => h q (.tail _ hq)]
theorem depth_pd (p : Str × Str) : PyData.depth (pdSS p) ≤ 3 := by simp [pdSS, PyData.depth, PyData.depthAll]
theorem depthAll_pd : ∀ xs : List (Str × Str), PyData.depthAll (xs.map pdSS) ≤ 3
  | [] => by simp [PyData.depthAll]
  | p :: r => by
    have h1 := depth_pd p
    have h2 := depthAll_pd r
    simp only [List.map_cons, PyData.depthAll]
    omega
theorem shaped_pd {p : Str × Str} (h : sOk p) : shaped (pdSS p) = true := by
  have h1 := depth_pd p
  show (PyData.canLay0 (pdSS p) && decide (PyData.depth (pdSS p) ≤ 64)) = true
  rw [lay_pd h, Bool.true_and]
  exact decide_eq_true (by omega)
theorem shaped_rows {xs : List (Str × Str)} (h : ∀ p ∈ xs, sOk p) : shaped (.list (xs.map pdSS)) = true := by
  have h1 := depthAll_pd xs
  have h2 : PyData.depth (.list (xs.map pdSS)) ≤ 64 := by simp only [PyData.depth]; omega
  show (PyData.canLay0 (.list (xs.map pdSS)) && decide (PyData.depth (.list (xs.map pdSS)) ≤ 64)) = true
  rw [Bool.and_eq_true]
  exact ⟨by simp only [PyData.canLay0]; exact layAll_pd h, decide_eq_true h2⟩
section
variable {prog : Program} {w : World} {A : Around} {E : Value → Shared → Prop} {g : Heap} {z s : Shared} {ow : List (Addr × Kd)} {a b T l : Addr} {x y x' y' : Str} {t u t' u' : Tok} {k : Nat} {tp : List (Addr × Kd)} {xs ys : List (Str × Str)} {vs us : List Value}
theorem AOk.fits64 (h : AOk A k) (hk : 5 ≤ k) : A.units + 64 < cLine := by have := h.units; omega
theorem reads_pair (S : St g z s ow) (h : Has T (.tup [.str x t, .str y u]) ow) : Reads s.heap (.ref T) (pdSS (x, y)) [] := by
  obtain ⟨n, e⟩ := S.tup h
  exact Reads.tuple e rfl rfl (ReadsAll.cons (as := []) (Reads.str x t) (ReadsAll.cons (as := []) (Reads.str y u) .nil))
theorem reads_rowsAll (S : St g z s ow) (hT : TupR isSS tp xs vs) (hi : ∀ T k, Has T k tp → Has T k ow) : ReadsAll s.heap vs (xs.map pdSS) [] := by
  induction hT with
  | nil => exact .nil
  | @cons x T a b xs vs h1 hp _ ih =>
    obtain ⟨⟨t1, rfl⟩, ⟨t2, rfl⟩⟩ := hp
    exact ReadsAll.cons (as := []) (reads_pair S (hi _ _ h1)) ih
theorem reads_rows (S : St g z s ow) (hl : Has l (.lst vs) ow) (hT : TupR isSS tp xs vs) (hi : ∀ T k, Has T k tp → Has T k ow) : Reads s.heap (.ref l) (.list (xs.map pdSS)) [l] := by
  obtain ⟨n, e⟩ := S.lst hl
  exact Reads.list e rfl rfl (by simpa using reads_rowsAll S hT hi)
theorem c_eqSS {Q : Value → Shared → Prop} (S : St g z s ow) (ha : Has a (.tup [.str x t, .str y u]) ow) (hb : Has b (.tup [.str x' t', .str y' u']) ow) (hu : A.units + 64 < cLine) (h1 : sOk (x, y)) (h2 : sOk (x', y')) (h : Q (.bool (decide ((x, y) = (x', y')))) s) : wpAny (model prog w) A (compareOp .Eq (.ref a) (.ref b)) Q E s :=
  eq_dataH_same (reads_pair S ha) (reads_pair S hb) (shaped_pd h1) (shaped_pd h2) hu (noMix_pd _ _) (by rw [same_pdSS]; exact h)
theorem c_neRows {Q : Value → Shared → Prop} (S : St g z s ow) (hl : Has a (.lst vs) ow) (hT : TupR isSS tp xs vs) (hi : ∀ T k, Has T k tp → Has T k ow) {tq : List (Addr × Kd)} (hl' : Has b (.lst us) ow) (hT' : TupR isSS tq ys us) (hi' : ∀ T k, Has T k tq → Has T k ow) (hu : A.units + 64 < cLine) (h1 : ∀ p ∈ xs, sOk p) (h2 : ∀ p ∈ ys, sOk p) (h : Q (.bool (!decide (xs = ys))) s) :
    wpAny (model prog w) A (compareOp .NotEq (.ref a) (.ref b)) Q E s :=
  ne_dataH_same (reads_rows S hl hT hi) (reads_rows S hl' hT' hi') (shaped_rows h1) (shaped_rows h2) hu (by simp only [noMix]; exact noMixAll_pd xs ys) (by simp only [PySem.Spec.same]; rw [sameAll_pd]; exact h)
end

end TFEq
section TFM1
open PySem PySem.Spec PySem.Calls PyProof.Rows PySem.W PyProof.V PySem.SeqAt
noncomputable def n32 (P : Nat → Nat → Bool) : Bool := (List.range 32).all fun a => (List.range 32).all fun b => P a b
theorem n32_at {P : Nat → Nat → Bool} (h : n32 P = true) {a b : Nat} (ha : a < 32) (hb : b < 32) : P a b = true :=
  List.all_eq_true.mp (List.all_eq_true.mp h a (List.mem_range.mpr ha)) b (List.mem_range.mpr hb)
noncomputable def bL (t g : Int) (i : Nat) : List Nat := if bit t i then [if bit g i then 65 + i else 97 + i] else []
noncomputable def nmL (t g : Int) : List Nat := bL t g 0 ++ bL t g 1 ++ bL t g 2 ++ bL t g 3 ++ bL t g 4
theorem d_up : (List.range 5).all (fun i => Txt.upper ⟨#[97 + i]⟩ == ⟨#[65 + i]⟩) = true := by decide +kernel
theorem foldl_cps : ∀ (l : List Str) (a : Array Nat), (l.foldl (fun acc p => acc ++ (Str.ofString "").cps ++ p.cps) a).toList = a.toList ++ (l.map (·.cps.toList)).flatten
  | [], a => by simp
  | x :: r, a => by
    rw [List.foldl_cons, foldl_cps r]
    have : (Str.ofString "").cps = #[] := by decide +kernel
    rw [this]
    simp
theorem join0_cps (l : List Str) : (Txt.join (Str.ofString "") l).cps.toList = (l.map (·.cps.toList)).flatten := by
  show (Builtin.Str.glued (Str.ofString "") l).cps.toList = _
  unfold Builtin.Str.glued
  cases l with
  | nil => rfl
  | cons x r =>
    show (List.foldl _ x.cps r).toList = _
    rw [foldl_cps]
    simp
theorem sgn_cps (g : Int) (i : Nat) (hi : i < 5) : (sgn g i).cps.toList = [if bit g i then 65 + i else 97 + i] := by
  unfold sgn
  have := List.all_eq_true.mp d_up i (List.mem_range.mpr hi)
  rw [beq_iff_eq] at this
  cases bit g i
  · rfl
  · simp only [if_true]; rw [this]
theorem lets_cps (t g : Int) : ∀ n, n ≤ 5 → ((letsTo t g n).map (·.cps.toList)).flatten = ((List.range n).map (bL t g)).flatten
  | 0, _ => rfl
  | n + 1, h => by
    rw [letsTo, List.map_append, List.flatten_append, lets_cps t g n (by omega), List.range_succ, List.map_append, List.flatten_append]
    congr 1
    unfold bL
    cases hb : bit t n <;> simp [hb, sgn_cps g n (by omega)]
theorem name_cps (t g : Int) : (nameOf t g).cps.toList = nmL t g := by
  unfold nameOf
  rw [join0_cps, lets_cps t g 5 (Nat.le_refl _)]
  simp [nmL, List.range_succ]
theorem str_ext {x y : Str} (h : x.cps.toList = y.cps.toList) : x = y := by
  obtain ⟨⟨a⟩⟩ := x
  obtain ⟨⟨b⟩⟩ := y
  cases h; rfl
noncomputable def okc (c : Nat) : Bool := (65 ≤ c && c ≤ 69) || (97 ≤ c && c ≤ 101)
noncomputable def lcN (c : Nat) : Nat := if c < 97 then c + 32 else c
noncomputable def ucN (c : Nat) : Nat := if c < 97 then c else c - 32
theorem d_case : [65, 66, 67, 68, 69, 97, 98, 99, 100, 101].all (fun c => Unicode.lowerOf c == [lcN c] && Unicode.upperOf c == [ucN c]) = true := by decide +kernel
theorem case_of {c : Nat} (h : okc c = true) : Unicode.lowerOf c = [lcN c] ∧ Unicode.upperOf c = [ucN c] := by
  have hm : c ∈ [65, 66, 67, 68, 69, 97, 98, 99, 100, 101] := by
    unfold okc at h
    simp only [Bool.or_eq_true, Bool.and_eq_true, decide_eq_true_eq] at h
    simp only [List.mem_cons, List.not_mem_nil, or_false]
    omega
  have := List.all_eq_true.mp d_case c hm
  simpa using this
theorem placed_single {x : Str} {f : Nat → Nat → List Nat} {k : Nat → Nat} (h : ∀ i c, x.cps[i]? = some c → f i c = [k c]) : (placed x f).toList = x.cps.toList.map k := by
  obtain ⟨⟨l⟩⟩ := x
  unfold placed
  have e : (Array.mapIdx (fun i c => (f i c).toArray) (⟨l⟩ : Array Nat)) = (l.map fun c => #[k c]).toArray := by
    apply Array.ext
    · simp
    · intro i h1 h2
      simp only [Array.size_mapIdx, List.size_toArray] at h1
      simp only [Array.getElem_mapIdx, List.getElem_toArray, List.getElem_map]
      have := h i l[i] (by simp [List.getElem?_eq_getElem h1])
      rw [this]
  rw [show ({ cps := ⟨l⟩ } : Str).cps = ⟨l⟩ from rfl, e]
  simp only [Array.toList_flatten, List.map_map]
  clear e h
  induction l with
  | nil => rfl
  | cons c r ih => simp only [List.map_cons, List.flatten_cons, ih]; rfl
theorem lower_cps {x : Str} (h : ∀ c ∈ x.cps.toList, okc c = true) : (Txt.lower x).cps.toList = x.cps.toList.map lcN := by
  refine placed_single fun i c hi => ?_
  have hm : c ∈ x.cps.toList := Array.mem_toList_iff.mpr (Array.mem_of_getElem? hi)
  show Unicode.lowerAt x.cps i = _
  unfold Unicode.lowerAt
  rw [hi]
  have hk := h c hm
  have hne : (c == 0x3A3) = false := by
    unfold okc at hk
    simp only [Bool.or_eq_true, Bool.and_eq_true, decide_eq_true_eq] at hk
    exact beq_eq_false_iff_ne.mpr (by omega)
  simp only [hne, Bool.false_and, Bool.false_eq_true, if_false]
  exact (case_of hk).1
theorem upper_cps {x : Str} (h : ∀ c ∈ x.cps.toList, okc c = true) : (Txt.upper x).cps.toList = x.cps.toList.map ucN := by
  refine placed_single fun i c hi => ?_
  have hm : c ∈ x.cps.toList := Array.mem_toList_iff.mpr (Array.mem_of_getElem? hi)
  exact (case_of (h c hm)).2
theorem bL_ok (t g : Int) (i : Nat) (hi : i < 5) : ∀ c ∈ bL t g i, okc c = true ∧ lcN c = 97 + i ∧ okc (ucN c) = true ∧ lcN (ucN c) = 97 + i := by
  intro c hc
  unfold bL at hc
  split at hc
  · simp only [List.mem_singleton] at hc
    subst hc
    unfold okc lcN ucN
    have : i = 0 ∨ i = 1 ∨ i = 2 ∨ i = 3 ∨ i = 4 := by omega
    rcases this with rfl | rfl | rfl | rfl | rfl <;> cases bit g _ <;> decide
  · simp at hc
theorem nmL_all {p : Nat → Prop} {t g : Int} (h : ∀ i, i < 5 → ∀ c ∈ bL t g i, p c) : ∀ c ∈ nmL t g, p c := by
  intro c hc
  unfold nmL at hc
  simp only [List.mem_append] at hc
  rcases hc with (((hc | hc) | hc) | hc) | hc
  · exact h 0 (by omega) c hc
  · exact h 1 (by omega) c hc
  · exact h 2 (by omega) c hc
  · exact h 3 (by omega) c hc
  · exact h 4 (by omega) c hc
theorem bit0 (i : Nat) : bit 0 i = false := by
  rw [bit_eq]
  simp
theorem bL_map {k : Nat → Nat} {t g : Int} {i : Nat} (h : ∀ c ∈ bL t g i, k c = 97 + i) : (bL t g i).map k = bL t 0 i := by
  unfold bL at *
  cases hb : bit t i
  · simp
  · rw [hb] at h
    simp only [if_true, List.mem_singleton, forall_eq] at h
    simp only [if_true, List.map_cons, List.map_nil, h, bit0, Bool.false_eq_true, if_false]
theorem nmL_map {k : Nat → Nat} {t g : Int} (h : ∀ i, i < 5 → ∀ c ∈ bL t g i, k c = 97 + i) : (nmL t g).map k = nmL t 0 := by
  unfold nmL
  simp only [List.map_append]
  rw [bL_map (h 0 (by omega)), bL_map (h 1 (by omega)), bL_map (h 2 (by omega)), bL_map (h 3 (by omega)), bL_map (h 4 (by omega))]
theorem lo_name (t g : Int) : Txt.lower (nameOf t g) = nameOf t 0 := by
  refine str_ext ?_
  have hok : ∀ c ∈ (nameOf t g).cps.toList, okc c = true := by rw [name_cps]; exact nmL_all fun i hi c hc => (bL_ok t g i hi c hc).1
  rw [lower_cps hok, name_cps, name_cps]
  exact nmL_map fun i hi c hc => (bL_ok t g i hi c hc).2.1
theorem up_cps (t g : Int) : (Txt.upper (nameOf t g)).cps.toList = (nmL t g).map ucN := by
  have hok : ∀ c ∈ (nameOf t g).cps.toList, okc c = true := by rw [name_cps]; exact nmL_all fun i hi c hc => (bL_ok t g i hi c hc).1
  rw [upper_cps hok, name_cps]
theorem lo_up (t g : Int) : Txt.lower (Txt.upper (nameOf t g)) = nameOf t 0 := by
  refine str_ext ?_
  have hok : ∀ c ∈ (Txt.upper (nameOf t g)).cps.toList, okc c = true := by
    rw [up_cps]
    intro c hc
    obtain ⟨d, hd, rfl⟩ := List.mem_map.mp hc
    exact nmL_all (p := fun c => okc (ucN c) = true) (fun i hi c hc => (bL_ok t g i hi c hc).2.2.1) d hd
  rw [lower_cps hok, up_cps, name_cps, List.map_map]
  exact nmL_map fun i hi c hc => (bL_ok t g i hi c hc).2.2.2
theorem upn_len (t g : Int) : (Txt.upper (nameOf t g)).length ≤ 5 := by
  have h1 := (name_ok t g).2
  have h2 : (Txt.upper (nameOf t g)).length = (Txt.upper (nameOf t g)).cps.toList.length := rfl
  have h3 : (nameOf t g).length = (nameOf t g).cps.toList.length := rfl
  rw [h2, up_cps, List.length_map, ← name_cps, ← h3]
  exact h1
theorem bit_mem (t : Int) (i : Nat) (hi : i < 5) : (97 + i ∈ nmL t 0) ↔ bit t i = true := by
  unfold nmL bL
  simp only [bit0, Bool.false_eq_true, if_false, List.mem_append]
  have key : ∀ j, (97 + i ∈ (if bit t j = true then [97 + j] else [])) ↔ (bit t j = true ∧ i = j) := by
    intro j
    cases bit t j <;> simp
  simp only [key]
  have : i = 0 ∨ i = 1 ∨ i = 2 ∨ i = 3 ∨ i = 4 := by omega
  rcases this with rfl | rfl | rfl | rfl | rfl <;> simp
theorem par_eq {x y : Int} (h : x % 2 = 1 ↔ y % 2 = 1) : x % 2 = y % 2 := by omega
theorem five (a : Int) : a % 32 = a / 1 % 2 + 2 * (a / 2 % 2) + 4 * (a / 4 % 2) + 8 * (a / 8 % 2) + 16 * (a / 16 % 2) := by omega
theorem bit_par {a b : Int} {i : Nat} {k : Int} (hk : (2 : Int) ^ i = k) (h : bit a i = bit b i) : a / k % 2 = b / k % 2 := by
  rw [bit_eq, bit_eq, decide_eq_decide, hk] at h
  exact par_eq h
theorem bits_eq {a b : Int} (h : ∀ i, i < 5 → bit a i = bit b i) : a % 32 = b % 32 := by
  have e0 := bit_par (k := 1) rfl (h 0 (by omega))
  have e1 := bit_par (k := 2) rfl (h 1 (by omega))
  have e2 := bit_par (k := 4) rfl (h 2 (by omega))
  have e3 := bit_par (k := 8) rfl (h 3 (by omega))
  have e4 := bit_par (k := 16) rfl (h 4 (by omega))
  rw [five a, five b, e0, e1, e2, e3, e4]
theorem name_inj {a b : Int} (h : nameOf a 0 = nameOf b 0) : a % 32 = b % 32 := by
  refine bits_eq fun i hi => ?_
  have e : nmL a 0 = nmL b 0 := by rw [← name_cps, ← name_cps, h]
  have h1 := bit_mem a i hi
  have h2 := bit_mem b i hi
  rw [e] at h1
  have := h1.symm.trans h2
  cases ha : bit a i <;> cases hb : bit b i <;> simp_all
/-- 243 words -/
noncomputable def opt (i : Nat) : List (List Nat) := [[], [65 + i], [97 + i]]
theorem bL_opt (t g : Int) (i : Nat) : bL t g i ∈ opt i := by
  unfold bL opt
  cases bit t i <;> cases bit g i <;> simp
noncomputable def words3 (P : List Nat → Bool) : Bool := (opt 0).all fun a => (opt 1).all fun b => (opt 2).all fun c => (opt 3).all fun d => (opt 4).all fun e => P (a ++ b ++ c ++ d ++ e)
theorem words3_at {P : List Nat → Bool} (h : words3 P = true) (t g : Int) : P (nmL t g) = true := by
  unfold words3 at h
  have h0 := List.all_eq_true.mp h _ (bL_opt t g 0)
  have h1 := List.all_eq_true.mp h0 _ (bL_opt t g 1)
  have h2 := List.all_eq_true.mp h1 _ (bL_opt t g 2)
  have h3 := List.all_eq_true.mp h2 _ (bL_opt t g 3)
  exact List.all_eq_true.mp h3 _ (bL_opt t g 4)
theorem d_clean : words3 (fun l => clean true ⟨l.toArray⟩ && clean false ⟨l.toArray⟩) = true := by decide +kernel
theorem name_mk (t g : Int) : nameOf t g = ⟨(nmL t g).toArray⟩ := str_ext (by rw [name_cps])
theorem clean_name (t g : Int) : clean true (nameOf t g) = true ∧ clean false (nameOf t g) = true := by
  have := words3_at d_clean t g
  rw [← name_mk, Bool.and_eq_true] at this
  exact this
theorem val_all {P : Str → Bool} (h : (List.range 32).all (fun a => P (valueOf (a : Int))) = true) (t : Int) : P (valueOf t) = true := by
  obtain ⟨a, ha, ea⟩ := mod32 t
  rw [← valueOf_mod, ea]
  exact List.all_eq_true.mp h a (List.mem_range.mpr ha)
theorem d_val : (List.range 32).all (fun a => clean false (valueOf (a : Int)) && PyData.strOk (valueOf (a : Int)) && !(valueOf (a : Int) == Str.ofString "none")) = true := by decide +kernel
theorem val_ok (t : Int) : clean false (valueOf t) = true ∧ PyData.strOk (valueOf t) = true ∧ valueOf t ≠ Str.ofString "none" := by
  have := val_all (P := fun x => clean false x && PyData.strOk x && !(x == Str.ofString "none")) d_val t
  simp only [Bool.and_eq_true, Bool.not_eq_true', beq_eq_false_iff_ne] at this
  exact ⟨this.1.1, this.1.2, this.2⟩
theorem name_sOk (t g : Int) : PyData.strOk (nameOf t g) = true := by
  have h := (name_ok t g).1
  unfold PyData.strOk
  rw [Array.all_eq_true] at h ⊢
  intro i hi
  have := h i hi
  simp only [decide_eq_true_eq] at this ⊢
  omega

end TFM1
section TFM2
open PySem PySem.Spec PySem.Calls PyProof.Rows PySem.W PyProof.V PySem.SeqAt
noncomputable def pair2 (p : Int × Int) : List (Str × Str) := [(nameOf p.2 p.1, valueOf p.2), (nameOf p.2 (Builtin.bitNot p.1), nameOf p.2 0)]
noncomputable def rowsOf (ts : List (Int × Int)) : List (Str × Str) := ts.flatMap pair2
noncomputable def has32 (ts : List (Int × Int)) (t : Int) : Bool := ts.any fun p => p.2 % 32 == t % 32
noncomputable def togg (ts : List (Int × Int)) (p : Int × Int) : List (Int × Int) := if has32 ts p.2 then ts.filter (fun q => q.2 % 32 != p.2 % 32) else ts ++ [p]
theorem key_eq (a t g : Int) {q : Str} (hq : lo q = nameOf t 0) : ((lo (nameOf a g)).cps.toList == (lo q).cps.toList) = (a % 32 == t % 32) := by
  rw [hq]
  show ((Txt.lower (nameOf a g)).cps.toList == _) = _
  rw [lo_name]
  by_cases h : a % 32 = t % 32
  · have e : nameOf a 0 = nameOf t 0 := by rw [← name_mod a 0, ← name_mod t 0, h]
    rw [e, h]; simp
  · rw [beq_eq_false_iff_ne.mpr h]
    exact beq_eq_false_iff_ne.mpr fun e => h (name_inj (str_ext e))
theorem getFun_rows (ts : List (Int × Int)) (t : Int) (d : Str) {q : Str} (hq : lo q = nameOf t 0) : getFun (rowsOf ts) q d = if has32 ts t then valueOf t else d := by
  induction ts with
  | nil => rfl
  | cons p r ih =>
    show getFun (pair2 p ++ rowsOf r) q d = _
    unfold pair2
    rw [List.cons_append, List.cons_append, List.nil_append, getFun_cons, getFun_cons, ih, key_eq _ t _ hq, key_eq _ t _ hq]
    unfold has32
    rw [List.any_cons]
    by_cases h : p.2 % 32 = t % 32
    · simp only [h, beq_self_eq_true, if_true, Bool.true_or]
      rw [← valueOf_mod, h, valueOf_mod]
    · simp only [beq_eq_false_iff_ne.mpr h, Bool.false_eq_true, if_false, Bool.false_or]
theorem delFun_rows (ts : List (Int × Int)) (t : Int) {q : Str} (hq : lo q = nameOf t 0) : delFun (rowsOf ts) q = rowsOf (ts.filter fun p => p.2 % 32 != t % 32) := by
  induction ts with
  | nil => rfl
  | cons p r ih =>
    have e : delFun (rowsOf (p :: r)) q = delFun (pair2 p) q ++ delFun (rowsOf r) q := by
      show List.filter _ (pair2 p ++ rowsOf r) = _
      rw [List.filter_append]; rfl
    rw [e, ih]
    unfold pair2 delFun
    rw [List.filter_cons, List.filter_cons, List.filter_cons, List.filter_nil]
    have k1 : ((lo (nameOf p.2 p.1)).cps.toList != (lo q).cps.toList) = (p.2 % 32 != t % 32) := by rw [bne, bne, key_eq _ t _ hq]
    have k2 : ((lo (nameOf p.2 (Builtin.bitNot p.1))).cps.toList != (lo q).cps.toList) = (p.2 % 32 != t % 32) := by rw [bne, bne, key_eq _ t _ hq]
    simp only [k1, k2]
    by_cases h : (p.2 % 32 != t % 32) = true
    · simp only [h, if_true]; rfl
    · simp only [h, if_false]; rfl
theorem rows_len (ts : List (Int × Int)) : (rowsOf ts).length = 2 * ts.length := by
  induction ts with
  | nil => rfl
  | cons p r ih =>
    show (pair2 p ++ rowsOf r).length = _
    rw [List.length_append, ih, List.length_cons]
    show 2 + _ = _
    omega
theorem rows_mem {ts : List (Int × Int)} {p : Str × Str} (h : p ∈ rowsOf ts) : ∃ t g, (p = (nameOf t g, valueOf t) ∨ p = (nameOf t g, nameOf t 0)) := by
  obtain ⟨q, _, hq⟩ := List.mem_flatMap.mp h
  simp only [pair2, List.mem_cons, List.not_mem_nil, or_false] at hq
  rcases hq with rfl | rfl
  · exact ⟨_, _, .inl rfl⟩
  · exact ⟨_, _, .inr rfl⟩
theorem rows_ok {ts : List (Int × Int)} (h : ts.length ≤ 50) : RowsOk (rowsOf ts) := by
  refine ⟨by rw [rows_len]; omega, fun p hp => ?_⟩
  obtain ⟨t, g, e⟩ := rows_mem hp
  have h1 := (name_ok t g).2
  have h2 := (name_ok t 0).2
  have h3 := value_len t
  rcases e with rfl | rfl
  · refine ⟨by dsimp only; omega, ?_, by dsimp only; omega⟩
    show (Txt.lower (nameOf t g)).length ≤ 100
    rw [lo_name]; omega
  · refine ⟨by dsimp only; omega, ?_, by dsimp only; omega⟩
    show (Txt.lower (nameOf t g)).length ≤ 100
    rw [lo_name]; omega
theorem rows_sOk {ts : List (Int × Int)} : ∀ p ∈ rowsOf ts, sOk p := by
  intro p hp
  obtain ⟨t, g, e⟩ := rows_mem hp
  rcases e with rfl | rfl
  · exact ⟨name_sOk t g, (val_ok t).2.1⟩
  · exact ⟨name_sOk t g, name_sOk t 0⟩
theorem togg_len (ts : List (Int × Int)) (p : Int × Int) : (togg ts p).length ≤ ts.length + 1 := by
  unfold togg
  split
  · exact Nat.le_succ_of_le (List.length_filter_le _ _)
  · rw [List.length_append]; exact Nat.le_refl _

end TFM2
section TF16
open PySem PySem.Spec PySem.Calls PyProof.Rows PySem.W
theorem Con.useM {prog : Program} {w : World} {K : Frag} {f : Value} {args : List Value} {kw : List (Str × Value)} {d : Nat} {us : List (Addr × Kd)} {post : Value → List (Addr × Kd) → Prop} {g : Heap} {z s : Shared} {A : Around} {Q E : Value → Shared → Prop} (C : Con prog w K f args kw d us post) (pre tb : List (Addr × Kd)) (G : Gd K g) (S : St g z s (pre ++ (us ++ tb))) (hA : AOk A d)
    (h : ∀ v s' us', post v us' → St g z s' (pre ++ (us' ++ tb)) → Q v s') : wpAny (model prog w) A (call f args kw) Q E s := by
  have P : ∀ l : List (Addr × Kd), List.Perm (pre ++ (l ++ tb)) (l ++ (pre ++ tb)) := fun l => by
    rw [← List.append_assoc, ← List.append_assoc]
    exact List.Perm.append_right tb List.perm_append_comm
  exact C.use (hd := pre ++ tb) G (S.perm (P us)) hA fun v s' us' hp S' => h v s' us' hp (S'.perm (P us').symm)
section
variable {prog : Program} {w : World} {A : Around} {E : Value → Shared → Prop} {g : Heap} {z s : Shared} {ow ow' : List (Addr × Kd)} {x dx l : Addr} {tk : Tok} {fr : Addr × Kd}
theorem at_get {Q : Value → Shared → Prop} (G : Gd (Mine.hd.heap_1 w.params) g) (S : St g z s (fr :: ow)) (hx : Has x (.raw (instObj 270 dx)) (fr :: ow)) (hdx : Has dx (.raw (dictOf (hdE w.params tk l) 1)) (fr :: ow)) (h : ∀ q s', St g z s' (fr :: (q, .raw (methodObj (.ref 217) (.ref x))) :: ow) → Q (.ref q) s') :
    wpAny (model prog w) A (getAttr (.ref x) (Str.ofString "get") true) Q E s := by
  have X := kin G S
  have I := instO S hx hdx
  have hp : plainGet (Mine.hd.heap_1 w.params) 270 (Str.ofString "get") = true := by k_is
  refine get_bind X I (plainGet_of hp).1 (findObj_fn (by k_is) (f := 217) (g := .builtin "function.__get__") (by k_is) (by k_is) (by k_is) (by decide) (by rfl)) (plainGet_of hp).2 (wpAny_call (fn_get (s := { s with toks := s.toks + 1 }) X (by k_is) (handed_on rfl ?_)))
  exact h _ _ ((S.push (k := .raw (methodObj (.ref 217) (.ref x))) (o := methodObj (.ref 217) (.ref x)) rfl (at_raw (Heap.get?_push_size _ rfl)) _).perm (.swap ..))
theorem gm_add {pl : Sem Bool} {Q : Value × List Value → Shared → Prop} (G : Gd (Mine.hd.heap_1 w.params) g) (S : St g z s ow) (hx : Has x (.raw (instObj 270 dx)) ow) (hdx : Has dx (.raw (dictOf (hdE w.params tk l) 1)) ow) (h : Q (.ref 267, [.ref x]) s) :
    wpAny (model prog w) A (getMethod (.ref x) (Str.ofString "add_header") pl) Q E s := gm_inst G S hx hdx (by k_is) (by k_is) (by k_is) (by rfl) h
theorem gm_values {pl : Sem Bool} {Q : Value × List Value → Shared → Prop} (G : Gd (Mine.hd.heap_1 w.params) g) (S : St g z s ow) (hx : Has x (.raw (instObj 270 dx)) ow) (hdx : Has dx (.raw (dictOf (hdE w.params tk l) 1)) ow) (h : Q (.ref 227, [.ref x]) s) :
    wpAny (model prog w) A (getMethod (.ref x) (Str.ofString "values") pl) Q E s := gm_inst G S hx hdx (by k_is) (by k_is) (by k_is) (by rfl) h
theorem del_hdr {i : Value} {Q : Unit → Shared → Prop} (G : Gd (Mine.hd.heap_1 w.params) g) (S : St g z s ow) (hx : Has x (.raw (instObj 270 dx)) ow) (hdx : Has dx (.raw (dictOf (hdE w.params tk l) 1)) ow) (h : wpAny (model prog w) A (call (.ref 188) [.ref x, i]) (fun _ s' => Q () s') E s) :
    wpAny (model prog w) A (delItem (.ref x) i) Q E s := del_inst G S hx hdx (by k_is) (by k_is) (by k_is) h
end
theorem width_bits {n : Nat} (h1 : 33 ≤ n) (h2 : n ≤ 63) : Builtin.Int.intBits (n : Int) = 6 := by
  have : ((List.range 64).all fun n => n < 33 || Builtin.Int.intBits (n : Int) == 6) = true := by decide +kernel
  have := List.all_eq_true.mp this n (List.mem_range.mpr (by omega))
  simp only [Bool.or_eq_true, decide_eq_true_eq, beq_iff_eq] at this
  omega
theorem gather_side {n w : Int} (h0 : 0 ≤ n) (h1 : n < 4096) (h2 : 33 ≤ w) (h3 : w ≤ 63) : w ≠ 0 ∧ w.natAbs < 2 ^ 32 ∧ n.natAbs < 2 ^ 39 ∧ ∀ y : Nat, y ≤ n.natAbs → y < 2 ^ (Builtin.Int.intBits (w.natAbs : Int) * 8) := by
  refine ⟨by omega, by omega, by omega, fun y hy => ?_⟩
  rw [width_bits (by omega) (by omega)]
  have : (2 : Nat) ^ (6 * 8) = 281474976710656 := by decide
  omega
theorem call_kw {M : Model} {A : Around} {s : Shared} {E : Value → Shared → Prop} {env : Env} {id : Str} {p pos : Pos} {args : List PySem.Expr} {k : Keyword} {ks : List Keyword} {Q : Value → Shared → Prop}
    (h : wpAny M A (eval (.Name id p) env) (fun f s₁ => wpAny M A (callWith pos f [] (backTo pos (starEach args env)) (backToKw pos (keywordEach (k :: ks) env))) Q E s₁) E s) :
    wpAny M A (eval (.Call (.Name id p) args (k :: ks) pos) env) Q E s := wpAny_Call_Name_kw h
local macro_rules | `(tactic| ktd_said "m.xtra") => said1 "at_get a st h h 3;gm_add a st h h _;call_kw _"
set_option pp.maxSteps 400
set_option maxHeartbeats 2000000
noncomputable def gtN (wd : Int) (p : Int × Int) : Int := p.1 * wd + p.2
noncomputable def GtOk (p : Int × Int) : Prop := (0 ≤ p.1 ∧ p.1 < 32) ∧ (0 ≤ p.2 ∧ p.2 < 32)
theorem gather_con {prog : Program} {w : World} {x dx l rl : Addr} {tk tw : Tok} {wd : Int} {gts : List (Int × Int)} {nv : List Value} (hw1 : 33 ≤ wd) (hw2 : wd ≤ 63) (hg : ∀ p ∈ gts, GtOk p) (hgl : gts.length ≤ 5) (hv : VL isI (gts.map (gtN wd)) nv) :
    ConT prog w (Mine.hd.heap_1 w.params) (.ref 322) [.ref x, .ref rl, .int wd tw] [] 60 [(rl, .lst nv), (x, .raw (instObj 270 dx)), (dx, .raw (dictOf (hdE w.params tk l) 1)), (l, .lst [])]
      fun r new => r = .bool true ∧ ∃ us tp, TupR isSS tp (rowsOf (gts.foldl togg [])) us ∧ new = (rl, .lst nv) :: (x, .raw (instObj 270 dx)) :: (dx, .raw (dictOf (hdE w.params tk l) 1)) :: (l, .lst us) :: tp := by
  intro tb T
  intro g z s A Q E G S hA h
  dsimp only [List.cons_append, List.nil_append] at S
  have hnl := hv.len
  rw [List.length_map] at hnl
  refine' enter_plainK (f := 322) (args := ⟨[.ref x, .ref rl, .int wd tw], []⟩) (binds := [((Str.ofString "table"), .ref x), ((Str.ofString "read"), .ref rl), ((Str.ofString "width"), .int wd tw)]) (m := [((Str.ofString "table"), some (.ref x)), ((Str.ofString "read"), some (.ref rl)), ((Str.ofString "width"), some (.int wd tw)), ((Str.ofString "number"), none), ((Str.ofString "great"), none), ((Str.ofString "term"), none), ((Str.ofString "name"), none), ((Str.ofString "told"), none), ((Str.ofString "key"), none), ((Str.ofString "value"), none)]) ?ho1 ?hcd1 G S hA ?hbind1 ?hnd1 ?hok1 ?hm1 ?body1 ?hcell1 ?hloc1 ?c11 ?c21 ?c31
  case ho1 => k_is
  case hcd1 => k_is
  case hbind1 => exact BindsTo.of_eq (by kernel_rfl)
  case hnd1 => decide +kernel
  case hok1 => decide +kernel
  case hm1 => kernel_rfl
  case hcell1 => kernel_rfl
  case hloc1 => kernel_rfl
  case c11 => rfl
  case c21 => rfl
  case c31 => rfl
  intro env L s eo ex S
  refine absE ?_
  intro EE hEE
  replace eo : EO env L [((Str.ofString "table"), .local), ((Str.ofString "read"), .local), ((Str.ofString "width"), .local), ((Str.ofString "number"), .local), ((Str.ofString "great"), .local), ((Str.ofString "term"), .local), ((Str.ofString "name"), .local), ((Str.ofString "told"), .local), ((Str.ofString "key"), .local), ((Str.ofString "value"), .local), ((Str.ofString "int_divmod"), .globalImplicit), ((Str.ofString "_law_name"), .globalImplicit), ((Str.ofString "_get_name_info"), .globalImplicit), ((Str.ofString "_law_pairs"), .globalImplicit), ((Str.ofString "_law_value"), .globalImplicit)] [] := eo
  replace hA := hA.deeper env
  ktd_said "m.go"
  rename_i I s1 S1
  try replace S1 := Se.st S1
  refine loop_ind (P := fun i s => ∃ v1 v2 v3 v4 v5 v6 v7 vs tp tb, TabS tb ∧ TupR isSS tp (rowsOf ((gts.take i).foldl togg [])) vs ∧ ((gts.take i).foldl togg []).length ≤ i ∧ St g z s ((L, .ns [((Str.ofString "table"), some (.ref x)), ((Str.ofString "read"), some (.ref rl)), ((Str.ofString "width"), some (.int wd tw)), ((Str.ofString "number"), v1), ((Str.ofString "great"), v2), ((Str.ofString "term"), v3), ((Str.ofString "name"), v4), ((Str.ofString "told"), v5), ((Str.ofString "key"), v6), ((Str.ofString "value"), v7)]) :: (I, .lit rl i) :: (rl, .lst nv) :: (x, .raw (instObj 270 dx)) :: (dx, .raw (dictOf (hdE w.params tk l) 1)) :: (l, .lst vs) :: (tp ++ tb))) gts.length ?_ ?_ _ (exI10_4 _ _ _ _ _ _ _ _ [] tb T .nil (Nat.le_refl _) S1)
  · intro i hi ih s hP
    refine exE10_4 hP (fun v1 v2 v3 v4 v5 v6 v7 vs tp tb S T hT htl => ?_)
    clear hP
    clear S1
    refine for_turn ?_
    have hgi : gts[i]? = some gts[i] := List.getElem?_eq_getElem hi
    have hgo := hg _ (List.getElem_mem hi)
    have hstep : (gts.take (i + 1)).foldl togg [] = togg ((gts.take i).foldl togg []) gts[i] := by
      rw [List.take_add_one, hgi, List.foldl_append]; rfl
    rw [hstep] at ih
    generalize gts[i] = p at *
    generalize (gts.take i).foldl togg [] = ts at *
    obtain ⟨gr, te⟩ := p
    obtain ⟨⟨g0, g1⟩, ⟨t0, t1⟩⟩ := hgo
    dsimp only at g0 g1 t0 t1
    obtain ⟨nx, hnx, ⟨tn, htn⟩⟩ := hv.get2 (v := nv[i]'(by omega)) (i := i) (List.getElem?_eq_getElem _)
    rw [List.getElem?_map, hgi] at hnx
    obtain rfl : gr * wd + te = nx := by simpa [gtN] using hnx
    have hvi : nv[i]? = some (.int (gr * wd + te) tn) := by rw [← htn]; exact List.getElem?_eq_getElem _
    have hn0 : 0 ≤ gr * wd := Int.mul_nonneg g0 (by omega)
    have hn1 : gr * wd ≤ 31 * 63 := Int.mul_le_mul (by omega) hw2 (by omega) (by decide)
    have hdv : (gr * wd + te).fdiv wd = gr := by
      rw [Int.fdiv_eq_ediv_of_nonneg _ (by omega), Int.add_comm, Int.add_mul_ediv_right _ _ (by omega), Int.ediv_eq_zero_of_lt t0 (by omega)]; omega
    have hmd : (gr * wd + te).fmod wd = te := by
      rw [Int.fmod_eq_emod_of_nonneg _ (by omega), Int.add_comm, Int.add_mul_emod_self_right, Int.emod_eq_of_lt t0 (by omega)]
    obtain ⟨k1, k2, k3, k4⟩ := gather_side (n := gr * wd + te) (w := wd) (by omega) (by omega) hw1 hw2
    refine nx_lstN (by ktd_said "m.st") (by ktd_said "m.s") (St.isL (by ktd_said "m.st") (by ktd_said "m.h")) hvi (fun _ _ h => forN_some h) (fun _ _ => ?_)
    ktd_said "m.go"
    refine (divmod_con k1 k2 k3 k4).use0 G (by ktd_said "m.st") T (by ktd_said "m.tl") (hA.mono (by decide)) (fun v s' new tb2 hv' T2 S2 => ?_)
    obtain ⟨Ta, u1, u2, rfl, rfl⟩ := hv'
    rw [hdv, hmd] at S2
    dsimp only [List.cons_append, List.nil_append] at S2
    ktd_said "m.go"
    refine (name_con te gr _ _).useV G (by ktd_said "m.st") (hA.mono (by decide)) (fun v s3 hv S3 => ?_)
    obtain ⟨t3, rfl⟩ := hv
    have hul : (Txt.upper (nameOf te gr)).length ≤ 1000 := Nat.le_trans (upn_len te gr) (by decide)
    ktd_said "m.go"
    rename_i mth _ _ s4 S4
    try replace S4 := Se.st S4
    have S5 : St g z s4 ([(L, .ns [((Str.ofString "table"), some (.ref x)), ((Str.ofString "read"), some (.ref rl)), ((Str.ofString "width"), some (.int wd tw)), ((Str.ofString "number"), some (.int (gr * wd + te) tn)), ((Str.ofString "great"), some (.int gr u1)), ((Str.ofString "term"), some (.int te u2)), ((Str.ofString "name"), some (.str (nameOf te gr) t3)), ((Str.ofString "told"), v5), ((Str.ofString "key"), v6), ((Str.ofString "value"), v7)]), (I, .lit rl (i + 1)), (rl, .lst nv)] ++ (((mth, .raw (methodObj (.ref 217) (.ref x))) :: (x, .raw (instObj 270 dx)) :: (dx, .raw (dictOf (hdE w.params tk l) 1)) :: (l, .lst vs) :: tp) ++ tb2)) := St.keep S4 (by (try dsimp only [List.cons_append, List.nil_append]); ktd_said "m.keep")
    clear S4
    have hlo : lo (Txt.upper (nameOf te gr)) = nameOf te 0 := lo_up te gr
    refine (gni_con (q := Txt.upper (nameOf te gr)) (dflt := (Str.ofString "none")) hT (rows_ok (by omega)) (by rw [hlo]; exact (clean_name te 0).1) (by show (lo (Txt.upper (nameOf te gr))).length ≤ 1000; rw [hlo]; have := (name_ok te 0).2; omega)).useM _ tb2 G S5 (hA.mono (by decide)) (fun v s6 us6 hv6 S6 => ?_)
    clear S5
    obtain ⟨Tt, ut, rfl, rfl⟩ := hv6
    rw [getFun_rows ts te _ hlo] at S6
    dsimp only [List.cons_append, List.nil_append] at S6
    have ho : togg ts (gr, te) = if has32 ts te then ts.filter (fun q => q.2 % 32 != te % 32) else ts ++ [(gr, te)] := rfl
    rw [ho] at ih
    cases hh : has32 ts te
    · rw [hh] at S6 ih
      simp only [Bool.false_eq_true, if_false] at S6 ih
      ktd_said "m.go"
      refine c_eqSS (by ktd_said "m.st") (by ktd_said "m.h") (by ktd_said "m.h") (AOk.fits64 (by with_reducible assumption) (by decide)) ⟨by decide +kernel, by decide +kernel⟩ ⟨by decide +kernel, by decide +kernel⟩ ?_
      rw [decide_eq_true (rfl : ((Str.ofString "none"), (Str.ofString "none")) = ((Str.ofString "none"), (Str.ofString "none")))]
      ktd_said "m.go"
      refine (pairs_con te gr _ _).use0 G (by ktd_said "m.st") (hA.mono (by decide)) (fun v s7 us7 hv7 S7 => ?_)
      obtain ⟨pl, pa, pb, q1, q2, q3, q4, rfl, rfl⟩ := hv7
      dsimp only [List.cons_append, List.nil_append] at S7
      ktd_said "m.go"
      rename_i J s8 S8
      try replace S8 := Se.st S8
      have hvl := hT.len
      rw [rows_len] at hvl
      refine for_turn ?_
      refine nx_lstT (by ktd_said "m.st") (by ktd_said "m.s") (St.isL (by ktd_said "m.st") (by ktd_said "m.h")) rfl (fun _ _ h => forN_some h) (fun _ _ => ?_)
      ktd_said "m.go"
      rename_i s9 S9
      try replace S9 := Se.st S9
      have S10 : St g z s9 ([(L, .ns [((Str.ofString "table"), some (.ref x)), ((Str.ofString "read"), some (.ref rl)), ((Str.ofString "width"), some (.int wd tw)), ((Str.ofString "number"), some (.int (gr * wd + te) tn)), ((Str.ofString "great"), some (.int gr u1)), ((Str.ofString "term"), some (.int te u2)), ((Str.ofString "name"), some (.str (nameOf te gr) t3)), ((Str.ofString "told"), some (.ref Tt)), ((Str.ofString "key"), (some (.str (nameOf te gr) q1))), ((Str.ofString "value"), (some (.str (valueOf te) q2)))]), (J, .lit pl 1), (pl, .lst [.ref pa, .ref pb]), (pb, .tup [.str (nameOf te (Builtin.bitNot gr)) q3, .str (nameOf te 0) q4]), (I, .lit rl (i + 1)), (rl, .lst nv)] ++ (((x, .raw (instObj 270 dx)) :: (dx, .raw (dictOf (hdE w.params tk l) 1)) :: (l, .lst vs) :: tp) ++ tb2)) := St.keep S9 (by (try dsimp only [List.cons_append, List.nil_append]); ktd_said "m.keep")
      clear S9
      refine (add_con (clean_name te gr).1 (val_ok te).1 (by have := value_len te; omega) (by omega)).useM _ tb2 G S10 (hA.mono (by decide)) (fun v s11 us11 hv11 S11 => ?_)
      clear S10
      obtain ⟨rfl, T1, w1, w2, rfl⟩ := hv11
      dsimp only [List.cons_append, List.nil_append] at S11
      ktd_said "m.go"
      refine for_turn ?_
      refine nx_lstT (by ktd_said "m.st") (by ktd_said "m.s") (St.isL (by ktd_said "m.st") (by ktd_said "m.h")) rfl (fun _ _ h => forN_some h) (fun _ _ => ?_)
      ktd_said "m.go"
      rename_i s12 S12
      try replace S12 := Se.st S12
      have S13 : St g z s12 ([(L, .ns [((Str.ofString "table"), some (.ref x)), ((Str.ofString "read"), some (.ref rl)), ((Str.ofString "width"), some (.int wd tw)), ((Str.ofString "number"), some (.int (gr * wd + te) tn)), ((Str.ofString "great"), some (.int gr u1)), ((Str.ofString "term"), some (.int te u2)), ((Str.ofString "name"), some (.str (nameOf te gr) t3)), ((Str.ofString "told"), some (.ref Tt)), ((Str.ofString "key"), (some (.str (nameOf te (Builtin.bitNot gr)) q3))), ((Str.ofString "value"), (some (.str (nameOf te 0) q4)))]), (J, .lit pl 2), (pl, .lst [.ref pa, .ref pb]), (I, .lit rl (i + 1)), (rl, .lst nv)] ++ (((x, .raw (instObj 270 dx)) :: (dx, .raw (dictOf (hdE w.params tk l) 1)) :: (l, .lst (vs ++ [.ref T1])) :: (tp ++ [(T1, .tup [.str (nameOf te gr) w1, .str (valueOf te) w2])])) ++ tb2)) := St.keep S12 (by (try dsimp only [List.cons_append, List.nil_append]); ktd_said "m.keep")
      clear S12 S11
      refine (add_con (clean_name te _).1 (clean_name te 0).2 (by have := (name_ok te 0).2; omega) (by simp only [List.length_append, List.length_cons, List.length_nil]; omega)).useM _ tb2 G S13 (hA.mono (by decide)) (fun v s14 us14 hv14 S14 => ?_)
      clear S13
      obtain ⟨rfl, T3, w3, w4, rfl⟩ := hv14
      dsimp only [List.cons_append, List.nil_append] at S14
      ktd_said "m.go"
      refine for_turn ?_
      refine nx_listEnd (AOk.handled (by with_reducible assumption)) (by ktd_said "m.st") (by ktd_said "m.p") (St.isL (by ktd_said "m.st") (by ktd_said "m.h")) rfl (fun s15 S15 => forN_none ?_)
      ktd_said "m.go"
      refine ih _ (exI10_4 _ _ _ _ _ _ _ _ _ tb2 T2 ?_ ?_ (St.keep (by ktd_said "m.st") (by (try dsimp only [List.cons_append, List.nil_append]); ktd_said "m.keep")))
      · have e : rowsOf (ts ++ [(gr, te)]) = (rowsOf ts ++ [(nameOf te gr, valueOf te)]) ++ [(nameOf te (Builtin.bitNot gr), nameOf te 0)] := by
          unfold rowsOf
          rw [List.flatMap_append]
          show _ ++ pair2 (gr, te) = _
          rw [List.append_assoc]; rfl
        rw [e]
        have h1 := hT.snoc (x := (nameOf te gr, valueOf te)) (T := T1) (a := .str (nameOf te gr) w1) (b := .str (valueOf te) w2) ⟨.mk, .mk⟩
        exact h1.snoc (x := (nameOf te (Builtin.bitNot gr), nameOf te 0)) (T := T3) (a := .str (nameOf te (Builtin.bitNot gr)) w3) (b := .str (nameOf te 0) w4) ⟨.mk, .mk⟩
      · rw [List.length_append]; simp only [List.length_cons, List.length_nil]; omega
    · rw [hh] at S6 ih
      simp only [if_true] at S6 ih
      ktd_said "m.go"
      refine c_eqSS (x := valueOf te) (y := valueOf te) (x' := (Str.ofString "none")) (y' := (Str.ofString "none")) (by ktd_said "m.st") (by ktd_said "m.h") (by ktd_said "m.h") (AOk.fits64 (by with_reducible assumption) (by decide)) ⟨(val_ok te).2.1, (val_ok te).2.1⟩ ⟨by decide +kernel, by decide +kernel⟩ ?_
      rw [decide_eq_false (fun e : (valueOf te, valueOf te) = ((Str.ofString "none"), (Str.ofString "none")) => (val_ok te).2.2 (Prod.mk.inj e).1)]
      ktd_said "m.go"
      refine (value_con te _).useV G (by ktd_said "m.st") (hA.mono (by decide)) (fun v s7 hv S7 => ?_)
      obtain ⟨t7, rfl⟩ := hv
      ktd_said "m.go"
      refine (value_con te _).useV G (by ktd_said "m.st") (hA.mono (by decide)) (fun v s8 hv S8 => ?_)
      obtain ⟨t8, rfl⟩ := hv
      ktd_said "m.go"
      refine c_eqSS (x := valueOf te) (y := valueOf te) (x' := valueOf te) (y' := valueOf te) (by ktd_said "m.st") (by ktd_said "m.h") (by ktd_said "m.h") (AOk.fits64 (by with_reducible assumption) (by decide)) ⟨(val_ok te).2.1, (val_ok te).2.1⟩ ⟨(val_ok te).2.1, (val_ok te).2.1⟩ ?_
      rw [decide_eq_true (rfl : (valueOf te, valueOf te) = (valueOf te, valueOf te))]
      have hll : (Txt.lower (nameOf te gr)).length ≤ 1000 := by rw [lo_name]; have := (name_ok te 0).2; omega
      ktd_said "m.go"
      refine del_hdr G (by ktd_said "m.st") (by ktd_said "m.h") (by ktd_said "m.h") ?_
      rename_i t9 s9 S9
      try replace S9 := Se.st S9
      have S10 : St g z s9 ([(L, .ns [((Str.ofString "table"), some (.ref x)), ((Str.ofString "read"), some (.ref rl)), ((Str.ofString "width"), some (.int wd tw)), ((Str.ofString "number"), some (.int (gr * wd + te) tn)), ((Str.ofString "great"), some (.int gr u1)), ((Str.ofString "term"), some (.int te u2)), ((Str.ofString "name"), some (.str (nameOf te gr) t3)), ((Str.ofString "told"), some (.ref Tt)), ((Str.ofString "key"), v6), ((Str.ofString "value"), v7)]), (I, .lit rl (i + 1)), (rl, .lst nv)] ++ (((x, .raw (instObj 270 dx)) :: (dx, .raw (dictOf (hdE w.params tk l) 1)) :: (l, .lst vs) :: tp) ++ tb2)) := St.keep S9 (by (try dsimp only [List.cons_append, List.nil_append]); ktd_said "m.keep")
      have hlo2 : lo (Txt.lower (nameOf te gr)) = nameOf te 0 := by show Txt.lower (Txt.lower (nameOf te gr)) = _; rw [lo_name, lo_name]
      refine (del_con (q := Txt.lower (nameOf te gr)) hT (rows_ok (by omega)) (by rw [hlo2]; exact (clean_name te 0).1) (by show (lo (Txt.lower (nameOf te gr))).length ≤ 1000; rw [hlo2]; have := (name_ok te 0).2; omega)).useM _ tb2 G S10 (hA.mono (by decide)) (fun v s11 us11 hv11 S11 => ?_)
      obtain ⟨rfl, ws, hws, rfl⟩ := hv11
      dsimp only [List.cons_append, List.nil_append] at S11
      ktd_said "m.go"
      rw [delFun_rows ts te hlo2] at hws
      exact ih _ (exI10_4 _ _ _ _ _ _ _ _ _ tb2 T2 hws (Nat.le_succ_of_le (Nat.le_trans (List.length_filter_le _ _) htl)) (St.keep (by ktd_said "m.st") (by (try dsimp only [List.cons_append, List.nil_append]); ktd_said "m.keep")))
  · intro s hP
    refine exE10_4 hP (fun v1 v2 v3 v4 v5 v6 v7 vs tp tb S T hT htl => ?_)
    clear hP
    refine for_turn ?_
    refine nx_listEnd (AOk.handled (by with_reducible assumption)) (by ktd_said "m.st") (by ktd_said "m.p") (St.isL (by ktd_said "m.st") (by ktd_said "m.h")) (List.getElem?_eq_none (by omega)) (fun s8 S8 => forN_none ?_)
    rw [List.take_length] at hT
    ktd_said "m.go"
    exact h _ _ _ ⟨_, tb, rfl, T, rfl, _, _, hT, rfl⟩ (St.keep (by ktd_said "m.st") (by (try dsimp only [List.cons_append, List.nil_append]); ktd_said "m.keep"))

end TF16
section TF17
open PySem PySem.Spec PySem.Calls PyProof.Rows PySem.W
section
variable {prog : Program} {w : World} {A : Around} {E : Value → Shared → Prop} {g : Heap} {z s s0 : Shared} {ow : List (Addr × Kd)} {l outer : List Env} {env : Env} {e L : Addr} {T : String} {a0 : Value} {Q : Flow → Shared → Prop}
/-- it is caught -/
theorem caught {t : Expr} {b₀ : Stmt} {suite : List Stmt} {pos : Pos} (S0 : St g z s0 ow) (F : FramesIn l ow) (hge : g.get? e = none) (hoe : ∀ p ∈ ow, p.1 ≠ e) (hfr : A.frames = some (env :: outer)) (hf : env.frame = some L)
    (fl : Heap.FlyingW (baseOf s0.heap l e) (env :: outer) e (.type T) a0 s.heap) (x : Fl s0 s)
    (hexc : isSubtype (.type T) (.type "BaseException") = pure true) (hnt : isSubtype (.type ((Manifest.find? T).elim "type" fun x => x.metatype)) (.type "tuple") = pure false) (hsub : isSubtype (.type T) (.type T) = pure true)
    (hev : ∀ s1, St g z s1 ow → ∀ R E', R (.type T) s1 → wpAny (model prog w) (A.mark (some (.ref e))) (eval t env) R E' s1)
    (hk : ∀ s1 E', St g z s1 ow → wpAny (model prog w) (A.mark (some (.ref e))) (execs (b₀ :: suite) env) Q E' s1) :
    wpAny (model prog w) A (noteFrame (.ref e) env) (fun _ s₂ => wpAny (model prog w) A (setFlight (.ref e) none) (fun _ s₃ => wpAny (model prog w) A (handleBy (.ref e) env [.ExceptHandler (some t) none (b₀ :: suite) pos]) Q E s₃) E s₂) E s := by
  refine wpAny_looks_onW hfr hf fl fun h1 hh u1 => wpAny_landsW hh fun h2 f2 u2 => ?_
  have x2 := (x.heap u1).heap u2
  have S2 := S0.fly F hge hoe f2.1 x2
  refine wpAny_handleBy_builtin (X := T) (T := T) (b := true) hexc hnt hsub (hev _ S2 _ _ ⟨rfl, ?_, ?_⟩)
  · obtain ⟨ob, ho, hc⟩ := f2.there
    exact ⟨ob, ho, hc⟩
  · rw [if_pos rfl]
    refine wpAny_setFlight_noneW f2.1 f2.2.2.1 f2.2.2.2.at fun h3 k1 k2 k3 k4 => hk _ _ (S0.fly F hge hoe k1 ?_)
    exact x2.heap fun b o hb hn => ⟨o.slots, k4 b o hb hn⟩
end
set_option pp.maxSteps 400
set_option maxHeartbeats 2000000
theorem over_use {prog : Program} {w : World} {A : Around} {E Q : Value → Shared → Prop} {g : Heap} {z s : Shared} {ow : List (Addr × Kd)} {outer : List Env} {I tl : Addr} {i : Nat} {xs : List Int} {vs : List Value} (G : Gd (Mine.hd.heap_1 w.params) g) (S : St g z s ((I, .lit tl i) :: ow)) (hl : Has tl (.lst vs) ow) (hv : VL isI xs vs)
    (hc : xs.drop i = [] ∨ xs.drop i = [127] ∨ xs.drop i = [127, 64]) (hA : AOk A 15) (hfr : A.frames = some outer) (F : FramesIn outer ow) (h : ∀ s', St g z s' ow → Q (.bool true) s') : wpAny (model prog w) A (call (.ref 291) [.ref I]) Q E s := by
  refine' enter_plainK (f := 291) (args := ⟨[.ref I], []⟩) (binds := [((Str.ofString "reader"), .ref I)]) (m := [((Str.ofString "reader"), some (.ref I))]) ?ho1 ?hcd1 G S hA ?hbind1 ?hnd1 ?hok1 ?hm1 ?body1 ?hcell1 ?hloc1 ?c11 ?c21 ?c31
  case ho1 => k_is
  case hcd1 => k_is
  case hbind1 => exact BindsTo.of_eq (by kernel_rfl)
  case hnd1 => decide +kernel
  case hok1 => decide +kernel
  case hm1 => kernel_rfl
  case hcell1 => kernel_rfl
  case hloc1 => kernel_rfl
  case c11 => rfl
  case c21 => rfl
  case c31 => rfl
  intro env L s eo ex S
  replace eo : EO env L [((Str.ofString "reader"), .local), ((Str.ofString "_parse_varint"), .globalImplicit), ((Str.ofString "StopIteration"), .globalImplicit)] [] := eo
  replace hA := hA.deeper env
  have hfr1 := Around.frames_deeper (env := env) hfr
  refine x_cons (wpAny_Try_except ?_)
  ktd_said "m.go"
  have hvl := hv.len
  rename_i s S1
  try replace S1 := Se.st S1
  clear S
  revert env L
  intro envo Lo exo eoo hA hfr1 S
  refine' enter_plainK (f := 117) (args := ⟨[.ref I], []⟩) (binds := [((Str.ofString "iterator"), .ref I)]) (m := [((Str.ofString "iterator"), some (.ref I)), ((Str.ofString "b"), none), ((Str.ofString "val"), none)]) ?ho2 ?hcd2 G S hA ?hbind2 ?hnd2 ?hok2 ?hm2 ?body2 ?hcell2 ?hloc2 ?c12 ?c22 ?c32
  case ho2 => k_is
  case hcd2 => k_is
  case hbind2 => exact BindsTo.of_eq (by kernel_rfl)
  case hnd2 => decide +kernel
  case hok2 => decide +kernel
  case hm2 => kernel_rfl
  case hcell2 => kernel_rfl
  case hloc2 => kernel_rfl
  case c12 => rfl
  case c22 => rfl
  case c32 => rfl
  intro env L s eo ex S
  replace eo : EO env L [((Str.ofString "iterator"), .local), ((Str.ofString "b"), .local), ((Str.ofString "val"), .local), ((Str.ofString "next"), .globalImplicit)] [] := eo
  replace hA := hA.deeper env
  have hfr2 := Around.frames_deeper (env := env) hfr1
  have F2 : ∀ m, FramesIn (env :: envo :: outer) ((L, .ns m) :: (Lo, .ns [((Str.ofString "reader"), some (.ref I))]) :: ow) := by
    intro m e he
    rcases List.mem_cons.mp he with rfl | he
    · exact ⟨eo.kind, L, m, ex.frame, .hd⟩
    · rcases List.mem_cons.mp he with rfl | he
      · exact ⟨eoo.kind, Lo, _, exo.frame, .tl .hd⟩
      · obtain ⟨k1, L', m', k2, k3⟩ := F e he
        exact ⟨k1, L', m', k2, .tl (.tl k3)⟩
  have hexc : isSubtype (.type "StopIteration") (.type "BaseException") = pure true := by rw [isSubtype_type]; kernel_rfl
  have hnt : isSubtype (.type ((Manifest.find? "StopIteration").elim "type" fun x => x.metatype)) (.type "tuple") = pure false := by rw [isSubtype_type]; kernel_rfl
  have hsub : isSubtype (.type "StopIteration") (.type "StopIteration") = pure true := by rw [isSubtype_type]; kernel_rfl
  have hev : ∀ (A' : Around) pos m s1, St g z s1 ((L, .ns m) :: (Lo, .ns [((Str.ofString "reader"), some (.ref I))]) :: ow) → ∀ (R : Value → Shared → Prop) (E' : Value → Shared → Prop), R (.type "StopIteration") s1 → wpAny (model prog w) A' (eval (.Name (Str.ofString "StopIteration") pos) envo) R E' s1 :=
    fun A' pos m s1 S1 R E' hR => r_bltn G S1 eoo (by ktd_said "m.h") (by k_is) bt_StopIteration (by decide) hR
  rcases hc with hc | hc | hc
  · have hx : vs[i]? = none := by
      have : xs.length ≤ i := by
        have := congrArg List.length hc
        rw [List.length_drop, List.length_nil] at this
        omega
      exact List.getElem?_eq_none (by omega)
    ktd_said "m.go"
    refine bi_nextEnd (AOk.handled (by with_reducible assumption)) (by ktd_said "m.st") (by ktd_said "m.p") (St.isL (by ktd_said "m.st") (by ktd_said "m.h")) hx (fun e t s' S' he hge hoe => ?_)
    refine leave_first hfr2 (fun_frames S' (F2 _) (fun b hb => hideAll_none _ (.tail _ hb))) ex.frame he (base_stays s' _ e) (base_e s' _ e) (fun h1 f1 u1 => ?_)
    refine caught S' (F2 _) hge hoe hfr1 exo.frame f1 ((Fl.refl _).heap u1) hexc hnt hsub (hev _ _ _) (fun s2 E' S2 => ?_)
    exact x_ret (r_bool (h _ S2.drop.drop))
  · have e0 : xs[i]? = some 127 := by rw [← List.head?_drop, hc]; rfl
    have hlen : xs.length = i + 1 := by
      have := congrArg List.length hc
      simp only [List.length_drop, List.length_cons, List.length_nil] at this
      omega
    obtain ⟨_, hg0, ⟨tb0, rfl⟩⟩ := hv.get e0
    have hx : vs[i + 1]? = none := List.getElem?_eq_none (by omega)
    ktd_said "m.go"
    refine bi_next (by ktd_said "m.st") (by ktd_said "m.s") (St.isL (by ktd_said "m.st") (by ktd_said "m.h")) hg0 (fun _ _ => ?_)
    ktd_said "m.go"
    refine while_turn ?_
    ktd_said "m.go"
    refine bi_nextEnd (AOk.handled (by with_reducible assumption)) (by ktd_said "m.st") (by ktd_said "m.p") (St.isL (by ktd_said "m.st") (by ktd_said "m.h")) hx (fun e t s' S' he hge hoe => ?_)
    show wpAny _ _ (noteFrame (.ref e) env) _ _ _
    refine note_first hfr2 (fun_frames S' (F2 _) (fun b hb => hideAll_none _ (.tail _ hb))) ex.frame he (base_stays s' _ e) (base_e s' _ e) (fun h1 f1 u1 => ?_)
    refine came_back ex.frame f1 (fun h2 f2 u2 => ?_)
    refine leave_held ex.frame f2 (fun h3 f3 u3 => ?_)
    refine caught S' (F2 _) hge hoe hfr1 exo.frame f3 ((((Fl.refl _).heap u1).heap u2).heap u3) hexc hnt hsub (hev _ _ _) (fun s2 E' S2 => ?_)
    exact x_ret (r_bool (h _ S2.drop.drop))
  · have e0 : xs[i]? = some 127 := by rw [← List.head?_drop, hc]; rfl
    have e1 : xs[i + 1]? = some 64 := by
      have : (xs.drop i)[1]? = some 64 := by rw [hc]; rfl
      rwa [List.getElem?_drop] at this
    have hlen : xs.length = i + 2 := by
      have := congrArg List.length hc
      simp only [List.length_drop, List.length_cons, List.length_nil] at this
      omega
    obtain ⟨_, hg0, ⟨tb0, rfl⟩⟩ := hv.get e0
    obtain ⟨_, hg1, ⟨tb1, rfl⟩⟩ := hv.get e1
    have hx : vs[i + 1 + 1]? = none := List.getElem?_eq_none (by omega)
    ktd_said "m.go"
    refine bi_next (by ktd_said "m.st") (by ktd_said "m.s") (St.isL (by ktd_said "m.st") (by ktd_said "m.h")) hg0 (fun _ _ => ?_)
    ktd_said "m.go"
    refine while_turn ?_
    ktd_said "m.go"
    refine bi_next (by ktd_said "m.st") (by ktd_said "m.s") (St.isL (by ktd_said "m.st") (by ktd_said "m.h")) hg1 (fun _ _ => ?_)
    ktd_said "m.go"
    have hbig : (Builtin.bitOr (Builtin.bitAnd 127 63 * 2 ^ (6 : Int).toNat) (Builtin.bitAnd 64 63)).natAbs < 2 ^ 64 := by decide +kernel
    refine while_turn ?_
    ktd_said "m.go"
    refine bi_nextEnd (AOk.handled (by with_reducible assumption)) (by ktd_said "m.st") (by ktd_said "m.p") (St.isL (by ktd_said "m.st") (by ktd_said "m.h")) hx (fun e t s' S' he hge hoe => ?_)
    show wpAny _ _ (noteFrame (.ref e) env) _ _ _
    refine note_first hfr2 (fun_frames S' (F2 _) (fun b hb => hideAll_none _ (.tail _ hb))) ex.frame he (base_stays s' _ e) (base_e s' _ e) (fun h1 f1 u1 => ?_)
    refine came_back ex.frame f1 (fun h2 f2 u2 => ?_)
    refine leave_held ex.frame f2 (fun h3 f3 u3 => ?_)
    refine caught S' (F2 _) hge hoe hfr1 exo.frame f3 ((((Fl.refl _).heap u1).heap u2).heap u3) hexc hnt hsub (hev _ _ _) (fun s2 E' S2 => ?_)
    exact x_ret (r_bool (h _ S2.drop.drop))
theorem refused_use {prog : Program} {w : World} {A : Around} {E Q : Value → Shared → Prop} {g : Heap} {z s : Shared} {ow : List (Addr × Kd)} {outer : List Env} {n : Int} {t : Tok} (G : Gd (Mine.hd.heap_1 w.params) g) (S : St g z s ow)
    (hA : AOk A 15) (hfr : A.frames = some outer) (F : FramesIn outer ow) (h : ∀ s', St g z s' ow → Q (.bool true) s') : wpAny (model prog w) A (call (.ref 298) [.int n t]) Q E s := by
  refine' enter_plainK (f := 298) (args := ⟨[.int n t], []⟩) (binds := [((Str.ofString "number"), .int n t)]) (m := [((Str.ofString "number"), some (.int n t))]) ?ho3 ?hcd3 G S hA ?hbind3 ?hnd3 ?hok3 ?hm3 ?body3 ?hcell3 ?hloc3 ?c13 ?c23 ?c33
  case ho3 => k_is
  case hcd3 => k_is
  case hbind3 => exact BindsTo.of_eq (by kernel_rfl)
  case hnd3 => decide +kernel
  case hok3 => decide +kernel
  case hm3 => kernel_rfl
  case hcell3 => kernel_rfl
  case hloc3 => kernel_rfl
  case c13 => rfl
  case c23 => rfl
  case c33 => rfl
  intro env L s eo ex S
  replace eo : EO env L [((Str.ofString "number"), .local), ((Str.ofString "int_divmod"), .globalImplicit), ((Str.ofString "ZeroDivisionError"), .globalImplicit)] [] := eo
  replace hA := hA.deeper env
  have hfr1 := Around.frames_deeper (env := env) hfr
  refine x_cons (wpAny_Try_except ?_)
  ktd_said "m.go"
  rename_i s1 S1
  try replace S1 := Se.st S1
  clear S
  generalize s.toks = t0
  revert env L
  intro envo Lo exo eoo hA hfr1 S
  refine' enter_plainK (f := 80) (args := ⟨[.int n t, .int 0 t0], []⟩) (binds := [((Str.ofString "a"), .int n t), ((Str.ofString "b"), .int 0 t0)]) (m := [((Str.ofString "a"), some (.int n t)), ((Str.ofString "b"), some (.int 0 t0)), ((Str.ofString "q"), none), ((Str.ofString "r"), none)]) ?ho4 ?hcd4 G S hA ?hbind4 ?hnd4 ?hok4 ?hm4 ?body4 ?hcell4 ?hloc4 ?c14 ?c24 ?c34
  case ho4 => k_is
  case hcd4 => k_is
  case hbind4 => exact BindsTo.of_eq (by kernel_rfl)
  case hnd4 => decide +kernel
  case hok4 => decide +kernel
  case hm4 => kernel_rfl
  case hcell4 => kernel_rfl
  case hloc4 => kernel_rfl
  case c14 => rfl
  case c24 => rfl
  case c34 => rfl
  intro env L s eo ex S
  replace eo : EO env L [((Str.ofString "a"), .local), ((Str.ofString "b"), .local), ((Str.ofString "q"), .local), ((Str.ofString "r"), .local), ((Str.ofString "ZeroDivisionError"), .globalImplicit), ((Str.ofString "int_divmod"), .globalImplicit), ((Str.ofString "_divmod_pos"), .globalImplicit)] [] := eo
  replace hA := hA.deeper env
  have hfr2 := Around.frames_deeper (env := env) hfr1
  have F2 : ∀ m, FramesIn (env :: envo :: outer) ((L, .ns m) :: (Lo, .ns [((Str.ofString "number"), some (.int n t))]) :: ow) := by
    intro m e he
    rcases List.mem_cons.mp he with rfl | he
    · exact ⟨eo.kind, L, m, ex.frame, .hd⟩
    · rcases List.mem_cons.mp he with rfl | he
      · exact ⟨eoo.kind, Lo, _, exo.frame, .tl .hd⟩
      · obtain ⟨k1, L', m', k2, k3⟩ := F e he
        exact ⟨k1, L', m', k2, .tl (.tl k3)⟩
  have hexc : isSubtype (.type "ZeroDivisionError") (.type "BaseException") = pure true := by rw [isSubtype_type]; kernel_rfl
  have hnt : isSubtype (.type ((Manifest.find? "ZeroDivisionError").elim "type" fun x => x.metatype)) (.type "tuple") = pure false := by rw [isSubtype_type]; kernel_rfl
  have hsub : isSubtype (.type "ZeroDivisionError") (.type "ZeroDivisionError") = pure true := by rw [isSubtype_type]; kernel_rfl
  have hev : ∀ (A' : Around) pos m s1, St g z s1 ((L, .ns m) :: (Lo, .ns [((Str.ofString "number"), some (.int n t))]) :: ow) → ∀ (R : Value → Shared → Prop) (E' : Value → Shared → Prop), R (.type "ZeroDivisionError") s1 → wpAny (model prog w) A' (eval (.Name (Str.ofString "ZeroDivisionError") pos) envo) R E' s1 :=
    fun A' pos m s1 S1 R E' hR => r_bltn G S1 eoo (by ktd_said "m.h") (by k_is) bt_ZeroDivisionError (by decide) hR
  ktd_said "m.go"
  rename_i s1 S1
  try replace S1 := Se.st S1
  refine x_cons (Raise_classB (AOk.handled (by with_reducible assumption)) excClass_ZeroDivisionError hsub (r_bltn G S1 eo (by ktd_said "m.h") (by k_is) bt_ZeroDivisionError (by decide) ⟨rfl, rfl⟩) (fun h' e hx => ?_))
  obtain ⟨ob, tp, ho, hcls, hdat⟩ := hx.there
  have S' := S1.ext hx.keeps s1.toks
  have hge : g.get? e = none := by
    cases q : g.get? e with
    | none => rfl
    | some o => have := S1.kp _ _ q; rw [hx.new] at this; cases this
  have hoe : ∀ p ∈ (L, Kd.ns _) :: (Lo, Kd.ns _) :: ow, p.1 ≠ e := fun p hp q => by
    obtain ⟨o, ho⟩ := S1.alive hp
    rw [q, hx.new] at ho; cases ho
  show wpAny _ _ (leaving env (.ref e)) _ _ _
  refine wpAny_leaving_firstW hfr2 (fun_frames S' (F2 _) (fun b hb => hideAll_none _ (.tail _ hb))) ex.frame ho (base_stays { s1 with heap := h' } _ e) (base_e { s1 with heap := h' } _ e) hdat rfl rfl (fun h1 hL => ?_)
  obtain ⟨k1, ⟨_, _, k2⟩, k3, k4⟩ := hL
  rw [hcls] at k3
  refine caught S' (F2 _) hge hoe hfr1 exo.frame ⟨k1, base_e { s1 with heap := h' } _ e, k2, k3⟩ ((Fl.refl _).heap k4) hexc hnt hsub (hev _ _ _) (fun s2 E' S2 => ?_)
  exact x_ret (r_bool (h _ S2.drop.drop))

end TF17
section TFL0
open PySem PySem.Spec PySem.Calls PyProof.Rows PySem.W
noncomputable abbrev k337 (P : Params) := (by k_is : List.lookup 337 (Mine.hd.heap_1 P) = some _)
/-- the law's text from a statement on -/
noncomputable def bodyOf : Option Obj → List Stmt
  | some ⟨_, _, .func fd, _⟩ => match fd.body with | .stmts b => b | _ => []
  | _ => []
noncomputable def tailN : Nat → List Stmt → List Stmt
  | 0, l => l
  | k + 1, l => (tailN k l).tail
noncomputable def lawSeg (P : Params) (k : Nat) : List Stmt := tailN k (bodyOf (List.lookup 337 (Mine.hd.heap_1 P)))
/-- what the law draws -/
noncomputable def wdOf (ys : List Int) : Int := 33 + ((ys.getD 3 0).fdiv 4096).fmod 31
noncomputable def drOf (ys : List Int) : List Int := ys.map (·.fmod 1024)
noncomputable def nmOf (wd o : Int) : Int := o.fdiv 32 * wd + o.fmod 32
noncomputable def numOf (ys : List Int) : List Int := (drOf ys).map (nmOf (wdOf ys))
noncomputable def tapeOf (ys : List Int) : List Int := (ys.zip (numOf ys)).flatMap fun p => octetsOf p.2 ((p.1.fdiv 1024).fmod 4)
noncomputable def YOk (ys : List Int) : Prop := ys.length = 5 ∧ ∀ y ∈ ys, 0 ≤ y ∧ y < 1000000
theorem YOk.at {ys : List Int} (h : YOk ys) {i : Nat} (hi : i < 5) : ys[i]? = some (ys.getD i 0) ∧ 0 ≤ ys.getD i 0 ∧ ys.getD i 0 < 1000000 := by
  have hl : i < ys.length := by rw [h.1]; exact hi
  have e : ys.getD i 0 = ys[i] := by rw [List.getD_eq_getElem?_getD, List.getElem?_eq_getElem hl]; rfl
  rw [e]
  exact ⟨List.getElem?_eq_getElem hl, h.2 _ (List.getElem_mem hl)⟩
theorem wd_ok (ys : List Int) : 33 ≤ wdOf ys ∧ wdOf ys ≤ 63 := by
  have h1 := Int.fmod_nonneg_of_pos ((ys.getD 3 0).fdiv 4096) (show (0 : Int) < 31 by decide)
  have h2 := Int.fmod_lt_of_pos ((ys.getD 3 0).fdiv 4096) (show (0 : Int) < 31 by decide)
  unfold wdOf
  omega
theorem dr_ok (ys : List Int) : ∀ o ∈ drOf ys, 0 ≤ o ∧ o < 1024 := by
  intro o ho
  obtain ⟨y, _, rfl⟩ := List.mem_map.mp ho
  exact ⟨Int.fmod_nonneg_of_pos _ (by decide), Int.fmod_lt_of_pos _ (by decide)⟩
theorem octets_len (n d : Int) : (octetsOf n d).length ≤ 3 := by
  unfold octetsOf
  split
  · simp
  · split <;> simp

end TFL0
section TFL1
open PySem PySem.Spec PySem.Calls PyProof.Rows PySem.W
theorem bitOrNat (x y : Nat) : Builtin.bitOr (x : Int) (y : Int) = ((x ||| y : Nat) : Int) := by
  unfold Builtin.bitOr
  have n1 : ¬ 0 ≤ Builtin.bitNot (x : Int) := by unfold Builtin.bitNot; omega
  have n2 : ¬ 0 ≤ Builtin.bitNot (y : Int) := by unfold Builtin.bitNot; omega
  rw [bitAnd_nn n1 n2, bitNot_bitNot, bitNot_bitNot, bitNot_bitNot, Int.toNat_natCast, Int.toNat_natCast]
theorem bitAndNat (x y : Nat) : Builtin.bitAnd (x : Int) (y : Int) = ((x &&& y : Nat) : Int) := by
  rw [bitAnd_pp (Int.natCast_nonneg x) (Int.natCast_nonneg y), Int.toNat_natCast, Int.toNat_natCast]
theorem and63 (x : Nat) : x &&& 63 = x % 64 := Nat.and_two_pow_sub_one_eq_mod x 6
theorem b1 {q : Nat} (h : q < 64) : (Builtin.bitAnd (64 + (q : Int)) 64 != 0) = true := by
  have e : Builtin.bitAnd (64 + (q : Int)) 64 = ((64 + q &&& 64 : Nat) : Int) := by
    have := bitAndNat (64 + q) 64
    push_cast at this
    exact this
  rw [e]
  have : ((List.range 64).all fun q => 64 + q &&& 64 != 0) = true := by decide +kernel
  have := List.all_eq_true.mp this q (List.mem_range.mpr h)
  simp only [bne_iff_ne, ne_eq] at this ⊢
  omega
theorem b2 {q : Nat} (h : q < 64) : Builtin.bitAnd (64 + (q : Int)) 63 = q := by
  have e := bitAndNat (64 + q) 63
  rw [and63, Nat.add_mod_left, Nat.mod_eq_of_lt h] at e
  push_cast at e
  exact e
theorem b3 {r e : Nat} (h : r < 64) (he : e < 2) : (Builtin.bitAnd ((r : Int) + 128 * (e : Int)) 64 != 0) = false := by
  have e1 : Builtin.bitAnd ((r : Int) + 128 * (e : Int)) 64 = ((r + 128 * e &&& 64 : Nat) : Int) := by
    have := bitAndNat (r + 128 * e) 64
    push_cast at this
    exact this
  rw [e1]
  have : ((List.range 64).all fun r => (List.range 2).all fun e => r + 128 * e &&& 64 == 0) = true := by decide +kernel
  have := List.all_eq_true.mp (List.all_eq_true.mp this r (List.mem_range.mpr h)) e (List.mem_range.mpr he)
  rw [beq_iff_eq] at this
  rw [this]; rfl
theorem b4 {r e : Nat} (h : r < 64) : Builtin.bitAnd ((r : Int) + 128 * (e : Int)) 63 = r := by
  have q := bitAndNat (r + 128 * e) 63
  rw [and63] at q
  have : (r + 128 * e) % 64 = r := by omega
  rw [this] at q
  push_cast at q
  exact q
theorem b5 {q r : Nat} (h : r < 64) : Builtin.bitOr ((q : Int) * 2 ^ (6 : Int).toNat) r = (q : Int) * 64 + r := by
  have e := bitOrNat (2 ^ 6 * q) r
  rw [← Nat.two_pow_add_eq_or_of_lt (i := 6) h] at e
  have e2 : ((2 ^ 6 * q : Nat) : Int) = (q : Int) * 2 ^ (6 : Int).toNat := by
    push_cast
    rw [Int.mul_comm]
    try rfl
  rw [← e2, e]
  push_cast
  omega
theorem get_mid (pre post : List Int) (l : List Int) {i : Nat} {x : Int} (h : l[i]? = some x) : (pre ++ l ++ post)[pre.length + i]? = some x := by
  have hi : i < l.length := (List.getElem?_eq_some_iff.mp h).1
  rw [List.append_assoc, List.getElem?_append_right (by omega), Nat.add_sub_cancel_left, List.getElem?_append_left hi]
  exact h
theorem oct_run (pre post : List Int) {n d : Int} (hn0 : 0 ≤ n) (hn1 : n < 4096) (hd0 : 0 ≤ d) (hd1 : d < 4) :
    ∃ b, (pre ++ octetsOf n d ++ post)[pre.length]? = some b ∧ VRun (pre ++ octetsOf n d ++ post) (pre.length + 1) (Builtin.bitAnd b 63) b (pre ++ octetsOf n d).length n := by
  obtain ⟨q, hq, hq6⟩ : ∃ q : Nat, n.fdiv 64 = q ∧ q < 64 := ⟨(n / 64).toNat, by rw [Int.fdiv_eq_ediv_of_nonneg _ (by decide)]; omega, by omega⟩
  obtain ⟨r, hr, hr6⟩ : ∃ r : Nat, n.fmod 64 = r ∧ r < 64 := ⟨(n % 64).toNat, by rw [Int.fmod_eq_emod_of_nonneg _ (by decide)]; omega, by omega⟩
  obtain ⟨e, he, he2⟩ : ∃ e : Nat, d.fdiv 2 = e ∧ e < 2 := ⟨(d / 2).toNat, by rw [Int.fdiv_eq_ediv_of_nonneg _ (by decide)]; omega, by omega⟩
  have hqr : n = (q : Int) * 64 + r := by
    have := Int.mul_fdiv_add_fmod n 64
    rw [hq, hr] at this
    omega
  have big : ∀ x : Nat, x < 64 → ((x : Nat) : Int).natAbs < 2 ^ 64 := fun x hx => by
    rw [Int.natAbs_natCast]
    exact Nat.lt_trans hx (by decide)
  -- the last two octets
  have last2 : ∀ (xs : List Int) (i : Nat), xs[i]? = some ((r : Int) + 128 * (e : Int)) → VRun xs i (q : Int) (64 + (q : Int)) (i + 1) n := by
    intro xs i h1
    refine .more (b1 hq6) (big q hq6) h1 ?_
    rw [b4 hr6, b5 hr6, hqr]
    exact .stop (b3 hr6 he2)
  unfold octetsOf
  rw [hq, hr, he]
  by_cases hd : d.fmod 2 = 1
  · rw [if_pos hd]
    refine ⟨64, get_mid pre post _ (i := 0) rfl, ?_⟩
    have z0 : Builtin.bitAnd 64 63 = 0 := by decide +kernel
    rw [z0]
    refine .more (by decide +kernel) (by decide) (get_mid pre post _ (i := 1) rfl) ?_
    have z1 : Builtin.bitOr (0 * 2 ^ (6 : Int).toNat) (Builtin.bitAnd (64 + (q : Int)) 63) = q := by
      rw [b2 hq6]
      have := b5 (q := 0) (r := q) hq6
      simpa using this
    rw [z1]
    have := last2 (pre ++ ([64, 64 + (q : Int)] ++ [(r : Int) + 128 * (e : Int)]) ++ post) (pre.length + 2) (get_mid pre post _ (i := 2) rfl)
    rw [List.length_append]
    exact this
  · rw [if_neg hd]
    by_cases hn : n > 63
    · rw [if_pos hn]
      refine ⟨64 + (q : Int), get_mid pre post _ (i := 0) rfl, ?_⟩
      rw [b2 hq6]
      have := last2 (pre ++ ([64 + (q : Int)] ++ [(r : Int) + 128 * (e : Int)]) ++ post) (pre.length + 1) (get_mid pre post _ (i := 1) rfl)
      rw [List.length_append]
      exact this
    · rw [if_neg hn]
      refine ⟨(r : Int) + 128 * (e : Int), get_mid pre post _ (i := 0) rfl, ?_⟩
      rw [b4 hr6, List.length_append]
      have : n = r := by omega
      rw [this]
      exact .stop (b3 hr6 he2)
theorem nm_ok {wd o : Int} (h1 : 33 ≤ wd) (h2 : wd ≤ 63) (h3 : 0 ≤ o) (h4 : o < 1024) : 0 ≤ nmOf wd o ∧ nmOf wd o < 2048 := by
  have q1 : 0 ≤ o.fdiv 32 ∧ o.fdiv 32 ≤ 31 := by rw [Int.fdiv_eq_ediv_of_nonneg _ (by decide)]; omega
  have q2 : 0 ≤ o.fmod 32 ∧ o.fmod 32 < 32 := ⟨Int.fmod_nonneg_of_pos _ (by decide), Int.fmod_lt_of_pos _ (by decide)⟩
  have q3 : 0 ≤ o.fdiv 32 * wd := Int.mul_nonneg q1.1 (by omega)
  have q4 : o.fdiv 32 * wd ≤ 31 * 63 := Int.mul_le_mul q1.2 h2 (by omega) (by decide)
  unfold nmOf
  omega
theorem num_ok (ys : List Int) : ∀ n ∈ numOf ys, 0 ≤ n ∧ n < 2048 := by
  intro n hn
  obtain ⟨o, ho, rfl⟩ := List.mem_map.mp hn
  obtain ⟨h1, h2⟩ := wd_ok ys
  obtain ⟨h3, h4⟩ := dr_ok ys o ho
  exact nm_ok h1 h2 h3 h4
noncomputable def octF (p : Int × Int) : List Int := octetsOf p.2 ((p.1.fdiv 1024).fmod 4)
noncomputable def tapeTo (ys : List Int) (k : Nat) : List Int := ((ys.zip (numOf ys)).take k).flatMap octF
theorem num_len (ys : List Int) : (numOf ys).length = ys.length := by rw [numOf, List.length_map, drOf, List.length_map]
theorem tape_run {ys : List Int} (post : List Int) {k : Nat} {y m : Int} (gz : (ys.zip (numOf ys))[k]? = some (y, m)) :
    ∃ b, (tapeOf ys ++ post)[(tapeTo ys k).length]? = some b ∧ VRun (tapeOf ys ++ post) ((tapeTo ys k).length + 1) (Builtin.bitAnd b 63) b (tapeTo ys (k + 1)).length m := by
  have hm : m ∈ numOf ys := by
    have := List.mem_of_getElem? gz
    exact (List.of_mem_zip this).2
  obtain ⟨m0, m1⟩ := num_ok ys m hm
  have d0 := Int.fmod_nonneg_of_pos (y.fdiv 1024) (show (0 : Int) < 4 by decide)
  have d1 := Int.fmod_lt_of_pos (y.fdiv 1024) (show (0 : Int) < 4 by decide)
  have hk : k < (ys.zip (numOf ys)).length := (List.getElem?_eq_some_iff.mp gz).1
  have e1 : tapeTo ys (k + 1) = tapeTo ys k ++ octF (y, m) := by
    unfold tapeTo
    rw [List.take_add_one, gz, List.flatMap_append]
    simp
  have e2 : tapeOf ys = tapeTo ys k ++ octF (y, m) ++ ((ys.zip (numOf ys)).drop (k + 1)).flatMap octF := by
    have h1 : tapeOf ys = ((ys.zip (numOf ys)).take (k + 1) ++ (ys.zip (numOf ys)).drop (k + 1)).flatMap octF := by rw [List.take_append_drop]; rfl
    rw [h1, List.flatMap_append]
    show tapeTo ys (k + 1) ++ _ = _
    rw [e1]
  rw [e2, e1, List.append_assoc (tapeTo ys k ++ octF (y, m))]
  exact oct_run (tapeTo ys k) _ m0 (by omega) d0 d1
theorem tapeTo_all {ys : List Int} (h : YOk ys) : tapeTo ys 5 = tapeOf ys := by
  unfold tapeTo tapeOf
  rw [List.take_of_length_le (by rw [List.length_zip, num_len, h.1]; decide)]
  rfl
theorem tape_len {ys : List Int} (h : YOk ys) : (tapeOf ys).length ≤ 15 := by
  have key : ∀ l : List (Int × Int), (l.flatMap octF).length ≤ 3 * l.length := by
    intro l
    induction l with
    | nil => exact Nat.le_refl _
    | cons p r ih =>
      rw [List.flatMap_cons, List.length_append, List.length_cons]
      have := octets_len p.2 ((p.1.fdiv 1024).fmod 4)
      have e : (octF p).length ≤ 3 := this
      omega
  have := key (ys.zip (numOf ys))
  rw [List.length_zip, num_len, h.1] at this
  exact this
theorem zip_at {ys : List Int} (h : YOk ys) {k : Nat} (hk : k < 5) : ∃ m, (ys.zip (numOf ys))[k]? = some (ys.getD k 0, m) ∧ (numOf ys)[k]? = some m := by
  have hn : k < (numOf ys).length := by rw [num_len, h.1]; exact hk
  refine ⟨(numOf ys)[k], ?_, List.getElem?_eq_getElem hn⟩
  rw [List.getElem?_zip_eq_some]
  exact ⟨(h.at hk).1, List.getElem?_eq_getElem hn⟩

end TFL1
section TFL2
open PySem PySem.Spec PySem.Calls PyProof.Rows PySem.W
/-- a term is put in, or takes itself away -/
noncomputable def toggD (ts : List Int) (o : Int) : List Int := let st := ts.filter fun t => t.fmod 32 != o.fmod 32
  if st.length = ts.length then st ++ [o] else st
noncomputable def tmOf (ys : List Int) : List Int := (drOf ys).foldl toggD []
noncomputable def gtOf (o : Int) : Int × Int := (o.fdiv 32, o.fmod 32)
theorem fm32 (a : Int) : a.fmod 32 % 32 = a.fmod 32 := by rw [Int.fmod_eq_emod_of_nonneg _ (by decide)]; omega
theorem filter_len {α : Type} (p : α → Bool) : ∀ l : List α, (l.filter p).length = l.length → l.filter p = l
  | [], _ => rfl
  | x :: r, h => by
    rw [List.filter_cons] at h ⊢
    split at h
    · rename_i hp
      rw [if_pos hp, filter_len p r (by simpa using h)]
    · have := List.length_filter_le p r
      rw [List.length_cons] at h
      omega
theorem has_filter (ts : List Int) (o : Int) : has32 (ts.map gtOf) (gtOf o).2 = !decide ((ts.filter fun t => t.fmod 32 != o.fmod 32).length = ts.length) := by
  induction ts with
  | nil => rfl
  | cons t r ih =>
    have e : has32 ((t :: r).map gtOf) (gtOf o).2 = ((t.fmod 32 == o.fmod 32) || has32 (r.map gtOf) (gtOf o).2) := by
      unfold has32 gtOf
      rw [List.map_cons, List.any_cons]
      dsimp only
      rw [fm32, fm32]
    rw [e, ih, List.filter_cons]
    by_cases h : t.fmod 32 = o.fmod 32
    · have hl := List.length_filter_le (fun t : Int => t.fmod 32 != o.fmod 32) r
      simp only [h, beq_self_eq_true, Bool.true_or, bne_self_eq_false, Bool.false_eq_true, if_false, List.length_cons]
      symm
      rw [Bool.not_eq_true', decide_eq_false_iff_not]
      omega
    · simp only [beq_eq_false_iff_ne.mpr h, Bool.false_or, bne, Bool.not_false, if_true, List.length_cons]
      congr 1
      rw [decide_eq_decide]
      omega
theorem togg_map (ts : List Int) (o : Int) : (toggD ts o).map gtOf = togg (ts.map gtOf) (gtOf o) := by
  unfold togg toggD
  rw [has_filter]
  have ef : (ts.map gtOf).filter (fun q => q.2 % 32 != (gtOf o).2 % 32) = (ts.filter fun t => t.fmod 32 != o.fmod 32).map gtOf := by
    rw [List.filter_map]
    congr 1
    apply List.filter_congr
    intro t _
    show ((gtOf t).2 % 32 != (gtOf o).2 % 32) = _
    unfold gtOf
    rw [fm32, fm32]
  rw [ef]
  by_cases h : (ts.filter fun t => t.fmod 32 != o.fmod 32).length = ts.length
  · simp only [h, decide_true, Bool.not_true, Bool.false_eq_true, if_false, if_true]
    rw [filter_len _ _ h, List.map_append]; rfl
  · simp only [h, decide_false, Bool.not_false, if_true, if_false]
theorem fold_map (l : List Int) : ∀ ts : List Int, (l.foldl toggD ts).map gtOf = (l.map gtOf).foldl togg (ts.map gtOf) := by
  induction l with
  | nil => intro ts; rfl
  | cons o r ih =>
    intro ts
    rw [List.foldl_cons, ih, togg_map, List.map_cons, List.foldl_cons]
theorem tm_gts (ys : List Int) : (tmOf ys).map gtOf = ((drOf ys).map gtOf).foldl togg [] := fold_map _ []
theorem num_gts (ys : List Int) : numOf ys = ((drOf ys).map gtOf).map (gtN (wdOf ys)) := by
  rw [List.map_map]; rfl
/-- what a list of terms is -/
structure TmOk (ts : List Int) : Prop where
  rng : ∀ t ∈ ts, 0 ≤ t ∧ t < 1024
  apart : (ts.map fun t => t.fmod 32).Nodup
theorem TmOk.nil : TmOk [] := ⟨fun _ h => absurd h List.not_mem_nil, List.nodup_nil⟩
theorem TmOk.step {ts : List Int} (h : TmOk ts) {o : Int} (h0 : 0 ≤ o) (h1 : o < 1024) : TmOk (toggD ts o) ∧ (toggD ts o).length ≤ ts.length + 1 := by
  have hf : TmOk (ts.filter fun t => t.fmod 32 != o.fmod 32) := ⟨fun t ht => h.rng t (List.mem_filter.mp ht).1, (List.Sublist.map _ List.filter_sublist).nodup h.apart⟩
  have hfl := List.length_filter_le (fun t : Int => t.fmod 32 != o.fmod 32) ts
  unfold toggD
  dsimp only
  split
  · refine ⟨⟨fun t ht => ?_, ?_⟩, by rw [List.length_append]; simp only [List.length_cons, List.length_nil]; omega⟩
    · rcases List.mem_append.mp ht with ht | ht
      · exact hf.rng t ht
      · rw [List.mem_singleton.mp ht]; exact ⟨h0, h1⟩
    · rw [List.map_append, List.nodup_append]
      refine ⟨hf.apart, by simp, fun a ha b hb e => ?_⟩
      obtain ⟨t, ht, rfl⟩ := List.mem_map.mp ha
      simp only [List.map_cons, List.map_nil, List.mem_singleton] at hb
      have := (List.mem_filter.mp ht).2
      rw [e, hb] at this
      simp at this
  · exact ⟨hf, by omega⟩
theorem fold_ok : ∀ (l ts : List Int), (∀ o ∈ l, 0 ≤ o ∧ o < 1024) → TmOk ts → TmOk (l.foldl toggD ts) ∧ (l.foldl toggD ts).length ≤ ts.length + l.length
  | [], ts, _, h => ⟨h, Nat.le_refl _⟩
  | o :: r, ts, hl, h => by
    obtain ⟨h0, h1⟩ := hl o (.head _)
    obtain ⟨h2, h3⟩ := h.step h0 h1
    obtain ⟨h4, h5⟩ := fold_ok r (toggD ts o) (fun x hx => hl x (.tail _ hx)) h2
    refine ⟨h4, ?_⟩
    rw [List.foldl_cons, List.length_cons]
    omega
theorem tm_ok {ys : List Int} (h : YOk ys) : TmOk (tmOf ys) ∧ (tmOf ys).length ≤ 5 := by
  obtain ⟨h1, h2⟩ := fold_ok (drOf ys) [] (dr_ok ys) .nil
  refine ⟨h1, ?_⟩
  have e : (drOf ys).length = 5 := by rw [drOf, List.length_map]; exact h.1
  rw [e, List.length_nil] at h2
  show (List.foldl toggD [] (drOf ys)).length ≤ 5
  omega
theorem gt_ok {o : Int} (h0 : 0 ≤ o) (h1 : o < 1024) : GtOk (gtOf o) := by
  unfold GtOk gtOf
  rw [Int.fdiv_eq_ediv_of_nonneg _ (by decide), Int.fmod_eq_emod_of_nonneg _ (by decide)]
  omega

end TFL2
section TF18
open PySem PySem.Spec PySem.Calls PyProof.Rows PySem.W
set_option pp.maxSteps 400
set_option maxHeartbeats 2000000
theorem segA {prog : Program} {w : World} {A : Around} {E Q : Value → Shared → Prop} {g : Heap} {z s : Shared} {tb : List (Addr × Kd)} {sl : Addr} {xs : List Int} {vs : List Value} (G : Gd (Mine.hd.heap_1 w.params) g) (S : St g z s tb)
    (hl : g.IsList sl vs.toArray) (hv : VL isI xs vs) (hn : vs.length ≤ 1000) (hA : AOk A 90) (hfr : A.frames = some [])
    (h : ∀ env L s c_standing c_plain c_values c_reader c_one c_width ys ts dv nv tv ysl dl nl tl tw, YOk ys → VL isI ys ts → VL isI (drOf ys) dv → VL isI (numOf ys) nv → VL isI (tapeOf ys) tv →
      EO env L (((Str.ofString "script"), .local) :: ((Str.ofString "sums"), .local) :: ((Str.ofString "width"), .cell) :: ((Str.ofString "one"), .cell) :: ((Str.ofString "drawn"), .local) :: ((Str.ofString "numbers"), .local) :: ((Str.ofString "tape"), .local) :: ((Str.ofString "reader"), .cell) :: ((Str.ofString "read"), .local) :: ((Str.ofString "rows"), .local) :: ((Str.ofString "table"), .local) :: ((Str.ofString "terms"), .local) :: ((Str.ofString "stay"), .local) :: ((Str.ofString "values"), .cell) :: ((Str.ofString "plain"), .cell) :: ((Str.ofString "words"), .local) :: ((Str.ofString "bits"), .local) :: ((Str.ofString "standing"), .cell) :: ((Str.ofString "due"), .local) :: ((Str.ofString "sign"), .local) :: ((Str.ofString "flip"), .local) :: ((Str.ofString "shade"), .local) :: ((Str.ofString "most"), .local) :: ((Str.ofString "parts"), .local) :: ((Str.ofString "rest"), .local) :: ((Str.ofString "_law_sums"), .globalImplicit) :: ((Str.ofString "zip"), .globalImplicit) :: ((Str.ofString "iter"), .globalImplicit) :: ((Str.ofString "_law_over"), .globalImplicit) :: ((Str.ofString "Headers"), .globalImplicit) :: ((Str.ofString "_law_gather"), .globalImplicit) :: ((Str.ofString "len"), .globalImplicit) :: ((Str.ofString "range"), .globalImplicit) :: ((Str.ofString "_digits2int"), .globalImplicit) :: ((Str.ofString "_law_halves"), .globalImplicit) :: ((Str.ofString "max"), .globalImplicit) :: ((Str.ofString "int_divmod"), .globalImplicit) :: ((Str.ofString "sum"), .globalImplicit) :: ((Str.ofString "_law_refused"), .globalImplicit) :: []) [((Str.ofString "standing"), c_standing), ((Str.ofString "plain"), c_plain), ((Str.ofString "values"), c_values), ((Str.ofString "reader"), c_reader), ((Str.ofString "one"), c_one), ((Str.ofString "width"), c_width)] → env.frame = some L → AOk (A.deeper env) 89 → (A.deeper env).frames = some [env] →
      St g z s ((L, .ns [((Str.ofString "script"), some (.ref sl)), ((Str.ofString "sums"), some (.ref ysl)), ((Str.ofString "drawn"), some (.ref dl)), ((Str.ofString "numbers"), some (.ref nl)), ((Str.ofString "tape"), some (.ref tl)), ((Str.ofString "read"), none), ((Str.ofString "rows"), none), ((Str.ofString "table"), none), ((Str.ofString "terms"), none), ((Str.ofString "stay"), none), ((Str.ofString "words"), none), ((Str.ofString "bits"), none), ((Str.ofString "due"), none), ((Str.ofString "sign"), none), ((Str.ofString "flip"), none), ((Str.ofString "shade"), none), ((Str.ofString "most"), none), ((Str.ofString "parts"), none), ((Str.ofString "rest"), none)]) :: (tl, .lst tv) :: (nl, .lst nv) :: (dl, .lst dv) :: (ysl, .lst ts) :: (c_standing, .cel none) :: (c_plain, .cel none) :: (c_values, .cel none) :: (c_reader, .cel none) :: (c_one, .cel none) :: (c_width, .cel (some (.int (wdOf ys) tw))) :: tb) →
      wpAny (model prog w) (A.deeper env) (execs (lawSeg w.params 5) env) (fun fl s'' => Q (retOf fl) s'') (LeaveE prog w A env E) s) : wpAny (model prog w) A (call (.ref 337) [.ref sl]) Q E s := by
  refine' enter_cellsK (f := 337) (vals := [.ref sl]) (binds := [((Str.ofString "script"), .ref sl)]) (m := [((Str.ofString "script"), some (.ref sl)), ((Str.ofString "sums"), none), ((Str.ofString "drawn"), none), ((Str.ofString "numbers"), none), ((Str.ofString "tape"), none), ((Str.ofString "read"), none), ((Str.ofString "rows"), none), ((Str.ofString "table"), none), ((Str.ofString "terms"), none), ((Str.ofString "stay"), none), ((Str.ofString "words"), none), ((Str.ofString "bits"), none), ((Str.ofString "due"), none), ((Str.ofString "sign"), none), ((Str.ofString "flip"), none), ((Str.ofString "shade"), none), ((Str.ofString "most"), none), ((Str.ofString "parts"), none), ((Str.ofString "rest"), none)]) (cs := fun n => [((Str.ofString "standing"), n + 5), ((Str.ofString "plain"), n + 4), ((Str.ofString "values"), n + 3), ((Str.ofString "reader"), n + 2), ((Str.ofString "one"), n + 1), ((Str.ofString "width"), n)]) ?ho1 ?hcd1 G S hA ?hbind1 ?hnd1 ?hok1 ?hm1 ?hcs1 ?body1 ?hbk1 ?hcn1 ?c11 ?c21 ?c31
  case ho1 => k_is
  case hcd1 => k_is
  case hbind1 => kernel_rfl
  case hnd1 => decide +kernel
  case hok1 => decide +kernel
  case hm1 => kernel_rfl
  case hcs1 => intro n; kernel_rfl
  case hbk1 => kernel_rfl
  case hcn1 => kernel_rfl
  case c11 => rfl
  case c21 => rfl
  case c31 => rfl
  intro env L s eo ex S
  obtain ⟨c_width, c_one, c_reader, c_values, c_plain, c_standing, eo, S⟩ : ∃ c_width c_one c_reader c_values c_plain c_standing, EO env L (((Str.ofString "script"), .local) :: ((Str.ofString "sums"), .local) :: ((Str.ofString "width"), .cell) :: ((Str.ofString "one"), .cell) :: ((Str.ofString "drawn"), .local) :: ((Str.ofString "numbers"), .local) :: ((Str.ofString "tape"), .local) :: ((Str.ofString "reader"), .cell) :: ((Str.ofString "read"), .local) :: ((Str.ofString "rows"), .local) :: ((Str.ofString "table"), .local) :: ((Str.ofString "terms"), .local) :: ((Str.ofString "stay"), .local) :: ((Str.ofString "values"), .cell) :: ((Str.ofString "plain"), .cell) :: ((Str.ofString "words"), .local) :: ((Str.ofString "bits"), .local) :: ((Str.ofString "standing"), .cell) :: ((Str.ofString "due"), .local) :: ((Str.ofString "sign"), .local) :: ((Str.ofString "flip"), .local) :: ((Str.ofString "shade"), .local) :: ((Str.ofString "most"), .local) :: ((Str.ofString "parts"), .local) :: ((Str.ofString "rest"), .local) :: ((Str.ofString "_law_sums"), .globalImplicit) :: ((Str.ofString "zip"), .globalImplicit) :: ((Str.ofString "iter"), .globalImplicit) :: ((Str.ofString "_law_over"), .globalImplicit) :: ((Str.ofString "Headers"), .globalImplicit) :: ((Str.ofString "_law_gather"), .globalImplicit) :: ((Str.ofString "len"), .globalImplicit) :: ((Str.ofString "range"), .globalImplicit) :: ((Str.ofString "_digits2int"), .globalImplicit) :: ((Str.ofString "_law_halves"), .globalImplicit) :: ((Str.ofString "max"), .globalImplicit) :: ((Str.ofString "int_divmod"), .globalImplicit) :: ((Str.ofString "sum"), .globalImplicit) :: ((Str.ofString "_law_refused"), .globalImplicit) :: []) [((Str.ofString "standing"), c_standing), ((Str.ofString "plain"), c_plain), ((Str.ofString "values"), c_values), ((Str.ofString "reader"), c_reader), ((Str.ofString "one"), c_one), ((Str.ofString "width"), c_width)] ∧ St g z s ((L, .ns [((Str.ofString "script"), some (.ref sl)), ((Str.ofString "sums"), none), ((Str.ofString "drawn"), none), ((Str.ofString "numbers"), none), ((Str.ofString "tape"), none), ((Str.ofString "read"), none), ((Str.ofString "rows"), none), ((Str.ofString "table"), none), ((Str.ofString "terms"), none), ((Str.ofString "stay"), none), ((Str.ofString "words"), none), ((Str.ofString "bits"), none), ((Str.ofString "due"), none), ((Str.ofString "sign"), none), ((Str.ofString "flip"), none), ((Str.ofString "shade"), none), ((Str.ofString "most"), none), ((Str.ofString "parts"), none), ((Str.ofString "rest"), none)]) :: (c_standing, .cel none) :: (c_plain, .cel none) :: (c_values, .cel none) :: (c_reader, .cel none) :: (c_one, .cel none) :: (c_width, .cel none) :: tb) := ⟨L + 1, L + 1 + 1, L + 1 + 2, L + 1 + 3, L + 1 + 4, L + 1 + 5, eo, S⟩
  replace hA := hA.deeper env
  have hfr1 := Around.frames_deeper (env := env) hfr
  ktd_said "m.go"
  refine sums_con G (by ktd_said "m.st") (hA.mono (by decide)) hl hv hn (fun ysl ts ys s1 hy5 hyb hyv S1 => ?_)
  replace S1 := S1.perm (.swap ..)
  clear S
  have hY : YOk ys := ⟨hy5, hyb⟩
  obtain ⟨g3, g3a, g3b⟩ := hY.at (i := 3) (by decide)
  obtain ⟨_, h3, ⟨t3, rfl⟩⟩ := hyv.get g3
  have h3' : ts[(3 : Int).toNat]? = some (.int (ys.getD 3 0) t3) := h3
  have p3 : Builtin.divisionGoesByPylong (ys.getD 3 0) 4096 = false := nopyl (by omega)
  have hyl := hyv.len
  ktd_said "m.go"
  rename_i s2 S2
  try replace S2 := Se.st S2
  have S3 : ∃ tw, St g z s2 ((L, .ns [((Str.ofString "script"), some (.ref sl)), ((Str.ofString "sums"), some (.ref ysl)), ((Str.ofString "drawn"), none), ((Str.ofString "numbers"), none), ((Str.ofString "tape"), none), ((Str.ofString "read"), none), ((Str.ofString "rows"), none), ((Str.ofString "table"), none), ((Str.ofString "terms"), none), ((Str.ofString "stay"), none), ((Str.ofString "words"), none), ((Str.ofString "bits"), none), ((Str.ofString "due"), none), ((Str.ofString "sign"), none), ((Str.ofString "flip"), none), ((Str.ofString "shade"), none), ((Str.ofString "most"), none), ((Str.ofString "parts"), none), ((Str.ofString "rest"), none)]) :: (ysl, .lst ts) :: (c_standing, .cel none) :: (c_plain, .cel none) :: (c_values, .cel none) :: (c_reader, .cel none) :: (c_one, .cel none) :: (c_width, .cel (some (.int (wdOf ys) tw))) :: tb) := ⟨_, S2⟩
  obtain ⟨tw, S3⟩ := S3
  clear S1 S2
  refine' x_asgC (cl := []) ?e2 ?hy2 ?hcl2 ?hk2 ?hn2 ?hp2 ?hno2 ?body2 ?hs2
  case e2 => assumption
  case hy2 => ktd_said "m.h"
  case hp2 => rfl
  case hno2 => kernel_rfl
  case hcl2 => kernel_rfl
  case hk2 => rfl
  case hn2 => kernel_rfl
  case hs2 => intro _; rfl
  ktd_said "m.go"
  rename_i I s4 S4
  try replace S4 := Se.st S4
  refine' comp_goU (nm' := [((Str.ofString ".0"), .local), ((Str.ofString "one"), .local)]) (m := [((Str.ofString ".0"), none), ((Str.ofString "one"), none)]) (ks := []) ?e3 ?S ?hnm3 ?hnd3 ?hok3 ?hk3 ?hc3 ?hks3 ?hn3 ?hm3 ?body3
  case e3 => assumption
  case S => ktd_said "m.st"
  case hnm3 => kernel_rfl
  case hnd3 => decide +kernel
  case hok3 => decide +kernel
  case hk3 => rfl
  case hc3 => kernel_rfl
  case hks3 => kernel_rfl
  case hn3 => decide +kernel
  case hm3 => kernel_rfl
  intro C D cenv s ceo S
  refine absR ?_
  intro RR hRR
  clear S3 S4
  refine comp_start rfl ?_ (fun A' => it_listiter (by ktd_said "m.st") (by ktd_said "m.h") ⟨rfl, rfl⟩)
  refine loop_ind (P := fun i s => ∃ o dv, VL isI (drOf (ys.take i)) dv ∧ St g z s ((C, .ns [((Str.ofString ".0"), none), ((Str.ofString "one"), o)]) :: (D, .lst dv) :: (L, .ns [((Str.ofString "script"), some (.ref sl)), ((Str.ofString "sums"), some (.ref ysl)), ((Str.ofString "drawn"), none), ((Str.ofString "numbers"), none), ((Str.ofString "tape"), none), ((Str.ofString "read"), none), ((Str.ofString "rows"), none), ((Str.ofString "table"), none), ((Str.ofString "terms"), none), ((Str.ofString "stay"), none), ((Str.ofString "words"), none), ((Str.ofString "bits"), none), ((Str.ofString "due"), none), ((Str.ofString "sign"), none), ((Str.ofString "flip"), none), ((Str.ofString "shade"), none), ((Str.ofString "most"), none), ((Str.ofString "parts"), none), ((Str.ofString "rest"), none)]) :: (I, .lit ysl i) :: (ysl, .lst ts) :: (c_standing, .cel none) :: (c_plain, .cel none) :: (c_values, .cel none) :: (c_reader, .cel none) :: (c_one, .cel none) :: (c_width, .cel (some (.int (wdOf ys) tw))) :: tb)) 5 ?_ ?_ _ (exI2_2 _ _ .nil S)
  · intro i hi ih s hP
    refine exE2_2 hP (fun o dv S hd => ?_)
    clear hP
    refine comp0 ?_
    obtain ⟨gi, _, _⟩ := hY.at hi
    obtain ⟨_, hi', ⟨ti, rfl⟩⟩ := hyv.get gi
    have hdl := hd.len
    rw [drOf, List.length_map, List.length_take] at hdl
    refine nx_lstN (by ktd_said "m.st") (by ktd_said "m.s") (St.isL (by ktd_said "m.st") (by ktd_said "m.h")) hi' (fun _ _ h => n0_some h) (fun _ _ => ?_)
    ktd_said "m.go"
    refine compA_go (by ktd_said "m.st") (by ktd_said "m.s") (szl (by omega)) (fun s6 S6 => ?_)
    refine ih _ (exI2_2 _ _ ?_ (St.keep S6 (by ktd_said "m.keep")))
    unfold drOf
    rw [List.take_add_one, gi, List.map_append]
    exact hd.snoc .mk
  · intro s hP
    refine exE2_2 hP (fun o dv S hd => ?_)
    clear hP
    refine comp0 ?_
    refine nx_listEnd (AOk.handled (by with_reducible assumption)) (by ktd_said "m.st") (by ktd_said "m.p") (St.isL (by ktd_said "m.st") (by ktd_said "m.h")) (List.getElem?_eq_none (by omega)) (fun _ _ => n0_none ?_)
    rw [List.take_of_length_le (by omega)] at hd
    refine leafR (by with_reducible assumption) (comp_endU (by ktd_said "m.st") (by ktd_said "m.p") (by ktd_said "m.st") (by ktd_said "m.h") (by ktd_said "m.s") (fun s7 S7 => ?_))
    clear S
    obtain ⟨dl, hdl0⟩ : ∃ x, x = D := ⟨_, rfl⟩
    subst hdl0
    have hdl := hd.len
    rw [drOf, List.length_map] at hdl
    have hdo := dr_ok ys
    refine' x_asgC (cl := [((Str.ofString "width"), c_width)]) ?e4 ?hy4 ?hcl4 ?hk4 ?hn4 ?hp4 ?hno4 ?body4 ?hs4
    case e4 => assumption
    case hy4 => ktd_said "m.h"
    case hp4 => rfl
    case hno4 => kernel_rfl
    case hcl4 => kernel_rfl
    case hk4 => rfl
    case hn4 => kernel_rfl
    case hs4 => intro _; rfl
    ktd_said "m.go"
    rename_i J s8 S8
    try replace S8 := Se.st S8
    refine' comp_goU (nm' := [((Str.ofString ".0"), .local), ((Str.ofString "one"), .local), ((Str.ofString "width"), .cell)]) (m := [((Str.ofString ".0"), none), ((Str.ofString "one"), none)]) (ks := [(Str.ofString "width")]) ?e5 ?S ?hnm5 ?hnd5 ?hok5 ?hk5 ?hc5 ?hks5 ?hn5 ?hm5 ?body5
    case e5 => assumption
    case S => ktd_said "m.st"
    case hnm5 => kernel_rfl
    case hnd5 => decide +kernel
    case hok5 => decide +kernel
    case hk5 => rfl
    case hc5 => kernel_rfl
    case hks5 => kernel_rfl
    case hn5 => decide +kernel
    case hm5 => kernel_rfl
    intro C D cenv s ceo S
    refine absR ?_
    intro RR hRR
    clear S8 S7
    refine comp_start rfl ?_ (fun A' => it_listiter (by ktd_said "m.st") (by ktd_said "m.h") ⟨rfl, rfl⟩)
    have hdrl : (drOf ys).length = 5 := by rw [drOf, List.length_map]; exact hy5
    obtain ⟨hw1, hw2⟩ := wd_ok ys
    refine loop_ind (P := fun i s => ∃ o nv, VL isI (((drOf ys).take i).map (nmOf (wdOf ys))) nv ∧ St g z s ((C, .ns [((Str.ofString ".0"), none), ((Str.ofString "one"), o)]) :: (D, .lst nv) :: (L, .ns [((Str.ofString "script"), some (.ref sl)), ((Str.ofString "sums"), some (.ref ysl)), ((Str.ofString "drawn"), some (.ref dl)), ((Str.ofString "numbers"), none), ((Str.ofString "tape"), none), ((Str.ofString "read"), none), ((Str.ofString "rows"), none), ((Str.ofString "table"), none), ((Str.ofString "terms"), none), ((Str.ofString "stay"), none), ((Str.ofString "words"), none), ((Str.ofString "bits"), none), ((Str.ofString "due"), none), ((Str.ofString "sign"), none), ((Str.ofString "flip"), none), ((Str.ofString "shade"), none), ((Str.ofString "most"), none), ((Str.ofString "parts"), none), ((Str.ofString "rest"), none)]) :: (J, .lit dl i) :: (dl, .lst dv) :: (ysl, .lst ts) :: (c_standing, .cel none) :: (c_plain, .cel none) :: (c_values, .cel none) :: (c_reader, .cel none) :: (c_one, .cel none) :: (c_width, .cel (some (.int (wdOf ys) tw))) :: tb)) 5 ?_ ?_ _ (exI2_2 _ _ .nil S)
    · intro i hi ih s hP
      refine exE2_2 hP (fun o nv S hn => ?_)
      clear hP
      refine comp0 ?_
      have gi : (drOf ys)[i]? = some (drOf ys)[i] := List.getElem?_eq_getElem (by omega)
      obtain ⟨o1, o2⟩ := hdo _ (List.getElem_mem (by omega : i < (drOf ys).length))
      generalize (drOf ys)[i] = x at gi o1 o2
      obtain ⟨_, hi', ⟨ti, rfl⟩⟩ := hd.get gi
      have hnl := hn.len
      rw [List.length_map, List.length_take] at hnl
      have px : Builtin.divisionGoesByPylong x 32 = false := nopyl (by omega)
      have q1 : 0 ≤ x.fdiv 32 ∧ x.fdiv 32 < 32 := by rw [Int.fdiv_eq_ediv_of_nonneg _ (by decide)]; omega
      have mx : IntMulOk (x.fdiv 32) (wdOf ys) := mulL (by omega)
      refine nx_lstN (by ktd_said "m.st") (by ktd_said "m.s") (St.isL (by ktd_said "m.st") (by ktd_said "m.h")) hi' (fun _ _ h => n0_some h) (fun _ _ => ?_)
      ktd_said "m.go"
      refine compA_go (by ktd_said "m.st") (by ktd_said "m.s") (szl (by omega)) (fun s6 S6 => ?_)
      refine ih _ (exI2_2 _ _ ?_ (St.keep S6 (by ktd_said "m.keep")))
      rw [List.take_add_one, gi, List.map_append]
      exact hn.snoc .mk
    · intro s hP
      refine exE2_2 hP (fun o nv S hn => ?_)
      clear hP
      refine comp0 ?_
      refine nx_listEnd (AOk.handled (by with_reducible assumption)) (by ktd_said "m.st") (by ktd_said "m.p") (St.isL (by ktd_said "m.st") (by ktd_said "m.h")) (List.getElem?_eq_none (by omega)) (fun _ _ => n0_none ?_)
      rw [List.take_of_length_le (by omega)] at hn
      refine leafR (by with_reducible assumption) (comp_endU (by ktd_said "m.st") (by ktd_said "m.p") (by ktd_said "m.st") (by ktd_said "m.h") (by ktd_said "m.s") (fun s7 S7 => ?_))
      clear S
      obtain ⟨nl, hnl0⟩ : ∃ x, x = D := ⟨_, rfl⟩
      subst hnl0
      replace hn : VL isI (numOf ys) nv := hn
      have hnl := hn.len
      have hnl5 : (numOf ys).length = 5 := by rw [numOf, List.length_map]; exact hdrl
      refine' x_asgC (cl := []) ?e6 ?hy6 ?hcl6 ?hk6 ?hn6 ?hp6 ?hno6 ?body6 ?hs6
      case e6 => assumption
      case hy6 => ktd_said "m.h"
      case hp6 => rfl
      case hno6 => kernel_rfl
      case hcl6 => kernel_rfl
      case hk6 => rfl
      case hn6 => kernel_rfl
      case hs6 => intro _; rfl
      ktd_said "m.go"
      rename_i Z TI TO i1 i2 DZ s8 S8
      try replace S8 := Se.st S8
      clear S7
      refine' comp_goU (nm' := [((Str.ofString ".0"), .local), ((Str.ofString "one"), .local), ((Str.ofString "number"), .local), ((Str.ofString "octet"), .local), ((Str.ofString "_law_octets"), .globalImplicit)]) (m := [((Str.ofString ".0"), none), ((Str.ofString "one"), none), ((Str.ofString "number"), none), ((Str.ofString "octet"), none)]) (ks := []) ?e7 ?S ?hnm7 ?hnd7 ?hok7 ?hk7 ?hc7 ?hks7 ?hn7 ?hm7 ?body7
      case e7 => assumption
      case S => ktd_said "m.st"
      case hnm7 => kernel_rfl
      case hnd7 => decide +kernel
      case hok7 => decide +kernel
      case hk7 => rfl
      case hc7 => kernel_rfl
      case hks7 => kernel_rfl
      case hn7 => decide +kernel
      case hm7 => kernel_rfl
      intro C D cenv s ceo S
      refine absR ?_
      intro RR hRR
      clear S8
      refine comp_start rfl ?_ (fun A' => it_zip (by ktd_said "m.st") (by ktd_said "m.h") ⟨rfl, rfl⟩)
      have hzl : (ys.zip (numOf ys)).length = 5 := by rw [List.length_zip]; omega
      refine loop_ind (P := fun k s => ∃ o n oc tv a b, VL isI (((ys.zip (numOf ys)).take k).flatMap fun p => octetsOf p.2 ((p.1.fdiv 1024).fmod 4)) tv ∧ tv.length ≤ 3 * k ∧ St g z s ((C, .ns [((Str.ofString ".0"), none), ((Str.ofString "one"), o), ((Str.ofString "number"), n), ((Str.ofString "octet"), oc)]) :: (D, .lst tv) :: (L, .ns [((Str.ofString "script"), some (.ref sl)), ((Str.ofString "sums"), some (.ref ysl)), ((Str.ofString "drawn"), some (.ref dl)), ((Str.ofString "numbers"), some (.ref nl)), ((Str.ofString "tape"), none), ((Str.ofString "read"), none), ((Str.ofString "rows"), none), ((Str.ofString "table"), none), ((Str.ofString "terms"), none), ((Str.ofString "stay"), none), ((Str.ofString "words"), none), ((Str.ofString "bits"), none), ((Str.ofString "due"), none), ((Str.ofString "sign"), none), ((Str.ofString "flip"), none), ((Str.ofString "shade"), none), ((Str.ofString "most"), none), ((Str.ofString "parts"), none), ((Str.ofString "rest"), none)]) :: (Z, .raw (zipO TI TO .none)) :: (TI, .raw (pairO (.ref i1) (.ref i2))) :: (TO, .raw (pairO a b)) :: (i1, .lit ysl k) :: (i2, .lit nl k) :: (nl, .lst nv) :: (dl, .lst dv) :: (ysl, .lst ts) :: (c_standing, .cel none) :: (c_plain, .cel none) :: (c_values, .cel none) :: (c_reader, .cel none) :: (c_one, .cel none) :: (c_width, .cel (some (.int (wdOf ys) tw))) :: tb)) 5 ?_ ?_ _ (exI6_3 _ _ _ _ _ _ .nil (Nat.le_refl _) S)
      · intro k hk kh s hP
        refine exE6_3 hP (fun o n oc tv a b S ht htl => ?_)
        clear hP
        refine comp2o ?_ (by intro _; rfl) (AOk.handled (by with_reducible assumption))
        obtain ⟨gy, y1, y2⟩ := hY.at hk
        generalize ys.getD k 0 = y at gy y1 y2
        have gn : (numOf ys)[k]? = some (numOf ys)[k] := List.getElem?_eq_getElem (by omega)
        generalize (numOf ys)[k] = m at gn
        obtain ⟨_, hy', ⟨ty, rfl⟩⟩ := hyv.get gy
        obtain ⟨_, hn', ⟨tn, rfl⟩⟩ := hn.get gn
        have gz : (ys.zip (numOf ys))[k]? = some (y, m) := by
          rw [List.getElem?_zip_eq_some]; exact ⟨gy, gn⟩
        have py : Builtin.divisionGoesByPylong y 1024 = false := nopyl (by omega)
        refine nx_zip (k := k) (by ktd_said "m.st") DZ (by ktd_said "m.h") (by ktd_said "m.h") (by ktd_said "m.s") (by ktd_said "m.s") (by ktd_said "m.s") (St.isL (by ktd_said "m.st") (by ktd_said "m.h")) (St.isL (by ktd_said "m.st") (by ktd_said "m.h")) hy' hn' (fun _ _ h => n2_some h) (fun T s9 S9 => ?_)
        ktd_said "m.go"
        refine (octets_con m ((y.fdiv 1024).fmod 4) _ _).use0 G (by ktd_said "m.st") (hA.mono (by decide)) (fun v s10 us10 hv10 S10 => ?_)
        obtain ⟨ol, ov, rfl, rfl, hov⟩ := hv10
        dsimp only [List.cons_append, List.nil_append] at S10
        have hovl := hov.len
        have hol := octets_len m ((y.fdiv 1024).fmod 4)
        ktd_said "m.go"
        rename_i K s11 S11
        try replace S11 := Se.st S11
        refine comp_start rfl ?_ (fun A' => it_listiter (by ktd_said "m.st") (by ktd_said "m.h") ⟨rfl, rfl⟩)
        refine loop_ind (P := fun j s => ∃ oc, St g z s ((C, .ns [((Str.ofString ".0"), none), ((Str.ofString "one"), some (.int y ty)), ((Str.ofString "number"), some (.int m tn)), ((Str.ofString "octet"), oc)]) :: (D, .lst (tv ++ ov.take j)) :: (K, .lit ol j) :: (ol, .lst ov) :: (L, .ns [((Str.ofString "script"), some (.ref sl)), ((Str.ofString "sums"), some (.ref ysl)), ((Str.ofString "drawn"), some (.ref dl)), ((Str.ofString "numbers"), some (.ref nl)), ((Str.ofString "tape"), none), ((Str.ofString "read"), none), ((Str.ofString "rows"), none), ((Str.ofString "table"), none), ((Str.ofString "terms"), none), ((Str.ofString "stay"), none), ((Str.ofString "words"), none), ((Str.ofString "bits"), none), ((Str.ofString "due"), none), ((Str.ofString "sign"), none), ((Str.ofString "flip"), none), ((Str.ofString "shade"), none), ((Str.ofString "most"), none), ((Str.ofString "parts"), none), ((Str.ofString "rest"), none)]) :: (Z, .raw (zipO TI TO .none)) :: (TI, .raw (pairO (.ref i1) (.ref i2))) :: (TO, .raw (pairO (.int y ty) (.int m tn))) :: (i1, .lit ysl (k + 1)) :: (i2, .lit nl (k + 1)) :: (nl, .lst nv) :: (dl, .lst dv) :: (ysl, .lst ts) :: (c_standing, .cel none) :: (c_plain, .cel none) :: (c_values, .cel none) :: (c_reader, .cel none) :: (c_one, .cel none) :: (c_width, .cel (some (.int (wdOf ys) tw))) :: tb)) ov.length ?_ ?_ _ (exI1_1 _ (by rw [List.take_zero, List.append_nil]; exact St.keep S11 (by ktd_said "m.keep")))
        · intro j hj jh s hP
          refine exE1_1 hP (fun oc S => ?_)
          clear hP
          refine comp2i ?_
          have hoj : ov[j]? = some ov[j] := List.getElem?_eq_getElem hj
          refine nx_lstN (by ktd_said "m.st") (by ktd_said "m.s") (St.isL (by ktd_said "m.st") (by ktd_said "m.h")) hoj (fun _ _ h => n0_some h) (fun _ _ => ?_)
          ktd_said "m.go"
          refine compA_go (by ktd_said "m.st") (by ktd_said "m.s") (szl (by rw [List.length_append, List.length_take]; omega)) (fun s12 S12 => ?_)
          rw [List.append_assoc, show ov.take j ++ [ov[j]] = ov.take (j + 1) from by rw [List.take_add_one, hoj]; rfl] at S12
          exact jh _ (exI1_1 _ (St.keep S12 (by ktd_said "m.keep")))
        · intro s hP
          refine exE1_1 hP (fun oc S => ?_)
          clear hP
          refine comp2i ?_
          refine nx_listEnd (AOk.handled (by with_reducible assumption)) (by ktd_said "m.st") (by ktd_said "m.p") (St.isL (by ktd_said "m.st") (by ktd_said "m.h")) (List.getElem?_eq_none (Nat.le_refl _)) (fun s13 S13 => n0_none ?_)
          rw [List.take_length] at S13
          refine kh _ (exI6_3 _ _ _ _ _ _ ?_ ?_ (St.keep S13 (by ktd_said "m.keep")))
          · rw [List.take_add_one, gz, List.flatMap_append]
            exact ht.app (by simpa using hov)
          · rw [List.length_append]; omega
      · intro s hP
        refine exE6_3 hP (fun o n oc tv a b S ht htl => ?_)
        clear hP
        refine comp2o ?_ (by intro _; rfl) (AOk.handled (by with_reducible assumption))
        have hyn : ts[5]? = none := List.getElem?_eq_none (by omega)
        refine nx_zipEnd (k := 5) (AOk.handled (by with_reducible assumption)) (by ktd_said "m.st") DZ (by ktd_said "m.p") (by ktd_said "m.h") (by ktd_said "m.p") (by ktd_said "m.p") (by ktd_said "m.p") (St.isL (by ktd_said "m.st") (by ktd_said "m.h")) (St.isL (by ktd_said "m.st") (by ktd_said "m.h")) hyn (fun s14 S14 => n2_none ?_)
        rw [List.take_of_length_le (by omega)] at ht
        refine leafR (by with_reducible assumption) (comp_endU (by ktd_said "m.st") (by ktd_said "m.p") (by ktd_said "m.st") (by ktd_said "m.h") (by ktd_said "m.s") (fun s15 S15 => ?_))
        have R := h env L s15 c_standing c_plain c_values c_reader c_one c_width ys ts dv nv tv ysl dl nl D tw hY hyv hd hn ht eo ex.frame hA hfr1 (St.keep S15 (by ktd_said "m.keep"))
        unfold lawSeg at R
        rw [k337 w.params] at R
        dsimp only [bodyOf, fnOf, tailN, List.tail] at R
        exact R

end TF18
section TF19
open PySem PySem.Spec PySem.Calls PyProof.Rows PySem.W
theorem VL.take {α : Type} {P : α → Value → Prop} {xs : List α} {vs : List Value} (h : VL P xs vs) : ∀ k, VL P (xs.take k) (vs.take k) := by
  induction h with
  | nil => intro k; rw [List.take_nil, List.take_nil]; exact .nil
  | cons hp _ ih =>
    intro k
    cases k with
    | zero => exact .nil
    | succ k => exact .cons hp (ih k)
theorem VL.ints {xs : List Int} {vs : List Value} (h : VL isI xs vs) : IntsAre vs xs := by
  induction h with
  | nil => exact .nil
  | cons hp _ ih =>
    obtain ⟨t, rfl⟩ := hp
    exact .cons _ _ ih
section
variable {prog : Program} {w : World} {A : Around} {E Q : Value → Shared → Prop} {g : Heap} {z s : Shared} {ow : List (Addr × Kd)} {a b : Addr} {xs ys : List Int} {vs us : List Value}
theorem c_neI (S : St g z s ow) (ha : Has a (.lst vs) ow) (hb : Has b (.lst us) ow) (hx : VL isI xs vs) (hy : VL isI ys us) (hu : A.units + 64 < cLine) (h : Q (.bool (!decide (xs = ys))) s) : wpAny (model prog w) A (compareOp .NotEq (.ref a) (.ref b)) Q E s :=
  ne_intsK (S.isL ha) hx.ints (S.isL hb) hy.ints hu h
theorem c_eqI (S : St g z s ow) (ha : Has a (.lst vs) ow) (hb : Has b (.lst us) ow) (hx : VL isI xs vs) (hy : VL isI ys us) (hu : A.units + 64 < cLine) (h : Q (.bool (decide (xs = ys))) s) : wpAny (model prog w) A (compareOp .Eq (.ref a) (.ref b)) Q E s :=
  eq_intsK (S.isL ha) hx.ints (S.isL hb) hy.ints hu h
end
set_option pp.maxSteps 400
set_option maxHeartbeats 2000000
theorem segB {prog : Program} {w : World} {A : Around} {E : Value → Shared → Prop} {Q : Flow → Shared → Prop} {g : Heap} {z s : Shared} {tb : List (Addr × Kd)} {env : Env} {L c_standing c_plain c_values c_reader c_one c_width : Addr} {sl ysl dl nl tl : Addr} {tw : Tok} {ys : List Int} {ts dv nv tv : List Value} (G : Gd (Mine.hd.heap_1 w.params) g) (T : TabS tb) (eo : EO env L (((Str.ofString "script"), .local) :: ((Str.ofString "sums"), .local) :: ((Str.ofString "width"), .cell) :: ((Str.ofString "one"), .cell) :: ((Str.ofString "drawn"), .local) :: ((Str.ofString "numbers"), .local) :: ((Str.ofString "tape"), .local) :: ((Str.ofString "reader"), .cell) :: ((Str.ofString "read"), .local) :: ((Str.ofString "rows"), .local) :: ((Str.ofString "table"), .local) :: ((Str.ofString "terms"), .local) :: ((Str.ofString "stay"), .local) :: ((Str.ofString "values"), .cell) :: ((Str.ofString "plain"), .cell) :: ((Str.ofString "words"), .local) :: ((Str.ofString "bits"), .local) :: ((Str.ofString "standing"), .cell) :: ((Str.ofString "due"), .local) :: ((Str.ofString "sign"), .local) :: ((Str.ofString "flip"), .local) :: ((Str.ofString "shade"), .local) :: ((Str.ofString "most"), .local) :: ((Str.ofString "parts"), .local) :: ((Str.ofString "rest"), .local) :: ((Str.ofString "_law_sums"), .globalImplicit) :: ((Str.ofString "zip"), .globalImplicit) :: ((Str.ofString "iter"), .globalImplicit) :: ((Str.ofString "_law_over"), .globalImplicit) :: ((Str.ofString "Headers"), .globalImplicit) :: ((Str.ofString "_law_gather"), .globalImplicit) :: ((Str.ofString "len"), .globalImplicit) :: ((Str.ofString "range"), .globalImplicit) :: ((Str.ofString "_digits2int"), .globalImplicit) :: ((Str.ofString "_law_halves"), .globalImplicit) :: ((Str.ofString "max"), .globalImplicit) :: ((Str.ofString "int_divmod"), .globalImplicit) :: ((Str.ofString "sum"), .globalImplicit) :: ((Str.ofString "_law_refused"), .globalImplicit) :: []) [((Str.ofString "standing"), c_standing), ((Str.ofString "plain"), c_plain), ((Str.ofString "values"), c_values), ((Str.ofString "reader"), c_reader), ((Str.ofString "one"), c_one), ((Str.ofString "width"), c_width)]) (hef : env.frame = some L) (hA : AOk A 89) (hfr : A.frames = some [env])
    (hY : YOk ys) (hyv : VL isI ys ts) (hdv : VL isI (drOf ys) dv) (hnv : VL isI (numOf ys) nv) (htv : VL isI (tapeOf ys) tv)
    (S : St g z s ((L, .ns [((Str.ofString "script"), some (.ref sl)), ((Str.ofString "sums"), some (.ref ysl)), ((Str.ofString "drawn"), some (.ref dl)), ((Str.ofString "numbers"), some (.ref nl)), ((Str.ofString "tape"), some (.ref tl)), ((Str.ofString "read"), none), ((Str.ofString "rows"), none), ((Str.ofString "table"), none), ((Str.ofString "terms"), none), ((Str.ofString "stay"), none), ((Str.ofString "words"), none), ((Str.ofString "bits"), none), ((Str.ofString "due"), none), ((Str.ofString "sign"), none), ((Str.ofString "flip"), none), ((Str.ofString "shade"), none), ((Str.ofString "most"), none), ((Str.ofString "parts"), none), ((Str.ofString "rest"), none)]) :: (tl, .lst tv) :: (nl, .lst nv) :: (dl, .lst dv) :: (ysl, .lst ts) :: (c_standing, .cel none) :: (c_plain, .cel none) :: (c_values, .cel none) :: (c_reader, .cel none) :: (c_one, .cel none) :: (c_width, .cel (some (.int (wdOf ys) tw))) :: tb))
    (h : ∀ s rl rv cr, VL isI (numOf ys) rv → St g z s ((L, .ns [((Str.ofString "script"), some (.ref sl)), ((Str.ofString "sums"), some (.ref ysl)), ((Str.ofString "drawn"), some (.ref dl)), ((Str.ofString "numbers"), some (.ref nl)), ((Str.ofString "tape"), some (.ref tl)), ((Str.ofString "read"), some (.ref rl)), ((Str.ofString "rows"), none), ((Str.ofString "table"), none), ((Str.ofString "terms"), none), ((Str.ofString "stay"), none), ((Str.ofString "words"), none), ((Str.ofString "bits"), none), ((Str.ofString "due"), none), ((Str.ofString "sign"), none), ((Str.ofString "flip"), none), ((Str.ofString "shade"), none), ((Str.ofString "most"), none), ((Str.ofString "parts"), none), ((Str.ofString "rest"), none)]) :: (rl, .lst rv) :: (nl, .lst nv) :: (dl, .lst dv) :: (ysl, .lst ts) :: (c_standing, .cel none) :: (c_plain, .cel none) :: (c_values, .cel none) :: (c_reader, .cel cr) :: (c_one, .cel none) :: (c_width, .cel (some (.int (wdOf ys) tw))) :: tb) →
      wpAny (model prog w) A (execs (lawSeg w.params 8) env) Q E s) : wpAny (model prog w) A (execs (lawSeg w.params 5) env) Q E s := by
  unfold lawSeg
  rw [k337 w.params]
  dsimp only [bodyOf, fnOf, tailN, List.tail]
  obtain ⟨g0, g0a, g0b⟩ := hY.at (i := 0) (by decide)
  obtain ⟨_, h0, ⟨t0, rfl⟩⟩ := hyv.get g0
  have h0' : ts[(0 : Int).toNat]? = some (.int (ys.getD 0 0) t0) := h0
  have p0 : Builtin.divisionGoesByPylong (ys.getD 0 0) 4096 = false := nopyl (by omega)
  have hyl := hyv.len
  ktd_said "m.go"
  refine r_sliceT g z ?_
  ktd_said "m.go"
  have hk0 : 0 ≤ ((ys.getD 0 0).fdiv 4096).fmod 3 := Int.fmod_nonneg_of_pos _ (by decide)
  have htl := htv.len
  have htl2 := tape_len hY
  have hcut : ∀ (a b : Value), ([a, b].take (((ys.getD 0 0).fdiv 4096).fmod 3).toNat).length ≤ 2 := fun a b => by rw [List.length_take]; exact Nat.min_le_right _ _
  refine mk_sliceL (by ktd_said "m.st") (St.isL (by ktd_said "m.st") (by ktd_said "m.h")) (szl (by simp only [List.length_cons, List.length_nil]; decide)) hk0 (fun a s1 S1 => ?_)
  have hlen : ∀ (x y : Value), tv.length + ([x, y].take (((ys.getD 0 0).fdiv 4096).fmod 3).toNat).length ≤ 1000 := fun x y => by have := hcut x y; omega
  ktd_said "m.go"
  refine o_addList (by ktd_said "m.st") (by ktd_said "m.h") (by ktd_said "m.h") (hlen _ _) (fun fl s2 S2 => ?_)
  ktd_said "m.go"
  refine bi_iterL (by ktd_said "m.st") (St.isL (by ktd_said "m.st") (by ktd_said "m.h")) (fun I s3 S3 => ?_)
  ktd_said "m.go"
  rename_i s4 S4
  try replace S4 := Se.st S4
  have S5 : ∃ q1 q2, St g z s4 ((L, .ns [((Str.ofString "script"), some (.ref sl)), ((Str.ofString "sums"), some (.ref ysl)), ((Str.ofString "drawn"), some (.ref dl)), ((Str.ofString "numbers"), some (.ref nl)), ((Str.ofString "tape"), some (.ref tl)), ((Str.ofString "read"), none), ((Str.ofString "rows"), none), ((Str.ofString "table"), none), ((Str.ofString "terms"), none), ((Str.ofString "stay"), none), ((Str.ofString "words"), none), ((Str.ofString "bits"), none), ((Str.ofString "due"), none), ((Str.ofString "sign"), none), ((Str.ofString "flip"), none), ((Str.ofString "shade"), none), ((Str.ofString "most"), none), ((Str.ofString "parts"), none), ((Str.ofString "rest"), none)]) :: (I, .lit fl 0) :: (fl, .lst (tv ++ [Value.int 127 q1, .int 64 q2].take (((ys.getD 0 0).fdiv 4096).fmod 3).toNat)) :: (nl, .lst nv) :: (dl, .lst dv) :: (ysl, .lst ts) :: (c_standing, .cel none) :: (c_plain, .cel none) :: (c_values, .cel none) :: (c_reader, .cel (some (.ref I))) :: (c_one, .cel none) :: (c_width, .cel (some (.int (wdOf ys) tw))) :: tb) := ⟨_, _, St.keep S4 (by ktd_said "m.keep")⟩
  obtain ⟨q1, q2, S5⟩ := S5
  generalize hkk : (((ys.getD 0 0).fdiv 4096).fmod 3).toNat = kk at S5
  have hfv : VL isI (tapeOf ys ++ ([127, 64] : List Int).take kk) (tv ++ [Value.int 127 q1, .int 64 q2].take kk) := htv.app (VL.take (.cons .mk (.cons .mk .nil)) kk)
  clear S4 S1 S2 S3 S
  generalize tv ++ [Value.int 127 q1, .int 64 q2].take kk = fv at hfv S5
  refine' x_asgC (cl := [((Str.ofString "reader"), c_reader)]) ?e1 ?hy1 ?hcl1 ?hk1 ?hn1 ?hp1 ?hno1 ?body1 ?hs1
  case e1 => assumption
  case hy1 => ktd_said "m.h"
  case hp1 => rfl
  case hno1 => kernel_rfl
  case hcl1 => kernel_rfl
  case hk1 => rfl
  case hn1 => kernel_rfl
  case hs1 => intro _; rfl
  ktd_said "m.go"
  rename_i J s6 S6
  try replace S6 := Se.st S6
  clear S5
  refine' comp_goU (nm' := [((Str.ofString ".0"), .local), ((Str.ofString "number"), .local), ((Str.ofString "_parse_varint"), .globalImplicit), ((Str.ofString "reader"), .cell)]) (m := [((Str.ofString ".0"), none), ((Str.ofString "number"), none)]) (ks := [(Str.ofString "reader")]) ?e2 ?S ?hnm2 ?hnd2 ?hok2 ?hk2 ?hc2 ?hks2 ?hn2 ?hm2 ?body2
  case e2 => assumption
  case S => ktd_said "m.st"
  case hnm2 => kernel_rfl
  case hnd2 => decide +kernel
  case hok2 => decide +kernel
  case hk2 => rfl
  case hc2 => kernel_rfl
  case hks2 => kernel_rfl
  case hn2 => decide +kernel
  case hm2 => kernel_rfl
  intro C D cenv s ceo S
  refine absR ?_
  intro RR hRR
  clear S6
  refine comp_start rfl ?_ (fun A' => it_listiter (by ktd_said "m.st") (by ktd_said "m.h") ⟨rfl, rfl⟩)
  have hnvl := hnv.len
  rw [num_len, hY.1] at hnvl
  refine loop_ind (P := fun k s => ∃ nb rv, VL isI ((numOf ys).take k) rv ∧ St g z s ((C, .ns [((Str.ofString ".0"), none), ((Str.ofString "number"), nb)]) :: (D, .lst rv) :: (L, .ns [((Str.ofString "script"), some (.ref sl)), ((Str.ofString "sums"), some (.ref ysl)), ((Str.ofString "drawn"), some (.ref dl)), ((Str.ofString "numbers"), some (.ref nl)), ((Str.ofString "tape"), some (.ref tl)), ((Str.ofString "read"), none), ((Str.ofString "rows"), none), ((Str.ofString "table"), none), ((Str.ofString "terms"), none), ((Str.ofString "stay"), none), ((Str.ofString "words"), none), ((Str.ofString "bits"), none), ((Str.ofString "due"), none), ((Str.ofString "sign"), none), ((Str.ofString "flip"), none), ((Str.ofString "shade"), none), ((Str.ofString "most"), none), ((Str.ofString "parts"), none), ((Str.ofString "rest"), none)]) :: (J, .lit nl k) :: (I, .lit fl (tapeTo ys k).length) :: (fl, .lst fv) :: (nl, .lst nv) :: (dl, .lst dv) :: (ysl, .lst ts) :: (c_standing, .cel none) :: (c_plain, .cel none) :: (c_values, .cel none) :: (c_reader, .cel (some (.ref I))) :: (c_one, .cel none) :: (c_width, .cel (some (.int (wdOf ys) tw))) :: tb)) 5 ?_ ?_ _ (exI2_2 _ _ .nil S)
  · intro k hk kh s hP
    refine exE2_2 hP (fun nb rv S hr => ?_)
    clear hP
    refine comp0 ?_
    obtain ⟨m, gz, gn⟩ := zip_at hY hk
    obtain ⟨_, hn', ⟨tn, rfl⟩⟩ := hnv.get gn
    obtain ⟨b, hb, hrun⟩ := tape_run (([127, 64] : List Int).take kk) gz
    have hrl := hr.len
    rw [List.length_take, num_len, hY.1] at hrl
    refine nx_lstN (by ktd_said "m.st") (by ktd_said "m.s") (St.isL (by ktd_said "m.st") (by ktd_said "m.h")) hn' (fun _ _ h => n0_some h) (fun _ _ => ?_)
    ktd_said "m.go"
    refine (parse_con (I := I) (l := fl) hfv hb hrun).use2 G (by ktd_said "m.st") (by ktd_said "m.p") (by ktd_said "m.p") (hA.mono (by decide)) (fun v s7 us7 hv7 S7 => ?_)
    obtain ⟨⟨tv7, rfl⟩, rfl⟩ := hv7
    dsimp only [List.cons_append, List.nil_append] at S7
    refine compA_go (by ktd_said "m.st") (by ktd_said "m.s") (szl (by omega)) (fun s8 S8 => ?_)
    refine kh _ (exI2_2 _ _ ?_ (St.keep S8 (by ktd_said "m.keep")))
    rw [List.take_add_one, gn]
    exact hr.snoc .mk
  · intro s hP
    refine exE2_2 hP (fun nb rv S hr => ?_)
    clear hP
    refine comp0 ?_
    refine nx_listEnd (AOk.handled (by with_reducible assumption)) (by ktd_said "m.st") (by ktd_said "m.p") (St.isL (by ktd_said "m.st") (by ktd_said "m.h")) (List.getElem?_eq_none (by omega)) (fun s9 S9 => n0_none ?_)
    rw [List.take_of_length_le (by rw [num_len, hY.1]; decide)] at hr
    refine leafR (by with_reducible assumption) (comp_endU (by ktd_said "m.st") (by ktd_said "m.p") (by ktd_said "m.st") (by ktd_said "m.h") (by ktd_said "m.s") (fun s10 S10 => ?_))
    clear S
    ktd_said "m.go"
    refine c_neI (by ktd_said "m.st") (by ktd_said "m.h") (by ktd_said "m.h") hr hnv (AOk.fits64 (by with_reducible assumption) (by decide)) ?_
    rw [decide_eq_true (rfl : numOf ys = numOf ys)]
    ktd_said "m.go"
    rename_i s11 S11
    try replace S11 := Se.st S11
    have hkk3 : kk < 3 := by
      have := Int.fmod_lt_of_pos ((ys.getD 0 0).fdiv 4096) (show (0 : Int) < 3 by decide)
      omega
    have hcase : (tapeOf ys ++ ([127, 64] : List Int).take kk).drop (tapeTo ys 5).length = [] ∨ (tapeOf ys ++ ([127, 64] : List Int).take kk).drop (tapeTo ys 5).length = [127] ∨ (tapeOf ys ++ ([127, 64] : List Int).take kk).drop (tapeTo ys 5).length = [127, 64] := by
      rw [tapeTo_all hY, List.drop_left]
      have : kk = 0 ∨ kk = 1 ∨ kk = 2 := by omega
      rcases this with rfl | rfl | rfl
      · exact .inl rfl
      · exact .inr (.inl rfl)
      · exact .inr (.inr rfl)
    have S12 : St g z s11 ((I, .lit fl (tapeTo ys 5).length) :: (L, .ns [((Str.ofString "script"), some (.ref sl)), ((Str.ofString "sums"), some (.ref ysl)), ((Str.ofString "drawn"), some (.ref dl)), ((Str.ofString "numbers"), some (.ref nl)), ((Str.ofString "tape"), some (.ref tl)), ((Str.ofString "read"), some (.ref D)), ((Str.ofString "rows"), none), ((Str.ofString "table"), none), ((Str.ofString "terms"), none), ((Str.ofString "stay"), none), ((Str.ofString "words"), none), ((Str.ofString "bits"), none), ((Str.ofString "due"), none), ((Str.ofString "sign"), none), ((Str.ofString "flip"), none), ((Str.ofString "shade"), none), ((Str.ofString "most"), none), ((Str.ofString "parts"), none), ((Str.ofString "rest"), none)]) :: (D, .lst rv) :: (fl, .lst fv) :: (nl, .lst nv) :: (dl, .lst dv) :: (ysl, .lst ts) :: (c_standing, .cel none) :: (c_plain, .cel none) :: (c_values, .cel none) :: (c_reader, .cel (some (.ref I))) :: (c_one, .cel none) :: (c_width, .cel (some (.int (wdOf ys) tw))) :: tb) := St.keep S11 (by ktd_said "m.keep")
    refine over_use G S12 (by ktd_said "m.h") hfv hcase (hA.mono (by decide)) hfr (fun e he => ?_) (fun s13 S13 => ?_)
    · rw [List.mem_singleton.mp he]
      exact ⟨eo.kind, L, _, hef, .hd⟩
    · refine tr_bool ?_
      refine if_f (by decide) ?_
      refine isTrue_or_nil ?_
      refine if_f (by decide) ?_
      have R := h s13 D rv (some (.ref I)) hr (St.keep S13 (by ktd_said "m.keep"))
      unfold lawSeg at R
      rw [k337 w.params] at R
      dsimp only [bodyOf, fnOf, tailN, List.tail] at R
      exact x_nil (then_next R)

end TF19
section TF20
open PySem PySem.Spec PySem.Calls PyProof.Rows PySem.W
set_option pp.maxSteps 400
set_option maxHeartbeats 2000000
theorem segC {prog : Program} {w : World} {A : Around} {E : Value → Shared → Prop} {Q : Flow → Shared → Prop} {g : Heap} {z s : Shared} {tb : List (Addr × Kd)} {env : Env} {L c_standing c_plain c_values c_reader c_one c_width : Addr} {sl ysl dl nl tl rl : Addr} {tw : Tok} {ys : List Int} {ts dv nv rv : List Value} {cr : Option Value} (G : Gd (Mine.hd.heap_1 w.params) g) (T : TabS tb) (eo : EO env L (((Str.ofString "script"), .local) :: ((Str.ofString "sums"), .local) :: ((Str.ofString "width"), .cell) :: ((Str.ofString "one"), .cell) :: ((Str.ofString "drawn"), .local) :: ((Str.ofString "numbers"), .local) :: ((Str.ofString "tape"), .local) :: ((Str.ofString "reader"), .cell) :: ((Str.ofString "read"), .local) :: ((Str.ofString "rows"), .local) :: ((Str.ofString "table"), .local) :: ((Str.ofString "terms"), .local) :: ((Str.ofString "stay"), .local) :: ((Str.ofString "values"), .cell) :: ((Str.ofString "plain"), .cell) :: ((Str.ofString "words"), .local) :: ((Str.ofString "bits"), .local) :: ((Str.ofString "standing"), .cell) :: ((Str.ofString "due"), .local) :: ((Str.ofString "sign"), .local) :: ((Str.ofString "flip"), .local) :: ((Str.ofString "shade"), .local) :: ((Str.ofString "most"), .local) :: ((Str.ofString "parts"), .local) :: ((Str.ofString "rest"), .local) :: ((Str.ofString "_law_sums"), .globalImplicit) :: ((Str.ofString "zip"), .globalImplicit) :: ((Str.ofString "iter"), .globalImplicit) :: ((Str.ofString "_law_over"), .globalImplicit) :: ((Str.ofString "Headers"), .globalImplicit) :: ((Str.ofString "_law_gather"), .globalImplicit) :: ((Str.ofString "len"), .globalImplicit) :: ((Str.ofString "range"), .globalImplicit) :: ((Str.ofString "_digits2int"), .globalImplicit) :: ((Str.ofString "_law_halves"), .globalImplicit) :: ((Str.ofString "max"), .globalImplicit) :: ((Str.ofString "int_divmod"), .globalImplicit) :: ((Str.ofString "sum"), .globalImplicit) :: ((Str.ofString "_law_refused"), .globalImplicit) :: []) [((Str.ofString "standing"), c_standing), ((Str.ofString "plain"), c_plain), ((Str.ofString "values"), c_values), ((Str.ofString "reader"), c_reader), ((Str.ofString "one"), c_one), ((Str.ofString "width"), c_width)]) (hef : env.frame = some L) (hA : AOk A 89)
    (hY : YOk ys) (hyv : VL isI ys ts) (hdv : VL isI (drOf ys) dv) (hrv : VL isI (numOf ys) rv)
    (S : St g z s ((L, .ns [((Str.ofString "script"), some (.ref sl)), ((Str.ofString "sums"), some (.ref ysl)), ((Str.ofString "drawn"), some (.ref dl)), ((Str.ofString "numbers"), some (.ref nl)), ((Str.ofString "tape"), some (.ref tl)), ((Str.ofString "read"), some (.ref rl)), ((Str.ofString "rows"), none), ((Str.ofString "table"), none), ((Str.ofString "terms"), none), ((Str.ofString "stay"), none), ((Str.ofString "words"), none), ((Str.ofString "bits"), none), ((Str.ofString "due"), none), ((Str.ofString "sign"), none), ((Str.ofString "flip"), none), ((Str.ofString "shade"), none), ((Str.ofString "most"), none), ((Str.ofString "parts"), none), ((Str.ofString "rest"), none)]) :: (rl, .lst rv) :: (nl, .lst nv) :: (dl, .lst dv) :: (ysl, .lst ts) :: (c_standing, .cel none) :: (c_plain, .cel none) :: (c_values, .cel none) :: (c_reader, .cel cr) :: (c_one, .cel none) :: (c_width, .cel (some (.int (wdOf ys) tw))) :: tb))
    (h : ∀ s x dx ro tk tml stl us tmv tp tb co, TabS tb → TupR isSS tp (rowsOf ((tmOf ys).map gtOf)) us → VL isI (tmOf ys) tmv →
      St g z s ((L, .ns [((Str.ofString "script"), some (.ref sl)), ((Str.ofString "sums"), some (.ref ysl)), ((Str.ofString "drawn"), some (.ref dl)), ((Str.ofString "numbers"), some (.ref nl)), ((Str.ofString "tape"), some (.ref tl)), ((Str.ofString "read"), some (.ref rl)), ((Str.ofString "rows"), some (.ref ro)), ((Str.ofString "table"), some (.ref x)), ((Str.ofString "terms"), some (.ref tml)), ((Str.ofString "stay"), stl), ((Str.ofString "words"), none), ((Str.ofString "bits"), none), ((Str.ofString "due"), none), ((Str.ofString "sign"), none), ((Str.ofString "flip"), none), ((Str.ofString "shade"), none), ((Str.ofString "most"), none), ((Str.ofString "parts"), none), ((Str.ofString "rest"), none)]) :: (x, .raw (instObj 270 dx)) :: (dx, .raw (dictOf (hdE w.params tk ro) 1)) :: (ro, .lst us) :: (tml, .lst tmv) :: (ysl, .lst ts) :: (c_standing, .cel none) :: (c_plain, .cel none) :: (c_values, .cel none) :: (c_reader, .cel cr) :: (c_one, .cel co) :: (c_width, .cel (some (.int (wdOf ys) tw))) :: (tp ++ tb)) →
      wpAny (model prog w) A (execs (lawSeg w.params 14) env) Q E s) : wpAny (model prog w) A (execs (lawSeg w.params 8) env) Q E s := by
  unfold lawSeg
  rw [k337 w.params]
  dsimp only [bodyOf, fnOf, tailN, List.tail]
  ktd_said "m.go"
  refine mk_headers (ow' := []) G (by ktd_said "m.st") (hA.mono (by decide)) (fun x dx tk s1 S1 => ?_)
  ktd_said "m.go"
  rename_i s2 S2
  try replace S2 := Se.st S2
  have S3 : ∃ ro, St g z s2 ([(L, .ns [((Str.ofString "script"), some (.ref sl)), ((Str.ofString "sums"), some (.ref ysl)), ((Str.ofString "drawn"), some (.ref dl)), ((Str.ofString "numbers"), some (.ref nl)), ((Str.ofString "tape"), some (.ref tl)), ((Str.ofString "read"), some (.ref rl)), ((Str.ofString "rows"), some (.ref ro)), ((Str.ofString "table"), some (.ref x)), ((Str.ofString "terms"), none), ((Str.ofString "stay"), none), ((Str.ofString "words"), none), ((Str.ofString "bits"), none), ((Str.ofString "due"), none), ((Str.ofString "sign"), none), ((Str.ofString "flip"), none), ((Str.ofString "shade"), none), ((Str.ofString "most"), none), ((Str.ofString "parts"), none), ((Str.ofString "rest"), none)]), (nl, .lst nv), (dl, .lst dv), (ysl, .lst ts), (c_standing, .cel none), (c_plain, .cel none), (c_values, .cel none), (c_reader, .cel cr), (c_one, .cel none), (c_width, .cel (some (.int (wdOf ys) tw)))] ++ ([(rl, .lst rv), (x, .raw (instObj 270 dx)), (dx, .raw (dictOf (hdE w.params tk ro) 1)), (ro, .lst [])] ++ tb)) := ⟨_, St.keep S2 (by (try dsimp only [List.cons_append, List.nil_append]); ktd_said "m.keep")⟩
  obtain ⟨ro, S3⟩ := S3
  clear S1 S2 S
  obtain ⟨hw1, hw2⟩ := wd_ok ys
  have hgts : ∀ p ∈ (drOf ys).map gtOf, GtOk p := fun p hp => by
    obtain ⟨o, ho, rfl⟩ := List.mem_map.mp hp
    obtain ⟨h0, h1⟩ := dr_ok ys o ho
    exact gt_ok h0 h1
  have hdrl : (drOf ys).length = 5 := by rw [drOf, List.length_map]; exact hY.1
  refine (gather_con (tk := tk) (l := ro) hw1 hw2 hgts (by rw [List.length_map, hdrl]; decide) (by rw [← num_gts]; exact hrv) tb T).useR _ G S3 (hA.mono (by decide)) (fun v s4 us4 hv4 S4 => ?_)
  clear S3
  obtain ⟨new, tb4, rfl, T4, rfl, us, tp, hT, rfl⟩ := hv4
  rw [← tm_gts] at hT
  dsimp only [List.cons_append, List.nil_append] at S4
  have hdl := hdv.len
  rw [hdrl] at hdl
  have hdo := dr_ok ys
  ktd_said "m.go"
  rename_i tm0 J s5 S5
  try replace S5 := Se.st S5
  refine loop_ind (P := fun i s => ∃ tml tmv sto co, VL isI (((drOf ys).take i).foldl toggD []) tmv ∧ TmOk (((drOf ys).take i).foldl toggD []) ∧ (((drOf ys).take i).foldl toggD []).length ≤ i ∧ St g z s ((L, .ns [((Str.ofString "script"), some (.ref sl)), ((Str.ofString "sums"), some (.ref ysl)), ((Str.ofString "drawn"), some (.ref dl)), ((Str.ofString "numbers"), some (.ref nl)), ((Str.ofString "tape"), some (.ref tl)), ((Str.ofString "read"), some (.ref rl)), ((Str.ofString "rows"), some (.ref ro)), ((Str.ofString "table"), some (.ref x)), ((Str.ofString "terms"), some (.ref tml)), ((Str.ofString "stay"), sto), ((Str.ofString "words"), none), ((Str.ofString "bits"), none), ((Str.ofString "due"), none), ((Str.ofString "sign"), none), ((Str.ofString "flip"), none), ((Str.ofString "shade"), none), ((Str.ofString "most"), none), ((Str.ofString "parts"), none), ((Str.ofString "rest"), none)]) :: (J, .lit dl i) :: (tml, .lst tmv) :: (x, .raw (instObj 270 dx)) :: (dx, .raw (dictOf (hdE w.params tk ro) 1)) :: (ro, .lst us) :: (dl, .lst dv) :: (ysl, .lst ts) :: (c_standing, .cel none) :: (c_plain, .cel none) :: (c_values, .cel none) :: (c_reader, .cel cr) :: (c_one, .cel co) :: (c_width, .cel (some (.int (wdOf ys) tw))) :: (tp ++ tb4))) 5 ?_ ?_ _ (exI4_4 _ _ _ _ .nil .nil (Nat.le_refl _) (St.keep S5 (by ktd_said "m.keep")))
  · intro i hi ih s hP
    refine exE4_4 hP (fun tml tmv sto co S htm hok htl => ?_)
    clear hP
    refine for_turn ?_
    have gi : (drOf ys)[i]? = some (drOf ys)[i] := List.getElem?_eq_getElem (by omega)
    have hstep : ((drOf ys).take (i + 1)).foldl toggD [] = toggD (((drOf ys).take i).foldl toggD []) (drOf ys)[i] := by
      rw [List.take_add_one, gi, List.foldl_append]; rfl
    rw [hstep] at ih
    obtain ⟨o0, o1⟩ := hdo _ (List.getElem_mem (by omega : i < (drOf ys).length))
    generalize (drOf ys)[i] = o at *
    generalize ((drOf ys).take i).foldl toggD [] = tms at *
    obtain ⟨hok2, htl2⟩ := hok.step o0 o1
    obtain ⟨_, hi', ⟨to, rfl⟩⟩ := hdv.get gi
    have html := htm.len
    refine nx_lstN (by ktd_said "m.st") (by ktd_said "m.s") (St.isL (by ktd_said "m.st") (by ktd_said "m.h")) hi' (fun _ _ h => forN_some h) (fun _ _ => ?_)
    ktd_said "m.go"
    refine' x_asgC (cl := [((Str.ofString "one"), c_one)]) ?e1 ?hy1 ?hcl1 ?hk1 ?hn1 ?hp1 ?hno1 ?body1 ?hs1
    case e1 => assumption
    case hy1 => ktd_said "m.h"
    case hp1 => rfl
    case hno1 => kernel_rfl
    case hcl1 => kernel_rfl
    case hk1 => rfl
    case hn1 => kernel_rfl
    case hs1 => intro _; rfl
    ktd_said "m.go"
    rename_i K s6 S6
    try replace S6 := Se.st S6
    refine' comp_goU (nm' := [((Str.ofString ".0"), .local), ((Str.ofString "term"), .local), ((Str.ofString "one"), .cell)]) (m := [((Str.ofString ".0"), none), ((Str.ofString "term"), none)]) (ks := [(Str.ofString "one")]) ?e2 ?S ?hnm2 ?hnd2 ?hok2 ?hk2 ?hc2 ?hks2 ?hn2 ?hm2 ?body2
    case e2 => assumption
    case S => ktd_said "m.st"
    case hnm2 => kernel_rfl
    case hnd2 => decide +kernel
    case hok2 => decide +kernel
    case hk2 => rfl
    case hc2 => kernel_rfl
    case hks2 => kernel_rfl
    case hn2 => decide +kernel
    case hm2 => kernel_rfl
    intro C D cenv s ceo S
    refine absR ?_
    intro RR hRR
    clear S6
    refine comp_start rfl ?_ (fun A' => it_listiter (by ktd_said "m.st") (by ktd_said "m.h") ⟨rfl, rfl⟩)
    refine loop_ind (P := fun j s => ∃ te sv, VL isI ((tms.take j).filter fun t => t.fmod 32 != o.fmod 32) sv ∧ sv.length ≤ j ∧ St g z s ((C, .ns [((Str.ofString ".0"), none), ((Str.ofString "term"), te)]) :: (D, .lst sv) :: (L, .ns [((Str.ofString "script"), some (.ref sl)), ((Str.ofString "sums"), some (.ref ysl)), ((Str.ofString "drawn"), some (.ref dl)), ((Str.ofString "numbers"), some (.ref nl)), ((Str.ofString "tape"), some (.ref tl)), ((Str.ofString "read"), some (.ref rl)), ((Str.ofString "rows"), some (.ref ro)), ((Str.ofString "table"), some (.ref x)), ((Str.ofString "terms"), some (.ref tml)), ((Str.ofString "stay"), sto), ((Str.ofString "words"), none), ((Str.ofString "bits"), none), ((Str.ofString "due"), none), ((Str.ofString "sign"), none), ((Str.ofString "flip"), none), ((Str.ofString "shade"), none), ((Str.ofString "most"), none), ((Str.ofString "parts"), none), ((Str.ofString "rest"), none)]) :: (K, .lit tml j) :: (J, .lit dl (i + 1)) :: (tml, .lst tmv) :: (x, .raw (instObj 270 dx)) :: (dx, .raw (dictOf (hdE w.params tk ro) 1)) :: (ro, .lst us) :: (dl, .lst dv) :: (ysl, .lst ts) :: (c_standing, .cel none) :: (c_plain, .cel none) :: (c_values, .cel none) :: (c_reader, .cel cr) :: (c_one, .cel (some (.int o to))) :: (c_width, .cel (some (.int (wdOf ys) tw))) :: (tp ++ tb4))) tms.length ?_ ?_ _ (exI2_3 _ _ .nil (Nat.le_refl _) S)
    · intro j hj jh s hP
      refine exE2_3 hP (fun te sv S hs hsl => ?_)
      clear hP
      refine comp1 ?_
      have gj : tms[j]? = some tms[j] := List.getElem?_eq_getElem hj
      obtain ⟨x0, x1⟩ := hok.rng _ (List.getElem_mem hj)
      generalize tms[j] = y at gj x0 x1
      obtain ⟨_, hj', ⟨ty, rfl⟩⟩ := htm.get gj
      have hst2 : (tms.take (j + 1)).filter (fun t => t.fmod 32 != o.fmod 32) = (tms.take j).filter (fun t => t.fmod 32 != o.fmod 32) ++ [y].filter (fun t => t.fmod 32 != o.fmod 32) := by
        rw [List.take_add_one, gj, List.filter_append]; rfl
      refine nx_lstN (by ktd_said "m.st") (by ktd_said "m.s") (St.isL (by ktd_said "m.st") (by ktd_said "m.h")) hj' (fun _ _ h => n1_some h) (fun _ _ => ?_)
      ktd_said "m.go"
      by_cases hb : (y.fmod 32 != o.fmod 32) = true
      · refine if_t hb ?_
        ktd_said "m.go"
        refine compA_go (by ktd_said "m.st") (by ktd_said "m.s") (szl (by omega)) (fun s7 S7 => ?_)
        refine jh _ (exI2_3 _ _ ?_ ?_ (St.keep S7 (by ktd_said "m.keep")))
        · rw [hst2, show [y].filter (fun t => t.fmod 32 != o.fmod 32) = [y] from by rw [List.filter_cons, if_pos hb]; rfl]
          exact hs.snoc .mk
        · rw [List.length_append]; simp only [List.length_cons, List.length_nil]; omega
      · refine if_f hb ?_
        refine jh _ (exI2_3 _ _ ?_ (Nat.le_succ_of_le hsl) (St.keep (by ktd_said "m.st") (by ktd_said "m.keep")))
        rw [hst2, show [y].filter (fun t => t.fmod 32 != o.fmod 32) = [] from by rw [List.filter_cons, if_neg hb]; rfl, List.append_nil]
        exact hs
    · intro s hP
      refine exE2_3 hP (fun te sv S hs hsl => ?_)
      clear hP
      refine comp1 ?_
      refine nx_listEnd (AOk.handled (by with_reducible assumption)) (by ktd_said "m.st") (by ktd_said "m.p") (St.isL (by ktd_said "m.st") (by ktd_said "m.h")) (List.getElem?_eq_none (by omega)) (fun s8 S8 => n1_none ?_)
      rw [List.take_length] at hs
      refine leafR (by with_reducible assumption) (comp_endU (by ktd_said "m.st") (by ktd_said "m.p") (by ktd_said "m.st") (by ktd_said "m.h") (by ktd_said "m.s") (fun s9 S9 => ?_))
      clear S
      have hsvl := hs.len
      have hfl := List.length_filter_le (fun t : Int => t.fmod 32 != o.fmod 32) tms
      have ho : toggD tms o = if (tms.filter fun t => t.fmod 32 != o.fmod 32).length = tms.length then (tms.filter fun t => t.fmod 32 != o.fmod 32) ++ [o] else tms.filter fun t => t.fmod 32 != o.fmod 32 := rfl
      rw [ho] at ih hok2 htl2
      generalize tms.filter (fun t => t.fmod 32 != o.fmod 32) = st at *
      have l1 : sv.length ≤ 1000 := by omega
      have l2 : tmv.length ≤ 1000 := by omega
      have l3 : ∀ q : Value, sv.length + [q].length ≤ 1000 := fun q => by simp only [List.length_cons, List.length_nil]; omega
      ktd_said "m.go"
      by_cases hb : st.length = tms.length
      · rw [if_pos hb] at ih hok2 htl2
        refine if_t (by rw [beq_iff_eq]; omega) ?_
        ktd_said "m.go"
        refine o_addList (by ktd_said "m.st") (by ktd_said "m.h") (by ktd_said "m.h") (l3 _) (fun a s10 S10 => ?_)
        ktd_said "m.go"
        refine ih _ (exI4_4 _ _ _ _ (hs.snoc .mk) hok2 (by omega) (St.keep (by ktd_said "m.st") (by ktd_said "m.keep")))
      · rw [if_neg hb] at ih hok2 htl2
        refine if_f (by rw [beq_iff_eq]; omega) ?_
        ktd_said "m.go"
        exact ih _ (exI4_4 _ _ _ _ hs hok2 (by omega) (St.keep (by ktd_said "m.st") (by ktd_said "m.keep")))
  · intro s hP
    refine exE4_4 hP (fun tml tmv sto co S htm hok htl => ?_)
    clear hP
    refine for_turn ?_
    refine nx_listEnd (AOk.handled (by with_reducible assumption)) (by ktd_said "m.st") (by ktd_said "m.p") (St.isL (by ktd_said "m.st") (by ktd_said "m.h")) (List.getElem?_eq_none (by omega)) (fun s11 S11 => forN_none ?_)
    rw [List.take_of_length_le (by omega)] at htm hok htl
    replace htm : VL isI (tmOf ys) tmv := htm
    replace hok : TmOk (tmOf ys) := hok
    have html := htm.len
    replace htl : (tmOf ys).length ≤ 5 := htl
    clear S S4 S5
    ktd_said "m.go"
    refine' r_comp (cl := []) ?e3 ?hcl3 ?hk3 ?hn3 ?body3 ?hs3
    case e3 => assumption
    case hcl3 => kernel_rfl
    case hk3 => rfl
    case hn3 => kernel_rfl
    case hs3 => intro _; rfl
    ktd_said "m.go"
    rename_i J2 s12 S12
    try replace S12 := Se.st S12
    refine' comp_go0 (nm' := [((Str.ofString ".0"), .local), ((Str.ofString "one"), .local), ((Str.ofString "pair"), .local), ((Str.ofString "_law_pairs"), .globalImplicit)]) (m := [((Str.ofString ".0"), none), ((Str.ofString "one"), none), ((Str.ofString "pair"), none)]) (ks := []) ?e4 ?S ?hnm4 ?hnd4 ?hok4 ?hk4 ?hc4 ?hks4 ?hn4 ?hm4 ?body4
    case e4 => assumption
    case S => ktd_said "m.st"
    case hnm4 => kernel_rfl
    case hnd4 => decide +kernel
    case hok4 => decide +kernel
    case hk4 => rfl
    case hc4 => kernel_rfl
    case hks4 => kernel_rfl
    case hn4 => decide +kernel
    case hm4 => kernel_rfl
    intro C D cenv s ceo S
    refine absR ?_
    intro RR hRR
    clear S12
    refine comp_start rfl ?_ (fun A' => it_listiter (by ktd_said "m.st") (by ktd_said "m.h") ⟨rfl, rfl⟩)
    refine loop_ind (P := fun i s => ∃ o1 pr dv2 tq, TupR isSS tq (rowsOf (((tmOf ys).take i).map gtOf)) dv2 ∧ dv2.length ≤ 2 * i ∧ St g z s ((C, .ns [((Str.ofString ".0"), none), ((Str.ofString "one"), o1), ((Str.ofString "pair"), pr)]) :: (D, .lst dv2) :: (L, .ns [((Str.ofString "script"), some (.ref sl)), ((Str.ofString "sums"), some (.ref ysl)), ((Str.ofString "drawn"), some (.ref dl)), ((Str.ofString "numbers"), some (.ref nl)), ((Str.ofString "tape"), some (.ref tl)), ((Str.ofString "read"), some (.ref rl)), ((Str.ofString "rows"), some (.ref ro)), ((Str.ofString "table"), some (.ref x)), ((Str.ofString "terms"), some (.ref tml)), ((Str.ofString "stay"), sto), ((Str.ofString "words"), none), ((Str.ofString "bits"), none), ((Str.ofString "due"), none), ((Str.ofString "sign"), none), ((Str.ofString "flip"), none), ((Str.ofString "shade"), none), ((Str.ofString "most"), none), ((Str.ofString "parts"), none), ((Str.ofString "rest"), none)]) :: (J2, .lit tml i) :: (tml, .lst tmv) :: (x, .raw (instObj 270 dx)) :: (dx, .raw (dictOf (hdE w.params tk ro) 1)) :: (ro, .lst us) :: (ysl, .lst ts) :: (c_standing, .cel none) :: (c_plain, .cel none) :: (c_values, .cel none) :: (c_reader, .cel cr) :: (c_one, .cel co) :: (c_width, .cel (some (.int (wdOf ys) tw))) :: (tq ++ (tp ++ tb4)))) (tmOf ys).length ?_ ?_ _ (exI4_3 _ _ _ [] .nil (Nat.le_refl _) (by rw [List.nil_append]; exact St.keep S (by ktd_said "m.keep")))
    · intro i hi ih s hP
      refine exE4_3 hP (fun o1 pr dv2 tq S hq hql => ?_)
      clear hP
      refine comp2o ?_ (by intro _; rfl) (AOk.handled (by with_reducible assumption))
      have gi : (tmOf ys)[i]? = some (tmOf ys)[i] := List.getElem?_eq_getElem hi
      obtain ⟨o0, o1'⟩ := hok.rng _ (List.getElem_mem hi)
      generalize (tmOf ys)[i] = o at gi o0 o1'
      obtain ⟨_, hi', ⟨to, rfl⟩⟩ := htm.get gi
      have po : Builtin.divisionGoesByPylong o 32 = false := nopyl (by omega)
      refine nx_lstN (by ktd_said "m.st") (by ktd_said "m.s") (St.isL (by ktd_said "m.st") (by ktd_said "m.h")) hi' (fun _ _ h => n2_some h) (fun _ _ => ?_)
      ktd_said "m.go"
      refine (pairs_con (o.fmod 32) (o.fdiv 32) _ _).use0 G (by ktd_said "m.st") (hA.mono (by decide)) (fun v s13 us13 hv13 S13 => ?_)
      obtain ⟨pl, pa, pb, q1, q2, q3, q4, rfl, rfl⟩ := hv13
      dsimp only [List.cons_append, List.nil_append] at S13
      ktd_said "m.go"
      refine comp_start rfl ?_ (fun A' => it_listiter (by ktd_said "m.st") (by ktd_said "m.h") ⟨rfl, rfl⟩)
      refine comp2i ?_
      refine nx_lstN (by ktd_said "m.st") (by ktd_said "m.s") (St.isL (by ktd_said "m.st") (by ktd_said "m.h")) rfl (fun _ _ h => n0_some h) (fun _ _ => ?_)
      ktd_said "m.go"
      refine compA_go (by ktd_said "m.st") (by ktd_said "m.s") (szl (by omega)) (fun _ _ => ?_)
      refine comp2i ?_
      refine nx_lstN (by ktd_said "m.st") (by ktd_said "m.s") (St.isL (by ktd_said "m.st") (by ktd_said "m.h")) rfl (fun _ _ h => n0_some h) (fun _ _ => ?_)
      ktd_said "m.go"
      refine compA_go (by ktd_said "m.st") (by ktd_said "m.s") (szl (by rw [List.length_append]; simp only [List.length_cons, List.length_nil]; omega)) (fun _ _ => ?_)
      refine comp2i ?_
      refine nx_listEnd (AOk.handled (by with_reducible assumption)) (by ktd_said "m.st") (by ktd_said "m.p") (St.isL (by ktd_said "m.st") (by ktd_said "m.h")) rfl (fun s14 S14 => n0_none ?_)
      have S15 : ∃ o1 pr, St g z s14 ((C, .ns [((Str.ofString ".0"), none), ((Str.ofString "one"), o1), ((Str.ofString "pair"), pr)]) :: (pa, .tup [.str (nameOf (o.fmod 32) (o.fdiv 32)) q1, .str (valueOf (o.fmod 32)) q2]) :: (pb, .tup [.str (nameOf (o.fmod 32) (Builtin.bitNot (o.fdiv 32))) q3, .str (nameOf (o.fmod 32) 0) q4]) :: (D, .lst ((dv2 ++ [.ref pa]) ++ [.ref pb])) :: (L, .ns [((Str.ofString "script"), some (.ref sl)), ((Str.ofString "sums"), some (.ref ysl)), ((Str.ofString "drawn"), some (.ref dl)), ((Str.ofString "numbers"), some (.ref nl)), ((Str.ofString "tape"), some (.ref tl)), ((Str.ofString "read"), some (.ref rl)), ((Str.ofString "rows"), some (.ref ro)), ((Str.ofString "table"), some (.ref x)), ((Str.ofString "terms"), some (.ref tml)), ((Str.ofString "stay"), sto), ((Str.ofString "words"), none), ((Str.ofString "bits"), none), ((Str.ofString "due"), none), ((Str.ofString "sign"), none), ((Str.ofString "flip"), none), ((Str.ofString "shade"), none), ((Str.ofString "most"), none), ((Str.ofString "parts"), none), ((Str.ofString "rest"), none)]) :: (J2, .lit tml (i + 1)) :: (tml, .lst tmv) :: (x, .raw (instObj 270 dx)) :: (dx, .raw (dictOf (hdE w.params tk ro) 1)) :: (ro, .lst us) :: (ysl, .lst ts) :: (c_standing, .cel none) :: (c_plain, .cel none) :: (c_values, .cel none) :: (c_reader, .cel cr) :: (c_one, .cel co) :: (c_width, .cel (some (.int (wdOf ys) tw))) :: (tq ++ (tp ++ tb4))) := ⟨_, _, St.keep S14 (by ktd_said "m.keep")⟩
      obtain ⟨o1, pr, S15⟩ := S15
      have S16 := S15.perm (perm_mv _ _ [_, _, _, _, _, _, _, _, _, _, _, _, _, _, _] tq (tp ++ tb4))
      have S17 := S16.perm (perm_mv _ _ [_, _, _, _, _, _, _, _, _, _, _, _, _, _] (tq ++ [_]) (tp ++ tb4))
      refine ih _ (exI4_3 _ _ _ _ ?_ ?_ S17)
      · have e : rowsOf (((tmOf ys).take (i + 1)).map gtOf) = (rowsOf (((tmOf ys).take i).map gtOf) ++ [(nameOf (o.fmod 32) (o.fdiv 32), valueOf (o.fmod 32))]) ++ [(nameOf (o.fmod 32) (Builtin.bitNot (o.fdiv 32)), nameOf (o.fmod 32) 0)] := by
          rw [List.take_add_one, gi, List.map_append]
          unfold rowsOf
          rw [List.flatMap_append]
          show _ ++ pair2 (gtOf o) = _
          rw [List.append_assoc]; rfl
        rw [e]
        have h1 := hq.snoc (x := (nameOf (o.fmod 32) (o.fdiv 32), valueOf (o.fmod 32))) (T := pa) (a := .str (nameOf (o.fmod 32) (o.fdiv 32)) q1) (b := .str (valueOf (o.fmod 32)) q2) ⟨.mk, .mk⟩
        exact h1.snoc (x := (nameOf (o.fmod 32) (Builtin.bitNot (o.fdiv 32)), nameOf (o.fmod 32) 0)) (T := pb) (a := .str (nameOf (o.fmod 32) (Builtin.bitNot (o.fdiv 32))) q3) (b := .str (nameOf (o.fmod 32) 0) q4) ⟨.mk, .mk⟩
      · rw [List.length_append, List.length_append]; simp only [List.length_cons, List.length_nil]; omega
    · intro s hP
      refine exE4_3 hP (fun o1 pr dv2 tq S hq hql => ?_)
      clear hP
      refine comp2o ?_ (by intro _; rfl) (AOk.handled (by with_reducible assumption))
      refine nx_listEnd (AOk.handled (by with_reducible assumption)) (by ktd_said "m.st") (by ktd_said "m.p") (St.isL (by ktd_said "m.st") (by ktd_said "m.h")) (List.getElem?_eq_none (by omega)) (fun s18 S18 => n2_none ?_)
      rw [List.take_length] at hq
      refine leafR (by with_reducible assumption) (comp_end (fr := (L, .ns _)) (by ktd_said "m.st") (by ktd_said "m.p") (fun s19 S19 => ?_))
      clear S S18
      refine c_neRows S19 (by ktd_said "m.h") hT (by intro T k h; repeat (first | exact Has.app h _ | exact Has.pre (Has.app h _) _ | apply Has.tl)) (by ktd_said "m.h") hq (by intro T k h; repeat (first | exact Has.app h _ | exact Has.pre (Has.app h _) _ | apply Has.tl)) (AOk.fits64 (by with_reducible assumption) (by decide)) rows_sOk rows_sOk ?_
      rw [decide_eq_true (rfl : rowsOf ((tmOf ys).map gtOf) = rowsOf ((tmOf ys).map gtOf))]
      refine tr_bool (if_f (by decide) ?_)
      have R := h s19 x dx ro tk tml sto us tmv tp tb4 co T4 hT htm (St.keep S19 (by ktd_said "m.keep"))
      unfold lawSeg at R
      rw [k337 w.params] at R
      dsimp only [bodyOf, fnOf, tailN, List.tail] at R
      exact x_nil (then_next R)

end TF20
section TF21
open PySem PySem.Spec PySem.Calls PyProof.Rows PySem.W
noncomputable def isV (v : Str) : Bool := (cutI v none (some 3)).cps.toList == (Str.ofString "...").cps.toList
noncomputable def valsOf (ys : List Int) : List Str := (rowsOf ((tmOf ys).map gtOf)).map (·.2)
theorem d_cut : (List.range 32).all (fun a => decide ((cutI (valueOf (a : Int)) none (some 3)).length ≤ 1000)) = true := by decide +kernel
theorem d_cut2 : words3 (fun l => decide ((cutI ⟨l.toArray⟩ none (some 3)).length ≤ 1000)) = true := by decide +kernel
theorem vals_ok {ys : List Int} {v : Str} (h : v ∈ valsOf ys) : v.length ≤ 100 ∧ (cutI v none (some 3)).length ≤ 1000 := by
  obtain ⟨p, hp, rfl⟩ := List.mem_map.mp h
  obtain ⟨t, g, e⟩ := rows_mem hp
  have h1 := (name_ok t 0).2
  have h2 := value_len t
  rcases e with rfl | rfl
  · have := val_all (P := fun x => decide ((cutI x none (some 3)).length ≤ 1000)) d_cut t
    exact ⟨by dsimp only; omega, by simpa using this⟩
  · have := words3_at d_cut2 t 0
    rw [← name_mk] at this
    exact ⟨by dsimp only; omega, by simpa using this⟩
theorem vals_len {ys : List Int} (h : YOk ys) : (valsOf ys).length ≤ 10 := by
  have := (tm_ok h).2
  rw [valsOf, List.length_map, rows_len, List.length_map]
  omega
local macro_rules | `(tactic| ktd_said "m.xtra") => said1 "gm_values a st h h _"
set_option pp.maxSteps 400
set_option maxHeartbeats 2000000
theorem segD {prog : Program} {w : World} {A : Around} {E : Value → Shared → Prop} {Q : Flow → Shared → Prop} {g : Heap} {z s : Shared} {tb : List (Addr × Kd)} {env : Env} {L c_standing c_plain c_values c_reader c_one c_width : Addr} {sl ysl dl nl tl rl ro x dx tml : Addr} {tk : Tok} {ys : List Int} {ts us tmv : List Value} {cr co cw sto : Option Value} {tp : List (Addr × Kd)} (G : Gd (Mine.hd.heap_1 w.params) g) (eo : EO env L (((Str.ofString "script"), .local) :: ((Str.ofString "sums"), .local) :: ((Str.ofString "width"), .cell) :: ((Str.ofString "one"), .cell) :: ((Str.ofString "drawn"), .local) :: ((Str.ofString "numbers"), .local) :: ((Str.ofString "tape"), .local) :: ((Str.ofString "reader"), .cell) :: ((Str.ofString "read"), .local) :: ((Str.ofString "rows"), .local) :: ((Str.ofString "table"), .local) :: ((Str.ofString "terms"), .local) :: ((Str.ofString "stay"), .local) :: ((Str.ofString "values"), .cell) :: ((Str.ofString "plain"), .cell) :: ((Str.ofString "words"), .local) :: ((Str.ofString "bits"), .local) :: ((Str.ofString "standing"), .cell) :: ((Str.ofString "due"), .local) :: ((Str.ofString "sign"), .local) :: ((Str.ofString "flip"), .local) :: ((Str.ofString "shade"), .local) :: ((Str.ofString "most"), .local) :: ((Str.ofString "parts"), .local) :: ((Str.ofString "rest"), .local) :: ((Str.ofString "_law_sums"), .globalImplicit) :: ((Str.ofString "zip"), .globalImplicit) :: ((Str.ofString "iter"), .globalImplicit) :: ((Str.ofString "_law_over"), .globalImplicit) :: ((Str.ofString "Headers"), .globalImplicit) :: ((Str.ofString "_law_gather"), .globalImplicit) :: ((Str.ofString "len"), .globalImplicit) :: ((Str.ofString "range"), .globalImplicit) :: ((Str.ofString "_digits2int"), .globalImplicit) :: ((Str.ofString "_law_halves"), .globalImplicit) :: ((Str.ofString "max"), .globalImplicit) :: ((Str.ofString "int_divmod"), .globalImplicit) :: ((Str.ofString "sum"), .globalImplicit) :: ((Str.ofString "_law_refused"), .globalImplicit) :: []) [((Str.ofString "standing"), c_standing), ((Str.ofString "plain"), c_plain), ((Str.ofString "values"), c_values), ((Str.ofString "reader"), c_reader), ((Str.ofString "one"), c_one), ((Str.ofString "width"), c_width)]) (hA : AOk A 89)
    (hY : YOk ys) (hT : TupR isSS tp (rowsOf ((tmOf ys).map gtOf)) us)
    (S : St g z s ((L, .ns [((Str.ofString "script"), some (.ref sl)), ((Str.ofString "sums"), some (.ref ysl)), ((Str.ofString "drawn"), some (.ref dl)), ((Str.ofString "numbers"), some (.ref nl)), ((Str.ofString "tape"), some (.ref tl)), ((Str.ofString "read"), some (.ref rl)), ((Str.ofString "rows"), some (.ref ro)), ((Str.ofString "table"), some (.ref x)), ((Str.ofString "terms"), some (.ref tml)), ((Str.ofString "stay"), sto), ((Str.ofString "words"), none), ((Str.ofString "bits"), none), ((Str.ofString "due"), none), ((Str.ofString "sign"), none), ((Str.ofString "flip"), none), ((Str.ofString "shade"), none), ((Str.ofString "most"), none), ((Str.ofString "parts"), none), ((Str.ofString "rest"), none)]) :: (x, .raw (instObj 270 dx)) :: (dx, .raw (dictOf (hdE w.params tk ro) 1)) :: (ro, .lst us) :: (tml, .lst tmv) :: (ysl, .lst ts) :: (c_standing, .cel none) :: (c_plain, .cel none) :: (c_values, .cel none) :: (c_reader, .cel cr) :: (c_one, .cel co) :: (c_width, .cel cw) :: (tp ++ tb)))
    (h : ∀ s vl pl vv pv, VL isS ((valsOf ys).filter isV) vv → VL isS ((valsOf ys).filter fun v => !isV v) pv →
      St g z s ((L, .ns [((Str.ofString "script"), some (.ref sl)), ((Str.ofString "sums"), some (.ref ysl)), ((Str.ofString "drawn"), some (.ref dl)), ((Str.ofString "numbers"), some (.ref nl)), ((Str.ofString "tape"), some (.ref tl)), ((Str.ofString "read"), some (.ref rl)), ((Str.ofString "rows"), some (.ref ro)), ((Str.ofString "table"), some (.ref x)), ((Str.ofString "terms"), some (.ref tml)), ((Str.ofString "stay"), sto), ((Str.ofString "words"), none), ((Str.ofString "bits"), none), ((Str.ofString "due"), none), ((Str.ofString "sign"), none), ((Str.ofString "flip"), none), ((Str.ofString "shade"), none), ((Str.ofString "most"), none), ((Str.ofString "parts"), none), ((Str.ofString "rest"), none)]) :: (vl, .lst vv) :: (pl, .lst pv) :: (x, .raw (instObj 270 dx)) :: (dx, .raw (dictOf (hdE w.params tk ro) 1)) :: (ro, .lst us) :: (tml, .lst tmv) :: (ysl, .lst ts) :: (c_standing, .cel none) :: (c_plain, .cel (some (.ref pl))) :: (c_values, .cel (some (.ref vl))) :: (c_reader, .cel cr) :: (c_one, .cel co) :: (c_width, .cel cw) :: (tp ++ tb)) →
      wpAny (model prog w) A (execs (lawSeg w.params 16) env) Q E s) : wpAny (model prog w) A (execs (lawSeg w.params 14) env) Q E s := by
  have hrok : RowsOk (rowsOf ((tmOf ys).map gtOf)) := rows_ok (by rw [List.length_map]; have := (tm_ok hY).2; omega)
  have hvl := vals_len hY
  unfold lawSeg
  rw [k337 w.params]
  dsimp only [bodyOf, fnOf, tailN, List.tail]
  refine x_assign ?_ (swaps_cel eo (by ktd_said "m.h"))
  refine' r_comp (cl := []) ?e1 ?hcl1 ?hk1 ?hn1 ?body1 ?hs1
  case e1 => assumption
  case hcl1 => kernel_rfl
  case hk1 => rfl
  case hn1 => kernel_rfl
  case hs1 => intro _; rfl
  ktd_said "m.go"
  rename_i sA SA1
  try replace SA1 := Se.st SA1
  have SA2 : St g z sA ([(L, .ns [((Str.ofString "script"), some (.ref sl)), ((Str.ofString "sums"), some (.ref ysl)), ((Str.ofString "drawn"), some (.ref dl)), ((Str.ofString "numbers"), some (.ref nl)), ((Str.ofString "tape"), some (.ref tl)), ((Str.ofString "read"), some (.ref rl)), ((Str.ofString "rows"), some (.ref ro)), ((Str.ofString "table"), some (.ref x)), ((Str.ofString "terms"), some (.ref tml)), ((Str.ofString "stay"), sto), ((Str.ofString "words"), none), ((Str.ofString "bits"), none), ((Str.ofString "due"), none), ((Str.ofString "sign"), none), ((Str.ofString "flip"), none), ((Str.ofString "shade"), none), ((Str.ofString "most"), none), ((Str.ofString "parts"), none), ((Str.ofString "rest"), none)]), (tml, .lst tmv), (ysl, .lst ts), (c_standing, .cel none), (c_plain, .cel none), (c_values, .cel none), (c_reader, .cel cr), (c_one, .cel co), (c_width, .cel cw)] ++ (((x, .raw (instObj 270 dx)) :: (dx, .raw (dictOf (hdE w.params tk ro) 1)) :: (ro, .lst us) :: tp) ++ tb))   := St.keep SA1 (by (try dsimp only [List.cons_append, List.nil_append]); ktd_said "m.keep")
  clear S SA1
  refine (values_con (tk := tk) hT hrok).useM _ _ G SA2 (hA.mono (by decide)) (fun v sB usB hvB SB => ?_)
  obtain ⟨vl0, ws, rfl, hws, rfl⟩ := hvB
  dsimp only [List.cons_append, List.nil_append] at SB
  clear SA2
  ktd_said "m.go"
  rename_i I6 sC SC
  try replace SC := Se.st SC
  refine' comp_go0 (nm' := [((Str.ofString ".0"), .local), ((Str.ofString "value"), .local)]) (m := [((Str.ofString ".0"), none), ((Str.ofString "value"), none)]) (ks := []) ?e2 ?S ?hnm2 ?hnd2 ?hok2 ?hk2 ?hc2 ?hks2 ?hn2 ?hm2 ?body2
  case e2 => assumption
  case S => ktd_said "m.st"
  case hnm2 => kernel_rfl
  case hnd2 => decide +kernel
  case hok2 => decide +kernel
  case hk2 => rfl
  case hc2 => kernel_rfl
  case hks2 => kernel_rfl
  case hn2 => decide +kernel
  case hm2 => kernel_rfl
  intro C D cenv s ceo S
  refine absR ?_
  intro RR hRR
  clear SB SC
  refine comp_start rfl ?_ (fun A' => it_listiter (by ktd_said "m.st") (by ktd_said "m.h") ⟨rfl, rfl⟩)
  replace hws : VL isS (valsOf ys) ws := hws
  have hwl := hws.len
  refine loop_ind (P := fun i s => ∃ vo uv, VL isS (((valsOf ys).take i).filter fun v => isV v) uv ∧ uv.length ≤ i ∧ St g z s ((C, .ns [((Str.ofString ".0"), none), ((Str.ofString "value"), vo)]) :: (D, .lst uv) :: (L, .ns [((Str.ofString "script"), some (.ref sl)), ((Str.ofString "sums"), some (.ref ysl)), ((Str.ofString "drawn"), some (.ref dl)), ((Str.ofString "numbers"), some (.ref nl)), ((Str.ofString "tape"), some (.ref tl)), ((Str.ofString "read"), some (.ref rl)), ((Str.ofString "rows"), some (.ref ro)), ((Str.ofString "table"), some (.ref x)), ((Str.ofString "terms"), some (.ref tml)), ((Str.ofString "stay"), sto), ((Str.ofString "words"), none), ((Str.ofString "bits"), none), ((Str.ofString "due"), none), ((Str.ofString "sign"), none), ((Str.ofString "flip"), none), ((Str.ofString "shade"), none), ((Str.ofString "most"), none), ((Str.ofString "parts"), none), ((Str.ofString "rest"), none)]) :: (I6, .lit vl0 i) :: (vl0, .lst ws) ::  (x, .raw (instObj 270 dx)) :: (dx, .raw (dictOf (hdE w.params tk ro) 1)) :: (ro, .lst us) :: (tml, .lst tmv) :: (ysl, .lst ts) :: (c_standing, .cel none) :: (c_plain, .cel none) :: (c_values, .cel none) :: (c_reader, .cel cr) :: (c_one, .cel co) :: (c_width, .cel cw) :: (tp ++ tb))) (valsOf ys).length ?_ ?_ _ (exI2_3 _ _ .nil (Nat.le_refl _) (St.keep S (by ktd_said "m.keep")))
  · intro i hi ih s hP
    refine exE2_3 hP (fun vo uv S hu hul => ?_)
    clear hP
    refine comp1 ?_
    have gi : (valsOf ys)[i]? = some (valsOf ys)[i] := List.getElem?_eq_getElem hi
    obtain ⟨l1, l2⟩ := vals_ok (List.getElem_mem hi)
    have l1' : (valsOf ys)[i].length ≤ 1000 := by omega
    generalize (valsOf ys)[i] = y at gi l1 l2 l1'
    obtain ⟨_, gi', ⟨ty, rfl⟩⟩ := hws.get gi
    have hst : ((valsOf ys).take (i + 1)).filter (fun v => isV v) = ((valsOf ys).take i).filter (fun v => isV v) ++ [y].filter (fun v => isV v) := by
      rw [List.take_add_one, gi, List.filter_append]; rfl
    refine nx_lstN (by ktd_said "m.st") (by ktd_said "m.s") (St.isL (by ktd_said "m.st") (by ktd_said "m.h")) gi' (fun _ _ h => n1_some h) (fun _ _ => ?_)
    ktd_said "m.gos"
    have hcnd : ((cutI y none (some 3)).cps.toList == (Str.ofString "...").cps.toList) = (fun v => isV v) y := rfl
    by_cases hb : (fun v => isV v) y = true
    · refine if_t (by rw [hcnd]; exact hb) ?_
      ktd_said "m.go"
      refine compA_go (by ktd_said "m.st") (by ktd_said "m.s") (szl (by omega)) (fun s7 S7 => ?_)
      refine ih _ (exI2_3 _ _ ?_ ?_ (St.keep S7 (by ktd_said "m.keep")))
      · rw [hst, show [y].filter (fun v => isV v) = [y] from by rw [List.filter_cons, if_pos hb]; rfl]
        exact hu.snoc .mk
      · rw [List.length_append]; simp only [List.length_cons, List.length_nil]; omega
    · refine if_f (by rw [hcnd]; exact hb) ?_
      refine ih _ (exI2_3 _ _ ?_ (Nat.le_succ_of_le hul) (St.keep (by ktd_said "m.st") (by ktd_said "m.keep")))
      rw [hst, show [y].filter (fun v => isV v) = [] from by rw [List.filter_cons, if_neg hb]; rfl, List.append_nil]
      exact hu
  · intro s hP
    refine exE2_3 hP (fun vo uv S hu hul => ?_)
    clear hP
    refine comp1 ?_
    refine nx_listEnd (AOk.handled (by with_reducible assumption)) (by ktd_said "m.st") (by ktd_said "m.p") (St.isL (by ktd_said "m.st") (by ktd_said "m.h")) (List.getElem?_eq_none (by omega)) (fun s8 S8 => n1_none ?_)
    rw [List.take_length] at hu
    refine leafR (by with_reducible assumption) (comp_end (fr := (L, .ns _)) (by ktd_said "m.st") (by ktd_said "m.p") (fun s9 S9 => ?_))
    clear S S8
    ktd_said "m.go0"
    rename_i s10 S10
    try replace S10 := Se.st S10
    obtain ⟨vl, hvl0⟩ : ∃ q, q = D := ⟨_, rfl⟩
    subst hvl0
    obtain ⟨vv, hvv0⟩ : ∃ q, q = uv := ⟨_, rfl⟩
    subst hvv0
    have hvv : VL isS ((valsOf ys).filter fun v => isV v) vv := hu
    clear hu hul hwl hws S9 vo
    refine x_assign ?_ (swaps_cel eo (by ktd_said "m.h"))
    refine' r_comp (cl := []) ?e3 ?hcl3 ?hk3 ?hn3 ?body3 ?hs3
    case e3 => assumption
    case hcl3 => kernel_rfl
    case hk3 => rfl
    case hn3 => kernel_rfl
    case hs3 => intro _; rfl
    ktd_said "m.go"
    rename_i sA SA1
    try replace SA1 := Se.st SA1
    have SA2 : St g z sA ([(L, .ns [((Str.ofString "script"), some (.ref sl)), ((Str.ofString "sums"), some (.ref ysl)), ((Str.ofString "drawn"), some (.ref dl)), ((Str.ofString "numbers"), some (.ref nl)), ((Str.ofString "tape"), some (.ref tl)), ((Str.ofString "read"), some (.ref rl)), ((Str.ofString "rows"), some (.ref ro)), ((Str.ofString "table"), some (.ref x)), ((Str.ofString "terms"), some (.ref tml)), ((Str.ofString "stay"), sto), ((Str.ofString "words"), none), ((Str.ofString "bits"), none), ((Str.ofString "due"), none), ((Str.ofString "sign"), none), ((Str.ofString "flip"), none), ((Str.ofString "shade"), none), ((Str.ofString "most"), none), ((Str.ofString "parts"), none), ((Str.ofString "rest"), none)]), (vl, .lst vv), (tml, .lst tmv), (ysl, .lst ts), (c_standing, .cel none), (c_plain, .cel none), (c_values, .cel (some (.ref vl))), (c_reader, .cel cr), (c_one, .cel co), (c_width, .cel cw)] ++ (((x, .raw (instObj 270 dx)) :: (dx, .raw (dictOf (hdE w.params tk ro) 1)) :: (ro, .lst us) :: tp) ++ tb))   := St.keep SA1 (by (try dsimp only [List.cons_append, List.nil_append]); ktd_said "m.keep")
    clear S10 SA1
    refine (values_con (tk := tk) hT hrok).useM _ _ G SA2 (hA.mono (by decide)) (fun v sB usB hvB SB => ?_)
    obtain ⟨vl0, ws, rfl, hws, rfl⟩ := hvB
    dsimp only [List.cons_append, List.nil_append] at SB
    clear SA2
    ktd_said "m.go"
    rename_i I7 sC SC
    try replace SC := Se.st SC
    refine' comp_go0 (nm' := [((Str.ofString ".0"), .local), ((Str.ofString "value"), .local)]) (m := [((Str.ofString ".0"), none), ((Str.ofString "value"), none)]) (ks := []) ?e4 ?S ?hnm4 ?hnd4 ?hok4 ?hk4 ?hc4 ?hks4 ?hn4 ?hm4 ?body4
    case e4 => assumption
    case S => ktd_said "m.st"
    case hnm4 => kernel_rfl
    case hnd4 => decide +kernel
    case hok4 => decide +kernel
    case hk4 => rfl
    case hc4 => kernel_rfl
    case hks4 => kernel_rfl
    case hn4 => decide +kernel
    case hm4 => kernel_rfl
    intro C D cenv s ceo S
    refine absR ?_
    intro RR hRR
    clear SB SC
    refine comp_start rfl ?_ (fun A' => it_listiter (by ktd_said "m.st") (by ktd_said "m.h") ⟨rfl, rfl⟩)
    replace hws : VL isS (valsOf ys) ws := hws
    have hwl := hws.len
    refine loop_ind (P := fun i s => ∃ vo uv, VL isS (((valsOf ys).take i).filter fun v => !isV v) uv ∧ uv.length ≤ i ∧ St g z s ((C, .ns [((Str.ofString ".0"), none), ((Str.ofString "value"), vo)]) :: (D, .lst uv) :: (L, .ns [((Str.ofString "script"), some (.ref sl)), ((Str.ofString "sums"), some (.ref ysl)), ((Str.ofString "drawn"), some (.ref dl)), ((Str.ofString "numbers"), some (.ref nl)), ((Str.ofString "tape"), some (.ref tl)), ((Str.ofString "read"), some (.ref rl)), ((Str.ofString "rows"), some (.ref ro)), ((Str.ofString "table"), some (.ref x)), ((Str.ofString "terms"), some (.ref tml)), ((Str.ofString "stay"), sto), ((Str.ofString "words"), none), ((Str.ofString "bits"), none), ((Str.ofString "due"), none), ((Str.ofString "sign"), none), ((Str.ofString "flip"), none), ((Str.ofString "shade"), none), ((Str.ofString "most"), none), ((Str.ofString "parts"), none), ((Str.ofString "rest"), none)]) :: (I7, .lit vl0 i) :: (vl0, .lst ws) :: (vl, .lst vv) :: (x, .raw (instObj 270 dx)) :: (dx, .raw (dictOf (hdE w.params tk ro) 1)) :: (ro, .lst us) :: (tml, .lst tmv) :: (ysl, .lst ts) :: (c_standing, .cel none) :: (c_plain, .cel none) :: (c_values, .cel (some (.ref vl))) :: (c_reader, .cel cr) :: (c_one, .cel co) :: (c_width, .cel cw) :: (tp ++ tb))) (valsOf ys).length ?_ ?_ _ (exI2_3 _ _ .nil (Nat.le_refl _) (St.keep S (by ktd_said "m.keep")))
    · intro i hi ih s hP
      refine exE2_3 hP (fun vo uv S hu hul => ?_)
      clear hP
      refine comp1 ?_
      have gi : (valsOf ys)[i]? = some (valsOf ys)[i] := List.getElem?_eq_getElem hi
      obtain ⟨l1, l2⟩ := vals_ok (List.getElem_mem hi)
      have l1' : (valsOf ys)[i].length ≤ 1000 := by omega
      generalize (valsOf ys)[i] = y at gi l1 l2 l1'
      obtain ⟨_, gi', ⟨ty, rfl⟩⟩ := hws.get gi
      have hst : ((valsOf ys).take (i + 1)).filter (fun v => !isV v) = ((valsOf ys).take i).filter (fun v => !isV v) ++ [y].filter (fun v => !isV v) := by
        rw [List.take_add_one, gi, List.filter_append]; rfl
      refine nx_lstN (by ktd_said "m.st") (by ktd_said "m.s") (St.isL (by ktd_said "m.st") (by ktd_said "m.h")) gi' (fun _ _ h => n1_some h) (fun _ _ => ?_)
      ktd_said "m.gos"
      have hcnd : ((cutI y none (some 3)).cps.toList != (Str.ofString "...").cps.toList) = (fun v => !isV v) y := rfl
      by_cases hb : (fun v => !isV v) y = true
      · refine if_t (by rw [hcnd]; exact hb) ?_
        ktd_said "m.go"
        refine compA_go (by ktd_said "m.st") (by ktd_said "m.s") (szl (by omega)) (fun s7 S7 => ?_)
        refine ih _ (exI2_3 _ _ ?_ ?_ (St.keep S7 (by ktd_said "m.keep")))
        · rw [hst, show [y].filter (fun v => !isV v) = [y] from by rw [List.filter_cons, if_pos hb]; rfl]
          exact hu.snoc .mk
        · rw [List.length_append]; simp only [List.length_cons, List.length_nil]; omega
      · refine if_f (by rw [hcnd]; exact hb) ?_
        refine ih _ (exI2_3 _ _ ?_ (Nat.le_succ_of_le hul) (St.keep (by ktd_said "m.st") (by ktd_said "m.keep")))
        rw [hst, show [y].filter (fun v => !isV v) = [] from by rw [List.filter_cons, if_neg hb]; rfl, List.append_nil]
        exact hu
    · intro s hP
      refine exE2_3 hP (fun vo uv S hu hul => ?_)
      clear hP
      refine comp1 ?_
      refine nx_listEnd (AOk.handled (by with_reducible assumption)) (by ktd_said "m.st") (by ktd_said "m.p") (St.isL (by ktd_said "m.st") (by ktd_said "m.h")) (List.getElem?_eq_none (by omega)) (fun s8 S8 => n1_none ?_)
      rw [List.take_length] at hu
      refine leafR (by with_reducible assumption) (comp_end (fr := (L, .ns _)) (by ktd_said "m.st") (by ktd_said "m.p") (fun s9 S9 => ?_))
      clear S S8
      ktd_said "m.go0"
      rename_i s11 S11
      try replace S11 := Se.st S11
      have R := h s11 vl D vv uv hvv hu (St.keep S11 (by ktd_said "m.keep"))
      unfold lawSeg at R
      rw [k337 w.params] at R
      dsimp only [bodyOf, fnOf, tailN, List.tail] at R
      exact R

end TF21
section TF22
open PySem PySem.Spec PySem.Calls PyProof.Rows PySem.W
/-- how many of some patterns take a word -/
noncomputable def cnt (vs : List Str) (wd : Str) : Nat := (vs.filter fun v => emFun v wd).length
noncomputable def wordsL : List Str := (List.range 32).map fun p : Nat => nameOf (p : Int) 0
noncomputable def bitsL (vs : List Str) : List Int := wordsL.map fun wd => ((cnt vs wd : Nat) : Int).fmod 2
theorem d_want : (List.range 32).all (fun a => wantOk (valueOf (a : Int)) && wantOk (nameOf (a : Int) 0)) = true := by decide +kernel
theorem vals_want {ys : List Int} {v : Str} (h : v ∈ valsOf ys) : wantOk v = true := by
  obtain ⟨p, hp, rfl⟩ := List.mem_map.mp h
  obtain ⟨t, g, e⟩ := rows_mem hp
  obtain ⟨a, ha, ea⟩ := mod32 t
  have := List.all_eq_true.mp d_want a (List.mem_range.mpr ha)
  rw [Bool.and_eq_true] at this
  rcases e with rfl | rfl
  · show wantOk (valueOf t) = true
    rw [← valueOf_mod, ea]; exact this.1
  · show wantOk (nameOf t 0) = true
    have e0 := name_mod t 0
    rw [show (0 : Int) % 32 = 0 from rfl, ea] at e0
    rw [← e0]; exact this.2
theorem words_len : wordsL.length = 32 := by rw [wordsL, List.length_map, List.length_range]
theorem words_ok {v : Str} (h : v ∈ wordsL) : v.length ≤ 100 := by
  obtain ⟨p, _, rfl⟩ := List.mem_map.mp h
  have := (name_ok (p : Int) 0).2
  omega
theorem ones_sum : ∀ n : Nat, (List.replicate n (1 : Int)).sum = n
  | 0 => rfl
  | n + 1 => by rw [List.replicate_succ, List.sum_cons, ones_sum n]; omega
set_option pp.maxSteps 400
set_option maxHeartbeats 2000000
theorem segE {prog : Program} {w : World} {A : Around} {E : Value → Shared → Prop} {Q : Flow → Shared → Prop} {g : Heap} {z s : Shared} {tb : List (Addr × Kd)} {env : Env} {L c_standing c_plain c_values c_reader c_one c_width : Addr} {sl ysl dl nl tl rl ro x dx tml vl pl : Addr} {tk : Tok} {ys : List Int} {ts us tmv vv pv : List Value} {cr co cw sto : Option Value} {vals : List Str} (G : Gd (Mine.hd.heap_1 w.params) g) (eo : EO env L (((Str.ofString "script"), .local) :: ((Str.ofString "sums"), .local) :: ((Str.ofString "width"), .cell) :: ((Str.ofString "one"), .cell) :: ((Str.ofString "drawn"), .local) :: ((Str.ofString "numbers"), .local) :: ((Str.ofString "tape"), .local) :: ((Str.ofString "reader"), .cell) :: ((Str.ofString "read"), .local) :: ((Str.ofString "rows"), .local) :: ((Str.ofString "table"), .local) :: ((Str.ofString "terms"), .local) :: ((Str.ofString "stay"), .local) :: ((Str.ofString "values"), .cell) :: ((Str.ofString "plain"), .cell) :: ((Str.ofString "words"), .local) :: ((Str.ofString "bits"), .local) :: ((Str.ofString "standing"), .cell) :: ((Str.ofString "due"), .local) :: ((Str.ofString "sign"), .local) :: ((Str.ofString "flip"), .local) :: ((Str.ofString "shade"), .local) :: ((Str.ofString "most"), .local) :: ((Str.ofString "parts"), .local) :: ((Str.ofString "rest"), .local) :: ((Str.ofString "_law_sums"), .globalImplicit) :: ((Str.ofString "zip"), .globalImplicit) :: ((Str.ofString "iter"), .globalImplicit) :: ((Str.ofString "_law_over"), .globalImplicit) :: ((Str.ofString "Headers"), .globalImplicit) :: ((Str.ofString "_law_gather"), .globalImplicit) :: ((Str.ofString "len"), .globalImplicit) :: ((Str.ofString "range"), .globalImplicit) :: ((Str.ofString "_digits2int"), .globalImplicit) :: ((Str.ofString "_law_halves"), .globalImplicit) :: ((Str.ofString "max"), .globalImplicit) :: ((Str.ofString "int_divmod"), .globalImplicit) :: ((Str.ofString "sum"), .globalImplicit) :: ((Str.ofString "_law_refused"), .globalImplicit) :: []) [((Str.ofString "standing"), c_standing), ((Str.ofString "plain"), c_plain), ((Str.ofString "values"), c_values), ((Str.ofString "reader"), c_reader), ((Str.ofString "one"), c_one), ((Str.ofString "width"), c_width)]) (hA : AOk A 89)
    (hvl : vals.length ≤ 100) (hwant : ∀ v ∈ vals, wantOk v = true) (hvv : VL isS vals vv)
    (S : St g z s ((L, .ns [((Str.ofString "script"), some (.ref sl)), ((Str.ofString "sums"), some (.ref ysl)), ((Str.ofString "drawn"), some (.ref dl)), ((Str.ofString "numbers"), some (.ref nl)), ((Str.ofString "tape"), some (.ref tl)), ((Str.ofString "read"), some (.ref rl)), ((Str.ofString "rows"), some (.ref ro)), ((Str.ofString "table"), some (.ref x)), ((Str.ofString "terms"), some (.ref tml)), ((Str.ofString "stay"), sto), ((Str.ofString "words"), none), ((Str.ofString "bits"), none), ((Str.ofString "due"), none), ((Str.ofString "sign"), none), ((Str.ofString "flip"), none), ((Str.ofString "shade"), none), ((Str.ofString "most"), none), ((Str.ofString "parts"), none), ((Str.ofString "rest"), none)]) :: (vl, .lst vv) :: (pl, .lst pv) :: (x, .raw (instObj 270 dx)) :: (dx, .raw (dictOf (hdE w.params tk ro) 1)) :: (ro, .lst us) :: (tml, .lst tmv) :: (ysl, .lst ts) :: (c_standing, .cel none) :: (c_plain, .cel (some (.ref pl))) :: (c_values, .cel (some (.ref vl))) :: (c_reader, .cel cr) :: (c_one, .cel co) :: (c_width, .cel cw) :: tb))
    (h : ∀ s wl wv bl bv, VL isS wordsL wv → VL isI (bitsL vals) bv →
      St g z s ((L, .ns [((Str.ofString "script"), some (.ref sl)), ((Str.ofString "sums"), some (.ref ysl)), ((Str.ofString "drawn"), some (.ref dl)), ((Str.ofString "numbers"), some (.ref nl)), ((Str.ofString "tape"), some (.ref tl)), ((Str.ofString "read"), some (.ref rl)), ((Str.ofString "rows"), some (.ref ro)), ((Str.ofString "table"), some (.ref x)), ((Str.ofString "terms"), some (.ref tml)), ((Str.ofString "stay"), sto), ((Str.ofString "words"), some (.ref wl)), ((Str.ofString "bits"), some (.ref bl)), ((Str.ofString "due"), none), ((Str.ofString "sign"), none), ((Str.ofString "flip"), none), ((Str.ofString "shade"), none), ((Str.ofString "most"), none), ((Str.ofString "parts"), none), ((Str.ofString "rest"), none)]) :: (bl, .lst bv) :: (wl, .lst wv) :: (vl, .lst vv) :: (pl, .lst pv) :: (x, .raw (instObj 270 dx)) :: (dx, .raw (dictOf (hdE w.params tk ro) 1)) :: (ro, .lst us) :: (tml, .lst tmv) :: (ysl, .lst ts) :: (c_standing, .cel none) :: (c_plain, .cel (some (.ref pl))) :: (c_values, .cel (some (.ref vl))) :: (c_reader, .cel cr) :: (c_one, .cel co) :: (c_width, .cel cw) :: tb) →
      wpAny (model prog w) A (execs (lawSeg w.params 18) env) Q E s) : wpAny (model prog w) A (execs (lawSeg w.params 16) env) Q E s := by
  unfold lawSeg
  rw [k337 w.params]
  dsimp only [bodyOf, fnOf, tailN, List.tail]
  refine' x_asgC (cl := []) ?e1 ?hy1 ?hcl1 ?hk1 ?hn1 ?hp1 ?hno1 ?body1 ?hs1
  case e1 => assumption
  case hy1 => ktd_said "m.h"
  case hp1 => rfl
  case hno1 => kernel_rfl
  case hcl1 => kernel_rfl
  case hk1 => rfl
  case hn1 => kernel_rfl
  case hs1 => intro _; rfl
  ktd_said "m.go"
  rename_i r0 s1 S1
  try replace S1 := Se.st S1
  refine it_rng S1 (by ktd_said "m.h") (by decide) (fun I s2 S2 => ?_)
  refine' comp_goU (nm' := [((Str.ofString ".0"), .local), ((Str.ofString "point"), .local), ((Str.ofString "_law_name"), .globalImplicit)]) (m := [((Str.ofString ".0"), none), ((Str.ofString "point"), none)]) (ks := []) ?e2 ?S ?hnm2 ?hnd2 ?hok2 ?hk2 ?hc2 ?hks2 ?hn2 ?hm2 ?body2
  case e2 => assumption
  case S => ktd_said "m.st"
  case hnm2 => kernel_rfl
  case hnd2 => decide +kernel
  case hok2 => decide +kernel
  case hk2 => rfl
  case hc2 => kernel_rfl
  case hks2 => kernel_rfl
  case hn2 => decide +kernel
  case hm2 => kernel_rfl
  intro C D cenv s ceo S
  refine absR ?_
  intro RR hRR
  clear S1 S2
  refine comp_start rfl ?_ (fun A' => it_riter (by ktd_said "m.st") (by ktd_said "m.h") ⟨rfl, rfl⟩)
  have e32 : Builtin.Range.rangeSize 0 32 1 = 32 - ((0 : Nat) : Int) := by decide
  rw [e32, show (0 : Int) = ((0 : Nat) : Int) from rfl] at S
  refine loop_ind (P := fun i s => ∃ po wv, VL isS (wordsL.take i) wv ∧ St g z s ((C, .ns [((Str.ofString ".0"), none), ((Str.ofString "point"), po)]) :: (D, .lst wv) :: (L, .ns [((Str.ofString "script"), some (.ref sl)), ((Str.ofString "sums"), some (.ref ysl)), ((Str.ofString "drawn"), some (.ref dl)), ((Str.ofString "numbers"), some (.ref nl)), ((Str.ofString "tape"), some (.ref tl)), ((Str.ofString "read"), some (.ref rl)), ((Str.ofString "rows"), some (.ref ro)), ((Str.ofString "table"), some (.ref x)), ((Str.ofString "terms"), some (.ref tml)), ((Str.ofString "stay"), sto), ((Str.ofString "words"), none), ((Str.ofString "bits"), none), ((Str.ofString "due"), none), ((Str.ofString "sign"), none), ((Str.ofString "flip"), none), ((Str.ofString "shade"), none), ((Str.ofString "most"), none), ((Str.ofString "parts"), none), ((Str.ofString "rest"), none)]) :: (I, .rit (i : Int) (32 - (i : Int)) 1) :: (vl, .lst vv) :: (pl, .lst pv) :: (x, .raw (instObj 270 dx)) :: (dx, .raw (dictOf (hdE w.params tk ro) 1)) :: (ro, .lst us) :: (tml, .lst tmv) :: (ysl, .lst ts) :: (c_standing, .cel none) :: (c_plain, .cel (some (.ref pl))) :: (c_values, .cel (some (.ref vl))) :: (c_reader, .cel cr) :: (c_one, .cel co) :: (c_width, .cel cw) :: tb)) 32 ?_ ?_ _ (exI2_2 _ _ .nil (St.keep S (by ktd_said "m.keep")))
  · intro i hi ih s hP
    refine exE2_2 hP (fun po wv S hw => ?_)
    clear hP
    refine comp0 ?_
    have gi : wordsL[i]? = some (nameOf (i : Int) 0) := by
      rw [wordsL, List.getElem?_map, List.getElem?_range hi]; rfl
    have hwl := hw.len
    rw [List.length_take, words_len] at hwl
    refine nx_rngN (by ktd_said "m.st") (by ktd_said "m.s") (by omega) (fun _ _ h => n0_some h) (fun tq s3 S3 => ?_)
    ktd_said "m.go"
    refine (name_con (i : Int) 0 _ _).useV G (by ktd_said "m.st") (hA.mono (by decide)) (fun v s4 hv S4 => ?_)
    obtain ⟨t4, rfl⟩ := hv
    refine compA_go (by ktd_said "m.st") (by ktd_said "m.s") (szl (by omega)) (fun s5 S5 => ?_)
    rw [show (i : Int) + 1 = ((i + 1 : Nat) : Int) from by omega, show 32 - (i : Int) - 1 = 32 - ((i + 1 : Nat) : Int) from by omega] at S5
    refine ih _ (exI2_2 _ _ ?_ (St.keep S5 (by ktd_said "m.keep")))
    rw [List.take_add_one, gi]
    exact hw.snoc .mk
  · intro s hP
    refine exE2_2 hP (fun po wv S hw => ?_)
    clear hP
    refine comp0 ?_
    refine nx_rngEnd (AOk.handled (by with_reducible assumption)) (by ktd_said "m.st") (by ktd_said "m.p") (by omega) (fun s6 S6 => n0_none ?_)
    rw [List.take_of_length_le (by rw [words_len]; decide)] at hw
    refine leafR (by with_reducible assumption) (comp_endU (by ktd_said "m.st") (by ktd_said "m.p") (by ktd_said "m.st") (by ktd_said "m.h") (by ktd_said "m.s") (fun s7 S7 => ?_))
    clear S S6
    obtain ⟨wl, hwl0⟩ : ∃ q, q = D := ⟨_, rfl⟩
    subst hwl0
    have hwl := hw.len
    rw [words_len] at hwl
    have hvvl := hvv.len
    refine' x_asgC (cl := [((Str.ofString "values"), c_values)]) ?e3 ?hy3 ?hcl3 ?hk3 ?hn3 ?hp3 ?hno3 ?body3 ?hs3
    case e3 => assumption
    case hy3 => ktd_said "m.h"
    case hp3 => rfl
    case hno3 => kernel_rfl
    case hcl3 => kernel_rfl
    case hk3 => rfl
    case hn3 => kernel_rfl
    case hs3 => intro _; rfl
    ktd_said "m.go"
    rename_i J s8 S8
    try replace S8 := Se.st S8
    refine' comp_goU1 (nm' := [((Str.ofString ".0"), .local), ((Str.ofString "word"), .cell), ((Str.ofString "sum"), .globalImplicit), ((Str.ofString "values"), .cell)]) (m := [((Str.ofString ".0"), none)]) (ks := [(Str.ofString "word"), (Str.ofString "values")]) (x := (Str.ofString "word")) ?e4 ?S ?hnm4 ?hnd4 ?hok4 ?hk4 ?hc4 ?hks4 ?hn4 ?hm4 ?body4
    case e4 => assumption
    case S => ktd_said "m.st"
    case hnm4 => kernel_rfl
    case hnd4 => decide +kernel
    case hok4 => decide +kernel
    case hk4 => rfl
    case hc4 => intro n; kernel_rfl
    case hks4 => kernel_rfl
    case hn4 => decide +kernel
    case hm4 => kernel_rfl
    intro C D c_word cenv s ceo S
    refine absR ?_
    intro RR hRR
    clear S8 S7
    refine comp_start rfl ?_ (fun A' => it_listiter (by ktd_said "m.st") (by ktd_said "m.h") ⟨rfl, rfl⟩)
    refine loop_ind (P := fun i s => ∃ cwd bv, VL isI ((wordsL.take i).map fun wd => ((cnt vals wd : Nat) : Int).fmod 2) bv ∧ St g z s ((C, .ns [((Str.ofString ".0"), none)]) :: (c_word, .cel cwd) :: (D, .lst bv) :: (L, .ns [((Str.ofString "script"), some (.ref sl)), ((Str.ofString "sums"), some (.ref ysl)), ((Str.ofString "drawn"), some (.ref dl)), ((Str.ofString "numbers"), some (.ref nl)), ((Str.ofString "tape"), some (.ref tl)), ((Str.ofString "read"), some (.ref rl)), ((Str.ofString "rows"), some (.ref ro)), ((Str.ofString "table"), some (.ref x)), ((Str.ofString "terms"), some (.ref tml)), ((Str.ofString "stay"), sto), ((Str.ofString "words"), some (.ref wl)), ((Str.ofString "bits"), none), ((Str.ofString "due"), none), ((Str.ofString "sign"), none), ((Str.ofString "flip"), none), ((Str.ofString "shade"), none), ((Str.ofString "most"), none), ((Str.ofString "parts"), none), ((Str.ofString "rest"), none)]) :: (J, .lit wl i) :: (wl, .lst wv) :: (vl, .lst vv) :: (pl, .lst pv) :: (x, .raw (instObj 270 dx)) :: (dx, .raw (dictOf (hdE w.params tk ro) 1)) :: (ro, .lst us) :: (tml, .lst tmv) :: (ysl, .lst ts) :: (c_standing, .cel none) :: (c_plain, .cel (some (.ref pl))) :: (c_values, .cel (some (.ref vl))) :: (c_reader, .cel cr) :: (c_one, .cel co) :: (c_width, .cel cw) :: tb)) 32 ?_ ?_ _ (exI2_2 _ _ .nil (St.keep S (by ktd_said "m.keep")))
    · intro i hi ih s hP
      refine exE2_2 hP (fun cwd bv S hb => ?_)
      clear hP
      refine comp0 ?_
      have gi : wordsL[i]? = some wordsL[i] := List.getElem?_eq_getElem (by rw [words_len]; exact hi)
      have hwo := words_ok (List.getElem_mem (by rw [words_len]; exact hi : i < wordsL.length))
      generalize wordsL[i] = wd at gi hwo
      obtain ⟨_, gi', ⟨twd, rfl⟩⟩ := hw.get gi
      have hbl := hb.len
      rw [List.length_map, List.length_take, words_len] at hbl
      refine nx_lstN (by ktd_said "m.st") (by ktd_said "m.s") (St.isL (by ktd_said "m.st") (by ktd_said "m.h")) gi' (fun _ _ h => n0_some h) (fun _ _ => ?_)
      ktd_said "m.go"
      obtain ⟨Co, hCo⟩ : ∃ q, q = C := ⟨_, rfl⟩
      subst hCo
      obtain ⟨Do, hDo⟩ : ∃ q, q = D := ⟨_, rfl⟩
      subst hDo
      refine' r_comp (cl := [((Str.ofString "word"), c_word)]) ?e5 ?hcl5 ?hk5 ?hn5 ?body5 ?hs5
      case e5 => assumption
      case hcl5 => kernel_rfl
      case hk5 => rfl
      case hn5 => kernel_rfl
      case hs5 => intro _; rfl
      ktd_said "m.go"
      rename_i J2 s9 S9
      try replace S9 := Se.st S9
      refine' comp_go0 (nm' := [((Str.ofString ".0"), .local), ((Str.ofString "value"), .local), ((Str.ofString "_ellipsis_match"), .globalImplicit), ((Str.ofString "word"), .cell)]) (m := [((Str.ofString ".0"), none), ((Str.ofString "value"), none)]) (ks := [(Str.ofString "word")]) ?e6 ?S ?hnm6 ?hnd6 ?hok6 ?hk6 ?hc6 ?hks6 ?hn6 ?hm6 ?body6
      case e6 => assumption
      case S => ktd_said "m.st"
      case hnm6 => kernel_rfl
      case hnd6 => decide +kernel
      case hok6 => decide +kernel
      case hk6 => rfl
      case hc6 => kernel_rfl
      case hks6 => kernel_rfl
      case hn6 => decide +kernel
      case hm6 => kernel_rfl
      intro C D cenv s ceo S
      refine absR ?_
      intro RR hRR
      clear S9
      refine comp_start rfl ?_ (fun A' => it_listiter (by ktd_said "m.st") (by ktd_said "m.h") ⟨rfl, rfl⟩)
      refine loop_ind (P := fun j s => ∃ vo ov, VL isI (List.replicate ((vals.take j).filter fun v => emFun v wd).length (1 : Int)) ov ∧ ov.length ≤ j ∧ St g z s ((C, .ns [((Str.ofString ".0"), none), ((Str.ofString "value"), vo)]) :: (D, .lst ov) :: (Co, .ns [((Str.ofString ".0"), none)]) :: (J2, .lit vl j) :: (c_word, .cel (some (.str wd twd))) :: (Do, .lst bv) :: (L, .ns [((Str.ofString "script"), some (.ref sl)), ((Str.ofString "sums"), some (.ref ysl)), ((Str.ofString "drawn"), some (.ref dl)), ((Str.ofString "numbers"), some (.ref nl)), ((Str.ofString "tape"), some (.ref tl)), ((Str.ofString "read"), some (.ref rl)), ((Str.ofString "rows"), some (.ref ro)), ((Str.ofString "table"), some (.ref x)), ((Str.ofString "terms"), some (.ref tml)), ((Str.ofString "stay"), sto), ((Str.ofString "words"), some (.ref wl)), ((Str.ofString "bits"), none), ((Str.ofString "due"), none), ((Str.ofString "sign"), none), ((Str.ofString "flip"), none), ((Str.ofString "shade"), none), ((Str.ofString "most"), none), ((Str.ofString "parts"), none), ((Str.ofString "rest"), none)]) :: (J, .lit wl (i + 1)) :: (wl, .lst wv) :: (vl, .lst vv) :: (pl, .lst pv) :: (x, .raw (instObj 270 dx)) :: (dx, .raw (dictOf (hdE w.params tk ro) 1)) :: (ro, .lst us) :: (tml, .lst tmv) :: (ysl, .lst ts) :: (c_standing, .cel none) :: (c_plain, .cel (some (.ref pl))) :: (c_values, .cel (some (.ref vl))) :: (c_reader, .cel cr) :: (c_one, .cel co) :: (c_width, .cel cw) :: tb)) vals.length ?_ ?_ _ (exI2_3 _ _ .nil (Nat.le_refl _) (St.keep S (by ktd_said "m.keep")))
      · intro j hj jh s hP
        refine exE2_3 hP (fun vo ov S ho hol => ?_)
        clear hP
        refine comp1 ?_
        have gj : vals[j]? = some vals[j] := List.getElem?_eq_getElem hj
        have hwj := hwant _ (List.getElem_mem hj)
        generalize vals[j] = y at gj hwj
        obtain ⟨_, gj', ⟨ty, rfl⟩⟩ := hvv.get gj
        have hst : (vals.take (j + 1)).filter (fun v => emFun v wd) = (vals.take j).filter (fun v => emFun v wd) ++ [y].filter (fun v => emFun v wd) := by
          rw [List.take_add_one, gj, List.filter_append]; rfl
        refine nx_lstN (by ktd_said "m.st") (by ktd_said "m.s") (St.isL (by ktd_said "m.st") (by ktd_said "m.h")) gj' (fun _ _ h => n1_some h) (fun _ _ => ?_)
        ktd_said "m.go"
        refine (em_con hwj hwo).useV G (by ktd_said "m.st") (hA.mono (by decide)) (fun v s10 hv S10 => ?_)
        subst hv
        ktd_said "m.go"
        by_cases hb : (emFun y wd == true) = true
        · refine if_t hb ?_
          ktd_said "m.go"
          refine compA_go (by ktd_said "m.st") (by ktd_said "m.s") (szl (by omega)) (fun s11 S11 => ?_)
          refine jh _ (exI2_3 _ _ ?_ ?_ (St.keep S11 (by ktd_said "m.keep")))
          · rw [hst, show [y].filter (fun v => emFun v wd) = [y] from by rw [List.filter_cons, if_pos (by simpa using hb)]; rfl, List.length_append, List.length_singleton, List.replicate_succ']
            exact ho.snoc .mk
          · rw [List.length_append]; simp only [List.length_cons, List.length_nil]; omega
        · refine if_f hb ?_
          refine jh _ (exI2_3 _ _ ?_ (Nat.le_succ_of_le hol) (St.keep (by ktd_said "m.st") (by ktd_said "m.keep")))
          rw [hst, show [y].filter (fun v => emFun v wd) = [] from by rw [List.filter_cons, if_neg (by simpa using hb)]; rfl, List.append_nil]
          exact ho
      · intro s hP
        refine exE2_3 hP (fun vo ov S ho hol => ?_)
        clear hP
        refine comp1 ?_
        refine nx_listEnd (AOk.handled (by with_reducible assumption)) (by ktd_said "m.st") (by ktd_said "m.p") (St.isL (by ktd_said "m.st") (by ktd_said "m.h")) (List.getElem?_eq_none (by omega)) (fun s12 S12 => n1_none ?_)
        rw [List.take_length] at ho
        refine leafR (by with_reducible assumption) (comp_end (fr := (Co, .ns _)) (by ktd_said "m.st") (by ktd_said "m.p") (fun s13 S13 => ?_))
        clear S S12
        ktd_said "m.go"
        refine bi_sumI (AOk.handled (by with_reducible assumption)) (by ktd_said "m.st") (by ktd_said "m.h") ho (fun t14 s14 S14 => ?_)
        rw [ones_sum]
        ktd_said "m.go"
        refine compA_go (by ktd_said "m.st") (by ktd_said "m.s") (szl (by omega)) (fun s15 S15 => ?_)
        refine ih _ (exI2_2 _ _ ?_ (St.keep S15 (by ktd_said "m.keep")))
        rw [List.take_add_one, gi, List.map_append]
        exact hb.snoc .mk
    · intro s hP
      refine exE2_2 hP (fun cwd bv S hb => ?_)
      clear hP
      refine comp0 ?_
      refine nx_listEnd (AOk.handled (by with_reducible assumption)) (by ktd_said "m.st") (by ktd_said "m.p") (St.isL (by ktd_said "m.st") (by ktd_said "m.h")) (List.getElem?_eq_none (by omega)) (fun s16 S16 => n0_none ?_)
      rw [List.take_of_length_le (by rw [words_len]; decide)] at hb
      refine leafR (by with_reducible assumption) (comp_endU (by ktd_said "m.st") (by ktd_said "m.p") (by ktd_said "m.st") (by ktd_said "m.h") (by ktd_said "m.s") (fun s17 S17 => ?_))
      have R := h s17 wl wv D bv hw hb (St.keep S17 (by ktd_said "m.keep"))
      unfold lawSeg at R
      rw [k337 w.params] at R
      dsimp only [bodyOf, fnOf, tailN, List.tail] at R
      exact R

end TF22
section TF23
open PySem PySem.Spec PySem.Calls PyProof.Rows PySem.W
noncomputable def standL (ts : List Int) : List Int := ts.map (·.fmod 32)
noncomputable def dueL (ts : List Int) : List Int := (List.range 32).map fun p : Nat => if (standL ts).contains (p : Int) then 1 else 0
noncomputable def bitsN (vs : List Str) : List Nat := wordsL.map fun wd => cnt vs wd % 2
noncomputable def sgOf (ys : List Int) : Int := 1 - 2 * ((ys.getD 1 0).fdiv 4096).fmod 2
noncomputable def flipOf (ys : List Int) : Int := ((ys.getD 2 0).fdiv 4096).fmod 2
noncomputable def shadeOf (vs : List Str) : Nat := undig (2 ^ 1) (bitsN vs)
theorem bits_zs (vs : List Str) : zs (bitsN vs) = bitsL vs := by
  show (wordsL.map _).map _ = wordsL.map _
  rw [List.map_map]
  apply List.map_congr_left
  intro wd _
  show ((cnt vs wd % 2 : Nat) : Int) = _
  rw [Int.fmod_eq_emod_of_nonneg _ (by decide)]
  omega
theorem undig_lt : ∀ l : List Nat, (∀ d ∈ l, d < 2) → undig (2 ^ 1) l < 2 ^ l.length
  | [], _ => by simp [undig]
  | d :: r, h => by
    have h1 := h d (.head _)
    have h2 := undig_lt r fun x hx => h x (.tail _ hx)
    simp only [undig, List.length_cons, Nat.pow_succ, Nat.pow_one, Nat.pow_zero, Nat.one_mul] at *
    omega
theorem shade_lt (vs : List Str) : shadeOf vs < 2 ^ 32 := by
  have := undig_lt (bitsN vs) fun d hd => by
    obtain ⟨wd, _, rfl⟩ := List.mem_map.mp hd
    exact Nat.mod_lt _ (by decide)
  rw [show (bitsN vs).length = 32 from by rw [bitsN, List.length_map, words_len]] at this
  exact this
theorem permD {α : Type} (a b : α) (R t1 t2 : List α) : List.Perm (a :: b :: (R ++ (t1 ++ t2))) ((a :: (R ++ t1)) ++ (b :: t2)) := by
  refine List.Perm.cons a ?_
  rw [← List.append_assoc]
  exact List.perm_middle.symm
set_option pp.maxSteps 400
set_option maxHeartbeats 2000000
theorem segF {prog : Program} {w : World} {A : Around} {E : Value → Shared → Prop} {Q : Flow → Shared → Prop} {g : Heap} {z s : Shared} {tb : List (Addr × Kd)} {env : Env} {L c_standing c_plain c_values c_reader c_one c_width : Addr} {sl ysl dl nl tl rl ro x dx tml vl pl wl bl : Addr} {tk : Tok} {ys : List Int} {ts us tmv vv pv wv bv : List Value} {cr co cw sto : Option Value} {vals : List Str} {tp : List (Addr × Kd)} (G : Gd (Mine.hd.heap_1 w.params) g) (T : TabS tb) (eo : EO env L (((Str.ofString "script"), .local) :: ((Str.ofString "sums"), .local) :: ((Str.ofString "width"), .cell) :: ((Str.ofString "one"), .cell) :: ((Str.ofString "drawn"), .local) :: ((Str.ofString "numbers"), .local) :: ((Str.ofString "tape"), .local) :: ((Str.ofString "reader"), .cell) :: ((Str.ofString "read"), .local) :: ((Str.ofString "rows"), .local) :: ((Str.ofString "table"), .local) :: ((Str.ofString "terms"), .local) :: ((Str.ofString "stay"), .local) :: ((Str.ofString "values"), .cell) :: ((Str.ofString "plain"), .cell) :: ((Str.ofString "words"), .local) :: ((Str.ofString "bits"), .local) :: ((Str.ofString "standing"), .cell) :: ((Str.ofString "due"), .local) :: ((Str.ofString "sign"), .local) :: ((Str.ofString "flip"), .local) :: ((Str.ofString "shade"), .local) :: ((Str.ofString "most"), .local) :: ((Str.ofString "parts"), .local) :: ((Str.ofString "rest"), .local) :: ((Str.ofString "_law_sums"), .globalImplicit) :: ((Str.ofString "zip"), .globalImplicit) :: ((Str.ofString "iter"), .globalImplicit) :: ((Str.ofString "_law_over"), .globalImplicit) :: ((Str.ofString "Headers"), .globalImplicit) :: ((Str.ofString "_law_gather"), .globalImplicit) :: ((Str.ofString "len"), .globalImplicit) :: ((Str.ofString "range"), .globalImplicit) :: ((Str.ofString "_digits2int"), .globalImplicit) :: ((Str.ofString "_law_halves"), .globalImplicit) :: ((Str.ofString "max"), .globalImplicit) :: ((Str.ofString "int_divmod"), .globalImplicit) :: ((Str.ofString "sum"), .globalImplicit) :: ((Str.ofString "_law_refused"), .globalImplicit) :: []) [((Str.ofString "standing"), c_standing), ((Str.ofString "plain"), c_plain), ((Str.ofString "values"), c_values), ((Str.ofString "reader"), c_reader), ((Str.ofString "one"), c_one), ((Str.ofString "width"), c_width)]) (hA : AOk A 89)
    (hY : YOk ys) (hyv : VL isI ys ts) (htm : VL isI (tmOf ys) tmv) (hbv : VL isI (bitsL vals) bv)
    (S : St g z s ((L, .ns [((Str.ofString "script"), some (.ref sl)), ((Str.ofString "sums"), some (.ref ysl)), ((Str.ofString "drawn"), some (.ref dl)), ((Str.ofString "numbers"), some (.ref nl)), ((Str.ofString "tape"), some (.ref tl)), ((Str.ofString "read"), some (.ref rl)), ((Str.ofString "rows"), some (.ref ro)), ((Str.ofString "table"), some (.ref x)), ((Str.ofString "terms"), some (.ref tml)), ((Str.ofString "stay"), sto), ((Str.ofString "words"), some (.ref wl)), ((Str.ofString "bits"), some (.ref bl)), ((Str.ofString "due"), none), ((Str.ofString "sign"), none), ((Str.ofString "flip"), none), ((Str.ofString "shade"), none), ((Str.ofString "most"), none), ((Str.ofString "parts"), none), ((Str.ofString "rest"), none)]) :: (bl, .lst bv) :: (wl, .lst wv) :: (vl, .lst vv) :: (pl, .lst pv) :: (x, .raw (instObj 270 dx)) :: (dx, .raw (dictOf (hdE w.params tk ro) 1)) :: (ro, .lst us) :: (tml, .lst tmv) :: (ysl, .lst ts) :: (c_standing, .cel none) :: (c_plain, .cel (some (.ref pl))) :: (c_values, .cel (some (.ref vl))) :: (c_reader, .cel cr) :: (c_one, .cel co) :: (c_width, .cel cw) :: (tp ++ tb)))
    (h : ∀ s stl stv ul uv tb t1 t2 t3, TabS tb → VL isI (standL (tmOf ys)) stv → VL isI (dueL (tmOf ys)) uv →
      St g z s ((L, .ns [((Str.ofString "script"), some (.ref sl)), ((Str.ofString "sums"), some (.ref ysl)), ((Str.ofString "drawn"), some (.ref dl)), ((Str.ofString "numbers"), some (.ref nl)), ((Str.ofString "tape"), some (.ref tl)), ((Str.ofString "read"), some (.ref rl)), ((Str.ofString "rows"), some (.ref ro)), ((Str.ofString "table"), some (.ref x)), ((Str.ofString "terms"), some (.ref tml)), ((Str.ofString "stay"), sto), ((Str.ofString "words"), some (.ref wl)), ((Str.ofString "bits"), some (.ref bl)), ((Str.ofString "due"), some (.ref ul)), ((Str.ofString "sign"), some (.int (sgOf ys) t1)), ((Str.ofString "flip"), some (.int (flipOf ys) t2)), ((Str.ofString "shade"), some (.int (shadeOf vals : Nat) t3)), ((Str.ofString "most"), none), ((Str.ofString "parts"), none), ((Str.ofString "rest"), none)]) :: (bl, .lst bv) :: (ul, .lst uv) :: (stl, .lst stv) :: (wl, .lst wv) :: (vl, .lst vv) :: (pl, .lst pv) :: (x, .raw (instObj 270 dx)) :: (dx, .raw (dictOf (hdE w.params tk ro) 1)) :: (ro, .lst us) :: (tml, .lst tmv) :: (ysl, .lst ts) :: (c_standing, .cel (some (.ref stl))) :: (c_plain, .cel (some (.ref pl))) :: (c_values, .cel (some (.ref vl))) :: (c_reader, .cel cr) :: (c_one, .cel co) :: (c_width, .cel cw) :: (tp ++ tb)) →
      wpAny (model prog w) A (execs (lawSeg w.params 23) env) Q E s) : wpAny (model prog w) A (execs (lawSeg w.params 18) env) Q E s := by
  obtain ⟨g1, g1a, g1b⟩ := hY.at (i := 1) (by decide)
  obtain ⟨g2, g2a, g2b⟩ := hY.at (i := 2) (by decide)
  obtain ⟨_, h1, ⟨t1, rfl⟩⟩ := hyv.get g1
  obtain ⟨_, h2, ⟨t2, rfl⟩⟩ := hyv.get g2
  have h1' : ts[(1 : Int).toNat]? = some (.int (ys.getD 1 0) t1) := h1
  have h2' : ts[(2 : Int).toNat]? = some (.int (ys.getD 2 0) t2) := h2
  have p1 : Builtin.divisionGoesByPylong (ys.getD 1 0) 4096 = false := nopyl (by omega)
  have p2 : Builtin.divisionGoesByPylong (ys.getD 2 0) 4096 = false := nopyl (by omega)
  obtain ⟨hok, htl⟩ := tm_ok hY
  have html := htm.len
  unfold lawSeg
  rw [k337 w.params]
  dsimp only [bodyOf, fnOf, tailN, List.tail]
  refine x_assign ?_ (swaps_cel eo (by ktd_said "m.h"))
  refine' r_comp (cl := []) ?e1 ?hcl1 ?hk1 ?hn1 ?body1 ?hs1
  case e1 => assumption
  case hcl1 => kernel_rfl
  case hk1 => rfl
  case hn1 => kernel_rfl
  case hs1 => intro _; rfl
  ktd_said "m.go"
  rename_i J s1 S1
  try replace S1 := Se.st S1
  refine' comp_go0 (nm' := [((Str.ofString ".0"), .local), ((Str.ofString "one"), .local)]) (m := [((Str.ofString ".0"), none), ((Str.ofString "one"), none)]) (ks := []) ?e2 ?S ?hnm2 ?hnd2 ?hok2 ?hk2 ?hc2 ?hks2 ?hn2 ?hm2 ?body2
  case e2 => assumption
  case S => ktd_said "m.st"
  case hnm2 => kernel_rfl
  case hnd2 => decide +kernel
  case hok2 => decide +kernel
  case hk2 => rfl
  case hc2 => kernel_rfl
  case hks2 => kernel_rfl
  case hn2 => decide +kernel
  case hm2 => kernel_rfl
  intro C D cenv s ceo S
  refine absR ?_
  intro RR hRR
  clear S1
  refine comp_start rfl ?_ (fun A' => it_listiter (by ktd_said "m.st") (by ktd_said "m.h") ⟨rfl, rfl⟩)
  refine loop_ind (P := fun i s => ∃ oo sv, VL isI (standL ((tmOf ys).take i)) sv ∧ St g z s ((C, .ns [((Str.ofString ".0"), none), ((Str.ofString "one"), oo)]) :: (D, .lst sv) :: (L, .ns [((Str.ofString "script"), some (.ref sl)), ((Str.ofString "sums"), some (.ref ysl)), ((Str.ofString "drawn"), some (.ref dl)), ((Str.ofString "numbers"), some (.ref nl)), ((Str.ofString "tape"), some (.ref tl)), ((Str.ofString "read"), some (.ref rl)), ((Str.ofString "rows"), some (.ref ro)), ((Str.ofString "table"), some (.ref x)), ((Str.ofString "terms"), some (.ref tml)), ((Str.ofString "stay"), sto), ((Str.ofString "words"), some (.ref wl)), ((Str.ofString "bits"), some (.ref bl)), ((Str.ofString "due"), none), ((Str.ofString "sign"), none), ((Str.ofString "flip"), none), ((Str.ofString "shade"), none), ((Str.ofString "most"), none), ((Str.ofString "parts"), none), ((Str.ofString "rest"), none)]) :: (J, .lit tml i) :: (bl, .lst bv) :: (wl, .lst wv) :: (vl, .lst vv) :: (pl, .lst pv) :: (x, .raw (instObj 270 dx)) :: (dx, .raw (dictOf (hdE w.params tk ro) 1)) :: (ro, .lst us) :: (tml, .lst tmv) :: (ysl, .lst ts) :: (c_standing, .cel none) :: (c_plain, .cel (some (.ref pl))) :: (c_values, .cel (some (.ref vl))) :: (c_reader, .cel cr) :: (c_one, .cel co) :: (c_width, .cel cw) :: (tp ++ tb))) (tmOf ys).length ?_ ?_ _ (exI2_2 _ _ .nil (St.keep S (by ktd_said "m.keep")))
  · intro i hi ih s hP
    refine exE2_2 hP (fun oo sv S hs => ?_)
    clear hP
    refine comp0 ?_
    have gi : (tmOf ys)[i]? = some (tmOf ys)[i] := List.getElem?_eq_getElem hi
    generalize (tmOf ys)[i] = o at gi
    obtain ⟨_, gi', ⟨to, rfl⟩⟩ := htm.get gi
    have hsl := hs.len
    rw [standL, List.length_map, List.length_take] at hsl
    refine nx_lstN (by ktd_said "m.st") (by ktd_said "m.s") (St.isL (by ktd_said "m.st") (by ktd_said "m.h")) gi' (fun _ _ h => n0_some h) (fun _ _ => ?_)
    ktd_said "m.go"
    refine compA_go (by ktd_said "m.st") (by ktd_said "m.s") (szl (by omega)) (fun s2 S2 => ?_)
    refine ih _ (exI2_2 _ _ ?_ (St.keep S2 (by ktd_said "m.keep")))
    unfold standL
    rw [List.take_add_one, gi, List.map_append]
    exact hs.snoc .mk
  · intro s hP
    refine exE2_2 hP (fun oo sv S hs => ?_)
    clear hP
    refine comp0 ?_
    refine nx_listEnd (AOk.handled (by with_reducible assumption)) (by ktd_said "m.st") (by ktd_said "m.p") (St.isL (by ktd_said "m.st") (by ktd_said "m.h")) (List.getElem?_eq_none (by omega)) (fun s3 S3 => n0_none ?_)
    rw [List.take_length] at hs
    refine leafR (by with_reducible assumption) (comp_end (fr := (L, .ns _)) (by ktd_said "m.st") (by ktd_said "m.p") (fun s4 S4 => ?_))
    clear S S3
    refine st_cel S4 eo (by ktd_said "m.h") (by ktd_said "m.h") (by ktd_said "m.s") (fun s5 S5 => ?_)
    clear S4
    obtain ⟨stl, hstl⟩ : ∃ q, q = D := ⟨_, rfl⟩
    subst hstl
    have hsl := hs.len
    refine' x_asgC (cl := [((Str.ofString "standing"), c_standing)]) ?e3 ?hy3 ?hcl3 ?hk3 ?hn3 ?hp3 ?hno3 ?body3 ?hs3
    case e3 => assumption
    case hy3 => ktd_said "m.h"
    case hp3 => rfl
    case hno3 => kernel_rfl
    case hcl3 => kernel_rfl
    case hk3 => rfl
    case hn3 => kernel_rfl
    case hs3 => intro _; rfl
    ktd_said "m.go"
    rename_i r0 s6 S6
    try replace S6 := Se.st S6
    refine it_rng S6 (by ktd_said "m.h") (by decide) (fun I s7 S7 => ?_)
    clear S5 S6
    refine' comp_goU (nm' := [((Str.ofString ".0"), .local), ((Str.ofString "point"), .local), ((Str.ofString "standing"), .cell)]) (m := [((Str.ofString ".0"), none), ((Str.ofString "point"), none)]) (ks := [(Str.ofString "standing")]) ?e4 ?S ?hnm4 ?hnd4 ?hok4 ?hk4 ?hc4 ?hks4 ?hn4 ?hm4 ?body4
    case e4 => assumption
    case S => ktd_said "m.st"
    case hnm4 => kernel_rfl
    case hnd4 => decide +kernel
    case hok4 => decide +kernel
    case hk4 => rfl
    case hc4 => kernel_rfl
    case hks4 => kernel_rfl
    case hn4 => decide +kernel
    case hm4 => kernel_rfl
    intro C D cenv s ceo S
    refine absR ?_
    intro RR hRR
    clear S7
    refine comp_start rfl ?_ (fun A' => it_riter (by ktd_said "m.st") (by ktd_said "m.h") ⟨rfl, rfl⟩)
    have e32 : Builtin.Range.rangeSize 0 32 1 = 32 - ((0 : Nat) : Int) := by decide
    rw [e32, show (0 : Int) = ((0 : Nat) : Int) from rfl] at S
    refine loop_ind (P := fun i s => ∃ po uv, VL isI ((dueL (tmOf ys)).take i) uv ∧ St g z s ((C, .ns [((Str.ofString ".0"), none), ((Str.ofString "point"), po)]) :: (D, .lst uv) :: (L, .ns [((Str.ofString "script"), some (.ref sl)), ((Str.ofString "sums"), some (.ref ysl)), ((Str.ofString "drawn"), some (.ref dl)), ((Str.ofString "numbers"), some (.ref nl)), ((Str.ofString "tape"), some (.ref tl)), ((Str.ofString "read"), some (.ref rl)), ((Str.ofString "rows"), some (.ref ro)), ((Str.ofString "table"), some (.ref x)), ((Str.ofString "terms"), some (.ref tml)), ((Str.ofString "stay"), sto), ((Str.ofString "words"), some (.ref wl)), ((Str.ofString "bits"), some (.ref bl)), ((Str.ofString "due"), none), ((Str.ofString "sign"), none), ((Str.ofString "flip"), none), ((Str.ofString "shade"), none), ((Str.ofString "most"), none), ((Str.ofString "parts"), none), ((Str.ofString "rest"), none)]) :: (I, .rit (i : Int) (32 - (i : Int)) 1) :: (stl, .lst sv) :: (bl, .lst bv) :: (wl, .lst wv) :: (vl, .lst vv) :: (pl, .lst pv) :: (x, .raw (instObj 270 dx)) :: (dx, .raw (dictOf (hdE w.params tk ro) 1)) :: (ro, .lst us) :: (tml, .lst tmv) :: (ysl, .lst ts) :: (c_standing, .cel (some (.ref stl))) :: (c_plain, .cel (some (.ref pl))) :: (c_values, .cel (some (.ref vl))) :: (c_reader, .cel cr) :: (c_one, .cel co) :: (c_width, .cel cw) :: (tp ++ tb))) 32 ?_ ?_ _ (exI2_2 _ _ .nil (St.keep S (by ktd_said "m.keep")))
    · intro i hi ih s hP
      refine exE2_2 hP (fun po uv S hu => ?_)
      clear hP
      refine comp0 ?_
      have gi : (dueL (tmOf ys))[i]? = some (if (standL (tmOf ys)).contains (i : Int) then 1 else 0) := by
        rw [dueL, List.getElem?_map, List.getElem?_range hi]; rfl
      have hul := hu.len
      rw [List.length_take, dueL, List.length_map, List.length_range] at hul
      refine nx_rngN (by ktd_said "m.st") (by ktd_said "m.s") (by omega) (fun _ _ h => n0_some h) (fun tq s8 S8 => ?_)
      ktd_said "m.go"
      refine c_inI (by ktd_said "m.st") (by ktd_said "m.h") hs ?_
      ktd_said "m.go"
      by_cases hb : (standL (tmOf ys)).contains (i : Int) = true
      · refine if_t hb ?_
        rw [if_pos hb] at gi
        ktd_said "m.go"
        refine compA_go (by ktd_said "m.st") (by ktd_said "m.s") (szl (by omega)) (fun s9 S9 => ?_)
        rw [show (i : Int) + 1 = ((i + 1 : Nat) : Int) from by omega, show 32 - (i : Int) - 1 = 32 - ((i + 1 : Nat) : Int) from by omega] at S9
        refine ih _ (exI2_2 _ _ ?_ (St.keep S9 (by ktd_said "m.keep")))
        rw [List.take_add_one, gi]
        exact hu.snoc .mk
      · refine if_f hb ?_
        rw [if_neg hb] at gi
        ktd_said "m.go"
        refine compA_go (by ktd_said "m.st") (by ktd_said "m.s") (szl (by omega)) (fun s9 S9 => ?_)
        rw [show (i : Int) + 1 = ((i + 1 : Nat) : Int) from by omega, show 32 - (i : Int) - 1 = 32 - ((i + 1 : Nat) : Int) from by omega] at S9
        refine ih _ (exI2_2 _ _ ?_ (St.keep S9 (by ktd_said "m.keep")))
        rw [List.take_add_one, gi]
        exact hu.snoc .mk
    · intro s hP
      refine exE2_2 hP (fun po uv S hu => ?_)
      clear hP
      refine comp0 ?_
      refine nx_rngEnd (AOk.handled (by with_reducible assumption)) (by ktd_said "m.st") (by ktd_said "m.p") (by omega) (fun s10 S10 => n0_none ?_)
      rw [List.take_of_length_le (by rw [dueL, List.length_map, List.length_range]; decide)] at hu
      refine leafR (by with_reducible assumption) (comp_endU (by ktd_said "m.st") (by ktd_said "m.p") (by ktd_said "m.st") (by ktd_said "m.h") (by ktd_said "m.s") (fun s11 S11 => ?_))
      clear S S10
      obtain ⟨ul, hul⟩ : ∃ q, q = D := ⟨_, rfl⟩
      subst hul
      ktd_said "m.go"
      rename_i s12 S12
      try replace S12 := Se.st S12
      rw [show (1 - 2 * ((ys.getD 1 0).fdiv 4096).fmod 2) = sgOf ys from rfl, show ((ys.getD 2 0).fdiv 4096).fmod 2 = flipOf ys from rfl] at S12
      obtain ⟨ta, tb', rfl, hTa, hTb⟩ := T
      have S13 : ∃ q1 q2, St g z s12 ((L, .ns [((Str.ofString "script"), some (.ref sl)), ((Str.ofString "sums"), some (.ref ysl)), ((Str.ofString "drawn"), some (.ref dl)), ((Str.ofString "numbers"), some (.ref nl)), ((Str.ofString "tape"), some (.ref tl)), ((Str.ofString "read"), some (.ref rl)), ((Str.ofString "rows"), some (.ref ro)), ((Str.ofString "table"), some (.ref x)), ((Str.ofString "terms"), some (.ref tml)), ((Str.ofString "stay"), sto), ((Str.ofString "words"), some (.ref wl)), ((Str.ofString "bits"), some (.ref bl)), ((Str.ofString "due"), some (.ref ul)), ((Str.ofString "sign"), some (.int (sgOf ys) q1)), ((Str.ofString "flip"), some (.int (flipOf ys) q2)), ((Str.ofString "shade"), none), ((Str.ofString "most"), none), ((Str.ofString "parts"), none), ((Str.ofString "rest"), none)]) :: (bl, .lst bv) :: ([(ul, .lst uv), (stl, .lst sv), (wl, .lst wv), (vl, .lst vv), (pl, .lst pv), (x, .raw (instObj 270 dx)), (dx, .raw (dictOf (hdE w.params tk ro) 1)), (ro, .lst us), (tml, .lst tmv), (ysl, .lst ts), (c_standing, .cel (some (.ref stl))), (c_plain, .cel (some (.ref pl))), (c_values, .cel (some (.ref vl))), (c_reader, .cel cr), (c_one, .cel co), (c_width, .cel cw)] ++ tp) ++ (ta ++ tb')) := ⟨_, _, St.keep S12 (by (try dsimp only [List.cons_append, List.nil_append]); ktd_said "m.keep")⟩
      obtain ⟨q1, q2, S13⟩ := S13
      clear S12 S11
      have hbz : VL isI (zs (bitsN vals)) bv := by rw [bits_zs]; exact hbv
      have hbl : (bitsN vals).length = 32 := by rw [bitsN, List.length_map, words_len]
      refine (d2i_con (n := 1) (e := 5) (nums := bitsN vals) (dl := bl) hbz (by rw [hbl]; decide) (by decide) (by have := shade_lt vals; unfold shadeOf at this; omega) (by decide) hTb).useR _ G (S13.perm (permD _ _ _ ta tb')) (hA.mono (by decide)) (fun v s14 us14 hv14 S14 => ?_)
      obtain ⟨tb2, ⟨t3, rfl⟩, rfl, hTb2⟩ := hv14
      replace S14 := S14.perm (permD _ _ _ ta tb2).symm
      dsimp only [List.cons_append, List.nil_append] at S14
      refine st_loc S14 eo (by ktd_said "m.h") (by ktd_said "m.s") (fun s15 S15 => ?_)
      rw [show undig (2 ^ 1) (bitsN vals) = shadeOf vals from rfl] at S15
      have R := h s15 stl sv ul uv (ta ++ tb2) q1 q2 t3 ⟨ta, tb2, rfl, hTa, hTb2⟩ hs hu (St.keep S15 (by ktd_said "m.keep"))
      unfold lawSeg at R
      rw [k337 w.params] at R
      dsimp only [bodyOf, fnOf, tailN, List.tail] at R
      exact R

end TF23
section TF24
open PySem PySem.Spec PySem.Calls PyProof.Rows PySem.W
noncomputable def turned (ys : List Int) (sh : Nat) : Int := if flipOf ys = 1 then Builtin.bitNot (sh : Int) else sh
noncomputable def dueT (ys : List Int) (du : List Int) : List Int := (if flipOf ys = 1 then 1 - du.getD 0 0 else du.getD 0 0) :: du.drop 1
theorem VL.drop {α : Type} {P : α → Value → Prop} {xs : List α} {vs : List Value} (h : VL P xs vs) : ∀ k, VL P (xs.drop k) (vs.drop k) := by
  induction h with
  | nil => intro k; rw [List.drop_nil, List.drop_nil]; exact .nil
  | cons hp ht ih =>
    intro k
    cases k with
    | zero => exact .cons hp ht
    | succ k => exact ih k
theorem sg_ok (ys : List Int) : sgOf ys = 1 ∨ sgOf ys = -1 := by
  have h1 := Int.fmod_nonneg_of_pos ((ys.getD 1 0).fdiv 4096) (show (0 : Int) < 2 by decide)
  have h2 := Int.fmod_lt_of_pos ((ys.getD 1 0).fdiv 4096) (show (0 : Int) < 2 by decide)
  unfold sgOf
  omega
theorem turned_ok (ys : List Int) (vs : List Str) : -(2 ^ 32) ≤ turned ys (shadeOf vs) ∧ turned ys (shadeOf vs) < 2 ^ 32 := by
  have := shade_lt vs
  unfold turned Builtin.bitNot
  split <;> omega
set_option pp.maxSteps 400
set_option maxHeartbeats 2000000
theorem segG {prog : Program} {w : World} {A : Around} {E : Value → Shared → Prop} {Q : Flow → Shared → Prop} {g : Heap} {z s : Shared} {tb : List (Addr × Kd)} {env : Env} {L c_standing c_plain c_values c_reader c_one c_width : Addr} {sl ysl dl nl tl rl ro x dx tml pl wl bl ul : Addr} {tk t1 t2 t3 : Tok} {ys du : List Int} {us pv wv bv uv : List Value} {cs cv cr co cw sto : Option Value} {vals pls : List Str} {tp : List (Addr × Kd)} (G : Gd (Mine.hd.heap_1 w.params) g) (T : TabS tb) (eo : EO env L (((Str.ofString "script"), .local) :: ((Str.ofString "sums"), .local) :: ((Str.ofString "width"), .cell) :: ((Str.ofString "one"), .cell) :: ((Str.ofString "drawn"), .local) :: ((Str.ofString "numbers"), .local) :: ((Str.ofString "tape"), .local) :: ((Str.ofString "reader"), .cell) :: ((Str.ofString "read"), .local) :: ((Str.ofString "rows"), .local) :: ((Str.ofString "table"), .local) :: ((Str.ofString "terms"), .local) :: ((Str.ofString "stay"), .local) :: ((Str.ofString "values"), .cell) :: ((Str.ofString "plain"), .cell) :: ((Str.ofString "words"), .local) :: ((Str.ofString "bits"), .local) :: ((Str.ofString "standing"), .cell) :: ((Str.ofString "due"), .local) :: ((Str.ofString "sign"), .local) :: ((Str.ofString "flip"), .local) :: ((Str.ofString "shade"), .local) :: ((Str.ofString "most"), .local) :: ((Str.ofString "parts"), .local) :: ((Str.ofString "rest"), .local) :: ((Str.ofString "_law_sums"), .globalImplicit) :: ((Str.ofString "zip"), .globalImplicit) :: ((Str.ofString "iter"), .globalImplicit) :: ((Str.ofString "_law_over"), .globalImplicit) :: ((Str.ofString "Headers"), .globalImplicit) :: ((Str.ofString "_law_gather"), .globalImplicit) :: ((Str.ofString "len"), .globalImplicit) :: ((Str.ofString "range"), .globalImplicit) :: ((Str.ofString "_digits2int"), .globalImplicit) :: ((Str.ofString "_law_halves"), .globalImplicit) :: ((Str.ofString "max"), .globalImplicit) :: ((Str.ofString "int_divmod"), .globalImplicit) :: ((Str.ofString "sum"), .globalImplicit) :: ((Str.ofString "_law_refused"), .globalImplicit) :: []) [((Str.ofString "standing"), c_standing), ((Str.ofString "plain"), c_plain), ((Str.ofString "values"), c_values), ((Str.ofString "reader"), c_reader), ((Str.ofString "one"), c_one), ((Str.ofString "width"), c_width)]) (hA : AOk A 89)
    (hdu : du.length = 32) (huv : VL isI du uv) (hlaw : halvesFun (turned ys (shadeOf vals)) = dueT ys du)
    (S : St g z s ((L, .ns [((Str.ofString "script"), some (.ref sl)), ((Str.ofString "sums"), some (.ref ysl)), ((Str.ofString "drawn"), some (.ref dl)), ((Str.ofString "numbers"), some (.ref nl)), ((Str.ofString "tape"), some (.ref tl)), ((Str.ofString "read"), some (.ref rl)), ((Str.ofString "rows"), some (.ref ro)), ((Str.ofString "table"), some (.ref x)), ((Str.ofString "terms"), some (.ref tml)), ((Str.ofString "stay"), sto), ((Str.ofString "words"), some (.ref wl)), ((Str.ofString "bits"), some (.ref bl)), ((Str.ofString "due"), some (.ref ul)), ((Str.ofString "sign"), some (.int (sgOf ys) t1)), ((Str.ofString "flip"), some (.int (flipOf ys) t2)), ((Str.ofString "shade"), some (.int (shadeOf vals : Nat) t3)), ((Str.ofString "most"), none), ((Str.ofString "parts"), none), ((Str.ofString "rest"), none)]) :: (bl, .lst bv) :: (ul, .lst uv) :: (wl, .lst wv) :: (pl, .lst pv) :: (x, .raw (instObj 270 dx)) :: (dx, .raw (dictOf (hdE w.params tk ro) 1)) :: (ro, .lst us) :: (c_standing, .cel cs) :: (c_plain, .cel (some (.ref pl))) :: (c_values, .cel cv) :: (c_reader, .cel cr) :: (c_one, .cel co) :: (c_width, .cel cw) :: (tp ++ tb)))
    (h : ∀ s tb, TabS tb → St g z s ((L, .ns [((Str.ofString "script"), some (.ref sl)), ((Str.ofString "sums"), some (.ref ysl)), ((Str.ofString "drawn"), some (.ref dl)), ((Str.ofString "numbers"), some (.ref nl)), ((Str.ofString "tape"), some (.ref tl)), ((Str.ofString "read"), some (.ref rl)), ((Str.ofString "rows"), some (.ref ro)), ((Str.ofString "table"), some (.ref x)), ((Str.ofString "terms"), some (.ref tml)), ((Str.ofString "stay"), sto), ((Str.ofString "words"), some (.ref wl)), ((Str.ofString "bits"), some (.ref bl)), ((Str.ofString "due"), some (.ref ul)), ((Str.ofString "sign"), some (.int (sgOf ys) t1)), ((Str.ofString "flip"), some (.int (flipOf ys) t2)), ((Str.ofString "shade"), some (.int (shadeOf vals : Nat) t3)), ((Str.ofString "most"), none), ((Str.ofString "parts"), none), ((Str.ofString "rest"), none)]) :: (bl, .lst bv) :: (ul, .lst uv) :: (wl, .lst wv) :: (pl, .lst pv) :: (x, .raw (instObj 270 dx)) :: (dx, .raw (dictOf (hdE w.params tk ro) 1)) :: (ro, .lst us) :: (c_standing, .cel cs) :: (c_plain, .cel (some (.ref pl))) :: (c_values, .cel cv) :: (c_reader, .cel cr) :: (c_one, .cel co) :: (c_width, .cel cw) :: (tp ++ tb)) →
      wpAny (model prog w) A (execs (lawSeg w.params 24) env) Q E s) : wpAny (model prog w) A (execs (lawSeg w.params 23) env) Q E s := by
  have hul := huv.len
  obtain ⟨u0, hu0, ⟨tu0, rfl⟩⟩ := huv.get (i := 0) (x := du.getD 0 0) (by rw [List.getD_eq_getElem?_getD, List.getElem?_eq_getElem (by omega)]; rfl)
  have hu0' : uv[(0 : Int).toNat]? = some (.int (du.getD 0 0) tu0) := hu0
  obtain ⟨hb1, hb2⟩ := turned_ok ys vals
  have main : ∀ s, St g z s ((L, .ns [((Str.ofString "script"), some (.ref sl)), ((Str.ofString "sums"), some (.ref ysl)), ((Str.ofString "drawn"), some (.ref dl)), ((Str.ofString "numbers"), some (.ref nl)), ((Str.ofString "tape"), some (.ref tl)), ((Str.ofString "read"), some (.ref rl)), ((Str.ofString "rows"), some (.ref ro)), ((Str.ofString "table"), some (.ref x)), ((Str.ofString "terms"), some (.ref tml)), ((Str.ofString "stay"), sto), ((Str.ofString "words"), some (.ref wl)), ((Str.ofString "bits"), some (.ref bl)), ((Str.ofString "due"), some (.ref ul)), ((Str.ofString "sign"), some (.int (sgOf ys) t1)), ((Str.ofString "flip"), some (.int (flipOf ys) t2)), ((Str.ofString "shade"), some (.int (shadeOf vals : Nat) t3)), ((Str.ofString "most"), none), ((Str.ofString "parts"), none), ((Str.ofString "rest"), none)]) :: (bl, .lst bv) :: (ul, .lst uv) :: (wl, .lst wv) :: (pl, .lst pv) :: (x, .raw (instObj 270 dx)) :: (dx, .raw (dictOf (hdE w.params tk ro) 1)) :: (ro, .lst us) :: (c_standing, .cel cs) :: (c_plain, .cel (some (.ref pl))) :: (c_values, .cel cv) :: (c_reader, .cel cr) :: (c_one, .cel co) :: (c_width, .cel cw) :: (tp ++ tb)) → True := fun _ _ => trivial
  unfold lawSeg
  rw [k337 w.params]
  dsimp only [bodyOf, fnOf, tailN, List.tail]
  ktd_said "m.go"
  by_cases hf : flipOf ys = 1
  · have hvl : ∀ q : Tok, VL isI (dueT ys du) ([Value.int (1 - du.getD 0 0) q] ++ uv.drop (Int.toNat 1)) := fun q => by unfold dueT; rw [if_pos hf]; exact .cons .mk (huv.drop 1)
    have ht : turned ys (shadeOf vals) = Builtin.bitNot (shadeOf vals : Nat) := if_pos hf
    rw [ht] at hb1 hb2 hlaw
    refine if_t (by simpa using hf) ?_
    ktd_said "m.go"
    refine (halves_con (shade := Builtin.bitNot (shadeOf vals : Nat)) ⟨hb1, hb2⟩ (sg_ok ys)).use0 G (by ktd_said "m.st") T (by ktd_said "m.tl") (hA.mono (by decide)) (fun v s1 new tb2 hv' T2 S1 => ?_)
    obtain ⟨hll, hlv, rfl, rfl, hhv⟩ := hv'
    dsimp only [List.cons_append, List.nil_append] at S1
    clear S
    rw [hlaw] at hhv
    ktd_said "m.go"
    refine r_sliceL g z ?_ (by intro _ _; rfl)
    ktd_said "m.go"
    refine mk_sliceF (by ktd_said "m.st") (St.isL (by ktd_said "m.st") (by ktd_said "m.h")) (szl (by omega)) (by decide) (by rw [hul, hdu]; decide) (fun a s2 S2 => ?_)
    have hlen : ∀ q : Value, [q].length + (uv.drop (1 : Int).toNat).length ≤ 1000 := fun q => by rw [List.length_drop, List.length_cons, List.length_nil]; omega
    ktd_said "m.go"
    refine o_addList (by ktd_said "m.st") (by ktd_said "m.h") (by ktd_said "m.h") (hlen _) (fun b s3 S3 => ?_)
    refine c_neI S3 (by ktd_said "m.h") (by ktd_said "m.h") hhv (hvl _) (AOk.fits64 (by with_reducible assumption) (by decide)) ?_
    rw [decide_eq_true rfl]
    refine tr_bool (if_f (by decide) ?_)
    have R := h s3 tb2 T2 (St.keep S3 (by ktd_said "m.keep"))
    unfold lawSeg at R
    rw [k337 w.params] at R
    dsimp only [bodyOf, fnOf, tailN, List.tail] at R
    exact x_nil (then_next R)
  · have hvl : ∀ q : Tok, VL isI (dueT ys du) ([Value.int (du.getD 0 0) q] ++ uv.drop (Int.toNat 1)) := fun q => by unfold dueT; rw [if_neg hf]; exact .cons .mk (huv.drop 1)
    have ht : turned ys (shadeOf vals) = (shadeOf vals : Nat) := if_neg hf
    rw [ht] at hb1 hb2 hlaw
    refine if_f (by simpa using hf) ?_
    ktd_said "m.go"
    refine (halves_con (shade := ((shadeOf vals : Nat) : Int)) ⟨hb1, hb2⟩ (sg_ok ys)).use0 G (by ktd_said "m.st") T (by ktd_said "m.tl") (hA.mono (by decide)) (fun v s1 new tb2 hv' T2 S1 => ?_)
    obtain ⟨hll, hlv, rfl, rfl, hhv⟩ := hv'
    dsimp only [List.cons_append, List.nil_append] at S1
    clear S
    rw [hlaw] at hhv
    ktd_said "m.go"
    refine r_sliceL g z ?_ (by intro _ _; rfl)
    ktd_said "m.go"
    refine mk_sliceF (by ktd_said "m.st") (St.isL (by ktd_said "m.st") (by ktd_said "m.h")) (szl (by omega)) (by decide) (by rw [hul, hdu]; decide) (fun a s2 S2 => ?_)
    have hlen : ∀ q : Value, [q].length + (uv.drop (1 : Int).toNat).length ≤ 1000 := fun q => by rw [List.length_drop, List.length_cons, List.length_nil]; omega
    ktd_said "m.go"
    refine o_addList (by ktd_said "m.st") (by ktd_said "m.h") (by ktd_said "m.h") (hlen _) (fun b s3 S3 => ?_)
    refine c_neI S3 (by ktd_said "m.h") (by ktd_said "m.h") hhv (hvl _) (AOk.fits64 (by with_reducible assumption) (by decide)) ?_
    rw [decide_eq_true rfl]
    refine tr_bool (if_f (by decide) ?_)
    have R := h s3 tb2 T2 (St.keep S3 (by ktd_said "m.keep"))
    unfold lawSeg at R
    rw [k337 w.params] at R
    dsimp only [bodyOf, fnOf, tailN, List.tail] at R
    exact x_nil (then_next R)

end TF24
section TF25
open PySem PySem.Spec PySem.Calls PyProof.Rows PySem.W
set_option pp.maxSteps 400
set_option maxHeartbeats 2000000
theorem segH {prog : Program} {w : World} {A : Around} {E : Value → Shared → Prop} {Q : Flow → Shared → Prop} {g : Heap} {z s : Shared} {tb : List (Addr × Kd)} {env : Env} {L c_standing c_plain c_values c_reader c_one c_width : Addr} {sl ysl dl nl tl rl ro x dx tml pl wl bl ul : Addr} {tk t1 t2 t3 : Tok} {ys du : List Int} {us pv wv bv uv : List Value} {cs cv cr co cw sto : Option Value} {vals pls : List Str} {tp : List (Addr × Kd)} (G : Gd (Mine.hd.heap_1 w.params) g) (eo : EO env L (((Str.ofString "script"), .local) :: ((Str.ofString "sums"), .local) :: ((Str.ofString "width"), .cell) :: ((Str.ofString "one"), .cell) :: ((Str.ofString "drawn"), .local) :: ((Str.ofString "numbers"), .local) :: ((Str.ofString "tape"), .local) :: ((Str.ofString "reader"), .cell) :: ((Str.ofString "read"), .local) :: ((Str.ofString "rows"), .local) :: ((Str.ofString "table"), .local) :: ((Str.ofString "terms"), .local) :: ((Str.ofString "stay"), .local) :: ((Str.ofString "values"), .cell) :: ((Str.ofString "plain"), .cell) :: ((Str.ofString "words"), .local) :: ((Str.ofString "bits"), .local) :: ((Str.ofString "standing"), .cell) :: ((Str.ofString "due"), .local) :: ((Str.ofString "sign"), .local) :: ((Str.ofString "flip"), .local) :: ((Str.ofString "shade"), .local) :: ((Str.ofString "most"), .local) :: ((Str.ofString "parts"), .local) :: ((Str.ofString "rest"), .local) :: ((Str.ofString "_law_sums"), .globalImplicit) :: ((Str.ofString "zip"), .globalImplicit) :: ((Str.ofString "iter"), .globalImplicit) :: ((Str.ofString "_law_over"), .globalImplicit) :: ((Str.ofString "Headers"), .globalImplicit) :: ((Str.ofString "_law_gather"), .globalImplicit) :: ((Str.ofString "len"), .globalImplicit) :: ((Str.ofString "range"), .globalImplicit) :: ((Str.ofString "_digits2int"), .globalImplicit) :: ((Str.ofString "_law_halves"), .globalImplicit) :: ((Str.ofString "max"), .globalImplicit) :: ((Str.ofString "int_divmod"), .globalImplicit) :: ((Str.ofString "sum"), .globalImplicit) :: ((Str.ofString "_law_refused"), .globalImplicit) :: []) [((Str.ofString "standing"), c_standing), ((Str.ofString "plain"), c_plain), ((Str.ofString "values"), c_values), ((Str.ofString "reader"), c_reader), ((Str.ofString "one"), c_one), ((Str.ofString "width"), c_width)]) (hA : AOk A 89)
    (hdu : du.length = 32) (huv : VL isI du uv) (hw : VL isS wordsL wv) (hvl : pls.length ≤ 100) (hwant : ∀ v ∈ pls, wantOk v = true) (hvv : VL isS pls pv)
    (hlaw : (wordsL.map fun wd => ((cnt pls wd : Nat) : Int)) = du)
    (S : St g z s ((L, .ns [((Str.ofString "script"), some (.ref sl)), ((Str.ofString "sums"), some (.ref ysl)), ((Str.ofString "drawn"), some (.ref dl)), ((Str.ofString "numbers"), some (.ref nl)), ((Str.ofString "tape"), some (.ref tl)), ((Str.ofString "read"), some (.ref rl)), ((Str.ofString "rows"), some (.ref ro)), ((Str.ofString "table"), some (.ref x)), ((Str.ofString "terms"), some (.ref tml)), ((Str.ofString "stay"), sto), ((Str.ofString "words"), some (.ref wl)), ((Str.ofString "bits"), some (.ref bl)), ((Str.ofString "due"), some (.ref ul)), ((Str.ofString "sign"), some (.int (sgOf ys) t1)), ((Str.ofString "flip"), some (.int (flipOf ys) t2)), ((Str.ofString "shade"), some (.int (shadeOf vals : Nat) t3)), ((Str.ofString "most"), none), ((Str.ofString "parts"), none), ((Str.ofString "rest"), none)]) :: (bl, .lst bv) :: (ul, .lst uv) :: (wl, .lst wv) :: (pl, .lst pv) :: (x, .raw (instObj 270 dx)) :: (dx, .raw (dictOf (hdE w.params tk ro) 1)) :: (ro, .lst us) :: (c_standing, .cel cs) :: (c_plain, .cel (some (.ref pl))) :: (c_values, .cel cv) :: (c_reader, .cel cr) :: (c_one, .cel co) :: (c_width, .cel cw) :: (tp ++ tb)))
    (h : ∀ s, St g z s ((L, .ns [((Str.ofString "script"), some (.ref sl)), ((Str.ofString "sums"), some (.ref ysl)), ((Str.ofString "drawn"), some (.ref dl)), ((Str.ofString "numbers"), some (.ref nl)), ((Str.ofString "tape"), some (.ref tl)), ((Str.ofString "read"), some (.ref rl)), ((Str.ofString "rows"), some (.ref ro)), ((Str.ofString "table"), some (.ref x)), ((Str.ofString "terms"), some (.ref tml)), ((Str.ofString "stay"), sto), ((Str.ofString "words"), some (.ref wl)), ((Str.ofString "bits"), some (.ref bl)), ((Str.ofString "due"), some (.ref ul)), ((Str.ofString "sign"), some (.int (sgOf ys) t1)), ((Str.ofString "flip"), some (.int (flipOf ys) t2)), ((Str.ofString "shade"), some (.int (shadeOf vals : Nat) t3)), ((Str.ofString "most"), none), ((Str.ofString "parts"), none), ((Str.ofString "rest"), none)]) :: (bl, .lst bv) :: (ul, .lst uv) :: (wl, .lst wv) :: (pl, .lst pv) :: (x, .raw (instObj 270 dx)) :: (dx, .raw (dictOf (hdE w.params tk ro) 1)) :: (ro, .lst us) :: (c_standing, .cel cs) :: (c_plain, .cel (some (.ref pl))) :: (c_values, .cel cv) :: (c_reader, .cel cr) :: (c_one, .cel co) :: (c_width, .cel cw) :: (tp ++ tb)) →
      wpAny (model prog w) A (execs (lawSeg w.params 25) env) Q E s) : wpAny (model prog w) A (execs (lawSeg w.params 24) env) Q E s := by
  have hul := huv.len
  have hwl := hw.len
  rw [words_len] at hwl
  have hvvl := hvv.len
  unfold lawSeg
  rw [k337 w.params]
  dsimp only [bodyOf, fnOf, tailN, List.tail]
  ktd_said "m.go"
  refine' r_comp (cl := [((Str.ofString "plain"), c_plain)]) ?e1 ?hcl1 ?hk1 ?hn1 ?body1 ?hs1
  case e1 => assumption
  case hcl1 => kernel_rfl
  case hk1 => rfl
  case hn1 => kernel_rfl
  case hs1 => intro _; rfl
  ktd_said "m.go"
  rename_i J s8 S8
  try replace S8 := Se.st S8
  refine' comp_go1 (nm' := [((Str.ofString ".0"), .local), ((Str.ofString "word"), .cell), ((Str.ofString "sum"), .globalImplicit), ((Str.ofString "plain"), .cell)]) (m := [((Str.ofString ".0"), none)]) (ks := [(Str.ofString "word"), (Str.ofString "plain")]) (x := (Str.ofString "word")) ?e2 ?S ?hnm2 ?hnd2 ?hok2 ?hk2 ?hc2 ?hks2 ?hn2 ?hm2 ?body2
  case e2 => assumption
  case S => ktd_said "m.st"
  case hnm2 => kernel_rfl
  case hnd2 => decide +kernel
  case hok2 => decide +kernel
  case hk2 => rfl
  case hc2 => intro n; kernel_rfl
  case hks2 => kernel_rfl
  case hn2 => decide +kernel
  case hm2 => kernel_rfl
  intro C D c_word cenv s ceo S
  refine absR ?_
  intro RR hRR
  clear S8
  refine comp_start rfl ?_ (fun A' => it_listiter (by ktd_said "m.st") (by ktd_said "m.h") ⟨rfl, rfl⟩)
  refine loop_ind (P := fun i s => ∃ cwd nv, VL isI ((wordsL.take i).map fun wd => ((cnt pls wd : Nat) : Int)) nv ∧ St g z s ((C, .ns [((Str.ofString ".0"), none)]) :: (c_word, .cel cwd) :: (D, .lst nv) :: (L, .ns [((Str.ofString "script"), some (.ref sl)), ((Str.ofString "sums"), some (.ref ysl)), ((Str.ofString "drawn"), some (.ref dl)), ((Str.ofString "numbers"), some (.ref nl)), ((Str.ofString "tape"), some (.ref tl)), ((Str.ofString "read"), some (.ref rl)), ((Str.ofString "rows"), some (.ref ro)), ((Str.ofString "table"), some (.ref x)), ((Str.ofString "terms"), some (.ref tml)), ((Str.ofString "stay"), sto), ((Str.ofString "words"), some (.ref wl)), ((Str.ofString "bits"), some (.ref bl)), ((Str.ofString "due"), some (.ref ul)), ((Str.ofString "sign"), some (.int (sgOf ys) t1)), ((Str.ofString "flip"), some (.int (flipOf ys) t2)), ((Str.ofString "shade"), some (.int (shadeOf vals : Nat) t3)), ((Str.ofString "most"), none), ((Str.ofString "parts"), none), ((Str.ofString "rest"), none)]) :: (J, .lit wl i) :: (bl, .lst bv) :: (ul, .lst uv) :: (wl, .lst wv) :: (pl, .lst pv) :: (x, .raw (instObj 270 dx)) :: (dx, .raw (dictOf (hdE w.params tk ro) 1)) :: (ro, .lst us) :: (c_standing, .cel cs) :: (c_plain, .cel (some (.ref pl))) :: (c_values, .cel cv) :: (c_reader, .cel cr) :: (c_one, .cel co) :: (c_width, .cel cw) :: (tp ++ tb))) 32 ?_ ?_ _ (exI2_2 _ _ .nil (St.keep S (by ktd_said "m.keep")))
  · intro i hi ih s hP
    refine exE2_2 hP (fun cwd nv S hb => ?_)
    clear hP
    refine comp0 ?_
    have gi : wordsL[i]? = some wordsL[i] := List.getElem?_eq_getElem (by rw [words_len]; exact hi)
    have hwo := words_ok (List.getElem_mem (by rw [words_len]; exact hi : i < wordsL.length))
    generalize wordsL[i] = wd at gi hwo
    obtain ⟨_, gi', ⟨twd, rfl⟩⟩ := hw.get gi
    have hbl := hb.len
    rw [List.length_map, List.length_take, words_len] at hbl
    refine nx_lstN (by ktd_said "m.st") (by ktd_said "m.s") (St.isL (by ktd_said "m.st") (by ktd_said "m.h")) gi' (fun _ _ h => n0_some h) (fun _ _ => ?_)
    ktd_said "m.go"
    obtain ⟨Co, hCo⟩ : ∃ q, q = C := ⟨_, rfl⟩
    subst hCo
    obtain ⟨Do, hDo⟩ : ∃ q, q = D := ⟨_, rfl⟩
    subst hDo
    refine' r_comp (cl := [((Str.ofString "word"), c_word)]) ?e3 ?hcl3 ?hk3 ?hn3 ?body3 ?hs3
    case e3 => assumption
    case hcl3 => kernel_rfl
    case hk3 => rfl
    case hn3 => kernel_rfl
    case hs3 => intro _; rfl
    ktd_said "m.go"
    rename_i J2 s9 S9
    try replace S9 := Se.st S9
    refine' comp_go0 (nm' := [((Str.ofString ".0"), .local), ((Str.ofString "want"), .local), ((Str.ofString "_ellipsis_match"), .globalImplicit), ((Str.ofString "word"), .cell)]) (m := [((Str.ofString ".0"), none), ((Str.ofString "want"), none)]) (ks := [(Str.ofString "word")]) ?e4 ?S ?hnm4 ?hnd4 ?hok4 ?hk4 ?hc4 ?hks4 ?hn4 ?hm4 ?body4
    case e4 => assumption
    case S => ktd_said "m.st"
    case hnm4 => kernel_rfl
    case hnd4 => decide +kernel
    case hok4 => decide +kernel
    case hk4 => rfl
    case hc4 => kernel_rfl
    case hks4 => kernel_rfl
    case hn4 => decide +kernel
    case hm4 => kernel_rfl
    intro C D cenv s ceo S
    refine absR ?_
    intro RR hRR
    clear S9
    refine comp_start rfl ?_ (fun A' => it_listiter (by ktd_said "m.st") (by ktd_said "m.h") ⟨rfl, rfl⟩)
    refine loop_ind (P := fun j s => ∃ vo ov, VL isI (List.replicate ((pls.take j).filter fun v => emFun v wd).length (1 : Int)) ov ∧ ov.length ≤ j ∧ St g z s ((C, .ns [((Str.ofString ".0"), none), ((Str.ofString "want"), vo)]) :: (D, .lst ov) :: (Co, .ns [((Str.ofString ".0"), none)]) :: (J2, .lit pl j) :: (c_word, .cel (some (.str wd twd))) :: (Do, .lst nv) :: (L, .ns [((Str.ofString "script"), some (.ref sl)), ((Str.ofString "sums"), some (.ref ysl)), ((Str.ofString "drawn"), some (.ref dl)), ((Str.ofString "numbers"), some (.ref nl)), ((Str.ofString "tape"), some (.ref tl)), ((Str.ofString "read"), some (.ref rl)), ((Str.ofString "rows"), some (.ref ro)), ((Str.ofString "table"), some (.ref x)), ((Str.ofString "terms"), some (.ref tml)), ((Str.ofString "stay"), sto), ((Str.ofString "words"), some (.ref wl)), ((Str.ofString "bits"), some (.ref bl)), ((Str.ofString "due"), some (.ref ul)), ((Str.ofString "sign"), some (.int (sgOf ys) t1)), ((Str.ofString "flip"), some (.int (flipOf ys) t2)), ((Str.ofString "shade"), some (.int (shadeOf vals : Nat) t3)), ((Str.ofString "most"), none), ((Str.ofString "parts"), none), ((Str.ofString "rest"), none)]) :: (J, .lit wl (i + 1)) :: (bl, .lst bv) :: (ul, .lst uv) :: (wl, .lst wv) :: (pl, .lst pv) :: (x, .raw (instObj 270 dx)) :: (dx, .raw (dictOf (hdE w.params tk ro) 1)) :: (ro, .lst us) :: (c_standing, .cel cs) :: (c_plain, .cel (some (.ref pl))) :: (c_values, .cel cv) :: (c_reader, .cel cr) :: (c_one, .cel co) :: (c_width, .cel cw) :: (tp ++ tb))) pls.length ?_ ?_ _ (exI2_3 _ _ .nil (Nat.le_refl _) (St.keep S (by ktd_said "m.keep")))
    · intro j hj jh s hP
      refine exE2_3 hP (fun vo ov S ho hol => ?_)
      clear hP
      refine comp1 ?_
      have gj : pls[j]? = some pls[j] := List.getElem?_eq_getElem hj
      have hwj := hwant _ (List.getElem_mem hj)
      generalize pls[j] = y at gj hwj
      obtain ⟨_, gj', ⟨ty, rfl⟩⟩ := hvv.get gj
      have hst : (pls.take (j + 1)).filter (fun v => emFun v wd) = (pls.take j).filter (fun v => emFun v wd) ++ [y].filter (fun v => emFun v wd) := by
        rw [List.take_add_one, gj, List.filter_append]; rfl
      refine nx_lstN (by ktd_said "m.st") (by ktd_said "m.s") (St.isL (by ktd_said "m.st") (by ktd_said "m.h")) gj' (fun _ _ h => n1_some h) (fun _ _ => ?_)
      ktd_said "m.go"
      refine (em_con hwj hwo).useV G (by ktd_said "m.st") (hA.mono (by decide)) (fun v s10 hv S10 => ?_)
      subst hv
      ktd_said "m.go"
      by_cases hb : (emFun y wd == true) = true
      · refine if_t hb ?_
        ktd_said "m.go"
        refine compA_go (by ktd_said "m.st") (by ktd_said "m.s") (szl (by omega)) (fun s11 S11 => ?_)
        refine jh _ (exI2_3 _ _ ?_ ?_ (St.keep S11 (by ktd_said "m.keep")))
        · rw [hst, show [y].filter (fun v => emFun v wd) = [y] from by rw [List.filter_cons, if_pos (by simpa using hb)]; rfl, List.length_append, List.length_singleton, List.replicate_succ']
          exact ho.snoc .mk
        · rw [List.length_append]; simp only [List.length_cons, List.length_nil]; omega
      · refine if_f hb ?_
        refine jh _ (exI2_3 _ _ ?_ (Nat.le_succ_of_le hol) (St.keep (by ktd_said "m.st") (by ktd_said "m.keep")))
        rw [hst, show [y].filter (fun v => emFun v wd) = [] from by rw [List.filter_cons, if_neg (by simpa using hb)]; rfl, List.append_nil]
        exact ho
    · intro s hP
      refine exE2_3 hP (fun vo ov S ho hol => ?_)
      clear hP
      refine comp1 ?_
      refine nx_listEnd (AOk.handled (by with_reducible assumption)) (by ktd_said "m.st") (by ktd_said "m.p") (St.isL (by ktd_said "m.st") (by ktd_said "m.h")) (List.getElem?_eq_none (by omega)) (fun s12 S12 => n1_none ?_)
      rw [List.take_length] at ho
      refine leafR (by with_reducible assumption) (comp_end (fr := (Co, .ns _)) (by ktd_said "m.st") (by ktd_said "m.p") (fun s13 S13 => ?_))
      clear S S12
      ktd_said "m.go"
      refine bi_sumI (AOk.handled (by with_reducible assumption)) (by ktd_said "m.st") (by ktd_said "m.h") ho (fun t14 s14 S14 => ?_)
      rw [ones_sum]
      ktd_said "m.go"
      refine compA_go (by ktd_said "m.st") (by ktd_said "m.s") (szl (by omega)) (fun s15 S15 => ?_)
      refine ih _ (exI2_2 _ _ ?_ (St.keep S15 (by ktd_said "m.keep")))
      rw [List.take_add_one, gi, List.map_append]
      exact hb.snoc .mk
  · intro s hP
    refine exE2_2 hP (fun cwd nv S hb => ?_)
    clear hP
    refine comp0 ?_
    refine nx_listEnd (AOk.handled (by with_reducible assumption)) (by ktd_said "m.st") (by ktd_said "m.p") (St.isL (by ktd_said "m.st") (by ktd_said "m.h")) (List.getElem?_eq_none (by omega)) (fun s16 S16 => n0_none ?_)
    rw [List.take_of_length_le (by rw [words_len]; decide), hlaw] at hb
    refine leafR (by with_reducible assumption) (comp_end (fr := (L, .ns _)) (by ktd_said "m.st") (by ktd_said "m.p") (fun s17 S17 => ?_))
    clear S S16
    ktd_said "m.go"
    rename_i s18 S18
    try replace S18 := Se.st S18
    refine c_neI S18 (by ktd_said "m.h") (by ktd_said "m.h") hb huv (AOk.fits64 (by with_reducible assumption) (by decide)) ?_
    rw [decide_eq_true rfl]
    refine tr_bool (if_f (by decide) ?_)
    have R := h s18 (St.keep S18 (by ktd_said "m.keep"))
    unfold lawSeg at R
    rw [k337 w.params] at R
    dsimp only [bodyOf, fnOf, tailN, List.tail] at R
    exact x_nil (then_next R)

end TF25
section TF26
open PySem PySem.Spec PySem.Calls PyProof.Rows PySem.W
/-- how long some names are -/
noncomputable def lensL (rws : List (Str × Str)) : List Int := rws.map fun p => (p.1.length : Int)
theorem k_bd {rws : List (Str × Str)} {m : Int} (h1 : m ∈ 1 :: lensL rws) (h2 : ∀ y ∈ 1 :: lensL rws, y ≤ m) : 0 ≤ (4 : Int).fdiv m ∧ (4 : Int).fdiv m ≤ 4 ∧ m ≠ 0 := by
  have h := h2 1 (.head _)
  have e := Int.mul_fdiv_add_fmod 4 m
  have f1 := Int.fmod_nonneg_of_pos 4 (show 0 < m by omega)
  have f2 := Int.fmod_lt_of_pos 4 (show 0 < m by omega)
  refine ⟨Int.fdiv_nonneg (by decide) (by omega), ?_, by omega⟩
  generalize (4 : Int).fdiv m = q at *
  refine Int.not_lt.mp fun hlt => ?_
  have := Int.mul_le_mul_of_nonneg_left (show (5 : Int) ≤ q by omega) (show 0 ≤ m by omega)
  omega
theorem bits_bd (vals : List Str) : 0 ≤ (bitsL vals).sum ∧ (bitsL vals).sum ≤ 32 := by
  have key : ∀ l : List Str, 0 ≤ (l.map fun wd => ((cnt vals wd : Nat) : Int).fmod 2).sum ∧ (l.map fun wd => ((cnt vals wd : Nat) : Int).fmod 2).sum ≤ l.length := by
    intro l
    induction l with
    | nil => exact ⟨Int.le_refl _, Int.le_refl _⟩
    | cons a r ih =>
      rw [List.map_cons, List.sum_cons, List.length_cons]
      have g1 := Int.fmod_nonneg_of_pos ((cnt vals a : Nat) : Int) (show (0 : Int) < 2 by decide)
      have g2 := Int.fmod_lt_of_pos ((cnt vals a : Nat) : Int) (show (0 : Int) < 2 by decide)
      omega
  have := key wordsL
  rw [words_len] at this
  exact this
theorem div_side {sg k N q : Int} (hsg : sg = 1 ∨ sg = -1) (h0 : 0 ≤ k) (h4 : k ≤ 4) (hN : 0 ≤ N ∧ N ≤ 32) (hq : N = q * 2 ^ k.toNat) :
    sg * 2 ^ k.toNat ≠ 0 ∧ (sg * 2 ^ k.toNat : Int).natAbs < 2 ^ 32 ∧ (sg * N).natAbs < 2 ^ 39 ∧ (∀ y : Nat, y ≤ (sg * N).natAbs → y < 2 ^ (Builtin.Int.intBits ((sg * 2 ^ k.toNat : Int).natAbs : Int) * 8)) ∧ (sg * N).fdiv (sg * 2 ^ k.toNat) = q ∧ (sg * N).fmod (sg * 2 ^ k.toNat) = 0 ∧ q.natAbs < 2 ^ 64 := by
  obtain ⟨n, rfl⟩ : ∃ n : Nat, k = n := ⟨k.toNat, by omega⟩
  rw [Int.toNat_natCast] at *
  have c1 : ((2 ^ n : Nat) : Int) = 2 ^ n := by push_cast; rfl
  have hb : (sg * 2 ^ n : Int).natAbs = 2 ^ n := by rw [sgn_abs hsg, ← c1, Int.natAbs_natCast]
  have h16 : 2 ^ n ≤ 2 ^ 4 := Nat.pow_le_pow_right (by decide) (by omega)
  have hpos : 0 < 2 ^ n := Nat.two_pow_pos n
  have hne : sg * 2 ^ n ≠ 0 := fun e => by rw [e] at hb; simp at hb; omega
  have e : sg * N = q * (sg * 2 ^ n) := by rw [hq, ← Int.mul_assoc, Int.mul_comm sg q, Int.mul_assoc]
  refine ⟨hne, by omega, ?_, ?_, ?_, ?_, ?_⟩
  · rw [sgn_abs hsg]; omega
  · rw [hb, sgn_abs hsg, bits_pow]
    intro y hy
    refine Nat.lt_of_le_of_lt (show y ≤ 32 by omega) (Nat.lt_of_lt_of_le (show 32 < 2 ^ 8 by decide) (Nat.pow_le_pow_right (by decide) (by omega)))
  · rw [e]; exact Int.mul_fdiv_cancel _ hne
  · rw [e]; exact Int.mul_fmod_left _ _
  · have e2 : q.natAbs * 2 ^ n = N.natAbs := by rw [hq, ← c1, Int.natAbs_mul, Int.natAbs_natCast]
    have := Nat.le_mul_of_pos_right q.natAbs hpos
    omega
set_option pp.maxSteps 400
set_option maxHeartbeats 2000000
theorem segI {prog : Program} {w : World} {A : Around} {E : Value → Shared → Prop} {Q : Flow → Shared → Prop} {g : Heap} {z s : Shared} {tb : List (Addr × Kd)} {env : Env} {L c_standing c_plain c_values c_reader c_one c_width : Addr} {sl ysl dl nl tl rl ro x dx tml pl wl bl ul : Addr} {tk t1 t2 t3 : Tok} {ys : List Int} {us pv wv bv uv : List Value} {cs cv cr co cw sto : Option Value} {vals pls : List Str} {rws : List (Str × Str)} {tp : List (Addr × Kd)} (G : Gd (Mine.hd.heap_1 w.params) g) (eo : EO env L (((Str.ofString "script"), .local) :: ((Str.ofString "sums"), .local) :: ((Str.ofString "width"), .cell) :: ((Str.ofString "one"), .cell) :: ((Str.ofString "drawn"), .local) :: ((Str.ofString "numbers"), .local) :: ((Str.ofString "tape"), .local) :: ((Str.ofString "reader"), .cell) :: ((Str.ofString "read"), .local) :: ((Str.ofString "rows"), .local) :: ((Str.ofString "table"), .local) :: ((Str.ofString "terms"), .local) :: ((Str.ofString "stay"), .local) :: ((Str.ofString "values"), .cell) :: ((Str.ofString "plain"), .cell) :: ((Str.ofString "words"), .local) :: ((Str.ofString "bits"), .local) :: ((Str.ofString "standing"), .cell) :: ((Str.ofString "due"), .local) :: ((Str.ofString "sign"), .local) :: ((Str.ofString "flip"), .local) :: ((Str.ofString "shade"), .local) :: ((Str.ofString "most"), .local) :: ((Str.ofString "parts"), .local) :: ((Str.ofString "rest"), .local) :: ((Str.ofString "_law_sums"), .globalImplicit) :: ((Str.ofString "zip"), .globalImplicit) :: ((Str.ofString "iter"), .globalImplicit) :: ((Str.ofString "_law_over"), .globalImplicit) :: ((Str.ofString "Headers"), .globalImplicit) :: ((Str.ofString "_law_gather"), .globalImplicit) :: ((Str.ofString "len"), .globalImplicit) :: ((Str.ofString "range"), .globalImplicit) :: ((Str.ofString "_digits2int"), .globalImplicit) :: ((Str.ofString "_law_halves"), .globalImplicit) :: ((Str.ofString "max"), .globalImplicit) :: ((Str.ofString "int_divmod"), .globalImplicit) :: ((Str.ofString "sum"), .globalImplicit) :: ((Str.ofString "_law_refused"), .globalImplicit) :: []) [((Str.ofString "standing"), c_standing), ((Str.ofString "plain"), c_plain), ((Str.ofString "values"), c_values), ((Str.ofString "reader"), c_reader), ((Str.ofString "one"), c_one), ((Str.ofString "width"), c_width)]) (hef : env.frame = some L) (hA : AOk A 89) (hfr : A.frames = some [env])
    (T : TabS tb) (hbv : VL isI (bitsL vals) bv) (hmc : ∀ m, m ∈ 1 :: lensL rws → (∀ y ∈ 1 :: lensL rws, y ≤ m) → ∃ q : Int, (bitsL vals).sum = q * 2 ^ ((4 : Int).fdiv m).toNat) (hT : TupR isSS tp rws us) (hxs : RowsOk rws)
    (S : St g z s ((L, .ns [((Str.ofString "script"), some (.ref sl)), ((Str.ofString "sums"), some (.ref ysl)), ((Str.ofString "drawn"), some (.ref dl)), ((Str.ofString "numbers"), some (.ref nl)), ((Str.ofString "tape"), some (.ref tl)), ((Str.ofString "read"), some (.ref rl)), ((Str.ofString "rows"), some (.ref ro)), ((Str.ofString "table"), some (.ref x)), ((Str.ofString "terms"), some (.ref tml)), ((Str.ofString "stay"), sto), ((Str.ofString "words"), some (.ref wl)), ((Str.ofString "bits"), some (.ref bl)), ((Str.ofString "due"), some (.ref ul)), ((Str.ofString "sign"), some (.int (sgOf ys) t1)), ((Str.ofString "flip"), some (.int (flipOf ys) t2)), ((Str.ofString "shade"), some (.int (shadeOf vals : Nat) t3)), ((Str.ofString "most"), none), ((Str.ofString "parts"), none), ((Str.ofString "rest"), none)]) :: (bl, .lst bv) :: (ul, .lst uv) :: (wl, .lst wv) :: (pl, .lst pv) :: (x, .raw (instObj 270 dx)) :: (dx, .raw (dictOf (hdE w.params tk ro) 1)) :: (ro, .lst us) :: (c_standing, .cel cs) :: (c_plain, .cel (some (.ref pl))) :: (c_values, .cel cv) :: (c_reader, .cel cr) :: (c_one, .cel co) :: (c_width, .cel cw) :: (tp ++ tb)))
    (h : ∀ s tb m po re, TabS tb → St g z s ((L, .ns [((Str.ofString "script"), some (.ref sl)), ((Str.ofString "sums"), some (.ref ysl)), ((Str.ofString "drawn"), some (.ref dl)), ((Str.ofString "numbers"), some (.ref nl)), ((Str.ofString "tape"), some (.ref tl)), ((Str.ofString "read"), some (.ref rl)), ((Str.ofString "rows"), some (.ref ro)), ((Str.ofString "table"), some (.ref x)), ((Str.ofString "terms"), some (.ref tml)), ((Str.ofString "stay"), sto), ((Str.ofString "words"), some (.ref wl)), ((Str.ofString "bits"), some (.ref bl)), ((Str.ofString "due"), some (.ref ul)), ((Str.ofString "sign"), some (.int (sgOf ys) t1)), ((Str.ofString "flip"), some (.int (flipOf ys) t2)), ((Str.ofString "shade"), some (.int (shadeOf vals : Nat) t3)), ((Str.ofString "most"), m), ((Str.ofString "parts"), po), ((Str.ofString "rest"), re)]) :: (bl, .lst bv) :: (ul, .lst uv) :: (wl, .lst wv) :: (pl, .lst pv) :: (x, .raw (instObj 270 dx)) :: (dx, .raw (dictOf (hdE w.params tk ro) 1)) :: (ro, .lst us) :: (c_standing, .cel cs) :: (c_plain, .cel (some (.ref pl))) :: (c_values, .cel cv) :: (c_reader, .cel cr) :: (c_one, .cel co) :: (c_width, .cel cw) :: (tp ++ tb)) →
      wpAny (model prog w) A (execs (lawSeg w.params 28) env) Q E s) : wpAny (model prog w) A (execs (lawSeg w.params 25) env) Q E s := by
  obtain ⟨hx1, hx2⟩ := hxs
  have hvl := hT.len
  unfold lawSeg
  rw [k337 w.params]
  dsimp only [bodyOf, fnOf, tailN, List.tail]
  ktd_said "m.go"
  rename_i u1 s7 S7
  try replace S7 := Se.st S7
  refine' r_comp (cl := []) ?e1 ?hcl1 ?hk1 ?hn1 ?body1 ?hs1
  case e1 => assumption
  case hcl1 => kernel_rfl
  case hk1 => rfl
  case hn1 => kernel_rfl
  case hs1 => intro _; rfl
  ktd_said "m.go"
  rename_i J s8 S8
  try replace S8 := Se.st S8
  obtain ⟨tu, S9⟩ : ∃ tu, St g z s8 ((L, .ns [((Str.ofString "script"), some (.ref sl)), ((Str.ofString "sums"), some (.ref ysl)), ((Str.ofString "drawn"), some (.ref dl)), ((Str.ofString "numbers"), some (.ref nl)), ((Str.ofString "tape"), some (.ref tl)), ((Str.ofString "read"), some (.ref rl)), ((Str.ofString "rows"), some (.ref ro)), ((Str.ofString "table"), some (.ref x)), ((Str.ofString "terms"), some (.ref tml)), ((Str.ofString "stay"), sto), ((Str.ofString "words"), some (.ref wl)), ((Str.ofString "bits"), some (.ref bl)), ((Str.ofString "due"), some (.ref ul)), ((Str.ofString "sign"), some (.int (sgOf ys) t1)), ((Str.ofString "flip"), some (.int (flipOf ys) t2)), ((Str.ofString "shade"), some (.int (shadeOf vals : Nat) t3)), ((Str.ofString "most"), none), ((Str.ofString "parts"), none), ((Str.ofString "rest"), none)]) :: (J, .lit ro 0) :: (u1, .lst [.int 1 tu]) :: (bl, .lst bv) :: (ul, .lst uv) :: (wl, .lst wv) :: (pl, .lst pv) :: (x, .raw (instObj 270 dx)) :: (dx, .raw (dictOf (hdE w.params tk ro) 1)) :: (ro, .lst us) :: (c_standing, .cel cs) :: (c_plain, .cel (some (.ref pl))) :: (c_values, .cel cv) :: (c_reader, .cel cr) :: (c_one, .cel co) :: (c_width, .cel cw) :: (tp ++ tb)) := ⟨_, St.keep S8 (by ktd_said "m.keep")⟩
  clear S8 S7
  refine' comp_go0 (nm' := [((Str.ofString ".0"), .local), ((Str.ofString "name"), .local), ((Str.ofString "value"), .local), ((Str.ofString "len"), .globalImplicit)]) (m := [((Str.ofString ".0"), none), ((Str.ofString "name"), none), ((Str.ofString "value"), none)]) (ks := []) ?e2 ?S ?hnm2 ?hnd2 ?hok2 ?hk2 ?hc2 ?hks2 ?hn2 ?hm2 ?body2
  case e2 => assumption
  case S => ktd_said "m.st"
  case hnm2 => kernel_rfl
  case hnd2 => decide +kernel
  case hok2 => decide +kernel
  case hk2 => rfl
  case hc2 => kernel_rfl
  case hks2 => kernel_rfl
  case hn2 => decide +kernel
  case hm2 => kernel_rfl
  intro C D cenv s ceo S
  refine absR ?_
  intro RR hRR
  clear S9
  refine comp_start rfl ?_ (fun A' => it_listiter (by ktd_said "m.st") (by ktd_said "m.h") ⟨rfl, rfl⟩)
  refine loop_ind (P := fun i s => ∃ n1 n2 nv, VL isI (lensL (rws.take i)) nv ∧ St g z s ((C, .ns [((Str.ofString ".0"), none), ((Str.ofString "name"), n1), ((Str.ofString "value"), n2)]) :: (D, .lst nv) :: (L, .ns [((Str.ofString "script"), some (.ref sl)), ((Str.ofString "sums"), some (.ref ysl)), ((Str.ofString "drawn"), some (.ref dl)), ((Str.ofString "numbers"), some (.ref nl)), ((Str.ofString "tape"), some (.ref tl)), ((Str.ofString "read"), some (.ref rl)), ((Str.ofString "rows"), some (.ref ro)), ((Str.ofString "table"), some (.ref x)), ((Str.ofString "terms"), some (.ref tml)), ((Str.ofString "stay"), sto), ((Str.ofString "words"), some (.ref wl)), ((Str.ofString "bits"), some (.ref bl)), ((Str.ofString "due"), some (.ref ul)), ((Str.ofString "sign"), some (.int (sgOf ys) t1)), ((Str.ofString "flip"), some (.int (flipOf ys) t2)), ((Str.ofString "shade"), some (.int (shadeOf vals : Nat) t3)), ((Str.ofString "most"), none), ((Str.ofString "parts"), none), ((Str.ofString "rest"), none)]) :: (J, .lit ro i) :: (u1, .lst [.int 1 tu]) :: (bl, .lst bv) :: (ul, .lst uv) :: (wl, .lst wv) :: (pl, .lst pv) :: (x, .raw (instObj 270 dx)) :: (dx, .raw (dictOf (hdE w.params tk ro) 1)) :: (ro, .lst us) :: (c_standing, .cel cs) :: (c_plain, .cel (some (.ref pl))) :: (c_values, .cel cv) :: (c_reader, .cel cr) :: (c_one, .cel co) :: (c_width, .cel cw) :: (tp ++ tb))) rws.length ?_ ?_ _ (exI3_2 _ _ _ .nil (St.keep (by ktd_said "m.st") (by ktd_said "m.keep")))
  · intro i hi ih s hP
    refine exE3_2 hP (fun n1 n2 nv S hn => ?_)
    clear hP
    refine comp0 ?_
    have hxi : rws[i]? = some rws[i] := List.getElem?_eq_getElem hi
    obtain ⟨b1, b2, b3⟩ := hx2 _ (List.getElem_mem hi)
    generalize rws[i] = p at hxi b1 b2 b3
    obtain ⟨T, a, b, hv, hTa, ⟨t1, rfl⟩, ⟨t2, rfl⟩⟩ := hT.get hxi
    have hTb := hTa.app tb
    have hnl := hn.len
    rw [lensL, List.length_map, List.length_take] at hnl
    refine nx_lstT (by ktd_said "m.st") (by ktd_said "m.s") (St.isL (by ktd_said "m.st") (by ktd_said "m.h")) hv (fun _ _ h => n0_some h) (fun _ _ => ?_)
    ktd_said "m.go"
    refine compA_go (by ktd_said "m.st") (by ktd_said "m.s") (szl (by omega)) (fun s6 S6 => ?_)
    refine ih _ (exI3_2 _ _ _ ?_ (St.keep S6 (by ktd_said "m.keep")))
    rw [List.take_add_one, hxi, lensL, List.map_append]
    exact hn.snoc .mk
  · intro s hP
    refine exE3_2 hP (fun n1 n2 nv S hn => ?_)
    clear hP
    refine comp0 ?_
    refine nx_listEnd (AOk.handled (by with_reducible assumption)) (by ktd_said "m.st") (by ktd_said "m.p") (St.isL (by ktd_said "m.st") (by ktd_said "m.h")) (List.getElem?_eq_none (by omega)) (fun s3 S3 => n0_none ?_)
    rw [List.take_length] at hn
    have hnl := hn.len
    rw [lensL, List.length_map] at hnl
    refine leafR (by with_reducible assumption) (comp_end (fr := (L, .ns _)) (by ktd_said "m.st") (by ktd_said "m.p") (fun s4 S4 => ?_))
    clear S S3
    have hlen : [Value.int 1 tu].length + nv.length ≤ 1000 := by simp only [List.length_cons, List.length_nil]; omega
    refine o_addList (by ktd_said "m.st") (by ktd_said "m.h") (by ktd_said "m.h") hlen (fun b s5 S5 => ?_)
    ktd_said "m.go"
    refine bi_maxI (AOk.handled (by with_reducible assumption)) (by ktd_said "m.st") (by ktd_said "m.h") (xs := 1 :: lensL rws) (vs := [.int 1 tu] ++ nv) (.cons .mk hn) (by simp) (fun m tm s6 hm1 hm2 S6 => ?_)
    obtain ⟨hk0, hk4, hm0⟩ := k_bd hm1 hm2
    obtain ⟨q, hq⟩ := hmc m hm1 hm2
    have hmb : m.natAbs < 2 ^ 64 := by
      rcases List.mem_cons.mp hm1 with e | e
      · rw [e]; decide
      · obtain ⟨p, hp, e2⟩ := List.mem_map.mp e
        have := (hx2 p hp).1
        omega
    have hp : Builtin.divisionGoesByPylong 4 m = false := nopyl hmb
    have hk4' : (4 : Int).fdiv m ≤ 1000000 := by omega
    have hsga : (sgOf ys).natAbs < 2 ^ 64 := by rcases sg_ok ys with e | e <;> rw [e] <;> decide
    ktd_said "m.go"
    refine bi_sumI (AOk.handled (by with_reducible assumption)) (by ktd_said "m.st") (by ktd_said "m.h") hbv (fun t14 s14 S14 => ?_)
    ktd_said "m.go"
    obtain ⟨k1, k2, k3, k4, k5, k6, k7⟩ := div_side (sg_ok ys) hk0 hk4 (bits_bd vals) hq
    refine (divmod_con k1 k2 k3 k4).use0 G (by ktd_said "m.st") T (by ktd_said "m.tl") (hA.mono (by decide)) (fun v s' new tb2 hv' T2 S2 => ?_)
    obtain ⟨Ta, u1, u2, rfl, rfl⟩ := hv'
    dsimp only [List.cons_append, List.nil_append] at S2
    rw [k5, k6] at S2
    ktd_said "m.go"
    refine bi_sumI (AOk.handled (by with_reducible assumption)) (by ktd_said "m.st") (by ktd_said "m.h") hbv (fun t15 s15 S15 => ?_)
    rw [← hq]
    ktd_said "m.go"
    try refine if_f (by rw [bne_self_eq_false]; decide) ?_
    ktd_said "m.go"
    refine refused_use G (by ktd_said "m.st") (hA.mono (by decide)) hfr (fun e he => ?_) (fun s13 S13 => ?_)
    · rw [List.mem_singleton.mp he]
      exact ⟨eo.kind, L, _, hef, .hd⟩
    · refine tr_bool ?_
      refine if_f (by decide) ?_
      refine isTrue_or_nil ?_
      refine if_f (by decide) ?_
      have R := h s13 tb2 _ _ _ T2 (St.keep S13 (by ktd_said "m.keep"))
      unfold lawSeg at R
      rw [k337 w.params] at R
      dsimp only [bodyOf, fnOf, tailN, List.tail] at R
      exact x_nil (then_next R)

end TF26
section TF27
open PySem PySem.Spec PySem.Calls PyProof.Rows PySem.W
set_option pp.maxSteps 400
set_option maxHeartbeats 2000000
theorem segK {prog : Program} {w : World} {A : Around} {E : Value → Shared → Prop} {Q : Flow → Shared → Prop} {g : Heap} {z s : Shared} {tb : List (Addr × Kd)} {env : Env} {L c_standing c_plain c_values c_reader c_one c_width : Addr} {sl ysl dl nl tl rl ro x dx tml pl wl bl ul : Addr} {tk t1 t2 t3 : Tok} {ys : List Int} {us pv wv bv uv : List Value} {cs cv cr co cw sto : Option Value} {vals pls : List Str} {rws : List (Str × Str)} {tp : List (Addr × Kd)} (G : Gd (Mine.hd.heap_1 w.params) g) (eo : EO env L (((Str.ofString "script"), .local) :: ((Str.ofString "sums"), .local) :: ((Str.ofString "width"), .cell) :: ((Str.ofString "one"), .cell) :: ((Str.ofString "drawn"), .local) :: ((Str.ofString "numbers"), .local) :: ((Str.ofString "tape"), .local) :: ((Str.ofString "reader"), .cell) :: ((Str.ofString "read"), .local) :: ((Str.ofString "rows"), .local) :: ((Str.ofString "table"), .local) :: ((Str.ofString "terms"), .local) :: ((Str.ofString "stay"), .local) :: ((Str.ofString "values"), .cell) :: ((Str.ofString "plain"), .cell) :: ((Str.ofString "words"), .local) :: ((Str.ofString "bits"), .local) :: ((Str.ofString "standing"), .cell) :: ((Str.ofString "due"), .local) :: ((Str.ofString "sign"), .local) :: ((Str.ofString "flip"), .local) :: ((Str.ofString "shade"), .local) :: ((Str.ofString "most"), .local) :: ((Str.ofString "parts"), .local) :: ((Str.ofString "rest"), .local) :: ((Str.ofString "_law_sums"), .globalImplicit) :: ((Str.ofString "zip"), .globalImplicit) :: ((Str.ofString "iter"), .globalImplicit) :: ((Str.ofString "_law_over"), .globalImplicit) :: ((Str.ofString "Headers"), .globalImplicit) :: ((Str.ofString "_law_gather"), .globalImplicit) :: ((Str.ofString "len"), .globalImplicit) :: ((Str.ofString "range"), .globalImplicit) :: ((Str.ofString "_digits2int"), .globalImplicit) :: ((Str.ofString "_law_halves"), .globalImplicit) :: ((Str.ofString "max"), .globalImplicit) :: ((Str.ofString "int_divmod"), .globalImplicit) :: ((Str.ofString "sum"), .globalImplicit) :: ((Str.ofString "_law_refused"), .globalImplicit) :: []) [((Str.ofString "standing"), c_standing), ((Str.ofString "plain"), c_plain), ((Str.ofString "values"), c_values), ((Str.ofString "reader"), c_reader), ((Str.ofString "one"), c_one), ((Str.ofString "width"), c_width)]) (hef : env.frame = some L) (hA : AOk A 89) (hfr : A.frames = some [env])
    (hvl : pls.length ≤ 100) (htk : ∀ v ∈ pls, takesOk v = true) (hvv : VL isS pls pv) {m po re : Option Value}
    (S : St g z s ((L, .ns [((Str.ofString "script"), some (.ref sl)), ((Str.ofString "sums"), some (.ref ysl)), ((Str.ofString "drawn"), some (.ref dl)), ((Str.ofString "numbers"), some (.ref nl)), ((Str.ofString "tape"), some (.ref tl)), ((Str.ofString "read"), some (.ref rl)), ((Str.ofString "rows"), some (.ref ro)), ((Str.ofString "table"), some (.ref x)), ((Str.ofString "terms"), some (.ref tml)), ((Str.ofString "stay"), sto), ((Str.ofString "words"), some (.ref wl)), ((Str.ofString "bits"), some (.ref bl)), ((Str.ofString "due"), some (.ref ul)), ((Str.ofString "sign"), some (.int (sgOf ys) t1)), ((Str.ofString "flip"), some (.int (flipOf ys) t2)), ((Str.ofString "shade"), some (.int (shadeOf vals : Nat) t3)), ((Str.ofString "most"), m), ((Str.ofString "parts"), po), ((Str.ofString "rest"), re)]) :: (bl, .lst bv) :: (ul, .lst uv) :: (wl, .lst wv) :: (pl, .lst pv) :: (x, .raw (instObj 270 dx)) :: (dx, .raw (dictOf (hdE w.params tk ro) 1)) :: (ro, .lst us) :: (c_standing, .cel cs) :: (c_plain, .cel (some (.ref pl))) :: (c_values, .cel cv) :: (c_reader, .cel cr) :: (c_one, .cel co) :: (c_width, .cel cw) :: (tp ++ tb)))
    (h : ∀ s, St g z s tb → Q (.ret (.bool true)) s) : wpAny (model prog w) A (execs (lawSeg w.params 28) env) Q E s := by
  have hvvl := hvv.len
  unfold lawSeg
  rw [k337 w.params]
  dsimp only [bodyOf, fnOf, tailN, List.tail]
  ktd_said "m.go"
  refine' r_comp (cl := []) ?e1 ?hcl1 ?hk1 ?hn1 ?body1 ?hs1
  case e1 => assumption
  case hcl1 => kernel_rfl
  case hk1 => rfl
  case hn1 => kernel_rfl
  case hs1 => intro _; rfl
  ktd_said "m.go"
  rename_i J s8 S8
  try replace S8 := Se.st S8
  refine' comp_go0 (nm' := [((Str.ofString ".0"), .local), ((Str.ofString "word"), .local), ((Str.ofString "_law_takes_rightly"), .globalImplicit)]) (m := [((Str.ofString ".0"), none), ((Str.ofString "word"), none)]) (ks := []) ?e2 ?S ?hnm2 ?hnd2 ?hok2 ?hk2 ?hc2 ?hks2 ?hn2 ?hm2 ?body2
  case e2 => assumption
  case S => ktd_said "m.st"
  case hnm2 => kernel_rfl
  case hnd2 => decide +kernel
  case hok2 => decide +kernel
  case hk2 => rfl
  case hc2 => kernel_rfl
  case hks2 => kernel_rfl
  case hn2 => decide +kernel
  case hm2 => kernel_rfl
  intro C D cenv s ceo S
  refine absR ?_
  intro RR hRR
  clear S8
  refine comp_start rfl ?_ (fun A' => it_listiter (by ktd_said "m.st") (by ktd_said "m.h") ⟨rfl, rfl⟩)
  refine loop_ind (P := fun i s => ∃ wo, St g z s ((C, .ns [((Str.ofString ".0"), none), ((Str.ofString "word"), wo)]) :: (D, .lst []) :: (L, .ns [((Str.ofString "script"), some (.ref sl)), ((Str.ofString "sums"), some (.ref ysl)), ((Str.ofString "drawn"), some (.ref dl)), ((Str.ofString "numbers"), some (.ref nl)), ((Str.ofString "tape"), some (.ref tl)), ((Str.ofString "read"), some (.ref rl)), ((Str.ofString "rows"), some (.ref ro)), ((Str.ofString "table"), some (.ref x)), ((Str.ofString "terms"), some (.ref tml)), ((Str.ofString "stay"), sto), ((Str.ofString "words"), some (.ref wl)), ((Str.ofString "bits"), some (.ref bl)), ((Str.ofString "due"), some (.ref ul)), ((Str.ofString "sign"), some (.int (sgOf ys) t1)), ((Str.ofString "flip"), some (.int (flipOf ys) t2)), ((Str.ofString "shade"), some (.int (shadeOf vals : Nat) t3)), ((Str.ofString "most"), m), ((Str.ofString "parts"), po), ((Str.ofString "rest"), re)]) :: (J, .lit pl i) :: (bl, .lst bv) :: (ul, .lst uv) :: (wl, .lst wv) :: (pl, .lst pv) :: (x, .raw (instObj 270 dx)) :: (dx, .raw (dictOf (hdE w.params tk ro) 1)) :: (ro, .lst us) :: (c_standing, .cel cs) :: (c_plain, .cel (some (.ref pl))) :: (c_values, .cel cv) :: (c_reader, .cel cr) :: (c_one, .cel co) :: (c_width, .cel cw) :: (tp ++ tb))) pls.length ?_ ?_ _ (exI1_1 _ (St.keep S (by ktd_said "m.keep")))
  · intro i hi ih s hP
    refine exE1_1 hP (fun wo S => ?_)
    clear hP
    refine comp1 ?_
    have gi : pls[i]? = some pls[i] := List.getElem?_eq_getElem hi
    have hto := htk _ (List.getElem_mem hi)
    generalize pls[i] = y at gi hto
    obtain ⟨_, gi', ⟨ty, rfl⟩⟩ := hvv.get gi
    refine nx_lstN (by ktd_said "m.st") (by ktd_said "m.s") (St.isL (by ktd_said "m.st") (by ktd_said "m.h")) gi' (fun _ _ h => n1_some h) (fun _ _ => ?_)
    ktd_said "m.go"
    refine (takes_con hto).useV G (by ktd_said "m.st") (hA.mono (by decide)) (fun v s10 hv S10 => ?_)
    subst hv
    ktd_said "m.go"
    exact ih _ (exI1_1 _ (St.keep (by ktd_said "m.st") (by ktd_said "m.keep")))
  · intro s hP
    refine exE1_1 hP (fun wo S => ?_)
    clear hP
    refine comp1 ?_
    refine nx_listEnd (AOk.handled (by with_reducible assumption)) (by ktd_said "m.st") (by ktd_said "m.p") (St.isL (by ktd_said "m.st") (by ktd_said "m.h")) (List.getElem?_eq_none (by omega)) (fun s12 S12 => n1_none ?_)
    refine leafR (by with_reducible assumption) (comp_end (fr := (L, .ns _)) (by ktd_said "m.st") (by ktd_said "m.p") (fun s13 S13 => ?_))
    clear S S12
    ktd_said "m.go"
    exact h _ (St.keep (by ktd_said "m.st") (by ktd_said "m.keep"))

end TF27
section TFP1
open PySem PySem.Spec PySem.Calls PyProof.Rows PySem.W
/-! bits of whole numbers -/
theorem pw_pos (i : Nat) : (0 : Int) < 2 ^ i := Int.pow_pos (by decide)
theorem bit_nat (n i : Nat) : bit (n : Int) i = n.testBit i := by
  rw [bit_eq, Nat.testBit_eq_decide_div_mod_eq, decide_eq_decide]
  have c1 : ((2 ^ i : Nat) : Int) = 2 ^ i := by push_cast; rfl
  rw [← c1]
  omega
theorem bit_not (x : Int) (i : Nat) : bit (Builtin.bitNot x) i = !bit x i := by
  rw [bit_eq, bit_eq, ← decide_not, decide_eq_decide]
  have hp := pw_pos i
  have h1 := Int.mul_ediv_add_emod x (2 ^ i)
  have h2 := Int.emod_nonneg x (Int.ne_of_gt hp)
  have h3 := Int.emod_lt_of_pos x hp
  have e : Builtin.bitNot x / 2 ^ i = -(x / 2 ^ i) - 1 := by
    show (-x - 1) / 2 ^ i = _
    refine (Int.ediv_eq_iff_of_pos hp).mpr ?_
    generalize x / 2 ^ i = q at *
    generalize x % 2 ^ i = r at *
    generalize (2 : Int) ^ i = k at *
    have e1 : (-q - 1) * k = -(k * q) - k := by rw [Int.sub_mul, Int.neg_mul, Int.one_mul, Int.mul_comm]
    have e2 : (-q - 1 + 1) * k = -(k * q) := by rw [show -q - 1 + 1 = -q from by omega, Int.neg_mul, Int.mul_comm]
    constructor <;> omega
  rw [e]
  omega
theorem nxor (x y : Nat) : x + y - 2 * (x &&& y) = x ^^^ y := by
  have h1 := or_add_and x y
  have h2 := or_add_and (x ^^^ y) (x &&& y)
  have e1 : (x ^^^ y) ||| (x &&& y) = x ||| y := by
    apply Nat.eq_of_testBit_eq
    intro i
    rw [Nat.testBit_or, Nat.testBit_xor, Nat.testBit_and, Nat.testBit_or]
    cases x.testBit i <;> cases y.testBit i <;> rfl
  have e2 : (x ^^^ y) &&& (x &&& y) = 0 := by
    apply Nat.eq_of_testBit_eq
    intro i
    rw [Nat.testBit_and, Nat.testBit_xor, Nat.testBit_and, Nat.zero_testBit]
    cases x.testBit i <;> cases y.testBit i <;> rfl
  rw [e1, e2] at h2
  omega
theorem bit_xor_nat (x y i : Nat) : bit (Builtin.bitXor (x : Int) (y : Int)) i = (bit x i ^^ bit y i) := by
  rw [bitXorN, nxor, bit_nat, bit_nat, bit_nat, Nat.testBit_xor]
theorem bit_xor {a : Int} (ha : 0 ≤ a) (b : Int) (i : Nat) : bit (Builtin.bitXor a b) i = (bit a i ^^ bit b i) := by
  obtain ⟨x, rfl⟩ : ∃ x : Nat, a = x := ⟨a.toNat, by omega⟩
  by_cases hb : 0 ≤ b
  · obtain ⟨y, rfl⟩ : ∃ y : Nat, b = y := ⟨b.toNat, by omega⟩
    exact bit_xor_nat x y i
  · obtain ⟨y, hy⟩ : ∃ y : Nat, Builtin.bitNot b = y := ⟨(Builtin.bitNot b).toNat, by unfold Builtin.bitNot; omega⟩
    have e0 : b = Builtin.bitNot (y : Int) := by rw [← hy, bitNot_bitNot]
    rw [e0, bitXor_not, bit_not, bit_not, bit_xor_nat, Bool.xor_not]
theorem bit_fdiv (x : Int) (w i : Nat) : bit (x.fdiv (2 ^ w)) i = bit x (i + w) := by
  rw [bit_eq, bit_eq, Int.fdiv_eq_ediv_of_nonneg x (Int.le_of_lt (pw_pos w)), Int.ediv_ediv_of_nonneg (Int.le_of_lt (pw_pos w)), ← Int.pow_add, Nat.add_comm]
theorem bit_fmod (x : Int) {w i : Nat} (h : i < w) : bit (x.fmod (2 ^ w)) i = bit x i := by
  rw [bit_eq, bit_eq, Int.fmod_eq_emod_of_nonneg x (Int.le_of_lt (pw_pos w))]
  obtain ⟨d, rfl⟩ : ∃ d, w = i + (d + 1) := ⟨w - i - 1, by omega⟩
  have h1 := Int.mul_ediv_add_emod x (2 ^ (i + (d + 1)))
  generalize x % 2 ^ (i + (d + 1)) = r at *
  generalize x / 2 ^ (i + (d + 1)) = q at *
  rw [Int.pow_add, Int.mul_assoc, Int.add_comm] at h1
  rw [← h1, Int.add_mul_ediv_left _ _ (Int.ne_of_gt (pw_pos i)), Int.pow_succ, Int.mul_assoc, Int.mul_left_comm]
  congr 1
  rw [eq_iff_iff]
  omega
/-! halving, on bits -/
noncomputable def stepF (w : Nat) (l : List (Nat → Bool)) : List (Nat → Bool) := l.flatMap fun f => [f, fun i => f i ^^ f (i + w)]
noncomputable def lastF (l : List (Nat → Bool)) : List Bool := l.flatMap fun f => [f 0, f 0 ^^ f 1]
noncomputable def HF (f : Nat → Bool) : List Bool := lastF (stepF 2 (stepF 4 (stepF 8 (stepF 16 [f]))))
noncomputable def bI (b : Bool) : Int := if b then 1 else 0
noncomputable def BR (w : Nat) (x : Int) (f : Nat → Bool) : Prop := ∀ i, i < w → bit x i = f i
inductive L2 {α β : Type} (P : α → β → Prop) : List α → List β → Prop
  | nil : L2 P [] []
  | cons {a : α} {b : β} {l : List α} {m : List β} : P a b → L2 P l m → L2 P (a :: l) (b :: m)
theorem step_br {w : Nat} {l : List Int} {m : List (Nat → Bool)} (h : L2 (BR (w + w)) l m) : L2 (BR w) (stepH w l) (stepF w m) := by
  induction h with
  | nil => exact .nil
  | @cons x f l m hp _ ih =>
    refine .cons ?_ (.cons ?_ ih)
    · intro i hi
      rw [bit_fmod x hi]
      exact hp i (by omega)
    · intro i hi
      rw [bit_xor (Int.fmod_nonneg_of_pos _ (pw_pos w)), bit_fmod x hi, bit_fdiv, hp i (by omega), hp (i + w) (by omega)]
theorem fmod2_bit (x : Int) : x.fmod 2 = bI (bit x 0) := by
  rw [bit_eq, Int.fmod_eq_emod_of_nonneg _ (by decide), Int.pow_zero, Int.ediv_one]
  unfold bI
  split <;> (rename_i h; simp only [decide_eq_true_eq] at h; omega)
theorem bitXor_comm (x y : Int) : Builtin.bitXor x y = Builtin.bitXor y x := by
  unfold Builtin.bitXor
  rw [bitOr_and, bitOr_and, bitAnd_comm]
  omega
theorem bit_xor2 (x y : Int) (i : Nat) : bit (Builtin.bitXor x y) i = (bit x i ^^ bit y i) := by
  by_cases hx : 0 ≤ x
  · exact bit_xor hx _ _
  · have hn : 0 ≤ Builtin.bitNot x := by unfold Builtin.bitNot; omega
    have e : Builtin.bitXor x y = Builtin.bitNot (Builtin.bitXor (Builtin.bitNot x) y) := by
      rw [bitXor_comm, bitXor_comm (Builtin.bitNot x), bitXor_not, bitNot_bitNot]
    rw [e, bit_not, bit_xor hn, bit_not]
    cases bit x i <;> cases bit y i <;> rfl
theorem last_br {l : List Int} {m : List (Nat → Bool)} (h : L2 (BR 2) l m) : lastH l = (lastF m).map bI := by
  induction h with
  | nil => rfl
  | @cons x f l m hp _ ih =>
    show [x.fmod 2, (Builtin.bitXor x (x.fdiv 2)).fmod 2] ++ lastH l = ([f 0, f 0 ^^ f 1] ++ lastF m).map bI
    rw [ih, List.map_append, fmod2_bit, fmod2_bit, bit_xor2, show x.fdiv 2 = x.fdiv (2 ^ 1) from rfl, bit_fdiv, hp 0 (by omega), hp (0 + 1) (by omega)]
    rfl
theorem halves_bits {x : Int} {f : Nat → Bool} (h : BR 32 x f) : halvesFun x = (HF f).map bI := by
  have h0 : L2 (BR (16 + 16)) [x] [f] := .cons h .nil
  exact last_br (step_br (w := 2) (step_br (w := 4) (step_br (w := 8) (step_br (w := 16) h0))))

end TFP1
section TFP2
open PySem PySem.Spec PySem.Calls PyProof.Rows PySem.W
/-! halving is linear, and takes each cone to its point -/
noncomputable def xF (f g : Nat → Bool) : Nat → Bool := fun i => f i ^^ g i
noncomputable def hasT (t p : Nat) : Bool := t &&& p == t
noncomputable def parF : List Nat → Nat → Bool
  | [] => fun _ => false
  | t :: r => xF (hasT t) (parF r)
theorem xor4 (a b c d : Bool) : ((a ^^ b) ^^ (c ^^ d)) = ((a ^^ c) ^^ (b ^^ d)) := by cases a <;> cases b <;> cases c <;> cases d <;> rfl
theorem step_x (w : Nat) : ∀ l m : List (Nat → Bool), stepF w (List.zipWith xF l m) = List.zipWith xF (stepF w l) (stepF w m)
  | [], _ => rfl
  | _ :: _, [] => rfl
  | f :: l, g :: m => by
    show [xF f g, fun i => xF f g i ^^ xF f g (i + w)] ++ stepF w (List.zipWith xF l m) = [xF f g, xF (fun i => f i ^^ f (i + w)) (fun i => g i ^^ g (i + w))] ++ List.zipWith xF (stepF w l) (stepF w m)
    rw [step_x w l m]
    congr 3
    funext i
    exact xor4 _ _ _ _
theorem last_x : ∀ l m : List (Nat → Bool), lastF (List.zipWith xF l m) = List.zipWith xor (lastF l) (lastF m)
  | [], _ => rfl
  | _ :: _, [] => rfl
  | f :: l, g :: m => by
    show [xF f g 0, xF f g 0 ^^ xF f g 1] ++ lastF (List.zipWith xF l m) = [xF f g 0, (f 0 ^^ f 1) ^^ (g 0 ^^ g 1)] ++ List.zipWith xor (lastF l) (lastF m)
    rw [last_x l m]
    congr 3
    exact xor4 _ _ _ _
theorem HF_x (f g : Nat → Bool) : HF (xF f g) = List.zipWith xor (HF f) (HF g) := by
  unfold HF
  rw [show [xF f g] = List.zipWith xF [f] [g] from rfl, step_x, step_x, step_x, step_x, last_x]
noncomputable def unitL (t : Nat) : List Bool := (List.range 32).map fun k => k == t
theorem d_unit : (List.range 32).all (fun t => HF (hasT t) == unitL t) = true := by decide +kernel
theorem HF_unit {t : Nat} (h : t < 32) : HF (hasT t) = unitL t := by
  have := List.all_eq_true.mp d_unit t (List.mem_range.mpr h)
  simpa using this
theorem HF_true : HF (fun _ => true) = unitL 0 := by decide +kernel
theorem zip_map {α : Type} (op : Bool → Bool → Bool) (a b : α → Bool) : ∀ l : List α, List.zipWith op (l.map a) (l.map b) = l.map fun k => op (a k) (b k)
  | [] => rfl
  | x :: l => by rw [List.map_cons, List.map_cons, List.zipWith_cons_cons, zip_map op a b l, List.map_cons]
theorem HF_par : ∀ rs : List Nat, (∀ t ∈ rs, t < 32) → rs.Nodup → HF (parF rs) = (List.range 32).map fun k => rs.contains k
  | [], _, _ => by decide +kernel
  | t :: r, h, hn => by
    obtain ⟨hn1, hn2⟩ := List.nodup_cons.mp hn
    show HF (xF (hasT t) (parF r)) = _
    rw [HF_x, HF_unit (h t (.head _)), HF_par r (fun x hx => h x (.tail _ hx)) hn2, unitL, zip_map]
    apply List.map_congr_left
    intro k _
    rw [List.contains_cons]
    by_cases hk : k = t
    · subst hk
      have : r.contains k = false := by simpa using hn1
      rw [this]
      simp
    · rw [beq_eq_false_iff_ne.mpr hk, Bool.false_xor, Bool.false_or]
/-- halving a word whose bits are the parities -/
theorem halves_par {x : Int} {rs : List Nat} (h : ∀ t ∈ rs, t < 32) (hn : rs.Nodup) (hx : BR 32 x (parF rs)) : halvesFun x = (List.range 32).map fun k => bI (rs.contains k) := by
  rw [halves_bits hx, HF_par rs h hn, List.map_map]; rfl
theorem halves_parN {x : Int} {rs : List Nat} (h : ∀ t ∈ rs, t < 32) (hn : rs.Nodup) (hx : BR 32 x (parF rs)) : halvesFun (Builtin.bitNot x) = (List.range 32).map fun k => bI ((k == 0) ^^ rs.contains k) := by
  have hb : BR 32 (Builtin.bitNot x) (xF (fun _ => true) (parF rs)) := fun i hi => by rw [bit_not, hx i hi]; exact (Bool.true_xor _).symm
  rw [halves_bits hb, HF_x, HF_true, HF_par rs h hn, unitL, zip_map, List.map_map]; rfl
/-! counting -/
noncomputable def pcN (r : Nat) : Nat := ((List.range 5).filter fun i => r.testBit i).length
noncomputable def sumB (f : Nat → Bool) : Nat := ((List.range 32).map fun p => (f p).toNat).sum
theorem sum4 {f1 f2 f3 f4 : Nat → Bool} : ∀ l : List Nat, (∀ p ∈ l, (f1 p).toNat + 2 * (f2 p).toNat = (f3 p).toNat + (f4 p).toNat) → (l.map fun p => (f1 p).toNat).sum + 2 * (l.map fun p => (f2 p).toNat).sum = (l.map fun p => (f3 p).toNat).sum + (l.map fun p => (f4 p).toNat).sum
  | [], _ => rfl
  | x :: l, h => by
    have h1 := h x (.head _)
    have h2 := sum4 l fun p hp => h p (.tail _ hp)
    simp only [List.map_cons, List.sum_cons]
    omega
noncomputable def wtN (S : List Nat) (u : Nat) : Nat := sumB fun p => parF S p && hasT u p
theorem d_or : (List.range 32).all (fun u => (List.range 32).all fun s => (List.range 32).all fun p => hasT (u ||| s) p == (hasT u p && hasT s p)) = true := by decide +kernel
theorem hasT_or {u s p : Nat} (hu : u < 32) (hs : s < 32) (hp : p < 32) : hasT (u ||| s) p = (hasT u p && hasT s p) := by
  have := List.all_eq_true.mp (List.all_eq_true.mp (List.all_eq_true.mp d_or u (List.mem_range.mpr hu)) s (List.mem_range.mpr hs)) p (List.mem_range.mpr hp)
  simpa using this
theorem wt_cons {s u : Nat} (S : List Nat) (hu : u < 32) (hs : s < 32) : wtN (s :: S) u + 2 * wtN S (u ||| s) = wtN S u + sumB (hasT (u ||| s)) := by
  refine sum4 (f1 := fun p => parF (s :: S) p && hasT u p) (f2 := fun p => parF S p && hasT (u ||| s) p) (f3 := fun p => parF S p && hasT u p) (f4 := hasT (u ||| s)) (List.range 32) fun p hp => ?_
  have h := hasT_or hu hs (List.mem_range.mp hp)
  rw [h]
  show ((hasT s p ^^ parF S p) && hasT u p).toNat + _ = _
  cases hasT s p <;> cases parF S p <;> cases hasT u p <;> rfl
theorem d_cone : (List.range 32).all (fun v => sumB (hasT v) == 2 ^ (5 - pcN v)) = true := by decide +kernel
theorem dvd_of {a b c d k : Nat} (e : a + 2 * b = c + d) (h1 : k ∣ c) (h2 : k ∣ d) (h3 : k ∣ 2 * b) : k ∣ a := by
  have c3 := Nat.dvd_add h1 h2
  rw [← e] at c3
  exact (Nat.dvd_add_iff_left h3).mpr c3
theorem cone {v : Nat} (h : v < 32) : sumB (hasT v) = 2 ^ (5 - pcN v) := by
  have := List.all_eq_true.mp d_cone v (List.mem_range.mpr h)
  simpa using this
theorem sum0 : ∀ l : List Nat, (l.map fun _ => 0).sum = 0
  | [] => rfl
  | _ :: l => by rw [List.map_cons, List.sum_cons, sum0 l]
theorem wt_nil (u : Nat) : wtN [] u = 0 := sum0 (List.range 32)
theorem d_deg : (List.range 5).all (fun k => (List.range 32).all fun u => (List.range 32).all fun s => !decide (pcN s ≤ k + 1) || (decide ((4 - pcN u) / (k + 1) ≤ 5 - pcN (u ||| s)) && decide ((4 - pcN u) / (k + 1) ≤ (4 - pcN (u ||| s)) / (k + 1) + 1))) = true := by decide +kernel
theorem deg {k u s : Nat} (hk : k < 5) (hu : u < 32) (hs : s < 32) (h : pcN s ≤ k + 1) : (4 - pcN u) / (k + 1) ≤ 5 - pcN (u ||| s) ∧ (4 - pcN u) / (k + 1) ≤ (4 - pcN (u ||| s)) / (k + 1) + 1 := by
  have := List.all_eq_true.mp (List.all_eq_true.mp (List.all_eq_true.mp d_deg k (List.mem_range.mpr hk)) u (List.mem_range.mpr hu)) s (List.mem_range.mpr hs)
  rw [decide_eq_true h] at this
  simpa using this
/-- McEliece: the weight of a polynomial of small degree -/
theorem weight {k : Nat} (hk : k < 5) : ∀ S : List Nat, (∀ s ∈ S, s < 32 ∧ pcN s ≤ k + 1) → ∀ u, u < 32 → 2 ^ ((4 - pcN u) / (k + 1)) ∣ wtN S u
  | [], _, u, _ => by
    rw [wt_nil]
    exact Nat.dvd_zero _
  | s :: S, h, u, hu => by
    obtain ⟨hs, hs2⟩ := h s (.head _)
    have hr := fun x hx => h x (List.mem_cons_of_mem s hx)
    have hus : u ||| s < 32 := Nat.or_lt_two_pow (n := 5) hu hs
    have i1 := weight hk S hr u hu
    have i2 := weight hk S hr _ hus
    obtain ⟨d1, d2⟩ := deg hk hu hs hs2
    have e := wt_cons S hu hs
    rw [cone hus] at e
    have c1 : 2 ^ ((4 - pcN u) / (k + 1)) ∣ 2 ^ (5 - pcN (u ||| s)) := Nat.pow_dvd_pow 2 d1
    have c2 : 2 ^ ((4 - pcN u) / (k + 1)) ∣ 2 * wtN S (u ||| s) := by
      refine Nat.dvd_trans (Nat.pow_dvd_pow 2 d2) ?_
      rw [Nat.pow_succ, Nat.mul_comm]
      exact Nat.mul_dvd_mul_left 2 i2
    exact dvd_of e i1 c1 c2

end TFP2
section TFP3
open PySem PySem.Spec PySem.Calls PyProof.Rows PySem.W
/-! the law's words as bits -/
noncomputable def rsOf (ys : List Int) : List Nat := (tmOf ys).map fun t => (t.fmod 32).toNat
theorem fm_rng (t : Int) : 0 ≤ t.fmod 32 ∧ t.fmod 32 < 32 := ⟨Int.fmod_nonneg_of_pos _ (by decide), Int.fmod_lt_of_pos _ (by decide)⟩
theorem rs_lt {ys : List Int} : ∀ t ∈ rsOf ys, t < 32 := by
  intro t ht
  obtain ⟨o, _, rfl⟩ := List.mem_map.mp ht
  have := fm_rng o
  omega
theorem rs_nodup {ys : List Int} (h : YOk ys) : (rsOf ys).Nodup := by
  have ha := (tm_ok h).1.apart
  unfold rsOf
  unfold List.Nodup at ha ⊢
  rw [List.pairwise_map] at ha ⊢
  refine ha.imp fun {a b} hne e => hne ?_
  have h1 := fm_rng a
  have h2 := fm_rng b
  omega
theorem d_isV : (List.range 32).all (fun a => isV (valueOf (a : Int))) = true := by decide +kernel
theorem d_isN : words3 (fun l => !isV ⟨l.toArray⟩) = true := by decide +kernel
theorem isV_val (t : Int) : isV (valueOf t) = true := val_all (P := isV) d_isV t
theorem isV_name (t g : Int) : isV (nameOf t g) = false := by
  have := words3_at d_isN t g
  rw [← name_mk] at this
  simpa using this
theorem vals_eq (ys : List Int) : (valsOf ys).filter isV = (rsOf ys).map fun r : Nat => valueOf (r : Int) := by
  unfold valsOf rsOf
  induction tmOf ys with
  | nil => rfl
  | cons t r ih =>
    show (valueOf (t.fmod 32) :: nameOf (t.fmod 32) 0 :: (rowsOf (r.map gtOf)).map (·.2)).filter isV = valueOf (((t.fmod 32).toNat : Nat) : Int) :: (r.map fun t => (t.fmod 32).toNat).map fun r : Nat => valueOf (r : Int)
    rw [List.filter_cons, if_pos (isV_val _), List.filter_cons, if_neg (by rw [isV_name]; decide), ih, Int.toNat_of_nonneg (fm_rng t).1]
theorem pls_eq (ys : List Int) : (valsOf ys).filter (fun v => !isV v) = (rsOf ys).map fun r : Nat => nameOf (r : Int) 0 := by
  unfold valsOf rsOf
  induction tmOf ys with
  | nil => rfl
  | cons t r ih =>
    show (valueOf (t.fmod 32) :: nameOf (t.fmod 32) 0 :: (rowsOf (r.map gtOf)).map (·.2)).filter (fun v => !isV v) = nameOf (((t.fmod 32).toNat : Nat) : Int) 0 :: (r.map fun t => (t.fmod 32).toNat).map fun r : Nat => nameOf (r : Int) 0
    rw [List.filter_cons, if_neg (by rw [isV_val]; decide), List.filter_cons, if_pos (by rw [isV_name]; decide), ih, Int.toNat_of_nonneg (fm_rng t).1]
theorem d_em1 : (List.range 32).all (fun t => (List.range 32).all fun p => emFun (valueOf (t : Int)) (nameOf (p : Int) 0) == hasT t p) = true := by decide +kernel
theorem d_em2 : (List.range 32).all (fun t => (List.range 32).all fun p => emFun (nameOf (t : Int) 0) (nameOf (p : Int) 0) == (t == p)) = true := by decide +kernel
theorem em_val {t p : Nat} (ht : t < 32) (hp : p < 32) : emFun (valueOf (t : Int)) (nameOf (p : Int) 0) = hasT t p := by
  have := List.all_eq_true.mp (List.all_eq_true.mp d_em1 t (List.mem_range.mpr ht)) p (List.mem_range.mpr hp)
  simpa using this
theorem em_name {t p : Nat} (ht : t < 32) (hp : p < 32) : emFun (nameOf (t : Int) 0) (nameOf (p : Int) 0) = (t == p) := by
  have := List.all_eq_true.mp (List.all_eq_true.mp d_em2 t (List.mem_range.mpr ht)) p (List.mem_range.mpr hp)
  exact beq_iff_eq.mp this
theorem cnt_vals {p : Nat} (hp : p < 32) : ∀ rs : List Nat, (∀ t ∈ rs, t < 32) → cnt (rs.map fun r : Nat => valueOf (r : Int)) (nameOf (p : Int) 0) % 2 = (parF rs p).toNat
  | [], _ => rfl
  | t :: r, h => by
    have ih := cnt_vals hp r fun x hx => h x (.tail _ hx)
    unfold cnt at *
    rw [List.map_cons, List.filter_cons, em_val (h t (.head _)) hp]
    show _ = (hasT t p ^^ parF r p).toNat
    cases hasT t p
    · rw [if_neg (by decide), ih]; cases parF r p <;> rfl
    · rw [if_pos rfl, List.length_cons, Nat.add_mod, ih]; cases parF r p <;> rfl
theorem cnt_pls {p : Nat} (hp : p < 32) : ∀ rs : List Nat, (∀ t ∈ rs, t < 32) → rs.Nodup → cnt (rs.map fun r : Nat => nameOf (r : Int) 0) (nameOf (p : Int) 0) = (rs.contains p).toNat
  | [], _, _ => rfl
  | t :: r, h, hn => by
    obtain ⟨hn1, hn2⟩ := List.nodup_cons.mp hn
    have ih := cnt_pls hp r (fun x hx => h x (.tail _ hx)) hn2
    unfold cnt at *
    rw [List.map_cons, List.filter_cons, em_name (h t (.head _)) hp, List.contains_cons]
    by_cases e : t = p
    · subst e
      have hc : r.contains t = false := by simpa using hn1
      rw [hc] at ih
      rw [if_pos (by simp), List.length_cons, ih, hc]
      simp
    · rw [if_neg (by simpa using e), ih, beq_eq_false_iff_ne.mpr (fun q => e q.symm), Bool.false_or]
theorem bitsN_eq {rs : List Nat} (h : ∀ t ∈ rs, t < 32) : bitsN (rs.map fun r : Nat => valueOf (r : Int)) = (List.range 32).map fun p => (parF rs p).toNat := by
  unfold bitsN wordsL
  rw [List.map_map]
  apply List.map_congr_left
  intro p hp
  exact cnt_vals (List.mem_range.mp hp) rs h
theorem undig_bit : ∀ (l : List Nat) (i : Nat), (∀ d ∈ l, d < 2) → (undig (2 ^ 1) l).testBit i = (l.getD i 0 == 1)
  | [], i, _ => by
    show (0 : Nat).testBit i = ([].getD i 0 == 1)
    rw [Nat.zero_testBit]; simp
  | d :: r, 0, h => by
    have h1 := h d (.head _)
    show (d + 2 ^ 1 * undig (2 ^ 1) r).testBit 0 = (d == 1)
    rw [Nat.testBit_zero]
    have : (d + 2 ^ 1 * undig (2 ^ 1) r) % 2 = d := by omega
    rw [this]
    cases Nat.decEq d 1 with
    | isTrue e => simp [e]
    | isFalse e => simp [e]
  | d :: r, i + 1, h => by
    have h1 := h d (.head _)
    show (d + 2 ^ 1 * undig (2 ^ 1) r).testBit (i + 1) = (r.getD i 0 == 1)
    rw [Nat.testBit_succ, show (d + 2 ^ 1 * undig (2 ^ 1) r) / 2 = undig (2 ^ 1) r from by omega]
    exact undig_bit r i fun x hx => h x (.tail _ hx)
theorem shade_bits {rs : List Nat} (h : ∀ t ∈ rs, t < 32) : BR 32 ((shadeOf (rs.map fun r : Nat => valueOf (r : Int)) : Nat) : Int) (parF rs) := by
  intro i hi
  unfold shadeOf
  rw [bit_nat, bitsN_eq h, undig_bit _ _ (by
    intro d hd
    obtain ⟨p, _, rfl⟩ := List.mem_map.mp hd
    cases parF rs p <;> decide)]
  rw [List.getD_eq_getElem?_getD, List.getElem?_map, List.getElem?_range hi]
  show ((parF rs i).toNat == 1) = _
  cases parF rs i <;> rfl
theorem sum_bits {rs : List Nat} (h : ∀ t ∈ rs, t < 32) : (bitsL (rs.map fun r : Nat => valueOf (r : Int))).sum = (wtN rs 0 : Nat) := by
  rw [← bits_zs, bitsN_eq h]
  have key : ∀ l : List Nat, (zs (l.map fun p => (parF rs p).toNat)).sum = (((l.map fun p => (parF rs p && hasT 0 p).toNat).sum : Nat) : Int) := by
    intro l
    induction l with
    | nil => rfl
    | cons p r ih =>
      have e : hasT 0 p = true := by unfold hasT; simp
      show (((parF rs p).toNat : Nat) : Int) + (zs (r.map fun p => (parF rs p).toNat)).sum = _
      rw [ih, List.map_cons, List.sum_cons, e, Bool.and_true]
      push_cast
      rfl
  exact key (List.range 32)
theorem stand_has (ts : List Int) (p : Nat) : (standL ts).contains (p : Int) = (ts.map fun t => (t.fmod 32).toNat).contains p := by
  unfold standL
  induction ts with
  | nil => rfl
  | cons t r ih =>
    rw [List.map_cons, List.map_cons, List.contains_cons, List.contains_cons, ih]
    congr 1
    have := fm_rng t
    rw [Bool.eq_iff_iff, beq_iff_eq, beq_iff_eq]
    omega
theorem due_eq (ys : List Int) : dueL (tmOf ys) = (List.range 32).map fun p => bI ((rsOf ys).contains p) := by
  unfold dueL rsOf
  apply List.map_congr_left
  intro p _
  rw [stand_has]
  rfl
theorem plain_due {ys : List Int} (h : YOk ys) : (wordsL.map fun wd => ((cnt ((valsOf ys).filter fun v => !isV v) wd : Nat) : Int)) = dueL (tmOf ys) := by
  rw [due_eq, pls_eq]
  unfold wordsL
  rw [List.map_map]
  apply List.map_congr_left
  intro p hp
  show ((cnt ((rsOf ys).map fun r : Nat => nameOf (r : Int) 0) (nameOf (p : Int) 0) : Nat) : Int) = _
  rw [cnt_pls (List.mem_range.mp hp) _ rs_lt (rs_nodup h)]
  cases (rsOf ys).contains p <;> rfl
theorem shade_law {ys : List Int} (h : YOk ys) : halvesFun (turned ys (shadeOf ((valsOf ys).filter isV))) = dueT ys (dueL (tmOf ys)) := by
  rw [vals_eq, due_eq]
  have hb := shade_bits (rs := rsOf ys) rs_lt
  unfold turned dueT
  have hr : List.range 32 = 0 :: List.range' 1 31 := by decide
  by_cases hf : flipOf ys = 1
  · rw [if_pos hf, if_pos hf, halves_parN rs_lt (rs_nodup h) hb, hr, List.map_cons, List.map_cons, List.getD_cons_zero, List.drop_one, List.tail_cons]
    congr 1
    · cases (rsOf ys).contains 0 <;> rfl
    · apply List.map_congr_left
      intro k hk
      have := List.mem_range'_1.mp hk
      rw [show (k == 0) = false from beq_eq_false_iff_ne.mpr (by omega), Bool.false_xor]
  · rw [if_neg hf, if_neg hf, halves_par rs_lt (rs_nodup h) hb, hr, List.map_cons, List.getD_cons_zero, List.drop_one, List.tail_cons]
/-! how long the names are -/
theorem bL_len (t g : Int) (i : Nat) : (bL t g i).length = (bL t 0 i).length := by unfold bL; split <;> rfl
theorem nmL_len (t g : Int) : (nmL t g).length = (nmL t 0).length := by
  unfold nmL
  simp only [List.length_append, bL_len t g]
theorem d_pc : (List.range 32).all (fun r => (nmL (r : Int) 0).length == pcN r && decide (pcN r ≤ 5)) = true := by decide +kernel
theorem name_pc {r : Nat} (h : r < 32) (g : Int) : (nameOf (r : Int) g).length = pcN r ∧ pcN r ≤ 5 := by
  have := List.all_eq_true.mp d_pc r (List.mem_range.mpr h)
  rw [Bool.and_eq_true, beq_iff_eq, decide_eq_true_eq] at this
  refine ⟨?_, this.2⟩
  show (nameOf (r : Int) g).cps.toList.length = _
  rw [name_cps, nmL_len]
  exact this.1
theorem lens_mem {ys : List Int} {y : Int} : y ∈ lensL (rowsOf ((tmOf ys).map gtOf)) ↔ ∃ r ∈ rsOf ys, y = (pcN r : Nat) := by
  have key : ∀ ts : List Int, y ∈ lensL (rowsOf (ts.map gtOf)) ↔ ∃ r ∈ ts.map (fun t => (t.fmod 32).toNat), y = (pcN r : Nat) := by
    intro ts
    induction ts with
    | nil => exact ⟨fun h => absurd h List.not_mem_nil, fun ⟨r, hr, _⟩ => absurd hr List.not_mem_nil⟩
    | cons t r ih =>
      have hr := fm_rng t
      have e := Int.toNat_of_nonneg hr.1
      have hl : (t.fmod 32).toNat < 32 := by omega
      have l1 := (name_pc hl (t.fdiv 32)).1
      have l2 := (name_pc hl (Builtin.bitNot (t.fdiv 32))).1
      rw [e] at l1 l2
      show y ∈ ((nameOf (t.fmod 32) (t.fdiv 32)).length : Int) :: ((nameOf (t.fmod 32) (Builtin.bitNot (t.fdiv 32))).length : Int) :: lensL (rowsOf (r.map gtOf)) ↔ _
      rw [l1, l2, List.mem_cons, List.mem_cons, ih, List.map_cons]
      constructor
      · rintro (h | h | ⟨q, hq, h⟩)
        · exact ⟨_, .head _, h⟩
        · exact ⟨_, .head _, h⟩
        · exact ⟨q, .tail _ hq, h⟩
      · rintro ⟨q, hq, h⟩
        rcases List.mem_cons.mp hq with rfl | hq
        · exact .inl h
        · exact .inr (.inr ⟨q, hq, h⟩)
  exact key (tmOf ys)
theorem d_four : (List.range 5).all (fun k => ((4 : Int).fdiv ((k + 1 : Nat) : Int)).toNat == (4 - pcN 0) / (k + 1)) = true := by decide +kernel
theorem most_law (ys : List Int) : ∀ m, m ∈ 1 :: lensL (rowsOf ((tmOf ys).map gtOf)) → (∀ y ∈ 1 :: lensL (rowsOf ((tmOf ys).map gtOf)), y ≤ m) → ∃ q : Int, (bitsL ((valsOf ys).filter isV)).sum = q * 2 ^ ((4 : Int).fdiv m).toNat := by
  intro m h1 h2
  have hm1 := h2 1 (.head _)
  have hm5 : m ≤ 5 := by
    rcases List.mem_cons.mp h1 with e | e
    · omega
    · obtain ⟨r, hr, rfl⟩ := lens_mem.mp e
      have := (name_pc (rs_lt r hr) 0).2
      omega
  obtain ⟨k, rfl⟩ : ∃ k : Nat, m = ((k + 1 : Nat) : Int) := ⟨m.toNat - 1, by omega⟩
  have hk : k < 5 := by omega
  have hS : ∀ s ∈ rsOf ys, s < 32 ∧ pcN s ≤ k + 1 := fun s hs => ⟨rs_lt s hs, by
    have := h2 _ (.tail _ (lens_mem.mpr ⟨s, hs, rfl⟩))
    omega⟩
  have hw := weight hk (rsOf ys) hS 0 (by decide)
  have hd := List.all_eq_true.mp d_four k (List.mem_range.mpr hk)
  rw [beq_iff_eq] at hd
  rw [hd, vals_eq, sum_bits rs_lt]
  obtain ⟨c, hc⟩ := hw
  refine ⟨(c : Int), ?_⟩
  rw [hc, Nat.mul_comm]
  push_cast
  rfl
/-! the words of the last row -/
theorem d_takes : (List.range 32).all (fun a => takesOk (nameOf (a : Int) 0)) = true := by decide +kernel
theorem pls_takes {ys : List Int} : ∀ v ∈ (valsOf ys).filter (fun v => !isV v), takesOk v = true := by
  intro v hv
  rw [pls_eq] at hv
  obtain ⟨r, hr, rfl⟩ := List.mem_map.mp hv
  exact List.all_eq_true.mp d_takes r (List.mem_range.mpr (rs_lt r hr))

end TFP3
section TF28
open PySem PySem.Spec PySem.Calls PyProof.Rows PySem.W
set_option maxHeartbeats 2000000
/-- the law answers True -/
theorem law_use {prog : Program} {w : World} {A : Around} {E Q : Value → Shared → Prop} {g : Heap} {z s : Shared} {tb : List (Addr × Kd)} {sl : Addr} {xs : List Int} {vs : List Value} (G : Gd (Mine.hd.heap_1 w.params) g) (T : TabS tb) (S : St g z s tb)
    (hl : g.IsList sl vs.toArray) (hv : VL isI xs vs) (hn : vs.length ≤ 1000) (hA : AOk A 90) (hfr : A.frames = some [])
    (h : ∀ s tb, TabS tb → St g z s tb → Q (.bool true) s) : wpAny (model prog w) A (call (.ref 337) [.ref sl]) Q E s := by
  refine segA G S hl hv hn hA hfr ?_
  intro env L s c_standing c_plain c_values c_reader c_one c_width ys ts dv nv tv ysl dl nl tl tw hY hyv hdv hnv htv eo hef hA1 hfr1 S
  refine segB G T eo hef hA1 hfr1 hY hyv hdv hnv htv S ?_
  clear S
  intro s rl rv cr hrv S
  refine segC G T eo hef hA1 hY hyv hdv hrv S ?_
  clear S
  intro s x dx ro tk tml stl us tmv tp tb co T hT htm S
  refine segD G eo hA1 hY hT S ?_
  clear S
  intro s vl pl vv pv hvv hpv S
  have hvl := vals_len hY
  have hl1 : ((valsOf ys).filter isV).length ≤ 100 := Nat.le_trans (List.length_filter_le _ _) (by omega)
  have hl2 : ((valsOf ys).filter fun v => !isV v).length ≤ 100 := Nat.le_trans (List.length_filter_le _ _) (by omega)
  have hw1 : ∀ v ∈ (valsOf ys).filter isV, wantOk v = true := fun v hv => vals_want (List.mem_filter.mp hv).1
  have hw2 : ∀ v ∈ (valsOf ys).filter (fun v => !isV v), wantOk v = true := fun v hv => vals_want (List.mem_filter.mp hv).1
  have hsl := shade_law hY
  have hpd := plain_due hY
  have hms := most_law ys
  have hpt := pls_takes (ys := ys)
  have hdl : (dueL (tmOf ys)).length = 32 := by rw [dueL, List.length_map, List.length_range]
  have hxs : RowsOk (rowsOf ((tmOf ys).map gtOf)) := rows_ok (by rw [List.length_map]; have := (tm_ok hY).2; omega)
  generalize (valsOf ys).filter isV = vals at *
  generalize (valsOf ys).filter (fun v => !isV v) = pls at *
  refine segE (ys := []) (tb := tp ++ tb) G eo hA1 hl1 hw1 hvv S ?_
  clear S
  intro s wl wv bl bv hwv hbv S
  refine segF G T eo hA1 hY hyv htm hbv S ?_
  clear S
  intro s stl2 stv ul uv tb t1 t2 t3 T hst huv S
  have S2 : St g z s ((L, .ns [((Str.ofString "script"), some (.ref sl)), ((Str.ofString "sums"), some (.ref ysl)), ((Str.ofString "drawn"), some (.ref dl)), ((Str.ofString "numbers"), some (.ref nl)), ((Str.ofString "tape"), some (.ref tl)), ((Str.ofString "read"), some (.ref rl)), ((Str.ofString "rows"), some (.ref ro)), ((Str.ofString "table"), some (.ref x)), ((Str.ofString "terms"), some (.ref tml)), ((Str.ofString "stay"), stl), ((Str.ofString "words"), some (.ref wl)), ((Str.ofString "bits"), some (.ref bl)), ((Str.ofString "due"), some (.ref ul)), ((Str.ofString "sign"), some (.int (sgOf ys) t1)), ((Str.ofString "flip"), some (.int (flipOf ys) t2)), ((Str.ofString "shade"), some (.int (shadeOf vals : Nat) t3)), ((Str.ofString "most"), none), ((Str.ofString "parts"), none), ((Str.ofString "rest"), none)]) :: (bl, .lst bv) :: (ul, .lst uv) :: (wl, .lst wv) :: (pl, .lst pv) :: (x, .raw (instObj 270 dx)) :: (dx, .raw (dictOf (hdE w.params tk ro) 1)) :: (ro, .lst us) :: (c_standing, .cel (some (.ref stl2))) :: (c_plain, .cel (some (.ref pl))) :: (c_values, .cel (some (.ref vl))) :: (c_reader, .cel cr) :: (c_one, .cel co) :: (c_width, .cel (some (.int (wdOf ys) tw))) :: (tp ++ tb)) := St.keep S (by ktd_said "m.keep")
  refine segG (pls := pls) G T eo hA1 hdl huv hsl S2 ?_
  clear S S2
  intro s tb T S
  refine segH G eo hA1 hdl huv hwv hl2 hw2 hpv hpd S ?_
  clear S
  intro s S
  refine segI (pls := pls) G eo hef hA1 hfr1 T hbv hms hT hxs S ?_
  clear S
  intro s tb m po re T S
  refine segK (rws := []) G eo hef hA1 hfr1 hl2 hpt hpv S ?_
  intro s S
  exact h s tb T S

end TF28
section TF29
open PySem PySem.Spec PySem.Calls PyProof.Rows PySem.W
set_option maxHeartbeats 2000000
set_option pp.deepTerms false
theorem VL.ofInts : ∀ {vs : List Value} {xs : List Int}, IntsAre vs xs → VL isI xs vs
  | _, _, .nil => .nil
  | _, _, .cons _ t r => .cons ⟨t, rfl⟩ (VL.ofInts r)
noncomputable abbrev tabs0 : List (Addr × Addr) := [(58, 54), (65, 61)]
noncomputable abbrev tbl0 : List (Addr × Kd) := [(54, .raw (tabObj #[])), (61, .raw (tabObj #[]))]
theorem tab_grown {P : Addr} {pos : Pos} {q : Str} {us : List (Addr × Kd)} (T : TabSt P pos q us) {h : Heap} (own : ∀ p ∈ us, p.2.at h p.1) : ∃ ps, h.get? P = some (tabObj ps) := by
  rcases T with rfl | ⟨c, rfl⟩
  · exact ⟨_, own _ (.head _)⟩
  · exact ⟨_, own _ (.head _)⟩
theorem old_of {s₁ s' : Shared} {tb : List (Addr × Kd)} (hT : TabsAt tabs0 s₁.heap) (T : TabS tb) (S : St (ghostOf s₁.heap tabs0) s₁ s' tb) : OldK s₁.heap s'.heap := by
  obtain ⟨t1, t2, rfl, T1, T2⟩ := T
  have g1 := tab_grown T1 fun p hp => S.own p (List.mem_append_left _ hp)
  have g2 := tab_grown T2 fun p hp => S.own p (List.mem_append_right _ hp)
  have keep : ∀ b o, b ∉ tabs0.map (·.2) → s₁.heap.get? b = some o → s'.heap.get? b = some o := fun b o hb e => S.kp b o (ghost_ne e hb)
  have grown : ∀ b o, b ∈ tabs0.map (·.2) → s₁.heap.get? b = some o → isCodeTable s₁.heap b ∧ o = tabObj #[] ∧ ∃ ps, s'.heap.get? b = some (tabObj ps) := fun b o hb e => by
    obtain ⟨q, hq, rfl⟩ := List.mem_map.mp hb
    have e2 := (hT q hq).2
    rw [e] at e2
    refine ⟨((hT q hq).1.tab (hT q hq).2).isCodeTable, Option.some.inj e2, ?_⟩
    simp only [List.mem_cons, List.not_mem_nil, or_false] at hq
    rcases hq with rfl | rfl
    · exact g1
    · exact g2
  refine ⟨fun b o e => ?_, fun b o e => ?_⟩
  · by_cases hb : b ∈ tabs0.map (·.2)
    · obtain ⟨ht, rfl, ps, hP⟩ := grown b o hb e
      exact .inr (.inl ⟨ht, rfl, #[], ps, rfl, by rw [Array.empty_append]; exact hP⟩)
    · exact .inl (keep b o hb e)
  · by_cases hb : b ∈ tabs0.map (·.2)
    · obtain ⟨_, _, ps, hP⟩ := grown b o hb e
      exact ⟨_, hP⟩
    · exact ⟨o, keep b o hb e⟩
theorem start_st {s₁ : Shared} (hT : TabsAt tabs0 s₁.heap) : St (ghostOf s₁.heap tabs0) s₁ s₁ tbl0 := by
  refine ⟨fun b o e => of_hideAll _ e, fun p hp => ?_, fun p hp => ?_, by decide, rfl, rfl, rfl⟩
  · simp only [List.mem_cons, List.not_mem_nil, or_false] at hp
    rcases hp with rfl | rfl
    · exact (hT (58, 54) (.head _)).2
    · exact (hT (65, 61) (.tail _ (.head _))).2
  · simp only [List.mem_cons, List.not_mem_nil, or_false] at hp
    rcases hp with rfl | rfl
    · exact hideAll_none _ (.head _)
    · exact hideAll_none _ (.tail _ (.head _))
theorem fin : PySem.Challenge.rw_kl0258_01.Holds := by
  refine hd ?_
  intro w s₀ s₁ mg mb G Y fa o pm cd doc dV kV ho hd hcd hD hmg hg args vals as hpre hlay hrd hwl hlo
  have KX := km_in_of Y
  km_tabs Y
  have X := (Ground.X G).1
  have V := (Ground.X G).2
  refine Ground.open G ?_
  intro T B D TE TW
  try (refine guard_noD D (by decide +kernel) ?_; clear D)
  km_lay T hmg ho hd cd
  have hfa : mg (Str.ofString "law") = some (.ref 337) := mg_of KX T.g (by kernel_rfl)
  have hmg' : mg (Str.ofString "law") = some (.ref fa) := hmg
  rw [hfa] at hmg'
  cases hmg'
  clear ho hd hcd hD hmg
  wrow_args hpre hlay hrd hwl hlo
  all_goals (
    rename_i xs hs q1 q2 q3 q4 a1 a2 sl vs a3 hL ra w1 r0 hI hrW hc1 hc2
    have hv := VL.ofInts hI
    have hvl := hv.len
    have hn : vs.length ≤ 1000 := by omega
    have GG : Gd (Mine.hd.heap_1 w.params) (ghostOf s₁.heap tabs0) := ⟨ghost_K hT9 KX (by kernel_rfl), _, _, _, _, _, ghost_top hT9 T⟩
    refine law_use GG ⟨[_], [_], rfl, .inl rfl, .inl rfl⟩ (start_st hT9) (ghost_list hT9 hL) hv hn ⟨rfl, by decide, by decide⟩ rfl (fun s' tb T' S' => ?_)
    refine ⟨.inl ⟨.bool true, .bool true, [], rfl, fun _ => rfl, .bool true, ?_, ?_⟩, old_of hT9 T' S', S'.rest.2.2, .of_eq (S'.rest.1.trans hg)⟩
    · wrow_post
    · intro _
      exact ⟨List.nodup_nil, fun _ h => absurd h List.not_mem_nil⟩)

end TF29
end W1
end Mine
theorem PySem.Challenge.cw_kl0258_01_holds : PySem.Challenge.rw_kl0258_01.Holds := by
  exact Mine.fin
