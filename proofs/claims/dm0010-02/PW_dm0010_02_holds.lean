import PyProof.Rows.All
import Wide.All
import OpenK.AllK
import Wide.FinOn
import PySem.Challenge.RW_dm0010_02
set_option Elab.async false
set_option linter.unusedVariables false
set_option maxRecDepth 100000
namespace Mine
open PySem PySem.W PyProof.Rows

/-! ## abstract values, objects, heaps -/
inductive V where
  | none | bool (b : Bool) | int (i : Int) | str (x : Str) | ref (a : Addr) | bi (id : String) | ty (n : String) | oth
  deriving DecidableEq

def ab : Value → V
  | .none => .none
  | .bool b => .bool b
  | .int i _ => .int i
  | .str x _ => .str x
  | .ref a => .ref a
  | .builtin i => .bi i
  | .type n => .ty n
  | _ => .oth

theorem ab_none {v : Value} (h : ab v = .none) : v = .none := by cases v <;> simp_all [ab]
theorem ab_bool {v : Value} {b} (h : ab v = .bool b) : v = .bool b := by cases v <;> simp_all [ab]
theorem ab_int {v : Value} {i} (h : ab v = .int i) : ∃ t, v = .int i t := by cases v <;> simp_all [ab]
theorem ab_str {v : Value} {x} (h : ab v = .str x) : ∃ t, v = .str x t := by cases v <;> simp_all [ab]
theorem ab_ref {v : Value} {a} (h : ab v = .ref a) : v = .ref a := by cases v <;> simp_all [ab]
theorem ab_bi {v : Value} {a} (h : ab v = .bi a) : v = .builtin a := by cases v <;> simp_all [ab]
theorem ab_ty {v : Value} {a} (h : ab v = .ty a) : v = .type a := by cases v <;> simp_all [ab]

inductive O where
  | list (vs : List V)
  | scr (vs : List V)
  | tup (vs : List V)
  | cell (v : Option V)
  | fn (fd : FuncData)
  | rng (a n c : Int)
  | tab (es : List (Nat × Nat × Addr))
  | code (q : Str)

def O.mut : O → Bool
  | .list _ => true
  | .cell _ => true
  | .tab _ => true
  | _ => false

def tabItems (es : List (Nat × Nat × Addr)) : List Value := es.flatMap fun e => [rawInt e.1, rawInt e.2.1, .ref e.2.2]

def Rep : O → Obj → Prop
  | .list vs, c => ∃ xs n, c = { cls := .type "list", data := .seq xs n } ∧ xs.toList.map ab = vs ∧ vs.length ≤ sizeLine
  | .scr vs, c => c.cls = .type "list" ∧ ∃ xs n, c.data = .seq xs n ∧ xs.toList.map ab = vs ∧ vs.length ≤ sizeLine
  | .tup vs, c => ∃ xs n, c = { cls := .type "tuple", data := .seq xs n } ∧ xs.toList.map ab = vs ∧ vs.length ≤ sizeLine
  | .cell v, c => ∃ u, c.data = .cell u ∧ u.map ab = v
  | .fn fd, c => c = { cls := .type "function", data := .func fd }
  | .rng a n d, c => c.cls = .type "range" ∧ c.data = .fields #[.int a 0, .int (a + n * d) 0, .int d 0]
  | .tab es, c => c = { cls := .none, data := .fields (tabItems es).toArray }
  | .code q, c => ∃ vs t, c.data = .fields vs ∧ vs[1]? = some (.str q t)

abbrev AH := Addr → Option O
abbrev Lo := Str → Option V

def AH.set (H : AH) (a : Addr) (o : O) : AH := fun b => if b = a then some o else H b
@[simp] theorem AH.set_same (H : AH) (a : Addr) (o : O) : (H.set a o) a = some o := by simp [AH.set]
theorem AH.set_ne (H : AH) {a b : Addr} (o : O) (h : b ≠ a) : (H.set a o) b = H b := by simp [AH.set, h]
def Lo.set (ρ : Lo) (x : Str) (v : V) : Lo := fun y => if y = x then some v else ρ y
@[simp] theorem Lo.set_same (ρ : Lo) (x : Str) (v : V) : (ρ.set x v) x = some v := by simp [Lo.set]
theorem Lo.set_ne (ρ : Lo) {x y : Str} (v : V) (h : y ≠ x) : (ρ.set x v) y = ρ y := by simp [Lo.set, h]

structure Cx where
  prog : Program
  w : World
  base : Heap
  mg : Str → Option Value
  mb : Str → Option Value
  hg : base.Ns mainGlobals mg
  hb : base.Ns builtinsNs mb
  lim : base.NoLimit

def Cx.gl (C : Cx) (x : Str) : Option Value := match C.mg x with | some v => some v | none => C.mb x
abbrev Cx.M (C : Cx) : Model := model C.prog C.w

structure St (C : Cx) (L : Addr) (ρ : Lo) (H : AH) (h : Heap) : Prop where
  keep : ∀ b o, C.base.get? b = some o → h.get? b = some o
  rep : ∀ a o, H a = some o → ∃ c, h.get? a = some c ∧ Rep o c
  own : ∀ a o, H a = some o → o.mut = true → C.base.get? a = none
  loc : ∃ m, h.Ns L m ∧ ∀ x, (m x).map ab = ρ x
  nl : H L = none
  bl : C.base.get? L = none

structure Step (L : Addr) (H H' : AH) (s s' : Shared) : Prop where
  same : ∃ h tk, s' = { s with heap := h, toks := tk }
  kept : ∀ b o, s.heap.get? b = some o → H b = none → b ≠ L → s'.heap.get? b = some o
  new : ∀ b o, s.heap.get? b = some o → H b = none → H' b = none
  live : ∀ b o, s.heap.get? b = some o → ∃ o', s'.heap.get? b = some o'

theorem Step.refl (L : Addr) (H : AH) (s : Shared) : Step L H H s s := ⟨⟨s.heap, s.toks, rfl⟩, fun _ _ e _ _ => e, fun _ _ _ e => e, fun _ o e => ⟨o, e⟩⟩
theorem Step.trans {L : Addr} {H H' H'' : AH} {s s' s'' : Shared} (x : Step L H H' s s') (y : Step L H' H'' s' s'') (hL : H L = none → H' L = none → H'' L = none) : Step L H H'' s s'' := by
  obtain ⟨⟨h, tk, rfl⟩, k1, n1, l1⟩ := x
  obtain ⟨⟨h', tk', rfl⟩, k2, n2, l2⟩ := y
  refine ⟨⟨h', tk', rfl⟩, fun b o e eH eL => k2 b o (k1 b o e eH eL) (n1 b o e eH) eL, fun b o e eH => ?_, fun b o e => let ⟨o', e'⟩ := l1 b o e; l2 b o' e'⟩
  by_cases hb : b = L
  · subst hb; exact hL eH (n1 _ o e eH)
  · exact n2 b o (k1 b o e eH hb) (n1 b o e eH)

abbrev False2 : Value → Shared → Prop := fun _ _ => False

def Post {α : Type} (C : Cx) (L : Addr) (H : AH) (s : Shared) (Q : α → Lo → AH → Prop) (a : α) (s' : Shared) : Prop := ∃ ρ' H', St C L ρ' H' s'.heap ∧ Step L H H' s s' ∧ Q a ρ' H'

def W {α : Type} (C : Cx) (A : Around) (L : Addr) (t : Sem α) (ρ : Lo) (H : AH) (Q : α → Lo → AH → Prop) : Prop :=
  ∀ s : Shared, St C L ρ H s.heap → wpAny C.M A t (Post C L H s Q) False2 s

section
variable {α β : Type} {C : Cx} {A : Around} {L : Addr} {ρ : Lo} {H : AH}

theorem W.pure {a : α} {Q : α → Lo → AH → Prop} (h : Q a ρ H) : W C A L (Pure.pure a) ρ H Q := fun s hs => wpAny_pure ⟨ρ, H, hs, .refl .., h⟩
theorem W.mono {t : Sem α} {Q Q' : α → Lo → AH → Prop} (h : W C A L t ρ H Q) (hq : ∀ a ρ' H', Q a ρ' H' → Q' a ρ' H') : W C A L t ρ H Q' := fun s hs =>
  wpAny_mono (h s hs) (fun a s' ⟨ρ', H', x, y, z⟩ => ⟨ρ', H', x, y, hq _ _ _ z⟩) fun _ _ e => e
theorem W.bind {t : Sem α} {f : α → Sem β} {Q : β → Lo → AH → Prop} (h : W C A L t ρ H (fun a ρ' H' => W C A L (f a) ρ' H' Q)) : W C A L (t >>= f) ρ H Q := fun s hs =>
  wpAny_bind (wpAny_mono (h s hs) (fun a s' ⟨ρ', H', x, y, z⟩ => wpAny_mono (z s' x) (fun b s'' ⟨ρ'', H'', x', y', z'⟩ =>
    ⟨ρ'', H'', x', y.trans y' (fun _ _ => x'.nl), z'⟩) fun _ _ e => e) fun _ _ e => e)
theorem W.map {t : Sem α} {f : α → β} {Q : β → Lo → AH → Prop} (h : W C A L t ρ H (fun a => Q (f a))) : W C A L (f <$> t) ρ H Q := fun s hs => wpAny_map (h s hs)
theorem W.holding {vs : List Value} {t : Sem α} {Q : α → Lo → AH → Prop} (h : W C A L t ρ H Q) : W C A L (PySem.holding vs t) ρ H Q := fun s hs => wpAny_holding (h s hs)
theorem W.standAt {p : Pos} {Q : Unit → Lo → AH → Prop} (h : Q () ρ H) : W C A L (PySem.standAt p) ρ H Q := fun s hs => wpAny_standAt ⟨ρ, H, hs, .refl .., h⟩
theorem W.rule {tag : String} {Q : Unit → Lo → AH → Prop} (h : Q () ρ H) : W C A L (PySem.rule tag) ρ H Q := fun s hs => wpAny_rule ⟨ρ, H, hs, .refl .., h⟩
theorem W.ite {c : Prop} [Decidable c] {a b : Sem α} {Q : α → Lo → AH → Prop} (h1 : c → W C A L a ρ H Q) (h2 : ¬ c → W C A L b ρ H Q) : W C A L (if c then a else b) ρ H Q := by
  split
  · exact h1 ‹_›
  · exact h2 ‹_›

/-- continue behind a step of a library rule -/
theorem W.at {t : Sem α} {Q : α → Lo → AH → Prop} {s s' : Shared} {ρ' : Lo} {H' : AH} (h : W C A L t ρ' H' Q) (hs : St C L ρ' H' s'.heap) (hst : Step L H H' s s') :
    wpAny C.M A t (Post C L H s Q) False2 s' :=
  wpAny_mono (h s' hs) (fun a s'' ⟨ρ'', H'', x', y', z'⟩ => ⟨ρ'', H'', x', hst.trans y' (fun _ _ => x'.nl), z'⟩) fun _ _ e => e
theorem W.at2 {t : Sem α} {f : α → Sem β} {Q : β → Lo → AH → Prop} {s s' : Shared} {ρ' : Lo} {H' : AH} (h : W C A L t ρ' H' (fun a ρ2 H2 => W C A L (f a) ρ2 H2 Q)) (hs : St C L ρ' H' s'.heap) (hst : Step L H H' s s') :
    wpAny C.M A t (fun a s2 => wpAny C.M A (f a) (Post C L H s Q) False2 s2) False2 s' :=
  wpAny_mono (h s' hs) (fun a s'' ⟨ρ'', H'', x', y', z'⟩ => z'.at x' (hst.trans y' (fun _ _ => x'.nl))) fun _ _ e => e
theorem W.at3 {γ : Type} {t : Sem α} {f : α → Sem β} {g : α → β → Sem γ} {Q : γ → Lo → AH → Prop} {s s' : Shared} {ρ' : Lo} {H' : AH} (h : W C A L t ρ' H' (fun a ρ2 H2 => W C A L (f a) ρ2 H2 (fun b ρ3 H3 => W C A L (g a b) ρ3 H3 Q))) (hs : St C L ρ' H' s'.heap) (hst : Step L H H' s s') :
    wpAny C.M A t (fun a s2 => wpAny C.M A (f a) (fun b s3 => wpAny C.M A (g a b) (Post C L H s Q) False2 s3) False2 s2) False2 s' :=
  wpAny_mono (h s' hs) (fun a s'' ⟨ρ'', H'', x', y', z'⟩ => z'.at2 x' (hst.trans y' (fun _ _ => x'.nl))) fun _ _ e => e

/-- only tokens, or new untracked objects -/
theorem St.ext {h h' : Heap} (x : St C L ρ H h) (k : ∀ b o, h.get? b = some o → h'.get? b = some o) : St C L ρ H h' where
  keep := fun b o e => k _ _ (x.keep b o e)
  rep := fun a o e => let ⟨c, e1, e2⟩ := x.rep a o e; ⟨c, k _ _ e1, e2⟩
  own := x.own
  loc := let ⟨m, e1, e2⟩ := x.loc; ⟨m, e1.keeps k, e2⟩
  nl := x.nl
  bl := x.bl
theorem Step.ext {s : Shared} {h' : Heap} {tk : Nat} (k : ∀ b o, s.heap.get? b = some o → h'.get? b = some o) : Step L H H s { s with heap := h', toks := tk } :=
  ⟨⟨_, _, rfl⟩, fun b o e _ _ => k b o e, fun _ _ _ e => e, fun b o e => ⟨o, k b o e⟩⟩
theorem Step.toks {s : Shared} {tk : Nat} : Step L H H s { s with toks := tk } := ⟨⟨s.heap, tk, rfl⟩, fun _ _ e _ _ => e, fun _ _ _ e => e, fun _ o e => ⟨o, e⟩⟩

/-- an address that is not tracked, not the base's and not the locals' may change -/
theorem St.off {h h' : Heap} {I : Addr} (x : St C L ρ H h) (hI : H I = none) (hB : C.base.get? I = none) (hL : I ≠ L) (k : ∀ b o, b ≠ I → h.get? b = some o → h'.get? b = some o) : St C L ρ H h' where
  keep := fun b o e => k _ _ (fun q => by rw [q, hB] at e; cases e) (x.keep b o e)
  rep := fun a o e => let ⟨c, e1, e2⟩ := x.rep a o e; ⟨c, k _ _ (fun q => by rw [q, hI] at e; cases e) e1, e2⟩
  own := x.own
  loc := let ⟨m, e1, e2⟩ := x.loc; ⟨m, e1.extBut (b := I) (fun b o hb e => k b o hb e) (Ne.symm hL), e2⟩
  nl := x.nl
  bl := x.bl

theorem St.fresh {h : Heap} (x : St C L ρ H h) {a : Addr} (ha : h.get? a = none) : H a = none ∧ C.base.get? a = none ∧ a ≠ L := by
  refine ⟨?_, ?_, ?_⟩
  · cases e : H a with
    | none => rfl
    | some o => obtain ⟨c, e1, _⟩ := x.rep a o e; rw [ha] at e1; cases e1
  · cases e : C.base.get? a with
    | none => rfl
    | some o => have := x.keep a o e; rw [ha] at this; cases this
  · rintro rfl
    obtain ⟨m, ⟨o, _, _, ho, _⟩, _⟩ := x.loc
    rw [ha] at ho; cases ho

theorem get?_size_none (h : Heap) : h.get? h.objs.size = none := by
  cases e : h.get? h.objs.size with
  | none => rfl
  | some o => exact absurd (Heap.lt_size e) (Nat.lt_irrefl _)

/-- a new tracked object -/
theorem St.alloc {h h' : Heap} {a : Addr} {c : Obj} {o : O} (x : St C L ρ H h) (ha : h.get? a = none) (hc : h'.get? a = some c) (hr : Rep o c) (k : ∀ b o, h.get? b = some o → h'.get? b = some o) : St C L ρ (H.set a o) h' where
  keep := fun b o e => k _ _ (x.keep b o e)
  rep := fun b o' e => by
    by_cases q : b = a
    · subst q; rw [AH.set_same] at e; cases e; exact ⟨c, hc, hr⟩
    · rw [AH.set_ne _ _ q] at e; obtain ⟨c, e1, e2⟩ := x.rep b o' e; exact ⟨c, k _ _ e1, e2⟩
  own := fun b o' e hm => by
    by_cases q : b = a
    · subst q; exact (x.fresh ha).2.1
    · rw [AH.set_ne _ _ q] at e; exact x.own b o' e hm
  loc := let ⟨m, e1, e2⟩ := x.loc; ⟨m, e1.keeps k, e2⟩
  nl := by rw [AH.set_ne _ _ (Ne.symm (x.fresh ha).2.2)]; exact x.nl
  bl := x.bl
theorem Step.alloc {s : Shared} {h' : Heap} {tk : Nat} {a : Addr} {o : O} (ha : s.heap.get? a = none) (k : ∀ b o, s.heap.get? b = some o → h'.get? b = some o) : Step L H (H.set a o) s { s with heap := h', toks := tk } :=
  ⟨⟨_, _, rfl⟩, fun b o e _ _ => k b o e, fun b o e hb => by rw [AH.set_ne _ _ (fun q => by rw [q, ha] at e; cases e)]; exact hb, fun b o e => ⟨o, k b o e⟩⟩

/-- a tracked object changed -/
theorem St.upd {h h' : Heap} {a : Addr} {c : Obj} {o₀ o : O} (x : St C L ρ H h) (hH : H a = some o₀) (hm : o₀.mut = true) (hc : h'.get? a = some c) (hr : Rep o c) (k : ∀ b o, b ≠ a → h.get? b = some o → h'.get? b = some o) : St C L ρ (H.set a o) h' where
  keep := fun b o e => k _ _ (fun q => by rw [q, x.own a o₀ hH hm] at e; cases e) (x.keep b o e)
  rep := fun b o' e => by
    by_cases q : b = a
    · subst q; rw [AH.set_same] at e; cases e; exact ⟨c, hc, hr⟩
    · rw [AH.set_ne _ _ q] at e; obtain ⟨c, e1, e2⟩ := x.rep b o' e; exact ⟨c, k _ _ q e1, e2⟩
  own := fun b o' e hm' => by
    by_cases q : b = a
    · subst q; exact x.own _ _ hH hm
    · rw [AH.set_ne _ _ q] at e; exact x.own b o' e hm'
  loc := let ⟨m, e1, e2⟩ := x.loc; ⟨m, e1.extBut (b := a) (fun b o hb e => k b o hb e) (fun q => by rw [← q, x.nl] at hH; cases hH), e2⟩
  nl := by rw [AH.set_ne _ _ (fun q => by rw [← q, x.nl] at hH; cases hH)]; exact x.nl
  bl := x.bl
theorem Step.upd {s : Shared} {h' : Heap} {tk : Nat} {a : Addr} {c : Obj} {o₀ o : O} (hH : H a = some o₀) (hc : h'.get? a = some c) (k : ∀ b o, b ≠ a → s.heap.get? b = some o → h'.get? b = some o) : Step L H (H.set a o) s { s with heap := h', toks := tk } :=
  ⟨⟨_, _, rfl⟩, fun b o e hb _ => k b o (fun q => by rw [q, hH] at hb; cases hb) e, fun b o e hb => by rw [AH.set_ne _ _ (fun q => by rw [q, hH] at hb; cases hb)]; exact hb, fun b o e => by
    by_cases q : b = a
    · subst q; exact ⟨c, hc⟩
    · exact ⟨o, k b o q e⟩⟩

/-- a local stored -/
theorem St.store {h h' : Heap} {x : Str} {v : Value} {m : Str → Option Value} (X : St C L ρ H h) (hm : ∀ x, (m x).map ab = ρ x) (hn : h'.Ns L (fun y => if y = x then some v else m y)) (hs : Heap.SameBut L h h') : St C L (ρ.set x (ab v)) H h' where
  keep := fun b o e => hs.extBut b o (fun q => by rw [q, X.bl] at e; cases e) (X.keep b o e)
  rep := fun a o e => let ⟨c, e1, e2⟩ := X.rep a o e; ⟨c, hs.extBut _ _ (fun q => by rw [q, X.nl] at e; cases e) e1, e2⟩
  own := X.own
  loc := ⟨_, hn, fun y => by
    unfold Lo.set
    by_cases q : y = x
    · simp [q]
    · simp [q, hm]⟩
  nl := X.nl
  bl := X.bl
theorem Step.store {s : Shared} {h' : Heap} {tk : Nat} {m : Str → Option Value} (hn : h'.Ns L m) (hs : Heap.SameBut L s.heap h') : Step L H H s { s with heap := h', toks := tk } :=
  ⟨⟨_, _, rfl⟩, fun b o e _ hb => hs.extBut b o hb e, fun _ _ _ e => e, fun b o e => by
    by_cases q : b = L
    · subst q; obtain ⟨o', _, _, ho, _⟩ := hn; exact ⟨o', ho⟩
    · exact ⟨o, hs.extBut b o q e⟩⟩

/-- a library rule that changes nothing but tokens -/
theorem W.of_toks {t : Sem α} {R : α → Prop} {Q : α → Lo → AH → Prop}
    (h : ∀ (s : Shared), St C L ρ H s.heap → ∀ Q' : α → Shared → Prop, (∀ a tk, R a → Q' a { s with toks := tk }) → wpAny C.M A t Q' False2 s)
    (hq : ∀ a, R a → Q a ρ H) : W C A L t ρ H Q := fun s hs => h s hs _ fun a tk r => ⟨ρ, H, hs, .toks, hq a r⟩
/-- a library rule that makes untracked objects -/
theorem W.of_ext {t : Sem α} {R : α → Prop} {Q : α → Lo → AH → Prop}
    (h : ∀ (s : Shared), St C L ρ H s.heap → ∀ Q' : α → Shared → Prop, (∀ a h' tk, (∀ b o, s.heap.get? b = some o → h'.get? b = some o) → R a → Q' a { s with heap := h', toks := tk }) → wpAny C.M A t Q' False2 s)
    (hq : ∀ a, R a → Q a ρ H) : W C A L t ρ H Q := fun s hs => h s hs _ fun a _ _ k r => ⟨ρ, H, hs.ext k, .ext k, hq a r⟩
end
end Mine

namespace Mine
open PySem PySem.W PyProof.Rows

/-! ## facts of tracked objects -/
def lst : O → Option (List V)
  | .list vs => some vs
  | .scr vs => some vs
  | _ => none

section
variable {C : Cx} {A : Around} {L : Addr} {ρ : Lo} {H : AH} {h : Heap} {a : Addr} {vs : List V}

theorem St.list (x : St C L ρ H h) {o : O} (e : H a = some o) (hl : lst o = some vs) : ∃ xs : Array Value, h.IsList a xs ∧ xs.toList.map ab = vs ∧ vs.length ≤ sizeLine := by
  obtain ⟨c, hc, r⟩ := x.rep a o e
  cases o <;> simp only [lst] at hl <;> try cases hl
  · obtain ⟨xs, n, rfl, e2, e3⟩ := r; exact ⟨xs, ⟨_, hc, rfl, n, rfl⟩, e2, e3⟩
  · obtain ⟨e1, xs, n, ed, e2, e3⟩ := r; exact ⟨xs, ⟨_, hc, e1, n, ed⟩, e2, e3⟩
theorem St.plist (x : St C L ρ H h) (e : H a = some (.list vs)) : ∃ xs : Array Value, h.PlainList a xs ∧ xs.toList.map ab = vs ∧ vs.length ≤ sizeLine := by
  obtain ⟨c, hc, xs, n, rfl, e2, e3⟩ := x.rep a _ e
  exact ⟨xs, ⟨n, hc⟩, e2, e3⟩
theorem St.tup (x : St C L ρ H h) (e : H a = some (.tup vs)) : ∃ xs : Array Value, IsTup h a xs ∧ xs.toList.map ab = vs ∧ vs.length ≤ sizeLine := by
  obtain ⟨c, hc, xs, n, rfl, e2, e3⟩ := x.rep a _ e
  exact ⟨xs, ⟨_, hc, rfl, n, rfl⟩, e2, e3⟩
theorem St.cell (x : St C L ρ H h) {v : Option V} (e : H a = some (.cell v)) : ∃ u, h.IsCell a u ∧ u.map ab = v := by
  obtain ⟨c, hc, u, e1, e2⟩ := x.rep a _ e
  exact ⟨u, ⟨c, hc, e1⟩, e2⟩
theorem St.func (x : St C L ρ H h) {fd : FuncData} (e : H a = some (.fn fd)) : h.get? a = some { cls := .type "function", data := .func fd } := by
  obtain ⟨c, hc, e1⟩ := x.rep a _ e
  rw [hc, e1]

theorem arr_get {xs : Array Value} {i : Nat} {v : V} (e : xs.toList.map ab = vs) (hi : vs[i]? = some v) : ∃ x, xs[i]? = some x ∧ ab x = v := by
  subst e
  rw [List.getElem?_map] at hi
  cases hx : xs.toList[i]? with
  | none => rw [hx] at hi; cases hi
  | some x => rw [hx] at hi; exact ⟨x, by rw [← Array.getElem?_toList]; exact hx, by simpa using hi⟩
theorem arr_size {xs : Array Value} (e : xs.toList.map ab = vs) : xs.size = vs.length := by subst e; simp
end

structure Fx (C : Cx) (A : Around) (env : Env) : Prop where
  kind : env.scope.kind = .function
  gl : env.globals = mainGlobals
  bu : env.builtins = builtinsNs
  hh : A.handled = none

section
variable {C : Cx} {A : Around} {env : Env} {ρ : Lo} {H : AH}

theorem W.operate {L : Addr} {ops : List Value} {t : Sem Value} {Q : Value → Lo → AH → Prop} (h : W C A L t ρ H Q) : W C A L (PySem.operate ops t) ρ H Q := by
  refine W.bind (W.holding (W.mono h fun v ρ' H' q => ?_))
  refine W.bind (fun s hs => wpAny_release ⟨ρ', H', hs, .refl .., ?_⟩)
  exact W.pure q

theorem W.BinOp {l r : Expr} {op : Operator} {pos : Pos} {Q : Value → Lo → AH → Prop} {L : Addr}
    (h : W C A L (eval l env) ρ H (fun a ρ1 H1 => W C A L (eval r env) ρ1 H1 (fun b ρ2 H2 => W C A L (binaryOp op a b) ρ2 H2 Q))) :
    W C A L (eval (.BinOp l op r pos) env) ρ H Q := fun s hs => wpAny_BinOp (h.at3 hs (.refl ..))
theorem W.Compare1 {l r : Expr} {op : CmpOp} {pos : Pos} {Q : Value → Lo → AH → Prop} {L : Addr} (hm : behindInMarks op r = false)
    (h : W C A L (eval l env) ρ H (fun a ρ1 H1 => W C A L (eval r env) ρ1 H1 (fun b ρ2 H2 => W C A L (compareOp op a b) ρ2 H2 Q))) :
    W C A L (eval (.Compare l [op] [r] pos) env) ρ H Q := fun s hs => wpAny_Compare1 (h.at3 hs (.refl ..)) hm
theorem W.UnaryOp {x : Expr} {op : UnaryOp} {pos : Pos} {Q : Value → Lo → AH → Prop} {L : Addr}
    (h : W C A L (eval x env) ρ H (fun a ρ1 H1 => W C A L (unaryOp op a) ρ1 H1 Q)) :
    W C A L (eval (.UnaryOp op x pos) env) ρ H Q := fun s hs => wpAny_UnaryOp (h.at2 hs (.refl ..))
theorem W.Subscript {o i : Expr} {pos : Pos} {Q : Value → Lo → AH → Prop} {L : Addr}
    (h : W C A L (eval o env) ρ H (fun a ρ1 H1 => W C A L (eval i env) ρ1 H1 (fun b ρ2 H2 => W C A L (subscriptTail o i a b) ρ2 H2 Q))) :
    W C A L (eval (.Subscript o i pos) env) ρ H Q := fun s hs => Subscript_ (h.at3 hs (.refl ..))

/-! ## pure evaluation -/
def Ev (C : Cx) (A : Around) (env : Env) (ρ : Lo) (H : AH) (e : Expr) (v : V) : Prop :=
  W C A env.locals (eval e env) ρ H (fun x ρ' H' => ρ' = ρ ∧ H' = H ∧ ab x = v)
def EvT (C : Cx) (A : Around) (env : Env) (ρ : Lo) (H : AH) (e : Expr) (b : Bool) : Prop :=
  W C A env.locals (isTrue e env (eval e env)) ρ H (fun x ρ' H' => ρ' = ρ ∧ H' = H ∧ x = b)

theorem Ev.then {e : Expr} {v : V} {f : Value → Sem β} {Q : β → Lo → AH → Prop} (h : Ev C A env ρ H e v) (k : ∀ x, ab x = v → W C A env.locals (f x) ρ H Q) :
    W C A env.locals (eval e env) ρ H (fun x ρ1 H1 => W C A env.locals (f x) ρ1 H1 Q) :=
  W.mono h (by rintro x _ _ ⟨rfl, rfl, e⟩; exact k x e)

theorem Ev.local {x : Str} {pos : Pos} {v : V} (F : Fx C A env) (hl : env.kindOf x = some .local) (hv : ρ x = some v) (hd : (x == ("__debug__" : Str)) = false := by decide) : Ev C A env ρ H (.Name x pos) v := fun s hs => by
  obtain ⟨m, hn, hm⟩ := hs.loc
  have := hm x
  rw [hv] at this
  cases hx : m x with
  | none => rw [hx] at this; cases this
  | some y =>
    rw [hx] at this
    exact wpAny_Name (wpAny_loadName_local F.kind hl hn hx ⟨ρ, H, hs, .refl .., rfl, rfl, by simpa using this⟩) hd
theorem Ev.cell {x : Str} {pos : Pos} {v : V} {c : Addr} (F : Fx C A env) (hl : env.kindOf x = some .cell) (hc : env.cells.lookup x = some c) (hv : H c = some (.cell (some v))) (hd : (x == ("__debug__" : Str)) = false := by decide) : Ev C A env ρ H (.Name x pos) v := fun s hs => by
  obtain ⟨u, h1, h2⟩ := hs.cell hv
  cases u with
  | none => cases h2
  | some y => exact wpAny_Name (wpAny_loadName_cell F.kind hl hc h1 ⟨ρ, H, hs, .refl .., rfl, rfl, by simpa using h2⟩) hd
theorem Ev.free {x : Str} {pos : Pos} {v : V} {c : Addr} (F : Fx C A env) (hl : env.kindOf x = some .free) (hc : env.cells.lookup x = some c) (hv : H c = some (.cell (some v))) (hd : (x == ("__debug__" : Str)) = false := by decide) (hn : (x == ("__classdict__" : Str)) = false := by decide) : Ev C A env ρ H (.Name x pos) v := fun s hs => by
  obtain ⟨u, h1, h2⟩ := hs.cell hv
  cases u with
  | none => cases h2
  | some y => exact wpAny_Name (wpAny_loadName_free F.kind hl hc h1 ⟨ρ, H, hs, .refl .., rfl, rfl, by simpa using h2⟩ hn) hd
theorem Ev.glob {x : Str} {pos : Pos} {v : Value} (F : Fx C A env) (hl : env.kindOf x = some .globalImplicit) (hv : C.gl x = some v) (hd : (x == ("__debug__" : Str)) = false := by decide) : Ev C A env ρ H (.Name x pos) (ab v) := fun s hs => by
  refine wpAny_Name ?_ hd
  rw [loadName_read F.kind hl]
  unfold loadGlobal
  unfold Cx.gl at hv
  refine wpAny_bind (wpAny_nsGet (by rw [F.gl]; exact C.hg.keeps hs.keep) ?_)
  cases hm : C.mg x with
  | some y =>
    rw [hm] at hv; cases hv
    exact wpAny_pure ⟨ρ, H, hs, .refl .., rfl, rfl, rfl⟩
  | none =>
    rw [hm] at hv
    dsimp only
    refine wpAny_bind (wpAny_nsGet (by rw [F.bu]; exact C.hb.keeps hs.keep) ?_)
    dsimp only at hv
    rw [hv]
    exact wpAny_pure ⟨ρ, H, hs, .refl .., rfl, rfl, rfl⟩

theorem Ev.int {i : Int} {k : Nat} {pos : Pos} : Ev C A env ρ H (.Constant (.int i) k pos) (.int i) := fun s hs => wpAny_Constant_int ⟨ρ, H, hs, .toks, rfl, rfl, rfl⟩
theorem Ev.str {x : Str} {k : Nat} {pos : Pos} : Ev C A env ρ H (.Constant (.str x) k pos) (.str x) := fun s hs => wpAny_Constant_str ⟨ρ, H, hs, .toks, rfl, rfl, rfl⟩
theorem Ev.none {k : Nat} {pos : Pos} : Ev C A env ρ H (.Constant .none k pos) .none := fun s hs => wpAny_Constant_none ⟨ρ, H, hs, .refl .., rfl, rfl, rfl⟩
theorem Ev.bool {b : Bool} {k : Nat} {pos : Pos} : Ev C A env ρ H (.Constant (.bool b) k pos) (.bool b) := fun s hs => wpAny_Constant_bool ⟨ρ, H, hs, .refl .., rfl, rfl, rfl⟩

theorem Ev.bin {l r : Expr} {op : Operator} {pos : Pos} {a b v : V} (h1 : Ev C A env ρ H l a) (h2 : Ev C A env ρ H r b)
    (h : ∀ x y, ab x = a → ab y = b → W C A env.locals (binaryOp op x y) ρ H (fun z ρ' H' => ρ' = ρ ∧ H' = H ∧ ab z = v)) : Ev C A env ρ H (.BinOp l op r pos) v :=
  W.BinOp (W.mono h1 (by rintro x _ _ ⟨rfl, rfl, e⟩; exact h2.then fun y e' => h x y e e'))
theorem Ev.add {l r : Expr} {pos : Pos} {a b : Int} (h1 : Ev C A env ρ H l (.int a)) (h2 : Ev C A env ρ H r (.int b)) : Ev C A env ρ H (.BinOp l .Add r pos) (.int (a + b)) :=
  Ev.bin h1 h2 fun x y e e' => by
    obtain ⟨t, rfl⟩ := ab_int e; obtain ⟨u, rfl⟩ := ab_int e'
    exact fun s hs => add_int ⟨ρ, H, hs, .toks, rfl, rfl, rfl⟩
theorem Ev.sub {l r : Expr} {pos : Pos} {a b : Int} (h1 : Ev C A env ρ H l (.int a)) (h2 : Ev C A env ρ H r (.int b)) : Ev C A env ρ H (.BinOp l .Sub r pos) (.int (a - b)) :=
  Ev.bin h1 h2 fun x y e e' => by
    obtain ⟨t, rfl⟩ := ab_int e; obtain ⟨u, rfl⟩ := ab_int e'
    exact fun s hs => sub_int' ⟨ρ, H, hs, .toks, rfl, rfl, rfl⟩
theorem Ev.mul {l r : Expr} {pos : Pos} {a b : Int} (h1 : Ev C A env ρ H l (.int a)) (h2 : Ev C A env ρ H r (.int b)) (hm : IntMulOk a b) : Ev C A env ρ H (.BinOp l .Mult r pos) (.int (a * b)) :=
  Ev.bin h1 h2 fun x y e e' => by
    obtain ⟨t, rfl⟩ := ab_int e; obtain ⟨u, rfl⟩ := ab_int e'
    exact fun s hs => mul_int ⟨ρ, H, hs, .toks, rfl, rfl, rfl⟩ hm
theorem Ev.mod {l r : Expr} {pos : Pos} {a b : Int} (h1 : Ev C A env ρ H l (.int a)) (h2 : Ev C A env ρ H r (.int b)) (hb : b ≠ 0) : Ev C A env ρ H (.BinOp l .Mod r pos) (.int (a.fmod b)) :=
  Ev.bin h1 h2 fun x y e e' => by
    obtain ⟨t, rfl⟩ := ab_int e; obtain ⟨u, rfl⟩ := ab_int e'
    exact fun s hs => mod_int' hb ⟨ρ, H, hs, .toks, rfl, rfl, rfl⟩
theorem Ev.fdiv {l r : Expr} {pos : Pos} {a b : Int} (h1 : Ev C A env ρ H l (.int a)) (h2 : Ev C A env ρ H r (.int b)) (hb : 0 < b) (hb' : b < 1000000) : Ev C A env ρ H (.BinOp l .FloorDiv r pos) (.int (a.fdiv b)) :=
  Ev.bin h1 h2 fun x y e e' => by
    obtain ⟨t, rfl⟩ := ab_int e; obtain ⟨u, rfl⟩ := ab_int e'
    exact fun s hs => floordiv_int (by omega) ⟨ρ, H, hs, .toks, rfl, rfl, rfl⟩ (Or.inl (PyProof.noPylong_small (by omega)))
theorem Ev.neg {x : Expr} {pos : Pos} {a : Int} (h1 : Ev C A env ρ H x (.int a)) : Ev C A env ρ H (.UnaryOp .USub x pos) (.int (-a)) :=
  W.UnaryOp (h1.then fun y e => by
    obtain ⟨t, rfl⟩ := ab_int e
    exact fun s hs => neg_int ⟨ρ, H, hs, .toks, rfl, rfl, rfl⟩)

/-! comparisons of ints -/
def icmp : CmpOp → Int → Int → Option Bool
  | .Lt, a, b => some (decide (a < b))
  | .LtE, a, b => some (decide (a ≤ b))
  | .Gt, a, b => some (decide (b < a))
  | .GtE, a, b => some (decide (b ≤ a))
  | .Eq, a, b => some (a == b)
  | .NotEq, a, b => some (a != b)
  | _, _, _ => none

theorem W.icmp {L : Addr} {op : CmpOp} {a b : Int} {c : Bool} {x y : Value} {Q : Value → Lo → AH → Prop} (hx : ab x = .int a) (hy : ab y = .int b) (hc : icmp op a b = some c) (h : Q (.bool c) ρ H) : W C A L (compareOp op x y) ρ H Q := by
  obtain ⟨t, rfl⟩ := ab_int hx; obtain ⟨u, rfl⟩ := ab_int hy
  intro s hs
  have k : Post C L H s Q (Value.bool c) s := ⟨ρ, H, hs, .refl .., h⟩
  cases op <;> simp only [Mine.icmp] at hc <;> cases hc
  · exact eq_int k
  · exact ne_int k
  · exact lt_int k
  · exact le_int k
  · exact gt_int k
  · exact ge_int k
theorem Ev.icmp {l r : Expr} {op : CmpOp} {pos : Pos} {a b : Int} {c : Bool} (h1 : Ev C A env ρ H l (.int a)) (h2 : Ev C A env ρ H r (.int b)) (hc : Mine.icmp op a b = some c) (hm : behindInMarks op r = false := by with_unfolding_all rfl) :
    Ev C A env ρ H (.Compare l [op] [r] pos) (.bool c) :=
  W.Compare1 hm (W.mono h1 (by rintro x _ _ ⟨rfl, rfl, e⟩; exact h2.then fun y e' => W.icmp e e' hc ⟨rfl, rfl, rfl⟩))

theorem W.isTrue_Compare1 {l r : Expr} {op : CmpOp} {pos : Pos} {whole : Sem Value} {Q : Bool → Lo → AH → Prop} {L : Addr} (hm : behindInMarks op r = false)
    (h : W C A L (eval l env) ρ H (fun a ρ1 H1 => W C A L (eval r env) ρ1 H1 (fun b ρ2 H2 => W C A L (compareOp op a b) ρ2 H2 (fun c ρ3 H3 => W C A L (truthy c) ρ3 H3 Q)))) :
    W C A L (isTrue (.Compare l [op] [r] pos) env whole) ρ H Q := fun s hs => by
  refine wpAny_isTrue_Compare1 ?_ hm
  exact wpAny_mono (h s hs) (fun a s1 ⟨ρ1, H1, x1, y1, z1⟩ => z1.at3 x1 y1) fun _ _ e => e
theorem W.truthy_bool {L : Addr} {b : Bool} {Q : Bool → Lo → AH → Prop} (h : Q b ρ H) : W C A L (truthy (.bool b)) ρ H Q := fun s hs => wpAny_truthy_bool ⟨ρ, H, hs, .refl .., h⟩
theorem EvT.icmp {l r : Expr} {op : CmpOp} {pos : Pos} {a b : Int} {c : Bool} (h1 : Ev C A env ρ H l (.int a)) (h2 : Ev C A env ρ H r (.int b)) (hc : Mine.icmp op a b = some c) (hm : behindInMarks op r = false := by with_unfolding_all rfl) :
    EvT C A env ρ H (.Compare l [op] [r] pos) c :=
  W.isTrue_Compare1 hm (W.mono h1 (by rintro x _ _ ⟨rfl, rfl, e⟩; exact h2.then fun y e' => W.icmp e e' hc (W.truthy_bool ⟨rfl, rfl, rfl⟩)))

/-! is None -/
theorem beq_none {x : Value} {a : V} (h : ab x = a) : (x == Value.none) = decide (a = .none) := by
  subst h
  cases x <;> simp [ab]
theorem EvT.isNone {l : Expr} {k : Nat} {p pos : Pos} {a : V} (h1 : Ev C A env ρ H l a) : EvT C A env ρ H (.Compare l [.Is] [.Constant .none k p] pos) (decide (a = .none)) :=
  W.isTrue_Compare1 rfl (W.mono h1 (by
    rintro x _ _ ⟨rfl, rfl, e⟩
    refine Ev.none.then fun y e' => ?_
    rw [ab_none e']
    intro s hs
    refine is_none_gen ⟨_, _, hs, .refl .., ?_⟩
    rw [beq_none e]
    exact W.truthy_bool ⟨rfl, rfl, rfl⟩))
theorem EvT.isNotNone {l : Expr} {k : Nat} {p pos : Pos} {a : V} (h1 : Ev C A env ρ H l a) : EvT C A env ρ H (.Compare l [.IsNot] [.Constant .none k p] pos) (!decide (a = .none)) :=
  W.isTrue_Compare1 rfl (W.mono h1 (by
    rintro x _ _ ⟨rfl, rfl, e⟩
    refine Ev.none.then fun y e' => ?_
    rw [ab_none e']
    intro s hs
    refine isNot_none ⟨_, _, hs, .refl .., ?_⟩
    rw [beq_none e]
    exact W.truthy_bool ⟨rfl, rfl, rfl⟩))

/-! truth -/
def truth (H : AH) : V → Option Bool
  | .none => some false
  | .bool b => some b
  | .int i => some (i != 0)
  | .str x => some (decide (x.length ≠ 0))
  | .ref a => match H a with
    | some (.list vs) => some (!vs.isEmpty)
    | some (.scr vs) => some (!vs.isEmpty)
    | some (.tup vs) => some (!vs.isEmpty)
    | _ => none
  | _ => none

theorem W.truthy {L : Addr} {x : Value} {b : Bool} {Q : Bool → Lo → AH → Prop} (hb : truth H (ab x) = some b) (hx : ∀ y t, x = .str y t → y.length ≤ sizeLine) (h : Q b ρ H) : W C A L (PySem.truthy x) ρ H Q := fun s hs => by
  have hsl : (sizeLine : Int) < 2 ^ 63 := by decide
  cases x with
  | none => cases hb; exact truthy_none ⟨ρ, H, hs, .refl .., h⟩
  | bool c => cases hb; exact wpAny_truthy_bool ⟨ρ, H, hs, .refl .., h⟩
  | int i t => cases hb; exact truthy_int ⟨ρ, H, hs, .refl .., h⟩
  | str y t =>
    cases hb
    have := hx y t rfl
    refine P.truthy_str (by omega) ⟨ρ, H, hs, .toks, ?_⟩
    have e : ((y.length : Int) != 0) = decide (y.length ≠ 0) := by
      by_cases q : y.length = 0 <;> simp [q]
    rw [e]; exact h
  | ref a =>
    simp only [ab, truth] at hb
    split at hb
    · rename_i vs e; cases hb
      obtain ⟨xs, h1, h2, h3⟩ := hs.list e (vs := vs) rfl
      refine wpAny_truthy_list h1 (by rw [arr_size h2]; omega) ⟨ρ, H, hs, .toks, ?_⟩
      have e : xs.isEmpty = vs.isEmpty := by subst h2; obtain ⟨l⟩ := xs; cases l <;> simp
      rw [e]; exact h
    · rename_i vs e; cases hb
      obtain ⟨xs, h1, h2, h3⟩ := hs.list e (vs := vs) rfl
      refine wpAny_truthy_list h1 (by rw [arr_size h2]; omega) ⟨ρ, H, hs, .toks, ?_⟩
      have e : xs.isEmpty = vs.isEmpty := by subst h2; obtain ⟨l⟩ := xs; cases l <;> simp
      rw [e]; exact h
    · rename_i vs e; cases hb
      obtain ⟨xs, h1, h2, h3⟩ := hs.tup e
      refine truthy_tuple h1 (by rw [arr_size h2]; omega) ⟨ρ, H, hs, .toks, ?_⟩
      have e : xs.isEmpty = vs.isEmpty := by subst h2; obtain ⟨l⟩ := xs; cases l <;> simp
      rw [e]; exact h
    · cases hb
  | _ => cases hb

theorem EvT.of {e : Expr} {v : V} {b : Bool} (h : Ev C A env ρ H e v) (hb : truth H v = some b) (hs : ∀ x, v = .str x → x.length ≤ sizeLine)
    (he : isTrue e env (eval e env) = (do let v ← eval e env; standAt e.pos; holding [v] (PySem.truthy v)) := by rfl) : EvT C A env ρ H e b := by
  unfold EvT
  rw [he]
  exact W.bind (h.then fun x ex => W.bind (W.standAt (W.holding (W.truthy (by rw [ex]; exact hb) (fun y t ey => hs y (by rw [← ex, ey]; rfl)) ⟨rfl, rfl, rfl⟩))))
theorem EvT.not {x : Expr} {pos : Pos} {b : Bool} (h : EvT C A env ρ H x b) : EvT C A env ρ H (.UnaryOp .Not x pos) (!b) := fun s hs =>
  wpAny_isTrue_Not (wpAny_mono (h s hs) (fun c s' ⟨ρ', H', x', y', e1, e2, e3⟩ => ⟨ρ', H', x', y', e1, e2, by rw [e3]⟩) fun _ _ e => e)
theorem Ev.not {x : Expr} {pos : Pos} {v : V} {b : Bool} (h : Ev C A env ρ H x v) (hb : truth H v = some b) (hs : ∀ x, v = .str x → x.length ≤ sizeLine) : Ev C A env ρ H (.UnaryOp .Not x pos) (.bool (!b)) :=
  W.UnaryOp (h.then fun y e s hs' => not_of (wpAny_mono (W.truthy (by rw [e]; exact hb) (fun z t ez => hs z (by rw [← e, ez]; rfl)) (Q := fun c ρ' H' => ρ' = ρ ∧ H' = H ∧ c = b) ⟨rfl, rfl, rfl⟩ s hs')
    (fun c s' ⟨ρ', H', x', y', e1, e2, e3⟩ => ⟨ρ', H', x', y', e1, e2, by rw [e3]; rfl⟩) fun _ _ e => e))

def AllT (C : Cx) (A : Around) (env : Env) (ρ : Lo) (H : AH) (op : BoolOp) (es : List Expr) (b : Bool) : Prop :=
  W C A env.locals (allTrue op es env) ρ H (fun x ρ' H' => ρ' = ρ ∧ H' = H ∧ x = b)
theorem EvT.boolop {op : BoolOp} {es : List Expr} {pos : Pos} {b : Bool} (h : AllT C A env ρ H op es b) : EvT C A env ρ H (.BoolOp op es pos) b := fun s hs => wpAny_isTrue_BoolOp (h s hs)
theorem AllT.and_nil : AllT C A env ρ H .And [] true := fun s hs => wpAny_allTrue_And_nil ⟨ρ, H, hs, .refl .., rfl, rfl, rfl⟩
theorem AllT.or_nil : AllT C A env ρ H .Or [] false := fun s hs => wpAny_allTrue_Or_nil ⟨ρ, H, hs, .refl .., rfl, rfl, rfl⟩
theorem AllT.and_cons {e : Expr} {es : List Expr} {b c : Bool} (h : EvT C A env ρ H e b) (h2 : b = true → AllT C A env ρ H .And es c) : AllT C A env ρ H .And (e :: es) (b && c) := fun s hs =>
  wpAny_allTrue_And_cons (wpAny_mono (h s hs) (fun x s1 ⟨ρ1, H1, x1, y1, e1, e2, e3⟩ => by
    subst e1 e2 e3
    cases x with
    | true => exact (h2 rfl).at x1 y1
    | false => exact ⟨_, _, x1, y1, rfl, rfl, rfl⟩) fun _ _ e => e)
theorem AllT.or_cons {e : Expr} {es : List Expr} {b c : Bool} (h : EvT C A env ρ H e b) (h2 : b = false → AllT C A env ρ H .Or es c) : AllT C A env ρ H .Or (e :: es) (b || c) := fun s hs =>
  wpAny_allTrue_Or_cons (wpAny_mono (h s hs) (fun x s1 ⟨ρ1, H1, x1, y1, e1, e2, e3⟩ => by
    subst e1 e2 e3
    cases x with
    | false => exact (h2 rfl).at x1 y1
    | true => exact ⟨_, _, x1, y1, rfl, rfl, rfl⟩) fun _ _ e => e)

theorem Ev.ifexp {t b o : Expr} {pos : Pos} {c : Bool} {v : V} (h : EvT C A env ρ H t c) (h1 : c = true → Ev C A env ρ H b v) (h2 : c = false → Ev C A env ρ H o v) : Ev C A env ρ H (.IfExp t b o pos) v := fun s hs =>
  wpAny_IfExp (wpAny_mono (h s hs) (fun x s1 ⟨ρ1, H1, x1, y1, e1, e2, e3⟩ => by
    subst e1 e2 e3
    cases x with
    | true => exact (h1 rfl).at x1 y1
    | false => exact (h2 rfl).at x1 y1) fun _ _ e => e)

/-! items -/
theorem Ev.item {o i : Expr} {pos : Pos} {a : Addr} {ob : O} {vs : List V} {k : Int} {v : V} (h1 : Ev C A env ρ H o (.ref a)) (h2 : Ev C A env ρ H i (.int k)) (hH : H a = some ob) (hl : lst ob = some vs) (h0 : 0 ≤ k) (hx : vs[k.toNat]? = some v)
    (hs : ∀ t, subscripted i false (.ref a) (.int k t) = operate [.ref a, .int k t] (getItem (.ref a) (.int k t)) := by intro _; with_unfolding_all rfl) : Ev C A env ρ H (.Subscript o i pos) v :=
  W.Subscript (W.mono h1 (by
    rintro x _ _ ⟨rfl, rfl, e⟩
    refine h2.then fun y e' => ?_
    cases ab_ref e
    obtain ⟨t, rfl⟩ := ab_int e'
    intro s hst
    obtain ⟨xs, q1, q2, q3⟩ := hst.list hH hl
    obtain ⟨y, y1, y2⟩ := arr_get q2 hx
    have hlt : k.toNat < vs.length := (List.getElem?_eq_some_iff.mp hx).1
    have hsl : (sizeLine : Int) < 2 ^ 63 := by decide
    exact tail_any q1.typeIs slot_list_getitem.lookup (wpAny_getItem_list q1 h0 (by omega) y1 ⟨_, _, hst, .refl .., rfl, rfl, y2⟩) (hs t)))
theorem Ev.titem {o i : Expr} {pos : Pos} {a : Addr} {vs : List V} {k : Int} {v : V} (h1 : Ev C A env ρ H o (.ref a)) (h2 : Ev C A env ρ H i (.int k)) (hH : H a = some (.tup vs)) (h0 : 0 ≤ k) (hx : vs[k.toNat]? = some v)
    (hs : ∀ t, subscripted i false (.ref a) (.int k t) = operate [.ref a, .int k t] (getItem (.ref a) (.int k t)) := by intro _; with_unfolding_all rfl) : Ev C A env ρ H (.Subscript o i pos) v :=
  W.Subscript (W.mono h1 (by
    rintro x _ _ ⟨rfl, rfl, e⟩
    refine h2.then fun y e' => ?_
    cases ab_ref e
    obtain ⟨t, rfl⟩ := ab_int e'
    intro s hst
    obtain ⟨xs, q1, q2, q3⟩ := hst.tup hH
    obtain ⟨y, y1, y2⟩ := arr_get q2 hx
    have hlt : k.toNat < vs.length := (List.getElem?_eq_some_iff.mp hx).1
    have hsl : (sizeLine : Int) < 2 ^ 63 := by decide
    refine item_tupleT (l := xs.toList) (by simpa using q1) (by omega) (by omega) (j := k.toNat) ?_ (by rw [Array.getElem?_toList]; exact y1) ⟨_, _, hst, .refl .., rfl, rfl, y2⟩ (hs t)
    have : xs.toList.length = vs.length := by rw [← q2]; simp
    unfold seqIndex?
    have h0' : ¬ k < 0 := by omega
    simp only [h0', if_false, this]
    rw [if_pos (by simp; omega)]))
end
end Mine

namespace Mine
open PySem PySem.W PyProof.Rows

inductive Fl where
  | next | brk | cont | ret (v : V)
def abF : Flow → Fl
  | .next => .next
  | .brk => .brk
  | .cont => .cont
  | .ret v => .ret (ab v)

def WE (C : Cx) (A : Around) (env : Env) (e : Expr) (ρ : Lo) (H : AH) (Q : V → AH → Prop) : Prop :=
  W C A env.locals (eval e env) ρ H (fun v ρ' H' => ρ' = ρ ∧ Q (ab v) H')
def WT (C : Cx) (A : Around) (env : Env) (e : Expr) (ρ : Lo) (H : AH) (Q : Bool → AH → Prop) : Prop :=
  W C A env.locals (isTrue e env (eval e env)) ρ H (fun b ρ' H' => ρ' = ρ ∧ Q b H')
def WS (C : Cx) (A : Around) (env : Env) (ss : List Stmt) (ρ : Lo) (H : AH) (Q : Fl → Lo → AH → Prop) : Prop :=
  W C A env.locals (execs ss env) ρ H (fun f ρ' H' => Q (abF f) ρ' H')
def W1 (C : Cx) (A : Around) (env : Env) (st : Stmt) (ρ : Lo) (H : AH) (Q : Fl → Lo → AH → Prop) : Prop :=
  W C A env.locals (exec st env) ρ H (fun f ρ' H' => Q (abF f) ρ' H')
def WCall (C : Cx) (A : Around) (f : V) (args : List V) (kw : List (Str × V)) (H : AH) (Q : V → AH → Prop) : Prop :=
  ∀ L ρ (fv : Value) (vals : List Value) (kvs : List (Str × Value)), ab fv = f → vals.map ab = args → kvs.map (fun p => (p.1, ab p.2)) = kw →
    W C A L (call fv vals kvs) ρ H (fun v ρ' H' => ρ' = ρ ∧ Q (ab v) H')
theorem WCall.mono {C : Cx} {A : Around} {f : V} {args : List V} {kw : List (Str × V)} {H : AH} {Q Q' : V → AH → Prop} (h : WCall C A f args kw H Q) (hq : ∀ v H', Q v H' → Q' v H') : WCall C A f args kw H Q' :=
  fun L ρ fv vals kvs a b c => W.mono (h L ρ fv vals kvs a b c) fun _ _ _ q => ⟨q.1, hq _ _ q.2⟩

section
variable {C : Cx} {A : Around} {env : Env} {ρ : Lo} {H : AH}

theorem WE.of {e : Expr} {v : V} {Q : V → AH → Prop} (h : Ev C A env ρ H e v) (q : Q v H) : WE C A env e ρ H Q := W.mono h (by rintro x _ _ ⟨rfl, rfl, rfl⟩; exact ⟨rfl, q⟩)
theorem WE.mono {e : Expr} {Q Q' : V → AH → Prop} (h : WE C A env e ρ H Q) (hq : ∀ v H', Q v H' → Q' v H') : WE C A env e ρ H Q' := W.mono h fun _ _ _ q => ⟨q.1, hq _ _ q.2⟩
theorem WE.ev {e : Expr} {v : V} (h : WE C A env e ρ H (fun v' H' => v' = v ∧ H' = H)) : Ev C A env ρ H e v := W.mono h (by rintro x _ _ ⟨rfl, rfl, rfl⟩; exact ⟨rfl, rfl, rfl⟩)
theorem WT.of {e : Expr} {b : Bool} {Q : Bool → AH → Prop} (h : EvT C A env ρ H e b) (q : Q b H) : WT C A env e ρ H Q := W.mono h (by rintro x _ _ ⟨rfl, rfl, rfl⟩; exact ⟨rfl, q⟩)
theorem WE.then {β : Type} {e : Expr} {f : Value → Sem β} {Q : β → Lo → AH → Prop} (h : WE C A env e ρ H (fun v H1 => ∀ x, ab x = v → W C A env.locals (f x) ρ H1 Q)) :
    W C A env.locals (eval e env) ρ H (fun x ρ1 H1 => W C A env.locals (f x) ρ1 H1 Q) := W.mono h (by rintro x _ _ ⟨rfl, q⟩; exact q x rfl)
theorem WS.mono {ss : List Stmt} {Q Q' : Fl → Lo → AH → Prop} (h : WS C A env ss ρ H Q) (hq : ∀ f ρ' H', Q f ρ' H' → Q' f ρ' H') : WS C A env ss ρ H Q' := W.mono h fun _ _ _ q => hq _ _ _ q
theorem W1.mono {ss : Stmt} {Q Q' : Fl → Lo → AH → Prop} (h : W1 C A env ss ρ H Q) (hq : ∀ f ρ' H', Q f ρ' H' → Q' f ρ' H') : W1 C A env ss ρ H Q' := W.mono h fun _ _ _ q => hq _ _ _ q

theorem WS.nil {Q : Fl → Lo → AH → Prop} (h : Q .next ρ H) : WS C A env [] ρ H Q := fun s hs => wpAny_execs_nil ⟨ρ, H, hs, .refl .., h⟩
theorem WS.cons {st : Stmt} {rest : List Stmt} {Q : Fl → Lo → AH → Prop} (h : W1 C A env st ρ H (fun f ρ1 H1 => match f with | .next => WS C A env rest ρ1 H1 Q | f => Q f ρ1 H1)) : WS C A env (st :: rest) ρ H Q := fun s hs =>
  wpAny_execs_cons (wpAny_mono (h s hs) (fun f s' ⟨ρ', H', x, y, z⟩ => by
    cases f with
    | next => exact W.at z x y
    | brk => exact ⟨ρ', H', x, y, z⟩
    | cont => exact ⟨ρ', H', x, y, z⟩
    | ret v => exact ⟨ρ', H', x, y, z⟩) fun _ _ e => e)
/-- a statement that goes on -/
theorem WS.seq {st : Stmt} {rest : List Stmt} {Q : Fl → Lo → AH → Prop} (h : W1 C A env st ρ H (fun f ρ1 H1 => f = .next ∧ WS C A env rest ρ1 H1 Q)) : WS C A env (st :: rest) ρ H Q :=
  WS.cons (W1.mono h fun f ρ' H' q => by obtain ⟨rfl, q⟩ := q; exact q)

theorem W1.ret {e : Expr} {pos : Pos} {Q : Fl → Lo → AH → Prop} (h : WE C A env e ρ H (fun v H1 => Q (.ret v) ρ H1)) : W1 C A env (.Return (some e) pos) ρ H Q := fun s hs =>
  wpAny_Return_some (wpAny_mono (h s hs) (fun v s' ⟨ρ', H', x, y, z⟩ => ⟨ρ', H', x, y, by rw [z.1]; exact z.2⟩) fun _ _ e => e)
theorem W1.if {t : Expr} {b o : List Stmt} {pos : Pos} {Q : Fl → Lo → AH → Prop} (h : WT C A env t ρ H (fun c H1 => (c = true → WS C A env b ρ H1 Q) ∧ (c = false → WS C A env o ρ H1 Q))) : W1 C A env (.If t b o pos) ρ H Q := fun s hs =>
  wpAny_If (wpAny_mono (h s hs) (fun c s' ⟨ρ', H', x, y, z1, z2⟩ => by
    subst z1
    cases c with
    | true => exact W.at (z2.1 rfl) x y
    | false => exact W.at (z2.2 rfl) x y) fun _ _ e => e)
theorem W1.pass {pos : Pos} {Q : Fl → Lo → AH → Prop} (h : Q .next ρ H) : W1 C A env (.Pass pos) ρ H Q := fun s hs => wpAny_Pass ⟨ρ, H, hs, .refl .., h⟩
theorem W1.break {pos : Pos} {Q : Fl → Lo → AH → Prop} (h : Q .brk ρ H) : W1 C A env (.Break pos) ρ H Q := fun s hs => wpAny_Break ⟨ρ, H, hs, .refl .., h⟩

/-! ## stores -/
theorem W.storeLocal {x : Str} {v : Value} {Q : Unit → Lo → AH → Prop} (F : Fx C A env) (hl : env.kindOf x = some .local) (h : Q () (ρ.set x (ab v)) H) : W C A env.locals (storeName env x v) ρ H Q := fun s hs => by
  obtain ⟨m, hn, hm⟩ := hs.loc
  exact wpAny_storeName_local hl hn (fun h' hn' hsb => ⟨_, H, hs.store hm hn' hsb, .store hn' hsb, h⟩) (by simp [F.kind])
theorem W.storeCell {x : Str} {v : Value} {c : Addr} {o : Option V} {Q : Unit → Lo → AH → Prop} (F : Fx C A env) (hl : env.kindOf x = some .cell) (hc : env.cells.lookup x = some c) (hH : H c = some (.cell o)) (h : Q () ρ (H.set c (.cell (some (ab v))))) :
    W C A env.locals (storeName env x v) ρ H Q := fun s hs => by
  obtain ⟨u, h1, h2⟩ := hs.cell hH
  exact wpAny_storeName_cell F.kind hl hc h1 (fun h' hc' hsb => by
    obtain ⟨oc, e1, e2⟩ := hc'
    exact ⟨_, _, hs.upd (o := .cell (some (ab v))) hH rfl e1 ⟨some v, e2, rfl⟩ (fun b o hb e => hsb.extBut b o hb e), .upd hH e1 (fun b o hb e => hsb.extBut b o hb e), h⟩)

/-- what is drawn: a value, or a tuple of values -/
inductive Dv where
  | one (v : V) | tup (vs : List V)
def Dv.Is (h : Heap) : Dv → Value → Prop
  | .one v, x => ab x = v
  | .tup vs, x => ∃ T xs, x = .ref T ∧ IsTup h T xs ∧ xs.toList.map ab = vs

def Asg (C : Cx) (A : Around) (env : Env) (tgt : Expr) (d : Dv) (ρ : Lo) (H : AH) (Q : Lo → AH → Prop) : Prop :=
  ∀ s x, St C env.locals ρ H s.heap → d.Is s.heap x → wpAny C.M A (assign tgt env x) (Post C env.locals H s (fun _ => Q)) False2 s
def AsgL (C : Cx) (A : Around) (env : Env) (ts : List Expr) (vs : List V) (ρ : Lo) (H : AH) (Q : Lo → AH → Prop) : Prop :=
  match ts, vs with
  | [], [] => Q ρ H
  | t :: ts, v :: vs => Asg C A env t (.one v) ρ H (fun ρ1 H1 => AsgL C A env ts vs ρ1 H1 Q)
  | _, _ => False

theorem Asg.mono {tgt : Expr} {d : Dv} {Q Q' : Lo → AH → Prop} (h : Asg C A env tgt d ρ H Q) (hq : ∀ ρ' H', Q ρ' H' → Q' ρ' H') : Asg C A env tgt d ρ H Q' := fun s x hs hd =>
  wpAny_mono (h s x hs hd) (fun _ s' ⟨ρ', H', x, y, z⟩ => ⟨ρ', H', x, y, hq _ _ z⟩) fun _ _ e => e
theorem Asg.local {x : Str} {pos : Pos} {v : V} {Q : Lo → AH → Prop} (F : Fx C A env) (hl : env.kindOf x = some .local) (h : Q (ρ.set x v) H) : Asg C A env (.Name x pos) (.one v) ρ H Q := fun s y hs hd => by
  have e : ab y = v := hd
  subst e
  exact wpAny_assign_Name (W.storeLocal F hl h s hs)
theorem Asg.cell {x : Str} {pos : Pos} {v : V} {c : Addr} {o : Option V} {Q : Lo → AH → Prop} (F : Fx C A env) (hl : env.kindOf x = some .cell) (hc : env.cells.lookup x = some c) (hH : H c = some (.cell o)) (h : Q ρ (H.set c (.cell (some v)))) : Asg C A env (.Name x pos) (.one v) ρ H Q := fun s y hs hd => by
  have e : ab y = v := hd
  subst e
  exact wpAny_assign_Name (W.storeCell F hl hc hH h s hs)
theorem Asg.of_tup {tgt : Expr} {T : Addr} {ws : List V} {Q : Lo → AH → Prop} (hT : H T = some (.tup ws)) (h : Asg C A env tgt (.tup ws) ρ H Q) : Asg C A env tgt (.one (.ref T)) ρ H Q := fun s y hs hd => by
  refine h s y hs ?_
  obtain ⟨xs, h1, h2, _⟩ := hs.tup hT
  exact ⟨T, xs, ab_ref hd, h1, h2⟩
def noStar : List Expr → Bool
  | [] => true
  | .Starred _ _ :: _ => false
  | _ :: r => noStar r
theorem assignEach_plain : ∀ {ts : List Expr}, noStar ts = true → assignEach ts env = ts.map (fun t => (false, assign t env))
  | [], _ => rfl
  | t :: r, h => by
    have hr : noStar r = true := by
      unfold noStar at h; split at h <;> simp_all
    have e : assignEach (t :: r) env = (false, assign t env) :: assignEach r env := by
      cases t <;> first | rfl | (simp [noStar] at h)
    rw [e, assignEach_plain hr]; rfl
theorem Asg.inOrder : ∀ {ts : List Expr} {vs : List V} {ρ : Lo} {H : AH} {Q : Lo → AH → Prop} (xs : List Value), xs.map ab = vs → AsgL C A env ts vs ρ H Q →
    W C A env.locals (assignInOrder (ts.map fun t => assign t env) xs) ρ H (fun _ => Q)
  | [], [], _, _, _, [], _, h => W.pure h
  | [], _ :: _, _, _, _, _, _, h => h.elim
  | _ :: _, [], _, _, _, _, _, h => h.elim
  | t :: ts, v :: vs, ρ, H, Q, x :: xs, e, h => by
    simp only [List.map_cons, List.cons.injEq] at e
    show W C A env.locals (holding xs (assign t env x) >>= fun _ => assignInOrder (ts.map fun t => assign t env) xs) ρ H _
    refine W.bind (W.holding (fun s hs => ?_))
    exact wpAny_mono (h s x hs e.1) (fun _ s' ⟨ρ', H', a, b, c⟩ => ⟨ρ', H', a, b, Asg.inOrder xs e.2 c⟩) fun _ _ e => e
theorem Asg.tuple {ts : List Expr} {k : Nat} {pos : Pos} {vs : List V} {Q : Lo → AH → Prop} (F : Fx C A env) (hst : noStar ts = true) (hlen : ts.length = vs.length) (h : AsgL C A env ts vs ρ H Q) : Asg C A env (.Tuple ts k pos) (.tup vs) ρ H Q := fun s x hs hd => by
  obtain ⟨T, xs, rfl, hT, e⟩ := hd
  have hsz : xs.size = vs.length := by rw [← e]; simp
  refine assign_Tuple_tuple F.hh hT (by rw [assignEach_plain hst, List.length_map, hlen, hsz]) (by rw [assignEach_plain hst]; simp) fun h' hx => ?_
  have k : ∀ b o, s.heap.get? b = some o → h'.get? b = some o := fun b o eb => hx b o (Nat.ne_of_lt (Heap.lt_size eb)) eb
  have := Asg.inOrder (C := C) (A := A) (env := env) xs.toList e h
  rw [assignEach_plain hst, List.map_map]
  exact this.at (hs.ext k) (.ext k)
end
end Mine

namespace Mine
open PySem PySem.W PyProof.Rows

section
variable {C : Cx} {A : Around} {env : Env} {ρ : Lo} {H : AH}

theorem Heap.keeps_trans {h h' h'' : Heap} (a : ∀ b o, h.get? b = some o → h'.get? b = some o) (b : ∀ b o, h'.get? b = some o → h''.get? b = some o) : ∀ b o, h.get? b = some o → h''.get? b = some o := fun x o e => b x o (a x o e)

/-- forget tracked objects -/
theorem W.weaken {α : Type} {L : Addr} {t : Sem α} {H₀ : AH} {Q : α → Lo → AH → Prop} (hsub : ∀ a o, H₀ a = some o → H a = some o) (h : W C A L t ρ H₀ Q) : W C A L t ρ H Q := fun s hs => by
  have none_of : ∀ b, H b = none → H₀ b = none := fun b e => by
    cases q : H₀ b with
    | none => rfl
    | some o => rw [hsub b o q] at e; cases e
  refine wpAny_mono (h s ⟨hs.keep, fun a o e => hs.rep a o (hsub a o e), fun a o e m => hs.own a o (hsub a o e) m, hs.loc, none_of _ hs.nl, hs.bl⟩) (fun a s' ⟨ρ', H', x, y, z⟩ => ⟨ρ', H', x, ⟨y.same, fun b o e eb eL => y.kept b o e (none_of b eb) eL, fun b o e eb => y.new b o e (none_of b eb), y.live⟩, z⟩) fun _ _ e => e

/-! ## assignment statements -/
theorem W1.asg {tgt e : Expr} {pos : Pos} {Q : Fl → Lo → AH → Prop} (h : WE C A env e ρ H (fun v H1 => Asg C A env tgt (.one v) ρ H1 (fun ρ2 H2 => Q .next ρ2 H2)))
    (hs : swapsWithSole [tgt] e pos.line env = pure false := by rfl) (hw : swappedStores [tgt] e env = pure none := by rfl) (hn : noStar [tgt] = true := by rfl) : W1 C A env (.Assign [tgt] e pos) ρ H Q := by
  show W C A env.locals (standAt pos >>= fun _ => swapsWithSole [tgt] e pos.line env >>= fun b => if b then (evalThenUse e env (fun v => assignAll v ((assignEach [tgt] env).map (·.2))) >>= fun _ => pure .next) else
    (eval e env >>= fun v => swappedStores [tgt] e env >>= fun sw => assignStores env v sw ((assignEach [tgt] env).map (·.2)))) ρ H _
  refine W.bind (W.standAt ?_)
  rw [hs]
  refine W.bind (W.pure ?_)
  rw [if_neg Bool.false_ne_true]
  refine W.bind (WE.then (WE.mono h fun v H1 k x ex => ?_))
  rw [hw, assignEach_plain hn]
  refine W.bind (W.pure ?_)
  show W C A env.locals (assign tgt env x >>= fun _ => pure Flow.next) ρ H1 _
  refine W.bind (fun s hs => wpAny_mono (k s x hs ex) (fun _ s' ⟨ρ', H', a, b, c⟩ => ⟨ρ', H', a, b, W.pure c⟩) fun _ _ e => e)

theorem W1.asgLocal {x : Str} {p pos : Pos} {e : Expr} {Q : Fl → Lo → AH → Prop} (F : Fx C A env) (hl : env.kindOf x = some .local) (h : WE C A env e ρ H (fun v H1 => Q .next (ρ.set x v) H1))
    (hs : swapsWithSole [.Name x p] e pos.line env = pure false := by rfl) (hw : swappedStores [.Name x p] e env = pure none := by rfl) : W1 C A env (.Assign [.Name x p] e pos) ρ H Q :=
  W1.asg (WE.mono h fun v H1 q => Asg.local F hl q) hs hw rfl

theorem W1.asg2 {t₁ t₂ e : Expr} {pos : Pos} {Q : Fl → Lo → AH → Prop} (h : WE C A env e ρ H (fun v H1 => Asg C A env t₁ (.one v) ρ H1 (fun ρ2 H2 => Asg C A env t₂ (.one v) ρ2 H2 (fun ρ3 H3 => Q .next ρ3 H3))))
    (he : (assignEach [t₁, t₂] env).map (·.2) = [assign t₁ env, assign t₂ env] := by rfl) (hw : swappedStores [t₁, t₂] e env = pure none := by rfl) : W1 C A env (.Assign [t₁, t₂] e pos) ρ H Q := fun s hs => by
  refine wpAny_Assign_two ?_ he hw
  refine wpAny_mono (h s hs) (fun v s1 ⟨ρ1, H1, a1, b1, c1, d1⟩ => ?_) fun _ _ e => e
  subst c1
  refine wpAny_mono (d1 s1 v a1 rfl) (fun _ s2 ⟨ρ2, H2, a2, b2, c2⟩ => ?_) fun _ _ e => e
  exact wpAny_mono (c2 s2 v a2 rfl) (fun _ s3 ⟨ρ3, H3, a3, b3, c3⟩ => ⟨ρ3, H3, a3, (b1.trans b2 (fun _ _ => a2.nl)).trans b3 (fun _ _ => a3.nl), c3⟩) fun _ _ e => e

/-! ## argument lists, displays -/
def WEs (C : Cx) (A : Around) (env : Env) : List Expr → Lo → AH → (List V → AH → Prop) → Prop
  | [], _, H, Q => Q [] H
  | e :: es, ρ, H, Q => WE C A env e ρ H (fun v H1 => WEs C A env es ρ H1 (fun vs H2 => Q (v :: vs) H2))
theorem starEach_plain : ∀ {es : List Expr}, noStar es = true → starEach es env = es.map fun e => (false, eval e env)
  | [], _ => rfl
  | t :: r, h => by
    have hr : noStar r = true := by
      unfold noStar at h; split at h <;> simp_all
    have e : starEach (t :: r) env = (false, eval t env) :: starEach r env := by
      cases t <;> first | rfl | (simp [noStar] at h)
    rw [e, starEach_plain hr]; rfl
theorem backTo_plain {pos : Pos} {es : List Expr} (h : noStar es = true) : backTo pos (starEach es env) = es.map fun e => (false, eval e env) := by
  rw [starEach_plain h]
  unfold backTo
  rw [List.map_map]
  rfl
theorem WEs.run : ∀ {es : List Expr} {ρ : Lo} {H : AH} {Q : List V → AH → Prop}, WEs C A env es ρ H Q → W C A env.locals (spliced (es.map fun e => (false, eval e env))) ρ H (fun vs ρ' H' => ρ' = ρ ∧ Q (vs.map ab) H')
  | [], ρ, H, Q, h => W.pure ⟨rfl, h⟩
  | e :: es, ρ, H, Q, h => fun s hs => PySem.Calls.spliced_cons (wpAny_mono (h s hs) (fun v s1 ⟨ρ1, H1, a1, b1, c1, d1⟩ => by
      subst c1
      exact wpAny_mono (WEs.run d1 s1 a1) (fun vs s2 ⟨ρ2, H2, a2, b2, c2, d2⟩ => ⟨ρ2, H2, a2, b1.trans b2 (fun _ _ => a2.nl), c2, d2⟩) fun _ _ e => e) fun _ _ e => e)
theorem WEs.mono : ∀ {es : List Expr} {ρ : Lo} {H : AH} {Q Q' : List V → AH → Prop}, WEs C A env es ρ H Q → (∀ vs H', Q vs H' → Q' vs H') → WEs C A env es ρ H Q'
  | [], _, _, _, _, h, k => k _ _ h
  | _ :: es, _, _, _, _, h, k => WE.mono h fun _ _ q => WEs.mono q fun _ _ r => k _ _ r
/-- all pure -/
inductive Evs (C : Cx) (A : Around) (env : Env) (ρ : Lo) (H : AH) : List Expr → List V → Prop
  | nil : Evs C A env ρ H [] []
  | cons {e : Expr} {es : List Expr} {v : V} {vs : List V} : Ev C A env ρ H e v → Evs C A env ρ H es vs → Evs C A env ρ H (e :: es) (v :: vs)
theorem WEs.of {es : List Expr} {vs : List V} {Q : List V → AH → Prop} (h : Evs C A env ρ H es vs) (q : Q vs H) : WEs C A env es ρ H Q := by
  induction h generalizing Q with
  | nil => exact q
  | cons h1 _ ih => exact WE.of h1 (ih q)

theorem WE.list {es : List Expr} {pos : Pos} {Q : V → AH → Prop} (hn : noStar es = true) (hlen : es.length ≤ 1000) (h : WEs C A env es ρ H (fun vs H1 => ∀ a, H1 a = none → Q (.ref a) (H1.set a (.list vs)))) : WE C A env (.List es pos) ρ H Q := fun s hs => by
  refine wpAny_List ?_
  rw [backTo_plain hn]
  have hl : ∀ {es : List Expr} {ρ : Lo} {H : AH} {Q : List V → AH → Prop}, WEs C A env es ρ H Q → WEs C A env es ρ H (fun vs H' => vs.length = es.length ∧ Q vs H') := by
    intro es
    induction es with
    | nil => intro ρ H Q h; exact ⟨rfl, h⟩
    | cons e es ih => intro ρ H Q h; exact WE.mono h fun v H1 q => WEs.mono (ih q) fun vs H2 r => ⟨by simp [r.1], r.2⟩
  refine wpAny_mono (WEs.run (hl h) s hs) (fun vs s1 ⟨ρ1, H1, a1, b1, c1, d1⟩ => ?_) fun _ _ e => e
  subst c1
  obtain ⟨d0, d1⟩ := d1
  rw [List.length_map] at d0
  have hz : vs.length ≤ sizeLine := by rw [d0]; exact Nat.le_trans hlen (by decide)
  have ha := get?_size_none s1.heap
  refine ⟨hz, _, _, a1.alloc (o := .list (vs.map ab)) ha (Heap.get?_push_size _ rfl) ⟨vs.toArray, 0, rfl, rfl, by simpa using hz⟩ (fun b o e => Heap.get?_push_of_some _ e), ?_, rfl, d1 _ (a1.fresh ha).1⟩
  exact b1.trans (Step.alloc (tk := s1.toks) ha (fun b o e => Heap.get?_push_of_some _ e)) (fun _ _ => by rw [AH.set_ne _ _ (Ne.symm (a1.fresh ha).2.2)]; exact a1.nl)

theorem WE.tuple {es : List Expr} {k : Nat} {pos : Pos} {Q : V → AH → Prop} (hn : noStar es = true) (hlen : es.length ≤ 1000) (h : WEs C A env es ρ H (fun vs H1 => ∀ a, H1 a = none → Q (.ref a) (H1.set a (.tup vs)))) : WE C A env (.Tuple es k pos) ρ H Q := fun s hs => by
  refine wpAny_Tuple ?_
  rw [backTo_plain hn]
  have hl : ∀ {es : List Expr} {ρ : Lo} {H : AH} {Q : List V → AH → Prop}, WEs C A env es ρ H Q → WEs C A env es ρ H (fun vs H' => vs.length = es.length ∧ Q vs H') := by
    intro es
    induction es with
    | nil => intro ρ H Q h; exact ⟨rfl, h⟩
    | cons e es ih => intro ρ H Q h; exact WE.mono h fun v H1 q => WEs.mono (ih q) fun vs H2 r => ⟨by simp [r.1], r.2⟩
  refine wpAny_mono (WEs.run (hl h) s hs) (fun vs s1 ⟨ρ1, H1, a1, b1, c1, d1⟩ => ?_) fun _ _ e => e
  subst c1
  obtain ⟨d0, d1⟩ := d1
  rw [List.length_map] at d0
  have hz : vs.length ≤ sizeLine := by rw [d0]; exact Nat.le_trans hlen (by decide)
  have ha := get?_size_none s1.heap
  refine ⟨hz, _, _, a1.alloc (o := .tup (vs.map ab)) ha (Heap.get?_push_size _ rfl) ⟨vs.toArray, 0, rfl, rfl, by simpa using hz⟩ (fun b o e => Heap.get?_push_of_some _ e), ?_, rfl, d1 _ (a1.fresh ha).1⟩
  exact b1.trans (Step.alloc (tk := s1.toks) ha (fun b o e => Heap.get?_push_of_some _ e)) (fun _ _ => by rw [AH.set_ne _ _ (Ne.symm (a1.fresh ha).2.2)]; exact a1.nl)

/-! a tuple display unpacked at once: the tuple is not tracked -/
theorem WEs.hidden {es : List Expr} {k : Nat} {pos : Pos} {s : Shared} {R : List V → AH → Prop} (hn : noStar es = true) (hlen : es.length ≤ 1000) (hs : St C env.locals ρ H s.heap) (h : WEs C A env es ρ H R) {Q : Value → Shared → Prop}
    (hq : ∀ T (xs : Array Value) s1 H1, IsTup s1.heap T xs → St C env.locals ρ H1 s1.heap → Step env.locals H H1 s s1 → xs.size = es.length → R (xs.toList.map ab) H1 → Q (.ref T) s1) :
    wpAny C.M A (eval (.Tuple es k pos) env) Q False2 s := by
  refine wpAny_Tuple ?_
  rw [backTo_plain hn]
  have hl : ∀ {es : List Expr} {ρ : Lo} {H : AH} {Q : List V → AH → Prop}, WEs C A env es ρ H Q → WEs C A env es ρ H (fun vs H' => vs.length = es.length ∧ Q vs H') := by
    intro es
    induction es with
    | nil => intro ρ H Q h; exact ⟨rfl, h⟩
    | cons e es ih => intro ρ H Q h; exact WE.mono h fun v H1 q => WEs.mono (ih q) fun vs H2 r => ⟨by simp [r.1], r.2⟩
  refine wpAny_mono (WEs.run (hl h) s hs) (fun vs s1 ⟨ρ1, H1, a1, b1, c1, d1⟩ => ?_) fun _ _ e => e
  subst c1
  obtain ⟨d0, d1⟩ := d1
  rw [List.length_map] at d0
  have hz : vs.length ≤ sizeLine := by rw [d0]; exact Nat.le_trans hlen (by decide)
  have k' : ∀ b o, s1.heap.get? b = some o → (s1.heap.push { cls := .type "tuple", data := .seq vs.toArray }).get? b = some o := fun b o e => Heap.get?_push_of_some _ e
  refine ⟨hz, hq _ vs.toArray _ H1 ⟨_, Heap.get?_push_size _ rfl, rfl, _, rfl⟩ (a1.ext k') (b1.trans (Step.ext (tk := s1.toks) k') (fun _ _ => a1.nl)) (by simp [d0]) d1⟩

theorem W1.asgTup {ts es : List Expr} {k k' : Nat} {p p' pos : Pos} {Q : Fl → Lo → AH → Prop} (F : Fx C A env) (h : WEs C A env es ρ H (fun vs H1 => AsgL C A env ts vs ρ H1 (fun ρ2 H2 => Q .next ρ2 H2)))
    (hs : swapsWithSole [.Tuple ts k p] (.Tuple es k' p') pos.line env = pure false := by rfl) (hw : swappedStores [.Tuple ts k p] (.Tuple es k' p') env = pure none := by rfl) (hn : noStar es = true := by rfl) (hnt : noStar ts = true := by rfl) (hlen : es.length = ts.length := by rfl) (hl : es.length ≤ 1000 := by decide) :
    W1 C A env (.Assign [.Tuple ts k p] (.Tuple es k' p') pos) ρ H Q := fun s hs' => by
  refine Assign_Tuple ?_ hs hw
  refine WEs.hidden hn hl hs' h fun T xs s1 H1 hT a1 b1 hz r => ?_
  refine wpAny_mono (Asg.tuple F hnt (by simp [← hlen, ← hz]) r s1 (.ref T) a1 ⟨T, xs, rfl, hT, rfl⟩) (fun _ s2 ⟨ρ2, H2, a2, b2, c2⟩ => ⟨ρ2, H2, a2, b1.trans b2 (fun _ _ => a2.nl), c2⟩) fun _ _ e => e

theorem bindName_run {x : Str} {v : Value} {Q : Unit → Lo → AH → Prop} {L : Addr} (h : W C A L (storeName env x v) ρ H Q) : W C A L (bindName env x v) ρ H Q := by
  unfold bindName
  refine W.bind (W.holding (fun s hs => wpAny_point ⟨ρ, H, hs, .refl .., ?_⟩))
  refine W.bind (W.mono h fun _ ρ' H' q => fun s hs => wpAny_point ⟨ρ', H', hs, .refl .., q⟩)
/-- names stored in exchanged order -/
def StL (ns : List Str) (vs : List V) (ρ : Lo) : Lo := match ns, vs with
  | n :: ns, v :: vs => StL ns vs (ρ.set n v)
  | _, _ => ρ
theorem StL.run : ∀ {ns : List Str} {xs : List Value} {ρ : Lo} {Q : Lo → AH → Prop}, ns.length = xs.length → Fx C A env → (∀ n ∈ ns, env.kindOf n = some .local) → Q (StL ns (xs.map ab) ρ) H →
    W C A env.locals (assignInOrder (ns.map fun n => bindName env n) xs) ρ H (fun _ => Q)
  | [], [], ρ, Q, _, _, _, h => W.pure h
  | n :: ns, x :: xs, ρ, Q, hl, F, hk, h => by
    show W C A env.locals (holding xs (bindName env n x) >>= fun _ => assignInOrder (ns.map fun n => bindName env n) xs) ρ H _
    refine W.bind (W.holding (bindName_run (W.storeLocal F (hk n (List.mem_cons_self ..)) ?_)))
    exact StL.run (by simpa using hl) F (fun m hm => hk m (List.mem_cons_of_mem _ hm)) h
theorem W1.asgSwap {ts es : List Expr} {k k' : Nat} {p p' pos : Pos} {names : List Str} {Q : Fl → Lo → AH → Prop} (F : Fx C A env) (h : WEs C A env es ρ H (fun vs H1 => Q .next (StL names.reverse vs.reverse ρ) H1))
    (hw : swappedStores [.Tuple ts k p] (.Tuple es k' p') env = pure (some names)) (hk : ∀ n ∈ names, env.kindOf n = some .local) (hlen : es.length = names.length := by rfl)
    (hs : swapsWithSole [.Tuple ts k p] (.Tuple es k' p') pos.line env = pure false := by rfl) (hn : noStar es = true := by rfl) (hl : es.length ≤ 1000 := by decide) :
    W1 C A env (.Assign [.Tuple ts k p] (.Tuple es k' p') pos) ρ H Q := fun s hs' => by
  refine Assign_Tuple_swapped ?_ hs hw
  refine WEs.hidden hn hl hs' h fun T xs s1 H1 hT a1 b1 hz r => ?_
  rw [← hlen, ← hz]
  refine wpAny_unpackItems_tuple F.hh hT fun h' hx => ?_
  have k : ∀ b o, s1.heap.get? b = some o → h'.get? b = some o := fun b o eb => hx b o (Nat.ne_of_lt (Heap.lt_size eb)) eb
  have := StL.run (C := C) (A := A) (env := env) (H := H1) (ns := names.reverse) (xs := xs.toList.reverse) (ρ := ρ) (Q := fun ρ2 H2 => Q .next ρ2 H2) (by simp [← hlen, hz]) F (fun n hm => hk n (List.mem_reverse.mp hm)) (by rw [List.map_reverse]; exact r)
  exact W.at this (a1.ext k) (b1.trans (Step.ext k) (fun _ _ => a1.nl))

/-! ## expression statements -/
theorem W1.expr {e : Expr} {pos : Pos} {Q : Fl → Lo → AH → Prop} (F : Fx C A env) (h : WE C A env e ρ H (fun v H1 => (∀ a, v ≠ .ref a) ∧ Q .next ρ H1)) (hs : swapsWith e none pos.line env = pure false := by rfl) : W1 C A env (.Expr e pos) ρ H Q := fun s hs' => by
  refine wpAny_Expr (wpAny_mono (h s hs') (fun v s1 ⟨ρ1, H1, a1, b1, c1, d1, d2⟩ => ?_) fun _ _ e => e) (by simp [interactive, F.kind]) hs
  subst c1
  cases v <;> first | exact ⟨ρ1, H1, a1, b1, d2⟩ | exact absurd rfl (d1 _)
end
end Mine

namespace Mine
open PySem PySem.W PyProof.Rows

section
variable {C : Cx} {A : Around} {env : Env} {ρ : Lo} {H : AH}

/-! ## calls by a name -/
def FnAt (C : Cx) (H : AH) (a : Addr) (o : Obj) (fd : FuncData) : Prop := o.data = .func fd ∧ (C.base.get? a = some o ∨ (H a = some (.fn fd) ∧ o = { cls := .type "function", data := .func fd }))
theorem FnAt.obj {a : Addr} {o : Obj} {fd : FuncData} {L : Addr} {h : Heap} (f : FnAt C H a o fd) (hs : St C L ρ H h) : h.get? a = some o ∧ o.data = .func fd := by
  obtain ⟨e, e1 | ⟨e1, rfl⟩⟩ := f
  · exact ⟨hs.keep _ _ e1, e⟩
  · exact ⟨hs.func e1, e⟩

def kwOf (ks : List Keyword) : List Expr := ks.map (·.value)
def kwNames (ks : List Keyword) : List (Option Str) := ks.map (·.arg)
def WKs (C : Cx) (A : Around) (env : Env) : List Keyword → Lo → AH → (List (Str × V) → AH → Prop) → Prop
  | [], _, H, Q => Q [] H
  | ⟨some n, e, _⟩ :: ks, ρ, H, Q => WE C A env e ρ H (fun v H1 => WKs C A env ks ρ H1 (fun vs H2 => Q ((n, v) :: vs) H2))
  | ⟨none, _, _⟩ :: _, _, _, _ => False
theorem WKs.nil {Q : List (Str × V) → AH → Prop} (h : Q [] H) : WKs C A env [] ρ H Q := h
theorem WKs.run {pos : Pos} : ∀ {ks : List Keyword} {ρ : Lo} {H : AH} {Q : List (Str × V) → AH → Prop}, WKs C A env ks ρ H Q →
    W C A env.locals (evalAll ((backToKw pos (keywordEach ks env)).map (·.2))) ρ H (fun vs ρ' H' => ρ' = ρ ∧ Q ((((backToKw pos (keywordEach ks env)).filterMap (·.1)).zip vs).map fun p => (p.1, ab p.2)) H')
  | [], ρ, H, Q, h => W.pure ⟨rfl, h⟩
  | ⟨none, e, p⟩ :: ks, ρ, H, Q, h => h.elim
  | ⟨some n, e, p⟩ :: ks, ρ, H, Q, h => fun s hs => by
    show wpAny C.M A (evalAll ((do let v ← eval e env; standAt pos; pure v) :: (backToKw pos (keywordEach ks env)).map (·.2))) _ _ s
    refine wpAny_evalAll_cons (wpAny_bind (wpAny_mono (h s hs) (fun v s1 ⟨ρ1, H1, a1, b1, c1, d1⟩ => ?_) fun _ _ e => e))
    subst c1
    refine wpAny_bind (wpAny_standAt (wpAny_pure ?_))
    exact wpAny_mono (WKs.run (pos := pos) d1 s1 a1) (fun vs s2 ⟨ρ2, H2, a2, b2, c2, d2⟩ => ⟨ρ2, H2, a2, b1.trans b2 (fun _ _ => a2.nl), c2, d2⟩) fun _ _ e => e
theorem WKs.all {pos : Pos} : ∀ {ks : List Keyword} {ρ : Lo} {H : AH} {Q : List (Str × V) → AH → Prop}, ks.all (·.arg.isSome) = true → (backToKw pos (keywordEach ks env)).all (·.1.isSome) = true
  | [], _, _, _, _ => rfl
  | ⟨none, e, p⟩ :: ks, _, _, _, h => by simp at h
  | ⟨some n, e, p⟩ :: ks, ρ, H, Q, h => by
    have := WKs.all (pos := pos) (ks := ks) (ρ := ρ) (H := H) (Q := Q) (by simpa using h)
    simpa [backToKw, keywordEach] using this

theorem evalArgs_run {f : Value} {pos : Pos} {es : List Expr} {ks : List Keyword} {Q : List V → List (Str × V) → AH → Prop} (hn : noStar es = true) (hk : ks.all (·.arg.isSome) = true) (h : WEs C A env es ρ H (fun vs H1 => WKs C A env ks ρ H1 (fun kv H2 => Q vs kv H2))) :
    W C A env.locals (evalArgs f true (backTo pos (starEach es env)) (backToKw pos (keywordEach ks env))) ρ H (fun a ρ' H' => ρ' = ρ ∧ Q (a.pos.map ab) (a.kw.map fun p => (p.1, ab p.2)) H') := fun s hs => by
  have hall := WKs.all (env := env) (pos := pos) (ks := ks) (ρ := ρ) (H := H) (Q := fun _ _ => True) hk
  rw [backTo_plain hn]
  cases es with
  | nil =>
    refine evalArgs_kw_nil hall ?_
    exact wpAny_mono (WKs.run (pos := pos) h s hs) (fun vs s2 ⟨ρ2, H2, a2, b2, c2, d2⟩ => ⟨ρ2, H2, a2, b2, c2, d2⟩) fun _ _ e => e
  | cons e es =>
    refine evalArgs_kw hall ?_
    refine wpAny_mono (WEs.run h s hs) (fun vs s1 ⟨ρ1, H1, a1, b1, c1, d1⟩ => ?_) fun _ _ e => e
    subst c1
    exact wpAny_mono (WKs.run (pos := pos) d1 s1 a1) (fun vs s2 ⟨ρ2, H2, a2, b2, c2, d2⟩ => ⟨ρ2, H2, a2, b1.trans b2 (fun _ _ => a2.nl), c2, d2⟩) fun _ _ e => e

theorem WE.callFn {id : Str} {p pos : Pos} {a : Addr} {o : Obj} {fd : FuncData} {es : List Expr} {ks : List Keyword} {Q : V → AH → Prop} (hf : Ev C A env ρ H (.Name id p) (.ref a))
    (h : WEs C A env es ρ H (fun vs H1 => WKs C A env ks ρ H1 (fun kv H2 => FnAt C H2 a o fd ∧ WCall C A (.ref a) vs kv H2 Q))) (hn : noStar es = true := by rfl) (hk : ks.all (·.arg.isSome) = true := by rfl) :
    WE C A env (.Call (.Name id p) es ks pos) ρ H Q := fun s hs => by
  refine wpAny_Call_Name_kw ?_
  refine wpAny_mono (hf s hs) (fun f s1 ⟨ρ1, H1, a1, b1, c1, c2, c3⟩ => ?_) fun _ _ e => e
  subst c1 c2
  cases ab_ref c3
  refine callWith_function_kw (o := o) (fd := fd) ?_
  refine wpAny_mono (evalArgs_run hn hk h s1 a1) (fun x s2 ⟨ρ2, H2, a2, b2, c2, hfn, d2⟩ => ⟨hfn.obj a2, ?_⟩) fun _ _ e => e
  subst c2
  exact wpAny_mono (d2 env.locals ρ2 (.ref a) x.pos x.kw rfl rfl rfl s2 a2) (fun v s3 ⟨ρ3, H3, a3, b3, c3, d3⟩ => ⟨ρ3, H3, a3, (b1.trans b2 (fun _ _ => a2.nl)).trans b3 (fun _ _ => a3.nl), c3, d3⟩) fun _ _ e => e

theorem backTo_any {pos : Pos} {es : List Expr} (h : noStar es = true) : (backTo pos (starEach es env)).any (·.1) = false := by
  rw [backTo_plain h]; induction es with
  | nil => rfl
  | cons e es ih =>
    have : noStar es = true := by unfold noStar at h; split at h <;> simp_all
    simp
theorem WE.callBi {id : Str} {p pos : Pos} {b : String} {es : List Expr} {ks : List Keyword} {Q : V → AH → Prop} (hf : Ev C A env ρ H (.Name id p) (.bi b))
    (h : WEs C A env es ρ H (fun vs H1 => WKs C A env ks ρ H1 (fun kv H2 => WCall C A (.bi b) vs kv H2 Q))) (hn : noStar es = true := by rfl) (hk : ks.all (·.arg.isSome) = true := by rfl) :
    WE C A env (.Call (.Name id p) es ks pos) ρ H Q := fun s hs => by
  refine wpAny_Call_Name_kw ?_
  refine wpAny_mono (hf s hs) (fun f s1 ⟨ρ1, H1, a1, b1, c1, c2, c3⟩ => ?_) fun _ _ e => e
  subst c1 c2
  cases ab_bi c3
  have hall := WKs.all (env := env) (pos := pos) (ks := ks) (ρ := ρ1) (H := H1) (Q := fun _ _ => True) hk
  refine callWith_builtin_kwB (backTo_any hn) ?_ ?_
  · rw [List.any_eq_false]
    intro x hx
    have := List.all_eq_true.mp hall x hx
    cases hx1 : x.1 <;> simp_all
  refine wpAny_mono (evalArgs_run hn hk h s1 a1) (fun x s2 ⟨ρ2, H2, a2, b2, c2, d2⟩ => ?_) fun _ _ e => e
  subst c2
  exact wpAny_mono (d2 env.locals ρ2 (.builtin b) x.pos x.kw rfl rfl rfl s2 a2) (fun v s3 ⟨ρ3, H3, a3, b3, c3, d3⟩ => ⟨ρ3, H3, a3, (b1.trans b2 (fun _ _ => a2.nl)).trans b3 (fun _ _ => a3.nl), c3, d3⟩) fun _ _ e => e
theorem WE.callTy {id : Str} {p pos : Pos} {b : String} {es : List Expr} {Q : V → AH → Prop} (hf : Ev C A env ρ H (.Name id p) (.ty b))
    (h : WEs C A env es ρ H (fun vs H1 => WCall C A (.ty b) vs [] H1 Q)) (hn : noStar es = true := by rfl) :
    WE C A env (.Call (.Name id p) es [] pos) ρ H Q := fun s hs => by
  refine wpAny_Call_Name_kw ?_
  refine wpAny_mono (hf s hs) (fun f s1 ⟨ρ1, H1, a1, b1, c1, c2, c3⟩ => ?_) fun _ _ e => e
  subst c1 c2
  cases ab_ty c3
  refine PySem.callWith_type (backTo_any hn) ?_
  refine wpAny_mono (evalArgs_run (ks := []) (Q := fun vs kv H2 => kv = [] ∧ WCall C A (.ty b) vs [] H2 Q) hn rfl (WEs.mono h fun vs H1 q => ⟨rfl, q⟩) s1 a1) (fun x s2 ⟨ρ2, H2, a2, b2, c2, d1, d2⟩ => ?_) fun _ _ e => e
  subst c2
  have hkw : x.kw = [] := by simpa using d1
  rw [hkw]
  exact wpAny_mono (d2 env.locals ρ2 (.type b) x.pos [] rfl rfl rfl s2 a2) (fun v s3 ⟨ρ3, H3, a3, b3, c3, d3⟩ => ⟨ρ3, H3, a3, (b1.trans b2 (fun _ _ => a2.nl)).trans b3 (fun _ _ => a3.nl), c3, d3⟩) fun _ _ e => e

theorem vals1 {vals : List Value} {a : V} (e : vals.map ab = [a]) : ∃ x, vals = [x] ∧ ab x = a := by
  cases vals with
  | nil => simp at e
  | cons x r => cases r with
    | nil => simp at e; exact ⟨x, rfl, e⟩
    | cons => simp at e
theorem vals2 {vals : List Value} {a b : V} (e : vals.map ab = [a, b]) : ∃ x y, vals = [x, y] ∧ ab x = a ∧ ab y = b := by
  cases vals with
  | nil => simp at e
  | cons x r =>
    simp only [List.map_cons, List.cons.injEq] at e
    obtain ⟨y, rfl, h⟩ := vals1 e.2
    exact ⟨x, y, rfl, e.1, h⟩
theorem vals3 {vals : List Value} {a b c : V} (e : vals.map ab = [a, b, c]) : ∃ x y z, vals = [x, y, z] ∧ ab x = a ∧ ab y = b ∧ ab z = c := by
  cases vals with
  | nil => simp at e
  | cons x r =>
    simp only [List.map_cons, List.cons.injEq] at e
    obtain ⟨y, z, rfl, h⟩ := vals2 e.2
    exact ⟨x, y, z, rfl, e.1, h⟩

/-! ## methods of lists -/
theorem WE.listMeth {o : Expr} {name : Str} {id : String} {apos pos : Pos} {es : List Expr} {Q : V → AH → Prop} (slot : Slot "list" name id) (hty : typeOf (.builtin id) = pure (.type "method_descriptor"))
    (h : WE C A env o ρ H (fun v H1 => ∃ a vs, v = .ref a ∧ H1 a = some (.list vs) ∧ WEs C A env es ρ H1 (fun ws H2 => WCall C A (.bi id) (.ref a :: ws) [] H2 Q)))
    (hbase : attributeBase o name env (eval o env) = eval o env := by rfl) (hfew : ((backTo pos (starEach es env)).all (fun x => !x.1) && (backToKw pos (keywordEach [] env)).all (fun x => x.1.isSome) && decide (es.length + ([] : List Keyword).length + (if ([] : List Keyword).isEmpty then 0 else 1) < 30)) = true := by rfl)
    (hline : (apos.endLine == pos.line) = true := by rfl) (hn : noStar es = true := by rfl) : WE C A env (.Call (.Attribute o name apos) es [] pos) ρ H Q := fun s hs => by
  refine wpAny_Call_method hbase hfew hline PySem.F.plainAttrs_list slot hty ?_
  refine wpAny_mono (h s hs) (fun v s1 ⟨ρ1, H1, a1, b1, c1, a, vs, d1, d2, d3⟩ => ?_) fun _ _ e => e
  subst c1
  cases ab_ref d1
  obtain ⟨xs, ⟨n, e1⟩, e2, e3⟩ := a1.plist d2
  refine ⟨⟨_, e1, rfl⟩, fun b hb => ⟨_, by cases hb; exact e1, rfl⟩, ?_⟩
  refine PySem.Calls.callWith_builtin (backTo_any hn) ?_
  refine wpAny_mono (evalArgs_run (ks := []) (Q := fun ws kv H2 => kv = [] ∧ WCall C A (.bi id) (.ref a :: ws) [] H2 Q) hn rfl (WEs.mono d3 fun vs H1 q => ⟨rfl, q⟩) s1 a1) (fun x s2 ⟨ρ2, H2, a2, b2, c2, d1, d2⟩ => ?_) fun _ _ e => e
  subst c2
  have hkw : x.kw = [] := by simpa using d1
  rw [hkw]
  exact wpAny_mono (d2 env.locals ρ2 (.builtin id) (.ref a :: x.pos) [] rfl rfl rfl s2 a2) (fun v s3 ⟨ρ3, H3, a3, b3, c3, d3⟩ => ⟨ρ3, H3, a3, (b1.trans b2 (fun _ _ => a2.nl)).trans b3 (fun _ _ => a3.nl), c3, d3⟩) fun _ _ e => e

theorem WCall.append {a : Addr} {vs : List V} {v : V} {Q : V → AH → Prop} (hH : H a = some (.list vs)) (hz : vs.length < sizeLine) (h : Q .none (H.set a (.list (vs ++ [v])))) : WCall C A (.bi "list.append") [.ref a, v] [] H Q := by
  intro L ρ fv vals kvs e1 e2 e3
  cases ab_bi e1
  obtain ⟨x, y, rfl, ex, ey⟩ := vals2 e2
  cases ab_ref ex
  have : kvs = [] := by simpa using e3
  subst this
  intro s hs
  obtain ⟨xs, h1, h2, h3⟩ := hs.plist hH
  refine wpAny_list_append_plain h1 (fun h' ⟨n, hp⟩ hsb => ?_) (by rw [arr_size h2]; omega)
  refine ⟨_, _, hs.upd hH rfl hp (o := .list (vs ++ [v])) ⟨_, n, rfl, by simp [h2, ey], by simp; omega⟩ (fun b o hb e => hsb.extBut b o hb e), .upd hH hp (fun b o hb e => hsb.extBut b o hb e), rfl, h⟩

/-! ## built-in functions -/
theorem WCall.len {a : Addr} {o : O} {vs : List V} {Q : V → AH → Prop} (hH : H a = some o) (hl : lst o = some vs) (h : Q (.int vs.length) H) : WCall C A (.bi "len") [.ref a] [] H Q := by
  intro L ρ fv vals kvs e1 e2 e3
  cases ab_bi e1
  obtain ⟨x, rfl, ex⟩ := vals1 e2
  cases ab_ref ex
  have : kvs = [] := by simpa using e3
  subst this
  intro s hs
  obtain ⟨xs, h1, h2, h3⟩ := hs.list hH hl
  have hsl : (sizeLine : Int) < 2 ^ 63 := by decide
  refine len_list h1 (by rw [arr_size h2]; omega) ⟨ρ, H, hs, .toks, rfl, ?_⟩
  show Q (.int xs.size) H
  rw [arr_size h2]; exact h
theorem WCall.lenTup {a : Addr} {vs : List V} {Q : V → AH → Prop} (hH : H a = some (.tup vs)) (h : Q (.int vs.length) H) : WCall C A (.bi "len") [.ref a] [] H Q := by
  intro L ρ fv vals kvs e1 e2 e3
  cases ab_bi e1
  obtain ⟨x, rfl, ex⟩ := vals1 e2
  cases ab_ref ex
  have : kvs = [] := by simpa using e3
  subst this
  intro s hs
  obtain ⟨xs, h1, h2, h3⟩ := hs.tup hH
  have hsl : (sizeLine : Int) < 2 ^ 63 := by decide
  refine len_tuple h1 (by rw [arr_size h2]; omega) ⟨ρ, H, hs, .toks, rfl, ?_⟩
  show Q (.int xs.size) H
  rw [arr_size h2]; exact h
theorem WCall.lenStr {x : Str} {Q : V → AH → Prop} (hz : x.length ≤ sizeLine) (h : Q (.int x.length) H) : WCall C A (.bi "len") [.str x] [] H Q := by
  intro L ρ fv vals kvs e1 e2 e3
  cases ab_bi e1
  obtain ⟨y, rfl, ex⟩ := vals1 e2
  obtain ⟨t, rfl⟩ := ab_str ex
  have : kvs = [] := by simpa using e3
  subst this
  intro s hs
  have hsl : (sizeLine : Int) < 2 ^ 63 := by decide
  exact len_str (by omega) ⟨ρ, H, hs, .toks, rfl, h⟩
/-- len(e) as a pure expression -/
theorem Ev.len {e : Expr} {p pos : Pos} {a : Addr} {o : O} {vs : List V} {id : Str} (hf : Ev C A env ρ H (.Name id p) (.bi "len")) (h : Ev C A env ρ H e (.ref a)) (hH : H a = some o) (hl : lst o = some vs) (hn : noStar [e] = true := by rfl) : Ev C A env ρ H (.Call (.Name id p) [e] [] pos) (.int vs.length) :=
  WE.ev (WE.callBi hf (WEs.of (.cons h .nil) (WKs.nil (WCall.len hH hl ⟨rfl, rfl⟩))) hn)
theorem Ev.lenStr {e : Expr} {p pos : Pos} {x : Str} {id : Str} (hf : Ev C A env ρ H (.Name id p) (.bi "len")) (h : Ev C A env ρ H e (.str x)) (hz : x.length ≤ sizeLine) (hn : noStar [e] = true := by rfl) : Ev C A env ρ H (.Call (.Name id p) [e] [] pos) (.int x.length) :=
  WE.ev (WE.callBi hf (WEs.of (.cons h .nil) (WKs.nil (WCall.lenStr hz ⟨rfl, rfl⟩))) hn)
end
end Mine

namespace Mine
open PySem PySem.W PyProof.Rows

section
variable {C : Cx} {A : Around} {env : Env} {ρ : Lo} {H : AH}

/-! ## a def called -/
def retv : Fl → V
  | .ret v => v
  | _ => .none
theorem retv_ab (f : Flow) : ab (match f with | .ret v => v | _ => .none) = retv (abF f) := by cases f <;> rfl
def Keep (C : Cx) (s : Shared) : Prop := ∀ b o, C.base.get? b = some o → s.heap.get? b = some o
theorem lookup_ab (x : Str) (l : List (Str × Value)) : (l.lookup x).map ab = (l.map fun p => (p.1, ab p.2)).lookup x := by
  induction l with
  | nil => rfl
  | cons p r ih =>
    obtain ⟨n, v⟩ := p
    rw [List.map_cons, List.lookup_cons, List.lookup_cons]
    cases x == n
    · exact ih
    · rfl
/-- the frame left -/
theorem St.back {L L' : Addr} {s s1 s' : Shared} {ρ' : Lo} {H1 H' : AH} (hs : St C L ρ H s.heap) (hk : ∀ b o, s.heap.get? b = some o → s1.heap.get? b = some o) (hL' : s.heap.get? L' = none) (h1 : ∀ b o, s.heap.get? b = some o → H b = none → H1 b = none) (x : St C L' ρ' H' s'.heap) (y : Step L' H1 H' s1 s') :
    St C L ρ H' s'.heap ∧ (∀ b o, s.heap.get? b = some o → H b = none → s'.heap.get? b = some o) ∧ (∀ b o, s.heap.get? b = some o → H b = none → H' b = none) ∧ (∀ b o, s.heap.get? b = some o → ∃ o', s'.heap.get? b = some o') := by
  obtain ⟨m, ⟨o, es, ep, ho, r⟩, hm⟩ := hs.loc
  have ne : ∀ b o, s.heap.get? b = some o → b ≠ L' := fun b o e q => by rw [q, hL'] at e; cases e
  have kept : ∀ b o, s.heap.get? b = some o → H b = none → s'.heap.get? b = some o := fun b o e eb => y.kept b o (hk b o e) (h1 b o e eb) (ne b o e)
  have new : ∀ b o, s.heap.get? b = some o → H b = none → H' b = none := fun b o e eb => y.new b o (hk b o e) (h1 b o e eb)
  exact ⟨⟨x.keep, x.rep, x.own, ⟨m, ⟨o, es, ep, kept L o ho hs.nl, r⟩, hm⟩, new L o ho hs.nl, hs.bl⟩, kept, new, fun b o e => y.live b o (hk b o e)⟩

theorem WCall.def {a : Addr} {o : Obj} {fd : FuncData} {body : List Stmt} {args : List V} {kw bs : List (Str × V)} {Q : V → AH → Prop} (hfn : FnAt C H a o fd) (hdep : A.depth < recursionLimit)
    (hb : fd.body = .stmts body) (hcell : ∀ x ∈ fd.scope.names, x.2 ≠ .cell) (hcd : ∀ h : Heap, (∀ b o, C.base.get? b = some o → h.get? b = some o) → h.CodeRec fd.code fd.qualname)
    (hbind : ∀ vals kvs, vals.map ab = args → kvs.map (fun p => (p.1, ab p.2)) = kw → ∃ binds, (∀ s, Keep C s → BindsTo s fd ⟨vals, kvs⟩ binds) ∧ binds.map (fun p => (p.1, ab p.2)) = bs)
    (hloc : ∀ x ∈ bs, fd.scope.names.lookup x.1 = some .local)
    (h : ∀ L, H L = none → WS C (A.deeper (callEnv fd L a)) (callEnv fd L a) body (fun y => bs.reverse.lookup y) H (fun f _ H' => Q (retv f) H'))
    (hco : fd.scope.isCoroutine = false := by rfl) (hgen : fd.scope.isGenerator = false := by rfl) (hk : fd.scope.kind = .function := by rfl) : WCall C A (.ref a) args kw H Q := by
  intro L ρ fv vals kvs e1 e2 e3
  cases ab_ref e1
  obtain ⟨binds, hbt, hbs⟩ := hbind vals kvs e2 e3
  intro s hs
  obtain ⟨ho, hd⟩ := hfn.obj hs
  have hnone := get?_size_none s.heap
  refine wpAny_call (codeAny_call_def hdep ho hd (C.lim.keeps hs.keep) (hcd _ hs.keep) hb (hbt s hs.keep) hcell (fun x hx => hloc (x.1, ab x.2) (by rw [← hbs]; exact List.mem_map.mpr ⟨x, hx, rfl⟩)) (fun h₀ hn hk0 => ?_) hco hgen hk)
  have hst : St C s.heap.objs.size (fun y => bs.reverse.lookup y) H h₀ := by
    refine ⟨fun b o e => hk0 _ _ (hs.keep b o e), fun a o e => let ⟨c, e1, e2⟩ := hs.rep a o e; ⟨c, hk0 _ _ e1, e2⟩, hs.own, ⟨_, hn, fun x => ?_⟩, (hs.fresh hnone).1, (hs.fresh hnone).2.1⟩
    rw [← hbs, ← List.map_reverse]
    exact lookup_ab x binds.reverse
  have henv : (callEnv fd s.heap.objs.size a).locals = s.heap.objs.size := rfl
  refine wpAny_mono (h s.heap.objs.size (hs.fresh hnone).1 { s with heap := h₀, toks := s.toks + binds.length } hst) (fun f s' ⟨ρ', H', x, y, z⟩ => ?_) fun _ _ e => e.elim
  obtain ⟨q1, q2, q3, q4⟩ := hs.back (s1 := { s with heap := h₀, toks := s.toks + binds.length }) (L' := s.heap.objs.size) hk0 hnone (fun _ _ _ e => e) x y
  refine ⟨ρ, H', q1, ⟨?_, fun b o e eb _ => q2 b o e eb, q3, q4⟩, rfl, by cases f <;> exact z⟩
  obtain ⟨h', tk', e⟩ := y.same
  exact ⟨h', tk', by rw [e]⟩

/-! with cells -/
def cellH (cm : Str → Option V) : List (Str × Addr) → AH → AH
  | [], H => H
  | (n, c) :: r, H => (cellH cm r H).set c (.cell (cm n))
theorem cellH_get {cm : Str → Option V} : ∀ {cs : List (Str × Addr)} {H : AH} {b : Addr}, (∀ p ∈ cs, p.2 ≠ b) → cellH cm cs H b = H b
  | [], _, _, _ => rfl
  | (n, c) :: r, H, b, h => by
    rw [cellH, AH.set_ne _ _ (Ne.symm (h (n, c) (List.mem_cons_self ..)))]
    exact cellH_get fun p hp => h p (List.mem_cons_of_mem _ hp)
theorem cellH_some {cm : Str → Option V} : ∀ {cs : List (Str × Addr)} {H : AH} {b : Addr} {o : O}, cellH cm cs H b = some o → (∃ n, (n, b) ∈ cs ∧ o = .cell (cm n)) ∨ H b = some o
  | [], _, _, _, h => .inr h
  | (n, c) :: r, H, b, o, h => by
    rw [cellH] at h
    by_cases q : b = c
    · subst q; rw [AH.set_same] at h; cases h; exact .inl ⟨n, List.mem_cons_self .., rfl⟩
    · rw [AH.set_ne _ _ q] at h
      rcases cellH_some h with ⟨m, hm, e⟩ | e
      · exact .inl ⟨m, List.mem_cons_of_mem _ hm, e⟩
      · exact .inr e

theorem WCall.defC {a : Addr} {o : Obj} {fd : FuncData} {body : List Stmt} {args : List V} {bs : List (Str × V)} {Q : V → AH → Prop} (hfn : FnAt C H a o fd) (hdep : A.depth < recursionLimit)
    (hb : fd.body = .stmts body) (hclo : fd.closure = []) (hcd : ∀ h : Heap, (∀ b o, C.base.get? b = some o → h.get? b = some o) → h.CodeRec fd.code fd.qualname)
    (hbind : ∀ vals, vals.map ab = args → ∃ binds, bindArgs fd ⟨vals, []⟩ = pure binds ∧ binds.map (fun p => (p.1, ab p.2)) = bs)
    (hkind : (bs.all fun y => fd.scope.names.lookup y.1 == some .local || fd.scope.names.lookup y.1 == some .cell) = true)
    (hnd : ((cellsFrom 0 fd.scope.names []).map (·.1)).Nodup)
    (lm cm : Str → Option V) (hlm : ∀ L binds, binds.map (fun p => (p.1, ab p.2)) = bs → ∀ x, (bindL (callEnvC fd L a).kindOf binds (fun _ => none) x).map ab = lm x) (hcm : ∀ L binds, binds.map (fun p => (p.1, ab p.2)) = bs → ∀ x, (bindC (callEnvC fd L a).kindOf binds (fun _ => none) x).map ab = cm x)
    (h : ∀ L, H L = none → (∀ p ∈ cellsFrom (L + 1) fd.scope.names [], H p.2 = none ∧ p.2 ≠ L) → WS C (A.deeper (callEnvC fd L a)) (callEnvC fd L a) body lm (cellH cm (cellsFrom (L + 1) fd.scope.names []) H) (fun f _ H' => Q (retv f) H'))
    (hco : fd.scope.isCoroutine = false := by rfl) (hgen : fd.scope.isGenerator = false := by rfl) (hk : fd.scope.kind = .function := by rfl) : WCall C A (.ref a) args [] H Q := by
  intro L ρ fv vals kvs e1 e2 e3
  cases ab_ref e1
  have : kvs = [] := by simpa using e3
  subst this
  obtain ⟨binds, hbt, hbs⟩ := hbind vals e2
  intro s hs
  obtain ⟨ho, hd⟩ := hfn.obj hs
  have hnone := get?_size_none s.heap
  have hkind' : ∀ n, ∀ x ∈ binds, fd.scope.names.lookup x.1 = some .local ∨ (fd.scope.names.lookup x.1 = some .cell ∧ ((cellsFrom n fd.scope.names []).lookup x.1).isSome = true) := fun n x hx => by
    have hm : (x.1, ab x.2) ∈ bs := by rw [← hbs]; exact List.mem_map.mpr ⟨x, hx, rfl⟩
    have := kindsX (scope := fd.scope) (binds := binds) (by
      rw [List.all_eq_true]; intro y hy
      exact List.all_eq_true.mp hkind (y.1, ab y.2) (by rw [← hbs]; exact List.mem_map.mpr ⟨y, hy, rfl⟩)) n x hx
    exact this
  refine wpAny_call (codeAny_call_cells hdep ho hd (C.lim.keeps hs.keep) (hcd _ hs.keep) hb hbt hclo (hkind' _) (fun s₁ X => ?_) hco hgen hk)
  have hnames : ∀ (n : Nat) (names : List (Str × NameKind)) (acc : List (Str × Addr)) (p : Str × Addr), p ∈ cellsFrom n names acc → p ∈ acc ∨ n ≤ p.2 := by
    intro n names
    induction names generalizing n with
    | nil => intro acc p hp; exact .inl hp
    | cons x r ih =>
      intro acc p hp
      obtain ⟨nm, k⟩ := x
      unfold cellsFrom at hp
      split at hp
      · rcases ih (n + 1) _ p hp with q | q
        · rcases List.mem_cons.mp q with rfl | q
          · exact .inr (Nat.le_refl _)
          · exact .inl q
        · exact .inr (by omega)
      · exact ih n acc p hp
  have habove : ∀ p ∈ cellsFrom (s.heap.objs.size + 1) fd.scope.names [], s.heap.objs.size < p.2 := fun p hp => by
    rcases hnames _ _ _ p hp with q | q
    · cases q
    · omega
  have hfresh : ∀ p ∈ cellsFrom (s.heap.objs.size + 1) fd.scope.names [], s.heap.get? p.2 = none := fun p hp => by
    cases e : s.heap.get? p.2 with
    | none => rfl
    | some o => exact absurd (Heap.lt_size e) (Nat.lt_asymm (habove p hp))
  have same_names : ∀ (n n' : Nat) (names : List (Str × NameKind)) (acc acc' : List (Str × Addr)), acc.map (·.1) = acc'.map (·.1) → (cellsFrom n names acc).map (·.1) = (cellsFrom n' names acc').map (·.1) := by
    intro n n' names
    induction names generalizing n n' with
    | nil => intro acc acc' e; exact e
    | cons x r ih =>
      intro acc acc' e
      obtain ⟨nm, k⟩ := x
      unfold cellsFrom
      split
      · exact ih _ _ _ _ (by simp [e])
      · exact ih _ _ _ _ e
  have hnd' : ((cellsFrom (s.heap.objs.size + 1) fd.scope.names []).map (·.1)).Nodup := by rw [same_names _ 0 _ _ [] rfl]; exact hnd
  have lookup_mem : ∀ {cs : List (Str × Addr)}, (cs.map (·.1)).Nodup → ∀ n c, (n, c) ∈ cs → cs.lookup n = some c := by
    intro cs
    induction cs with
    | nil => intro _ n c hm; cases hm
    | cons p r ih =>
      intro hn n c hm
      obtain ⟨pn, pc⟩ := p
      simp only [List.map_cons, List.nodup_cons] at hn
      rcases List.mem_cons.mp hm with e | hm
      · cases e; simp [List.lookup_cons]
      · have hne : n ≠ pn := fun q => hn.1 (q ▸ List.mem_map.mpr ⟨(n, c), hm, rfl⟩)
        rw [List.lookup_cons, beq_false_of_ne hne]; exact ih hn.2 n c hm
  obtain ⟨⟨⟨h1, tk1, rfl⟩, hns, hkeep, hab⟩, hcell, hap, hgt⟩ := X
  have hst : St C s.heap.objs.size lm (cellH cm (cellsFrom (s.heap.objs.size + 1) fd.scope.names []) H) h1 := by
    refine ⟨fun b o e => hkeep _ _ (hs.keep b o e), fun b o e => ?_, fun b o e hm => ?_, ⟨_, hns, fun x => hlm _ binds hbs x⟩, ?_, (hs.fresh hnone).2.1⟩
    · rcases cellH_some e with ⟨n, hm, rfl⟩ | e
      · obtain ⟨oc, ho, hd⟩ := hcell n b (lookup_mem hnd' n b hm)
        exact ⟨oc, ho, _, hd, hcm _ binds hbs n⟩
      · obtain ⟨c, e1, e2⟩ := hs.rep b o e; exact ⟨c, hkeep _ _ e1, e2⟩
    · rcases cellH_some e with ⟨n, hm', rfl⟩ | e
      · exact (hs.fresh (hfresh _ hm')).2.1
      · exact hs.own b o e hm
    · rw [cellH_get (fun p hp q => Nat.ne_of_gt (habove p hp) q)]; exact (hs.fresh hnone).1
  refine wpAny_mono (h s.heap.objs.size (hs.fresh hnone).1 (fun p hp => ⟨(hs.fresh (hfresh p hp)).1, Nat.ne_of_gt (habove p hp)⟩) { s with heap := h1, toks := tk1 } hst) (fun f s' ⟨ρ', H', x, y, z⟩ => ?_) fun _ _ e => e.elim
  obtain ⟨q1, q2, q3, q4⟩ := hs.back (s1 := { s with heap := h1, toks := tk1 }) (L' := s.heap.objs.size) hkeep hnone (fun b o e eb => by rw [cellH_get (fun p hp q => by have := hfresh p hp; rw [q, e] at this; cases this)]; exact eb) x y
  refine ⟨ρ, H', q1, ⟨?_, fun b o e eb _ => q2 b o e eb, q3, q4⟩, rfl, by cases f <;> exact z⟩
  obtain ⟨h', tk', e⟩ := y.same
  exact ⟨h', tk', by rw [e]⟩

/-! ## while -/
theorem W1.while {t : Expr} {body : List Stmt} {pos : Pos} {Q : Fl → Lo → AH → Prop} (F : Fx C A env) (I : Nat → Lo → AH → Prop) (n : Nat) (h0 : I n ρ H)
    (turn : ∀ n ρ1 H1, I n ρ1 H1 → WT C A env t ρ1 H1 (fun c H2 => (c = true → WS C A env body ρ1 H2 (fun f ρ3 H3 => match f with | .next => ∃ m, m < n ∧ I m ρ3 H3 | .cont => ∃ m, m < n ∧ I m ρ3 H3 | .brk => Q .next ρ3 H3 | .ret v => Q (.ret v) ρ3 H3)) ∧ (c = false → Q .next ρ1 H2))) :
    W1 C A env (.While t body [] pos) ρ H Q := fun s hs => by
  refine wpAny_While ?_
  refine codeAny_whileLoop (fun k s' => ∃ ρ1 H1, St C env.locals ρ1 H1 s'.heap ∧ Step env.locals H H1 s s' ∧ I k ρ1 H1) ?_ n ⟨ρ, H, hs, .refl .., h0⟩
  rintro k s1 ⟨ρ1, H1, a1, b1, c1⟩
  refine wpAny_mono (turn k ρ1 H1 c1 s1 a1) (fun c s2 ⟨ρ2, H2, a2, b2, c2, d2⟩ => ?_) fun _ _ e => e.elim
  subst c2
  have b12 := b1.trans b2 (fun _ _ => a2.nl)
  cases c with
  | true =>
    refine wpAny_mono (d2.1 rfl s2 a2) (fun f s3 ⟨ρ3, H3, a3, b3, c3⟩ => ?_) fun _ _ e => e.elim
    have b13 := b12.trans b3 (fun _ _ => a3.nl)
    cases f with
    | next => obtain ⟨m, hm, hI⟩ := c3; exact ⟨m, hm, ρ3, H3, a3, b13, hI⟩
    | cont => obtain ⟨m, hm, hI⟩ := c3; exact ⟨m, hm, ρ3, H3, a3, b13, hI⟩
    | brk => exact ⟨ρ3, H3, a3, b13, c3⟩
    | ret v => exact ⟨ρ3, H3, a3, b13, c3⟩
  | false => exact wpAny_execs_nil ⟨ρ2, H2, a2, b12, d2.2 rfl⟩
end
end Mine

namespace Mine
open PySem PySem.W PyProof.Rows

/-! ## iterators (their own objects are not tracked) -/
def Drawn (C : Cx) (A : Around) (tgt : Expr) (I : Addr) (Q : Option Value → Shared → Prop) (r : Option Value) (s₁ : Shared) : Prop :=
  match r with
  | none => Q none s₁
  | some v => wpAny C.M A (letOwnedTupleGo tgt (.ref I) v) (fun _ s₂ => Q (some v) s₂) False2 s₁

def Off (C : Cx) (L : Addr) (H : AH) (wr : List Addr) : Prop := ∀ b ∈ wr, H b = none ∧ C.base.get? b = none ∧ b ≠ L

structure Itr (C : Cx) (A : Around) (I : Addr) (wr : List Addr) (tgt : Expr) (n : Nat) (Rr : Nat → Heap → Prop) (Ok : Nat → AH → Prop) (P : Nat → AH → Dv → Prop) : Prop where
  live : ∀ i h, Rr i h → ∀ b ∈ wr, ∃ o, h.get? b = some o
  frame : ∀ i h h', Rr i h → (∀ b ∈ wr, ∀ o, h.get? b = some o → h'.get? b = some o) → Rr i h'
  item : ∀ i (s : Shared) L ρ H (Q : Option Value → Shared → Prop), i < n → Rr i s.heap → St C L ρ H s.heap → Off C L H wr → Ok i H →
    (∀ v d h' tk, P i H d → d.Is h' v → St C L ρ H h' → Rr (i + 1) h' → (∀ b o, b ∉ wr → s.heap.get? b = some o → h'.get? b = some o) → Q (some v) { s with heap := h', toks := tk }) →
    wpAny C.M A (pyNext (.ref I)) (Drawn C A tgt I Q) False2 s
  done : ∀ (s : Shared) L ρ H (Q : Option Value → Shared → Prop), Rr n s.heap → St C L ρ H s.heap → Off C L H wr → Ok n H →
    (∀ h' tk, St C L ρ H h' → (∀ b o, b ∉ wr → s.heap.get? b = some o → h'.get? b = some o) → Q none { s with heap := h', toks := tk }) →
    wpAny C.M A (pyNext (.ref I)) (Drawn C A tgt I Q) False2 s
  self : ∀ i (s : Shared) (Q : Value → Shared → Prop), Rr i s.heap → Q (.ref I) s → wpAny C.M A (pyIter (.ref I)) Q False2 s

def WIt (C : Cx) (A : Around) (env : Env) (e tgt : Expr) (ρ : Lo) (H : AH) (K : AH → Nat → (Nat → AH → Prop) → (Nat → AH → Dv → Prop) → Prop) : Prop :=
  ∀ s : Shared, St C env.locals ρ H s.heap → ∀ Q : Value → Shared → Prop,
    (∀ H1 n Ok P I wr Rr s', K H1 n Ok P → Itr C A I wr tgt n Rr Ok P → Rr 0 s'.heap → St C env.locals ρ H1 s'.heap → Step env.locals H H1 s s' → (∀ b ∈ wr, s.heap.get? b = none ∧ H1 b = none) → Q (.ref I) s') →
    wpAny C.M A (eval e env) (fun x s₁ => wpAny C.M A (pyIter x) Q False2 s₁) False2 s

section
variable {C : Cx} {A : Around} {env : Env} {ρ : Lo} {H : AH}

theorem St.offL {L : Addr} {h h' : Heap} {wr : List Addr} (x : St C L ρ H h) (hw : Off C L H wr) (k : ∀ b o, b ∉ wr → h.get? b = some o → h'.get? b = some o) : St C L ρ H h' where
  keep := fun b o e => k _ _ (fun q => by rw [(hw b q).2.1] at e; cases e) (x.keep b o e)
  rep := fun a o e => let ⟨c, e1, e2⟩ := x.rep a o e; ⟨c, k _ _ (fun q => by rw [(hw a q).1] at e; cases e) e1, e2⟩
  own := x.own
  loc := let ⟨m, ⟨o, es, ep, e1, r⟩, e2⟩ := x.loc; ⟨m, ⟨o, es, ep, k L o (fun q => (hw L q).2.2 rfl) e1, r⟩, e2⟩
  nl := x.nl
  bl := x.bl

theorem Step.offL {L : Addr} {H H' : AH} {s s2 : Shared} {h' : Heap} {tk : Nat} {wr : List Addr} (x : Step L H H' s s2) (hw : ∀ b ∈ wr, s.heap.get? b = none) (k : ∀ b o, b ∉ wr → s2.heap.get? b = some o → h'.get? b = some o) : Step L H H' s { s2 with heap := h', toks := tk } := by
  obtain ⟨⟨h, t, rfl⟩, k1, n1, l1⟩ := x
  exact ⟨⟨h', tk, rfl⟩, fun b o e eb eL => k b o (fun q => by rw [hw b q] at e; cases e) (k1 b o e eb eL), n1, fun b o e => let ⟨o', e'⟩ := l1 b o e; ⟨o', k b o' (fun q => by rw [hw b q] at e; cases e) e'⟩⟩
/-! the loop itself -/
theorem forLoop_run {tgt : Expr} {it : Addr} {body : List Stmt} {R : Result → Shared → Prop} {s : Shared} (I : Nat → Shared → Prop)
    (turn : ∀ n s, I n s → wpAny C.M A (pyNext (.ref it)) (Drawn C A tgt it (fun r s₁ => match r with
      | none => R (.ok .next) s₁
      | some v => wpAny C.M A (PySem.assign tgt env v) (fun _ s₂ => wpAny C.M A (execs body env) (fun f s₃ => match f with
          | .next | .cont => ∃ m, m < n ∧ I m s₃
          | .brk => R (.ok .next) s₃
          | .ret v => R (.ok (.ret v)) s₃) False2 s₂) False2 s₁)) False2 s)
    (n : Nat) (h : I n s) : codeAny C.M A (.forLoop tgt (.ref it) body [] env) R s := by
  refine codeAny_loop' rfl I (fun n s hI => ?_) n h
  show wpAny _ _ ((forTurn tgt (.ref it) body [] env).onRaise (fun x => do noteFrame x env; theTreesLotGoes x)) _ _ s
  refine wpAny_noted ?_
  simp only [forTurn]
  refine wpAny_bind (wpAny_standAt (wpAny_bind (wpAny_onRaise (wpAny_mono (turn n s hI) (fun r s₁ h₁ => ?_) fun _ _ e => e.elim))))
  cases r with
  | none => exact wpAny_pure (.inr ⟨rfl, codeAny_block (wpAny_execs_nil h₁)⟩)
  | some v =>
    refine wpAny_bind (wpAny_mono h₁ (fun _ s₁' h₁' => ?_) fun _ _ e => e.elim)
    refine wpAny_bind (wpAny_mono h₁' (fun _ s₂ h₂ => wpAny_bind (wpAny_mono h₂ (fun f s₃ h₃ => ?_) fun _ _ e => e.elim)) fun _ _ e => e.elim)
    cases f with
    | next => exact wpAny_pure (.inl ⟨rfl, h₃⟩)
    | cont => exact wpAny_pure (.inl ⟨rfl, h₃⟩)
    | brk => exact wpAny_pure h₃
    | ret v => exact wpAny_pure h₃

theorem Off.step {L : Addr} {H H' : AH} {wr : List Addr} {s s' : Shared} (x : Off C L H wr) (hl : ∀ b ∈ wr, ∃ o, s.heap.get? b = some o) (y : Step L H H' s s') : Off C L H' wr := fun b hb =>
  ⟨let ⟨o, e⟩ := hl b hb; y.new b o e (x b hb).1, (x b hb).2⟩

theorem W1.for {tgt iter : Expr} {body : List Stmt} {pos : Pos} {Q : Fl → Lo → AH → Prop}
    (h : WIt C A env iter tgt ρ H (fun H1 n Ok P => ∃ Inv : Nat → Lo → AH → Prop, Inv 0 ρ H1 ∧
      (∀ i ρ1 H2, i < n → Inv i ρ1 H2 → Ok i H2 ∧ ∀ d, P i H2 d → Asg C A env tgt d ρ1 H2 (fun ρ2 H3 => WS C A env body ρ2 H3 (fun f ρ3 H4 => match f with
        | .next => Inv (i + 1) ρ3 H4
        | .cont => Inv (i + 1) ρ3 H4
        | .brk => Q .next ρ3 H4
        | .ret v => Q (.ret v) ρ3 H4))) ∧
      (∀ ρ1 H2, Inv n ρ1 H2 → Ok n H2 ∧ Q .next ρ1 H2)))
    (hs : ∀ x, foldedSetIterable iter env x = pure x := by intro _; rfl) : W1 C A env (.For tgt iter body [] pos) ρ H Q := fun s hst => by
  refine wpAny_For ?_ hs
  refine h s hst _ (fun H1 n Ok P I wr Rr s' ⟨Inv, h0, turn, fin⟩ it r0 a1 b1 hw => ?_)
  have hoff : Off C env.locals H1 wr := fun b hb => ⟨(hw b hb).2, (hst.fresh (hw b hb).1).2⟩
  refine forLoop_run (fun k s2 => ∃ i ρ2 H2, i ≤ n ∧ k = n - i ∧ St C env.locals ρ2 H2 s2.heap ∧ Step env.locals H H2 s s2 ∧ Rr i s2.heap ∧ Off C env.locals H2 wr ∧ Inv i ρ2 H2) ?_ n ⟨0, ρ, H1, Nat.zero_le _, rfl, a1, b1, r0, hoff, h0⟩
  rintro k s2 ⟨i, ρ2, H2, hi, rfl, a2, b2, r2, o2, i2⟩
  by_cases hlt : i < n
  · obtain ⟨ok, t⟩ := turn i ρ2 H2 hlt i2
    refine it.item i s2 env.locals ρ2 H2 _ hlt r2 a2 o2 ok fun v d h' tk hP hd a3 r3 k3 => ?_
    have b3 : Step env.locals H H2 s { s2 with heap := h', toks := tk } := b2.offL (fun b hb => (hw b hb).1) k3
    refine wpAny_mono (t d hP { s2 with heap := h', toks := tk } v a3 hd) (fun _ s4 ⟨ρ4, H4, a4, b4, c4⟩ => ?_) fun _ _ e => e
    have b14 := b3.trans b4 (fun _ _ => a4.nl)
    have r4 : Rr (i + 1) s4.heap := it.frame _ _ _ r3 fun b hb o e => b4.kept b o e (o2 b hb).1 (o2 b hb).2.2
    have o4 : Off C env.locals H4 wr := o2.step (it.live _ _ r3) b4
    refine wpAny_mono (c4 s4 a4) (fun f s5 ⟨ρ5, H5, a5, b5, c5⟩ => ?_) fun _ _ e => e
    have b15 := b14.trans b5 (fun _ _ => a5.nl)
    have r5 : Rr (i + 1) s5.heap := it.frame _ _ _ r4 fun b hb o e => b5.kept b o e (o4 b hb).1 (o4 b hb).2.2
    have o5 : Off C env.locals H5 wr := o4.step (it.live _ _ r4) b5
    cases f with
    | next => exact ⟨n - (i + 1), by omega, i + 1, ρ5, H5, hlt, rfl, a5, b15, r5, o5, c5⟩
    | cont => exact ⟨n - (i + 1), by omega, i + 1, ρ5, H5, hlt, rfl, a5, b15, r5, o5, c5⟩
    | brk => exact ⟨ρ5, H5, a5, b15, c5⟩
    | ret v => exact ⟨ρ5, H5, a5, b15, c5⟩
  · have hin : i = n := by omega
    subst hin
    obtain ⟨ok, q⟩ := fin ρ2 H2 i2
    exact it.done s2 env.locals ρ2 H2 _ r2 a2 o2 ok fun h' tk a3 k3 => ⟨ρ2, H2, a3, b2.offL (fun b hb => (hw b hb).1) k3, q⟩

/-! ## lists, ranges -/
theorem letOwned_list {tgt : Expr} {I l : Addr} {i : Nat} {v : Value} {s : Shared} {Q : Unit → Shared → Prop} (h : s.heap.IsListIter I l i) (q : Q () s) : wpAny C.M A (letOwnedTupleGo tgt (.ref I) v) Q False2 s := by
  obtain ⟨o, ho, hc, hd⟩ := h
  cases tgt <;> first | exact wpAny_pure q | skip
  all_goals
    cases v <;> first | exact wpAny_pure q | skip
    refine wpAny_bind (wpAny_load ho ?_)
    rw [hc, hd]
    show wpAny _ _ (if _ then _ else _) _ _ _
    rw [if_neg (by simp)]
    exact wpAny_pure q

theorem Itr.list {I l : Addr} {tgt : Expr} {ob : O} {vs : List V} (hh : A.handled = none) (hne : l ≠ I) (hl : lst ob = some vs) :
    Itr C A I [I] tgt vs.length (fun i h => h.IsListIter I l i) (fun _ H => H l = some ob) (fun i H d => ∃ v, vs[i]? = some v ∧ d = .one v) where
  live := fun i h ⟨o, ho, _⟩ b hb => by rw [List.mem_singleton.mp hb]; exact ⟨o, ho⟩
  frame := fun i h h' ⟨o, ho, r⟩ k => ⟨o, k I (List.mem_singleton.mpr rfl) o ho, r⟩
  item := fun i s L ρ H Q hi hr hs hw hok hq => by
    obtain ⟨xs, h1, h2, h3⟩ := hs.list hok hl
    obtain ⟨x, x1, x2⟩ := arr_get (i := i) (v := vs[i]) h2 (by simp [hi])
    refine wpAny_pyNext_list_item hr h1 x1 fun h' hit' hs' => ?_
    refine letOwned_list hit' ?_
    have k : ∀ b o, b ∉ [I] → s.heap.get? b = some o → h'.get? b = some o := fun b o hb e => hs'.extBut b o (fun q => hb (by simp [q])) e
    exact hq x (.one vs[i]) h' s.toks ⟨_, by simp [hi], rfl⟩ x2 (hs.offL hw k) hit' k
  done := fun s L ρ H Q hr hs hw hok hq => by
    obtain ⟨xs, h1, h2, h3⟩ := hs.list hok hl
    refine wpAny_pyNext_list_end hh hr h1 (by rw [← arr_size h2]; simp) fun h' he' => ?_
    have k : ∀ b o, b ∉ [I] → s.heap.get? b = some o → h'.get? b = some o := fun b o hb e => he' b o (fun q => hb (by simp [q])) e
    exact hq h' s.toks (hs.offL hw k) k
  self := fun i s Q hr hq => wpAny_pyIter_listiter hr hq

theorem WIt.list {e tgt : Expr} {K : AH → Nat → (Nat → AH → Prop) → (Nat → AH → Dv → Prop) → Prop} (F : Fx C A env)
    (h : WE C A env e ρ H (fun v H1 => ∃ l ob vs, v = .ref l ∧ H1 l = some ob ∧ lst ob = some vs ∧ K H1 vs.length (fun _ H2 => H2 l = some ob) (fun i _ d => ∃ v, vs[i]? = some v ∧ d = .one v))) : WIt C A env e tgt ρ H K := fun s hs Q hq => by
  refine wpAny_mono (h s hs) (fun x s1 ⟨ρ1, H1, a1, b1, c1, l, ob, vs, d1, d2, d3, d4⟩ => ?_) fun _ _ e => e
  subst c1
  cases ab_ref d1
  obtain ⟨xs, h1, h2, h3⟩ := a1.list d2 d3
  refine wpAny_pyIter_list h1 ?_
  have hn := get?_size_none s1.heap
  have hne : l ≠ s1.heap.objs.size := fun q => by obtain ⟨o, ho, _⟩ := h1; rw [q, hn] at ho; cases ho
  have k : ∀ b o, s1.heap.get? b = some o → (s1.heap.push { cls := .type "list_iterator", data := .fields #[.ref l, .int 0 0] }).get? b = some o := fun b o e => Heap.get?_push_of_some _ e
  refine hq H1 _ _ _ s1.heap.objs.size [s1.heap.objs.size] _ _ d4 (Itr.list F.hh hne d3) ⟨_, Heap.get?_push_size _ rfl, rfl, rfl⟩ (a1.ext k) (b1.trans (Step.ext (tk := s1.toks) k) (fun _ _ => a1.nl)) fun b hb => ?_
  rw [List.mem_singleton.mp hb]
  refine ⟨?_, (a1.fresh hn).1⟩
  cases e : s.heap.get? s1.heap.objs.size with
  | none => rfl
  | some o =>
    obtain ⟨o', e'⟩ := b1.live _ o e
    rw [hn] at e'; cases e'
end
end Mine

namespace Mine
open PySem PySem.W PyProof.Rows

section
variable {C : Cx} {A : Around} {env : Env} {ρ : Lo} {H : AH}

theorem letOwned_range {tgt : Expr} {I : Addr} {x left step : Int} {i : Int} {t : Tok} {s : Shared} {Q : Unit → Shared → Prop} (q : Q () s) : wpAny C.M A (letOwnedTupleGo tgt (.ref I) (.int i t)) Q False2 s := by
  cases tgt <;> exact wpAny_pure q

theorem Itr.range {I : Addr} {tgt : Expr} {a c : Int} {n : Nat} (hh : A.handled = none) :
    Itr C A I [I] tgt n (fun i h => IsRangeIter h I (a + (i : Nat) * c) ((n : Int) - (i : Nat)) c) (fun _ _ => True) (fun i H d => d = .one (.int (a + (i : Nat) * c))) where
  live := fun i h ho b hb => by rw [List.mem_singleton.mp hb]; exact ⟨_, ho⟩
  frame := fun i h h' ho k => k I (List.mem_singleton.mpr rfl) _ ho
  item := fun i s L ρ H Q hi hr hs hw hok hq => by
    refine wpAny_pyNext_range_item hr (by omega) fun h' hit' hs' => ?_
    refine letOwned_range (x := 0) (left := 0) (step := 0) ?_
    have k : ∀ b o, b ∉ [I] → s.heap.get? b = some o → h'.get? b = some o := fun b o hb e => hs'.extBut b o (fun q => hb (by simp [q])) e
    refine hq (.int (a + (i : Nat) * c) s.toks) _ h' (s.toks + 1) rfl rfl (hs.offL hw k) ?_ k
    have e1 : a + ((i + 1 : Nat) : Int) * c = a + (i : Int) * c + c := by push_cast; rw [Int.add_mul, Int.one_mul, Int.add_assoc]
    have e2 : (n : Int) - ((i + 1 : Nat) : Int) = (n : Int) - (i : Int) - 1 := by push_cast; omega
    rw [e1, e2]; exact hit'
  done := fun s L ρ H Q hr hs hw hok hq => by
    refine wpAny_pyNext_range_end hh hr (by omega) fun h' he' => ?_
    have k : ∀ b o, b ∉ [I] → s.heap.get? b = some o → h'.get? b = some o := fun b o hb e => he' b o (fun q => hb (by simp [q])) e
    exact hq h' s.toks (hs.offL hw k) k
  self := fun i s Q hr hq => wpAny_pyIter_rangeiter hr hq

/-- behind the call of range -/
theorem WIt.range_core {r : Addr} {tgt : Expr} {a b c : Int} {t u v : Tok} {n : Nat} {s s1 : Shared} {H1 : AH} {K : AH → Nat → (Nat → AH → Prop) → (Nat → AH → Dv → Prop) → Prop} (hh : A.handled = none)
    (hr : IsRange s1.heap r a b c t u v) (hsm : Builtin.Range.small a b c = true) (hn : Builtin.Range.rangeSize a b c = (n : Int)) (a1 : St C env.locals ρ H1 s1.heap) (b1 : Step env.locals H H1 s s1)
    (hK : K H1 n (fun _ _ => True) (fun i H d => d = .one (.int (a + (i : Nat) * c)))) {Q : Value → Shared → Prop}
    (hq : ∀ H1 n Ok P I wr Rr s', K H1 n Ok P → Itr C A I wr tgt n Rr Ok P → Rr 0 s'.heap → St C env.locals ρ H1 s'.heap → Step env.locals H H1 s s' → (∀ b ∈ wr, s.heap.get? b = none ∧ H1 b = none) → Q (.ref I) s') :
    wpAny C.M A (pyIter (.ref r)) Q False2 s1 := by
  refine wpAny_pyIter_range hr hsm ?_
  have hnn := get?_size_none s1.heap
  have k : ∀ b' o, s1.heap.get? b' = some o → (s1.heap.push { cls := .type "range_iterator", data := .fields #[rawInt a, rawInt (Builtin.Range.rangeSize a b c), rawInt c] }).get? b' = some o := fun b' o e => Heap.get?_push_of_some _ e
  refine hq H1 n _ _ s1.heap.objs.size [s1.heap.objs.size] _ _ hK (Itr.range (a := a) (c := c) hh) ?_ (a1.ext k) (b1.trans (Step.ext (tk := s1.toks) k) (fun _ _ => a1.nl)) fun b hb => ?_
  · have := Heap.get?_push_size s1.heap (o := { cls := .type "range_iterator", data := .fields #[rawInt a, rawInt (Builtin.Range.rangeSize a b c), rawInt c] }) rfl
    rw [hn] at this
    have e : a + ((0 : Nat) : Int) * c = a := by simp
    have e' : (n : Int) - ((0 : Nat) : Int) = n := by simp
    show IsRangeIter _ _ (a + ((0 : Nat) : Int) * c) ((n : Int) - ((0 : Nat) : Int)) c
    rw [e, e', hn]; exact this
  · rw [List.mem_singleton.mp hb]
    refine ⟨?_, (a1.fresh hnn).1⟩
    cases e : s.heap.get? s1.heap.objs.size with
    | none => rfl
    | some o =>
      obtain ⟨o', e'⟩ := b1.live _ o e
      rw [hnn] at e'; cases e'

theorem WIt.range1 {e tgt : Expr} {id : Str} {p pos : Pos} {b : Int} {K : AH → Nat → (Nat → AH → Prop) → (Nat → AH → Dv → Prop) → Prop} (F : Fx C A env) (hf : Ev C A env ρ H (.Name id p) (.ty "range")) (he : Ev C A env ρ H e (.int b)) (hb : -(2 ^ 62) ≤ b) (hb' : b < 2 ^ 62)
    (hK : K H b.toNat (fun _ _ => True) (fun i _ d => d = .one (.int i))) (hn : noStar [e] = true := by rfl) : WIt C A env (.Call (.Name id p) [e] [] pos) tgt ρ H K := fun s hs Q hq => by
  refine wpAny_Call_Name_kw (wpAny_mono (hf s hs) (fun f s1 ⟨ρ1, H1, a1, b1, c1, c2, c3⟩ => ?_) fun _ _ e => e)
  subst c1 c2
  cases ab_ty c3
  refine PySem.callWith_type (backTo_any hn) (wpAny_mono (evalArgs_run (ks := []) (Q := fun vs kv H2 => vs = [.int b] ∧ kv = [] ∧ H2 = H1) hn rfl (WEs.of (.cons he .nil) ⟨rfl, rfl, rfl⟩) s1 a1) (fun x s2 ⟨ρ2, H2, a2, b2, c2, d1, d2, d3⟩ => ?_) fun _ _ e => e)
  subst c2 d3
  have hkw : x.kw = [] := by simpa using d2
  obtain ⟨y, ey, ey'⟩ := vals1 d1
  obtain ⟨t, rfl⟩ := ab_int ey'
  rw [hkw, ey]
  have k : ∀ b' o, s2.heap.get? b' = some o → (s2.heap.push { cls := .type "range", data := .fields #[.int 0 s2.toks, .int b t, .int 1 (s2.toks + 1)] }).get? b' = some o := fun b' o e => Heap.get?_push_of_some _ e
  refine call_range_1 (WIt.range_core (n := b.toNat) F.hh (IsRange.new _ _ _ _ _ _ _) (small_one (by decide) (by decide) hb hb') (by rw [rangeSize_nat]; simp) (a2.ext k) ((b1.trans b2 (fun _ _ => a2.nl)).trans (Step.ext (tk := s2.toks + 1 + 1) k) (fun _ _ => a2.nl)) ?_ hq)
  have e : (fun (i : Nat) (H : AH) (d : Dv) => d = Dv.one (V.int (0 + (i : Int) * 1))) = fun i _ d => d = .one (.int i) := by funext i _ d; simp
  rw [e]; exact hK
theorem WIt.range2 {e1 e2 tgt : Expr} {id : Str} {p pos : Pos} {a b : Int} {K : AH → Nat → (Nat → AH → Prop) → (Nat → AH → Dv → Prop) → Prop} (F : Fx C A env) (hf : Ev C A env ρ H (.Name id p) (.ty "range")) (he1 : Ev C A env ρ H e1 (.int a)) (he2 : Ev C A env ρ H e2 (.int b)) (ha : -(2 ^ 62) ≤ a) (ha' : a < 2 ^ 62) (hb : -(2 ^ 62) ≤ b) (hb' : b < 2 ^ 62)
    (hK : K H (b - a).toNat (fun _ _ => True) (fun i _ d => d = .one (.int (a + i)))) (hn : noStar [e1, e2] = true := by rfl) : WIt C A env (.Call (.Name id p) [e1, e2] [] pos) tgt ρ H K := fun s hs Q hq => by
  refine wpAny_Call_Name_kw (wpAny_mono (hf s hs) (fun f s1 ⟨ρ1, H1, a1, b1, c1, c2, c3⟩ => ?_) fun _ _ e => e)
  subst c1 c2
  cases ab_ty c3
  refine PySem.callWith_type (backTo_any hn) (wpAny_mono (evalArgs_run (ks := []) (Q := fun vs kv H2 => vs = [.int a, .int b] ∧ kv = [] ∧ H2 = H1) hn rfl (WEs.of (.cons he1 (.cons he2 .nil)) ⟨rfl, rfl, rfl⟩) s1 a1) (fun x s2 ⟨ρ2, H2, a2, b2, c2, d1, d2, d3⟩ => ?_) fun _ _ e => e)
  subst c2 d3
  have hkw : x.kw = [] := by simpa using d2
  obtain ⟨y, z, ey, ey', ez'⟩ := vals2 d1
  obtain ⟨t, rfl⟩ := ab_int ey'
  obtain ⟨u, rfl⟩ := ab_int ez'
  rw [hkw, ey]
  have k : ∀ b' o, s2.heap.get? b' = some o → (s2.heap.push { cls := .type "range", data := .fields #[.int a t, .int b u, .int 1 s2.toks] }).get? b' = some o := fun b' o e => Heap.get?_push_of_some _ e
  refine call_range_2 (WIt.range_core (n := (b - a).toNat) F.hh (IsRange.new _ _ _ _ _ _ _) (small_one ha ha' hb hb') (by rw [rangeSize_nat]) (a2.ext k) ((b1.trans b2 (fun _ _ => a2.nl)).trans (Step.ext (tk := s2.toks + 1) k) (fun _ _ => a2.nl)) ?_ hq)
  have e : (fun (i : Nat) (H : AH) (d : Dv) => d = Dv.one (V.int (a + (i : Int) * 1))) = fun i _ d => d = .one (.int (a + i)) := by funext i _ d; simp
  rw [e]; exact hK
theorem WIt.range3 {e1 e2 e3 tgt : Expr} {id : Str} {p pos : Pos} {a b c : Int} {n : Nat} {K : AH → Nat → (Nat → AH → Prop) → (Nat → AH → Dv → Prop) → Prop} (F : Fx C A env) (hf : Ev C A env ρ H (.Name id p) (.ty "range")) (he1 : Ev C A env ρ H e1 (.int a)) (he2 : Ev C A env ρ H e2 (.int b)) (he3 : Ev C A env ρ H e3 (.int c)) (hc : c ≠ 0) (hc' : c.natAbs < 1000)
    (hsm : Builtin.Range.small a b c = true) (hsz : Builtin.Range.rangeSize a b c = (n : Int))
    (hK : K H n (fun _ _ => True) (fun i _ d => d = .one (.int (a + (i : Nat) * c)))) (hn : noStar [e1, e2, e3] = true := by rfl) : WIt C A env (.Call (.Name id p) [e1, e2, e3] [] pos) tgt ρ H K := fun s hs Q hq => by
  refine wpAny_Call_Name_kw (wpAny_mono (hf s hs) (fun f s1 ⟨ρ1, H1, a1, b1, c1, c2, c3⟩ => ?_) fun _ _ e => e)
  subst c1 c2
  cases ab_ty c3
  refine PySem.callWith_type (backTo_any hn) (wpAny_mono (evalArgs_run (ks := []) (Q := fun vs kv H2 => vs = [.int a, .int b, .int c] ∧ kv = [] ∧ H2 = H1) hn rfl (WEs.of (.cons he1 (.cons he2 (.cons he3 .nil))) ⟨rfl, rfl, rfl⟩) s1 a1) (fun x s2 ⟨ρ2, H2, a2, b2, c2, d1, d2, d3⟩ => ?_) fun _ _ e => e)
  subst c2 d3
  have hkw : x.kw = [] := by simpa using d2
  obtain ⟨y, z, w, ey, ey', ez', ew'⟩ := vals3 d1
  obtain ⟨t, rfl⟩ := ab_int ey'
  obtain ⟨u, rfl⟩ := ab_int ez'
  obtain ⟨v, rfl⟩ := ab_int ew'
  rw [hkw, ey]
  have k : ∀ b' o, s2.heap.get? b' = some o → (s2.heap.push { cls := .type "range", data := .fields #[.int a t, .int b u, .int c v] }).get? b' = some o := fun b' o e => Heap.get?_push_of_some _ e
  exact call_range_3 hc (WIt.range_core (n := n) F.hh (IsRange.new _ _ _ _ _ _ _) hsm hsz (a2.ext k) ((b1.trans b2 (fun _ _ => a2.nl)).trans (Step.ext (tk := s2.toks) k) (fun _ _ => a2.nl)) hK hq) (Or.inl (PyProof.noPylong_small (by omega)))
end
end Mine

namespace Mine
open PySem PySem.W PyProof.Rows

section
variable {C : Cx} {A : Around} {env : Env} {ρ : Lo} {H : AH}

/-! ## tests of a clause -/
def WIf (C : Cx) (A : Around) (env : Env) : List Expr → Lo → AH → (Bool → AH → Prop) → Prop
  | [], _, H, Q => Q true H
  | c :: cs, ρ, H, Q => WT C A env c ρ H (fun b H1 => (b = true → WIf C A env cs ρ H1 Q) ∧ (b = false → Q false H1))
theorem ifs_false {env : Env} : ∀ (ifs : List Expr), (forIn ifs false fun c r => if r = true then do let ok ← isTrue c env (eval c env); pure (ForInStep.yield ok) else pure (ForInStep.yield r) : Sem Bool) = pure false
  | [] => rfl
  | c :: cs => by
    rw [List.forIn_cons]
    show (if false = true then _ else pure (ForInStep.yield false) : Sem (ForInStep Bool)) >>= _ = _
    rw [if_neg Bool.false_ne_true]
    exact ifs_false cs
theorem WIf.run : ∀ {ifs : List Expr} {ρ : Lo} {H : AH} {Q : Bool → AH → Prop}, WIf C A env ifs ρ H Q →
    W C A env.locals (forIn ifs true fun c r => if r = true then do let ok ← isTrue c env (eval c env); pure (ForInStep.yield ok) else pure (ForInStep.yield r)) ρ H (fun b ρ' H' => ρ' = ρ ∧ Q b H')
  | [], ρ, H, Q, h => W.pure ⟨rfl, h⟩
  | c :: cs, ρ, H, Q, h => by
    rw [List.forIn_cons]
    refine W.bind (W.bind (W.mono h ?_))
    rintro b ρ1 H1 ⟨rfl, h1, h2⟩
    refine W.pure ?_
    cases b with
    | true => exact WIf.run (h1 rfl)
    | false =>
      show W C A env.locals (forIn cs false _) ρ1 H1 _
      rw [ifs_false]
      exact W.pure ⟨rfl, h2 rfl⟩

/-! ## comprehensions -/
structure StepX (ex : List Addr) (L : Addr) (H H' : AH) (s s' : Shared) : Prop where
  same : ∃ h tk, s' = { s with heap := h, toks := tk }
  kept : ∀ b o, b ∉ ex → s.heap.get? b = some o → H b = none → b ≠ L → s'.heap.get? b = some o
  new : ∀ b o, b ∉ ex → s.heap.get? b = some o → H b = none → H' b = none
  live : ∀ b o, b ∉ ex → s.heap.get? b = some o → ∃ o', s'.heap.get? b = some o'
theorem Step.toX {ex : List Addr} {L : Addr} {H H' : AH} {s s' : Shared} (x : Step L H H' s s') : StepX ex L H H' s s' := ⟨x.same, fun b o _ e eb eL => x.kept b o e eb eL, fun b o _ => x.new b o, fun b o _ => x.live b o⟩
theorem StepX.trans {ex : List Addr} {L : Addr} {H H' H'' : AH} {s s' s'' : Shared} (x : StepX ex L H H' s s') (y : StepX ex L H' H'' s' s'') : StepX ex L H H'' s s'' := by
  obtain ⟨⟨h, tk, rfl⟩, k1, n1, l1⟩ := x
  obtain ⟨⟨h', tk', rfl⟩, k2, n2, l2⟩ := y
  exact ⟨⟨h', tk', rfl⟩, fun b o hb e eH eL => k2 b o hb (k1 b o hb e eH eL) (n1 b o hb e eH) eL, fun b o hb e eH => let ⟨o', e'⟩ := l1 b o hb e; n2 b o' hb e' (n1 b o hb e eH), fun b o hb e => let ⟨o', e'⟩ := l1 b o hb e; l2 b o' hb e'⟩
/-- changes at untracked places -/
theorem StepX.off {ex : List Addr} {L : Addr} {H : AH} {s : Shared} {h' : Heap} {tk : Nat} (k : ∀ b o, b ∉ ex → s.heap.get? b = some o → h'.get? b = some o) : StepX ex L H H s { s with heap := h', toks := tk } :=
  ⟨⟨_, _, rfl⟩, fun b o hb e _ _ => k b o hb e, fun _ _ _ _ e => e, fun b o hb e => ⟨o, k b o hb e⟩⟩
theorem StepX.mono {ex ex' : List Addr} {L : Addr} {H H' : AH} {s s' : Shared} (x : StepX ex L H H' s s') (h : ∀ b ∈ ex, ∀ o, s.heap.get? b = some o → b ∈ ex') : StepX ex' L H H' s s' :=
  ⟨x.same, fun b o hb e eb eL => x.kept b o (fun q => hb (h b q o e)) e eb eL, fun b o hb e => x.new b o (fun q => hb (h b q o e)) e, fun b o hb e => x.live b o (fun q => hb (h b q o e)) e⟩

/-- the accumulator, not tracked -/
structure Acc (C : Cx) (L : Addr) (D : Addr) (H : AH) (ys : List V) (h : Heap) : Prop where
  off : H D = none ∧ C.base.get? D = none ∧ D ≠ L
  arr : ∃ xs : Array Value, h.PlainList D xs ∧ xs.toList.map ab = ys
  sz : ys.length ≤ sizeLine
theorem Acc.step {L D : Addr} {H H' : AH} {ys : List V} {s s' : Shared} (x : Acc C L D H ys s.heap) (y : Step L H H' s s') : Acc C L D H' ys s'.heap := by
  obtain ⟨o, ⟨xs, ⟨n, hp⟩, e⟩, z⟩ := x
  exact ⟨⟨y.new _ _ hp o.1, o.2⟩, ⟨xs, ⟨n, y.kept _ _ hp o.1 o.2.2⟩, e⟩, z⟩

def CompR (C : Cx) (L D : Addr) (ex : List Addr) (H : AH) (s : Shared) (Q : Lo → AH → List V → Prop) (r : Result) (s' : Shared) : Prop :=
  match r with
  | .ok .next => ∃ ρ' H' zs, St C L ρ' H' s'.heap ∧ Acc C L D H' zs s'.heap ∧ StepX ex L H H' s s' ∧ Q ρ' H' zs
  | _ => False

/-- what is done for each item of the clauses behind -/
def CompI (C : Cx) (A : Around) (env : Env) (elt : Expr) : List Comprehension → Lo → AH → List V → (Lo → AH → List V → Prop) → Prop
  | [], ρ, H, ys, Q => WE C A env elt ρ H (fun v H1 => ys.length < sizeLine ∧ Q ρ H1 (ys ++ [v]))
  | ⟨tgt, iter, ifs, _⟩ :: gs, ρ, H, ys, Q => WIt C A env iter tgt ρ H (fun H1 n Ok P => ∃ Inv : Nat → Lo → AH → List V → Prop, Inv 0 ρ H1 ys ∧
      (∀ i ρ1 H2 zs, i < n → Inv i ρ1 H2 zs → Ok i H2 ∧ ∀ d, P i H2 d → Asg C A env tgt d ρ1 H2 (fun ρ2 H3 => WIf C A env ifs ρ2 H3 (fun b H4 => (b = true → CompI C A env elt gs ρ2 H4 zs (fun ρ5 H5 us => Inv (i + 1) ρ5 H5 us)) ∧ (b = false → Inv (i + 1) ρ2 H4 zs)))) ∧
      (∀ ρ1 H2 zs, Inv n ρ1 H2 zs → Ok n H2 ∧ Q ρ1 H2 zs))

/-- the loop of one clause, given what is done inside -/
def LoopOk (C : Cx) (A : Around) (env : Env) (elt tgt : Expr) (ifs : List Expr) (gs : List Comprehension) (H1 : AH) (n : Nat) (Ok : Nat → AH → Prop) (P : Nat → AH → Dv → Prop) (ρ : Lo) (ys : List V) (Q : Lo → AH → List V → Prop) : Prop :=
  ∃ Inv : Nat → Lo → AH → List V → Prop, Inv 0 ρ H1 ys ∧
      (∀ i ρ1 H2 zs, i < n → Inv i ρ1 H2 zs → Ok i H2 ∧ ∀ d, P i H2 d → Asg C A env tgt d ρ1 H2 (fun ρ2 H3 => WIf C A env ifs ρ2 H3 (fun b H4 => (b = true → CompI C A env elt gs ρ2 H4 zs (fun ρ5 H5 us => Inv (i + 1) ρ5 H5 us)) ∧ (b = false → Inv (i + 1) ρ2 H4 zs)))) ∧
      (∀ ρ1 H2 zs, Inv n ρ1 H2 zs → Ok n H2 ∧ Q ρ1 H2 zs)

theorem compTurn_last (elt : Expr) (gens : List Comprehension) (scope : Scope) (pos : Pos) (d : Nat) (tgt iter : Expr) (ifs : List Expr) (it acc : Value) (cenv : Env) (hd : gens[d]? = some ⟨tgt, iter, ifs, 0⟩) (hl : gens[d + 1]? = none) :
    compTurn (.ListComp elt gens scope pos) d it acc cenv = (standAt iter.pos >>= fun _ => pyNext it >>= fun r => match r with
      | none => pure (.done .next)
      | some v => letOwnedTupleGo tgt it v >>= fun _ => PySem.assign tgt cenv v >>= fun _ =>
          (forIn ifs true fun c r => if r = true then do let ok ← isTrue c cenv (eval c cenv); pure (ForInStep.yield ok) else pure (ForInStep.yield r)) >>= fun ok =>
            if ok = true then ((eval elt cenv >>= fun x => call (.builtin "list.append") [acc, x] >>= fun _ => pure PUnit.unit) >>= fun _ => again (.compLoop (.ListComp elt gens scope pos) d it acc cenv)) else again (.compLoop (.ListComp elt gens scope pos) d it acc cenv)) := by
  unfold compTurn
  simp only [hd, hl]
  rfl
theorem compTurn_more (elt : Expr) (gens : List Comprehension) (scope : Scope) (pos : Pos) (d : Nat) (tgt iter tgt' iter' : Expr) (ifs ifs' : List Expr) (it acc : Value) (cenv : Env) (hd : gens[d]? = some ⟨tgt, iter, ifs, 0⟩) (hl : gens[d + 1]? = some ⟨tgt', iter', ifs', 0⟩) :
    compTurn (.ListComp elt gens scope pos) d it acc cenv = (standAt iter.pos >>= fun _ => pyNext it >>= fun r => match r with
      | none => pure (.done .next)
      | some v => letOwnedTupleGo tgt it v >>= fun _ => PySem.assign tgt cenv v >>= fun _ =>
          (forIn ifs true fun c r => if r = true then do let ok ← isTrue c cenv (eval c cenv); pure (ForInStep.yield ok) else pure (ForInStep.yield r)) >>= fun ok =>
            if ok = true then (eval iter' cenv >>= fun x => standAt iter'.pos >>= fun _ => foldedSetIterable iter' cenv x >>= fun x => holding [x] (pyIter x) >>= fun it' => runOwn (.compStart (.ListComp elt gens scope pos) (d + 1) it' acc cenv) cenv >>= fun _ => again (.compLoop (.ListComp elt gens scope pos) d it acc cenv)) else again (.compLoop (.ListComp elt gens scope pos) d it acc cenv)) := by
  unfold compTurn
  simp only [hd, hl]
  rfl

theorem Acc.stepX {L D : Addr} {H H' : AH} {ys : List V} {ex : List Addr} {s s' : Shared} (x : Acc C L D H ys s.heap) (y : StepX ex L H H' s s') (hD : D ∉ ex) : Acc C L D H' ys s'.heap := by
  obtain ⟨o, ⟨xs, ⟨n, hp⟩, e⟩, z⟩ := x
  exact ⟨⟨y.new _ _ hD hp o.1, o.2⟩, ⟨xs, ⟨n, y.kept _ _ hD hp o.1 o.2.2⟩, e⟩, z⟩
theorem Off.stepX {L : Addr} {H H' : AH} {wr ex : List Addr} {s s' : Shared} (x : Off C L H wr) (hl : ∀ b ∈ wr, ∃ o, s.heap.get? b = some o) (y : StepX ex L H H' s s') (hex : ∀ b ∈ wr, b ∉ ex) : Off C L H' wr := fun b hb =>
  ⟨let ⟨o, e⟩ := hl b hb; y.new b o (hex b hb) e (x b hb).1, (x b hb).2⟩

abbrev ifsT (ifs : List Expr) (env : Env) : Sem Bool := forIn ifs true fun c r => if r = true then do let ok ← isTrue c env (eval c env); pure (ForInStep.yield ok) else pure (ForInStep.yield r)
def TurnP (C : Cx) (A : Around) (env : Env) (tgt : Expr) (ifs : List Expr) (I : Addr) (fin : Shared → Prop) (Inn : Shared → Prop) (K : Shared → Prop) : Option Value → Shared → Prop :=
  Drawn C A tgt I (fun r s₁ => match r with
    | none => fin s₁
    | some v => wpAny C.M A (PySem.assign tgt env v) (fun _ s₂ => wpAny C.M A (ifsT ifs env) (fun ok s₃ => (ok = true → Inn s₃) ∧ (ok = false → K s₃)) False2 s₂) False2 s₁)
def InnLast (C : Cx) (A : Around) (env : Env) (elt : Expr) (D : Addr) (K : Shared → Prop) (s : Shared) : Prop :=
  wpAny C.M A (eval elt env) (fun x s₄ => wpAny C.M A (call (.builtin "list.append") [.ref D, x]) (fun _ s₅ => K s₅) False2 s₄) False2 s
def InnMore (C : Cx) (A : Around) (env : Env) (e iter : Expr) (d : Nat) (D : Addr) (K : Shared → Prop) (s : Shared) : Prop :=
  wpAny C.M A (eval iter env) (fun x s₄ => wpAny C.M A (pyIter x) (fun it s₅ => codeAny C.M A (.compStart e d it (.ref D) env) (fun r s₆ => match r with | .ok _ => K s₆ | .error _ => False) s₅) False2 s₄) False2 s

theorem compLoop_last {elt : Expr} {gens : List Comprehension} {scope : Scope} {pos : Pos} {d : Nat} {tgt iter : Expr} {ifs : List Expr} {it D : Addr} {R : Result → Shared → Prop} {s : Shared} (hd : gens[d]? = some ⟨tgt, iter, ifs, 0⟩) (hl : gens[d + 1]? = none) (I : Nat → Shared → Prop)
    (turn : ∀ n s, I n s → wpAny C.M A (pyNext (.ref it)) (TurnP C A env tgt ifs it (R (.ok .next)) (InnLast C A env elt D (fun s' => ∃ m, m < n ∧ I m s')) (fun s' => ∃ m, m < n ∧ I m s')) False2 s) (n : Nat) (h : I n s) :
    codeAny C.M A (.compLoop (.ListComp elt gens scope pos) d (.ref it) (.ref D) env) R s := by
  refine codeAny_loop rfl I (fun n s hI => ?_) n h
  show wpAny _ A ((compTurn (.ListComp elt gens scope pos) d (.ref it) (.ref D) env).onRaise (fun x => do noteFrame x env; theTreesLotGoes x)) _ _ s
  refine wpAny_noted ?_
  rw [compTurn_last elt gens scope pos d tgt iter ifs _ _ _ hd hl]
  refine wpAny_bind (wpAny_standAt (wpAny_bind (wpAny_mono (turn n s hI) (fun r s₁ h₁ => ?_) fun _ _ e => e.elim)))
  cases r with
  | none => exact wpAny_pure h₁
  | some v =>
    refine wpAny_bind (wpAny_mono h₁ (fun _ s₂ h₂ => ?_) fun _ _ e => e.elim)
    refine wpAny_bind (wpAny_mono h₂ (fun _ s₃ h₃ => ?_) fun _ _ e => e.elim)
    refine wpAny_bind (wpAny_mono h₃ (fun ok s₄ h₄ => ?_) fun _ _ e => e.elim)
    cases ok with
    | false => exact wpAny_pure ⟨rfl, h₄.2 rfl⟩
    | true => exact wpAny_bind (wpAny_bind (wpAny_mono (h₄.1 rfl) (fun x s₅ h₅ => wpAny_bind (wpAny_mono h₅ (fun _ s₆ h₆ => wpAny_pure (wpAny_pure ⟨rfl, h₆⟩)) fun _ _ e => e.elim)) fun _ _ e => e.elim))
theorem compLoop_more {elt : Expr} {gens : List Comprehension} {scope : Scope} {pos : Pos} {d : Nat} {tgt iter tgt' iter' : Expr} {ifs ifs' : List Expr} {it D : Addr} {R : Result → Shared → Prop} {s : Shared} (hd : gens[d]? = some ⟨tgt, iter, ifs, 0⟩) (hl : gens[d + 1]? = some ⟨tgt', iter', ifs', 0⟩) (hs : ∀ x, foldedSetIterable iter' env x = pure x) (I : Nat → Shared → Prop)
    (turn : ∀ n s, I n s → wpAny C.M A (pyNext (.ref it)) (TurnP C A env tgt ifs it (R (.ok .next)) (InnMore C A env (.ListComp elt gens scope pos) iter' (d + 1) D (fun s' => ∃ m, m < n ∧ I m s')) (fun s' => ∃ m, m < n ∧ I m s')) False2 s) (n : Nat) (h : I n s) :
    codeAny C.M A (.compLoop (.ListComp elt gens scope pos) d (.ref it) (.ref D) env) R s := by
  refine codeAny_loop rfl I (fun n s hI => ?_) n h
  show wpAny _ A ((compTurn (.ListComp elt gens scope pos) d (.ref it) (.ref D) env).onRaise (fun x => do noteFrame x env; theTreesLotGoes x)) _ _ s
  refine wpAny_noted ?_
  rw [compTurn_more elt gens scope pos d tgt iter tgt' iter' ifs ifs' _ _ _ hd hl]
  refine wpAny_bind (wpAny_standAt (wpAny_bind (wpAny_mono (turn n s hI) (fun r s₁ h₁ => ?_) fun _ _ e => e.elim)))
  cases r with
  | none => exact wpAny_pure h₁
  | some v =>
    refine wpAny_bind (wpAny_mono h₁ (fun _ s₂ h₂ => ?_) fun _ _ e => e.elim)
    refine wpAny_bind (wpAny_mono h₂ (fun _ s₃ h₃ => ?_) fun _ _ e => e.elim)
    refine wpAny_bind (wpAny_mono h₃ (fun ok s₄ h₄ => ?_) fun _ _ e => e.elim)
    cases ok with
    | false => exact wpAny_pure ⟨rfl, h₄.2 rfl⟩
    | true =>
      refine wpAny_bind (wpAny_mono (h₄.1 rfl) (fun x s₅ h₅ => wpAny_bind (wpAny_standAt ?_)) fun _ _ e => e.elim)
      rw [hs]
      refine wpAny_bind (wpAny_pure (wpAny_bind (wpAny_holding (wpAny_mono h₅ (fun it' s₆ h₆ => ?_) fun _ _ e => e.elim))))
      refine wpAny_bind ?_
      unfold runOwn
      refine wpAny_onRaise (wpAny_run (codeAny_mono h₆ fun r s' hr => ?_))
      cases r with
      | ok f => exact wpAny_pure ⟨rfl, hr⟩
      | error e => exact hr.elim

theorem compStart_run {elt : Expr} {gens : List Comprehension} {scope : Scope} {pos : Pos} {d : Nat} {tgt iter : Expr} {ifs : List Expr} {it acc : Value} {R : Result → Shared → Prop} {s : Shared} (hd : gens[d]? = some ⟨tgt, iter, ifs, 0⟩)
    (h0 : codeAny C.M A (.compLoop (.ListComp elt gens scope pos) d it acc env) R s)
    (h : wpAny C.M A (pyIter it) (fun it' s' => codeAny C.M A (.compLoop (.ListComp elt gens scope pos) d it' acc env) R s') False2 s) :
    codeAny C.M A (.compStart (.ListComp elt gens scope pos) d it acc env) R s := by
  refine codeAny_of_tree ?_
  show wpAny _ _ ((compStart (.ListComp elt gens scope pos) d it acc env).onRaise (fun x => do noteFrame x env; standAt theWindowsPlace)) _ _ s
  refine wpAny_notedAt ?_
  unfold compStart
  have hcl : (clausesOf (.ListComp elt gens scope pos))[d]? = some ⟨tgt, iter, ifs, 0⟩ := hd
  rw [hcl]
  show wpAny _ _ (ask >>= _) _ _ s
  refine wpAny_bind (wpAny_askSetting (wpAny_ite ?_))
  split
  · exact wpAny_pure (And.intro rfl h0)
  · exact wpAny_bind (wpAny_rule (wpAny_bind (wpAny_standAt (wpAny_bind (wpAny_mono h (fun it' s' h' => wpAny_pure (And.intro rfl h')) fun _ _ x => x.elim)))))

section
variable {elt tgt : Expr} {ifs : List Expr} {gs : List Comprehension} {I D : Addr} {wr : List Addr} {n : Nat} {Rr : Nat → Heap → Prop} {Ok : Nat → AH → Prop} {P : Nat → AH → Dv → Prop} {Inv : Nat → Lo → AH → List V → Prop} {s : Shared} {Q : Lo → AH → List V → Prop}
def CSt (C : Cx) (env : Env) (D : Addr) (wr : List Addr) (n : Nat) (Rr : Nat → Heap → Prop) (Inv : Nat → Lo → AH → List V → Prop) (H : AH) (s : Shared) (k : Nat) (s2 : Shared) : Prop :=
  ∃ i ρ2 H2 zs, i ≤ n ∧ k = n - i ∧ St C env.locals ρ2 H2 s2.heap ∧ StepX (D :: wr) env.locals H H2 s s2 ∧ Rr i s2.heap ∧ Off C env.locals H2 wr ∧ Acc C env.locals D H2 zs s2.heap ∧ Inv i ρ2 H2 zs
theorem comp_turns (Inn : (Shared → Prop) → Shared → Prop)
    (hInn : ∀ {ρ H zs Qi} {K : Shared → Prop} {s : Shared}, CompI C A env elt gs ρ H zs Qi → St C env.locals ρ H s.heap → Acc C env.locals D H zs s.heap →
      (∀ ρ5 H5 us s5, St C env.locals ρ5 H5 s5.heap → Acc C env.locals D H5 us s5.heap → StepX [D] env.locals H H5 s s5 → Qi ρ5 H5 us → K s5) → Inn K s)
    (it : Itr C A I wr tgt n Rr Ok P) (hDw : D ∉ wr)
    (turn : ∀ i ρ1 H2 zs, i < n → Inv i ρ1 H2 zs → Ok i H2 ∧ ∀ d, P i H2 d → Asg C A env tgt d ρ1 H2 (fun ρ2 H3 => WIf C A env ifs ρ2 H3 (fun b H4 => (b = true → CompI C A env elt gs ρ2 H4 zs (fun ρ5 H5 us => Inv (i + 1) ρ5 H5 us)) ∧ (b = false → Inv (i + 1) ρ2 H4 zs))))
    (fin : ∀ ρ1 H2 zs, Inv n ρ1 H2 zs → Ok n H2 ∧ Q ρ1 H2 zs) (k : Nat) (s2 : Shared) (hI : CSt C env D wr n Rr Inv H s k s2) :
    wpAny C.M A (pyNext (.ref I)) (TurnP C A env tgt ifs I (CompR C env.locals D (D :: wr) H s Q (.ok .next)) (Inn (fun s' => ∃ m, m < k ∧ CSt C env D wr n Rr Inv H s m s')) (fun s' => ∃ m, m < k ∧ CSt C env D wr n Rr Inv H s m s')) False2 s2 := by
  obtain ⟨i, ρ2, H2, zs, hi, rfl, a2, b2, r2, o2, acc2, i2⟩ := hI
  by_cases hlt : i < n
  · obtain ⟨ok, t⟩ := turn i ρ2 H2 zs hlt i2
    refine it.item i s2 env.locals ρ2 H2 _ hlt r2 a2 o2 ok fun v dd h' tk hP hdd a3 r3 k3 => ?_
    have b3 : StepX (D :: wr) env.locals H2 H2 s2 { s2 with heap := h', toks := tk } := StepX.off (fun b o hb e => k3 b o (fun q => hb (List.mem_cons_of_mem _ q)) e)
    have hDn : ∀ b ∈ wr, b ∉ [D] := fun b hb q => hDw (by rw [← List.mem_singleton.mp q]; exact hb)
    have acc3 : Acc C env.locals D H2 zs h' := by
      obtain ⟨oo, ⟨xs, ⟨nn, hp⟩, e⟩, z⟩ := acc2
      exact ⟨oo, ⟨xs, ⟨nn, k3 D _ hDw hp⟩, e⟩, z⟩
    refine wpAny_mono (t dd hP { s2 with heap := h', toks := tk } v a3 hdd) (fun _ s4 ⟨ρ4, H4, a4, b4, c4⟩ => ?_) fun _ _ e => e.elim
    have acc4 := acc3.step b4
    have r4 : Rr (i + 1) s4.heap := it.frame _ _ _ r3 fun b hb o e => b4.kept b o e (o2 b hb).1 (o2 b hb).2.2
    have o4 : Off C env.locals H4 wr := o2.step (it.live _ _ r3) b4
    refine wpAny_mono (WIf.run c4 s4 a4) (fun bb s5 ⟨ρ5, H5, a5, b5, c5, d5, d5'⟩ => ?_) fun _ _ e => e.elim
    subst c5
    have acc5 := acc4.step b5
    have r5 : Rr (i + 1) s5.heap := it.frame _ _ _ r4 fun b hb o e => b5.kept b o e (o4 b hb).1 (o4 b hb).2.2
    have o5 : Off C env.locals H5 wr := o4.step (it.live _ _ r4) b5
    have b25 := ((b2.trans b3).trans b4.toX).trans b5.toX
    refine ⟨fun e => ?_, fun e => ⟨n - (i + 1), by omega, i + 1, ρ5, H5, zs, hlt, rfl, a5, b25, r5, o5, acc5, d5' e⟩⟩
    refine hInn (d5 e) a5 acc5 fun ρ6 H6 us s6 a6 acc6 b6 i6 => ?_
    refine ⟨n - (i + 1), by omega, i + 1, ρ6, H6, us, hlt, rfl, a6, b25.trans (b6.mono fun b hb _ _ => by rw [List.mem_singleton.mp hb]; exact List.mem_cons_self ..), ?_, o5.stepX (it.live _ _ r5) b6 hDn, acc6, i6⟩
    exact it.frame _ _ _ r5 fun b hb o e => b6.kept b o (hDn b hb) e (o5 b hb).1 (o5 b hb).2.2
  · have hin : i = n := by omega
    subst hin
    obtain ⟨ok, q⟩ := fin ρ2 H2 zs i2
    refine it.done s2 env.locals ρ2 H2 _ r2 a2 o2 ok fun h' tk a3 k3 => ?_
    refine ⟨ρ2, H2, zs, a3, ?_, ?_, q⟩
    · obtain ⟨oo, ⟨xs, ⟨nn, hp⟩, e⟩, z⟩ := acc2
      exact ⟨oo, ⟨xs, ⟨nn, k3 D _ hDw hp⟩, e⟩, z⟩
    · exact b2.trans (StepX.off fun b o hb e => k3 b o (fun q => hb (List.mem_cons_of_mem _ q)) e)
end

theorem comp_run {elt : Expr} {gens : List Comprehension} {scope : Scope} {pos : Pos} {D : Addr} : ∀ (gs : List Comprehension) (d : Nat) (tgt iter : Expr) (ifs : List Expr), gens.drop d = ⟨tgt, iter, ifs, 0⟩ :: gs → (∀ g ∈ gs, g.is_async = 0 ∧ ∀ x, foldedSetIterable g.iter env x = pure x) →
    ∀ {I : Addr} {wr : List Addr} {n : Nat} {Rr : Nat → Heap → Prop} {Ok : Nat → AH → Prop} {P : Nat → AH → Dv → Prop} {ρ : Lo} {H : AH} {ys : List V} {Q : Lo → AH → List V → Prop} {s : Shared},
      LoopOk C A env elt tgt ifs gs H n Ok P ρ ys Q → Itr C A I wr tgt n Rr Ok P → Rr 0 s.heap → St C env.locals ρ H s.heap → Off C env.locals H wr → D ∉ wr → Acc C env.locals D H ys s.heap →
      codeAny C.M A (.compStart (.ListComp elt gens scope pos) d (.ref I) (.ref D) env) (CompR C env.locals D (D :: wr) H s Q) s := by
  intro gs
  induction gs with
  | nil =>
    intro d tgt iter ifs hdrop hasync I wr n Rr Ok P ρ H ys Q s ⟨Inv, h0, turn, fin⟩ it r0 a0 o0 hDw acc0
    have hd : gens[d]? = some ⟨tgt, iter, ifs, 0⟩ := by rw [← List.head?_drop, hdrop]; rfl
    have hl : gens[d + 1]? = none := by
      have : gens.drop (d + 1) = [] := by rw [← List.drop_drop, hdrop]; rfl
      rw [← List.head?_drop, this]; rfl
    have key : codeAny C.M A (.compLoop (.ListComp elt gens scope pos) d (.ref I) (.ref D) env) (CompR C env.locals D (D :: wr) H s Q) s := by
      refine compLoop_last hd hl (CSt C env D wr n Rr Inv H s) (fun k s2 hI => comp_turns (InnLast C A env elt D) ?_ it hDw turn fin k s2 hI) n ⟨0, ρ, H, ys, Nat.zero_le _, rfl, a0, (Step.refl ..).toX, r0, o0, acc0, h0⟩
      intro ρ5 H5 zs Qi K s5 hc a5 acc5 hK
      refine wpAny_mono (hc s5 a5) (fun y s6 ⟨ρ6, H6, a6, b6, c6, d6, d6'⟩ => ?_) fun _ _ e => e.elim
      subst c6
      obtain ⟨oo, ⟨xs, hp, e⟩, z6⟩ := acc5.step b6
      have hxs : xs.size = zs.length := by rw [← e]; simp
      refine wpAny_list_append_plain hp (fun h7 hp7 hs7 => ?_) (by rw [hxs]; exact Nat.le_of_lt d6)
      have k7 : ∀ b o, b ∉ [D] → s6.heap.get? b = some o → h7.get? b = some o := fun b o hb e => hs7.extBut b o (fun q => hb (by simp [q])) e
      exact hK ρ6 H6 (zs ++ [ab y]) _ (a6.offL (fun b hb => by rw [List.mem_singleton.mp hb]; exact oo) k7) ⟨oo, ⟨xs.push y, hp7, by simp [e]⟩, by simp; omega⟩ (b6.toX.trans (StepX.off k7)) d6'
    exact compStart_run hd key (it.self 0 s _ r0 key)
  | cons g gs ih =>
    intro d tgt iter ifs hdrop hasync I wr n Rr Ok P ρ H ys Q s ⟨Inv, h0, turn, fin⟩ it r0 a0 o0 hDw acc0
    obtain ⟨tgt', iter', ifs', as'⟩ := g
    have has : as' = 0 := (hasync _ (List.mem_cons_self ..)).1
    subst has
    have hfs : ∀ x, foldedSetIterable iter' env x = pure x := (hasync _ (List.mem_cons_self ..)).2
    have hd : gens[d]? = some ⟨tgt, iter, ifs, 0⟩ := by rw [← List.head?_drop, hdrop]; rfl
    have hdrop' : gens.drop (d + 1) = ⟨tgt', iter', ifs', 0⟩ :: gs := by rw [← List.drop_drop, hdrop]; rfl
    have hl : gens[d + 1]? = some ⟨tgt', iter', ifs', 0⟩ := by rw [← List.head?_drop, hdrop']; rfl
    have key : codeAny C.M A (.compLoop (.ListComp elt gens scope pos) d (.ref I) (.ref D) env) (CompR C env.locals D (D :: wr) H s Q) s := by
      refine compLoop_more hd hl hfs (CSt C env D wr n Rr Inv H s) (fun k s2 hI => comp_turns (InnMore C A env (.ListComp elt gens scope pos) iter' (d + 1) D) ?_ it hDw turn fin k s2 hI) n ⟨0, ρ, H, ys, Nat.zero_le _, rfl, a0, (Step.refl ..).toX, r0, o0, acc0, h0⟩
      intro ρ5 H5 zs Qi K s5 hc a5 acc5 hK
      refine hc s5 a5 _ (fun H6 n6 Ok6 P6 I6 wr6 Rr6 s6 hL6 it6 r6 a6 b6 hw6 => ?_)
      have acc6 := acc5.step b6
      have hD6 : D ∉ wr6 := fun q => by
        obtain ⟨_, ⟨xs, ⟨nn, hp⟩, _⟩, _⟩ := acc5
        rw [(hw6 D q).1] at hp; cases hp
      refine codeAny_mono (ih (d + 1) tgt' iter' ifs' hdrop' (fun g hg => hasync g (List.mem_cons_of_mem _ hg)) hL6 it6 r6 a6 (fun b hb => ⟨(hw6 b hb).2, (a5.fresh (hw6 b hb).1).2⟩) hD6 acc6) (fun r s7 h7 => ?_)
      cases r with
      | error e => exact h7
      | ok f =>
        cases f with
        | next =>
          obtain ⟨ρ7, H7, us, a7, acc7, b7, q7⟩ := h7
          refine hK ρ7 H7 us s7 a7 acc7 ?_ q7
          have b67 := (b6.toX (ex := D :: wr6)).trans b7
          refine b67.mono fun b hb o e => ?_
          rcases List.mem_cons.mp hb with rfl | hb
          · exact List.mem_singleton.mpr rfl
          · rw [(hw6 b hb).1] at e; cases e
        | brk => exact h7.elim
        | cont => exact h7.elim
        | ret v => exact h7.elim
    exact compStart_run hd key (it.self 0 s _ r0 key)

/-! the whole comprehension -/
theorem compEnv_eq {scope : Scope} {Cn : Addr} {cl : List (Str × Addr)} : ({ newEnv scope Cn env.globals cl env.qual none .none (some env) builtinsNs with scope := relabel scope env } : Env) = compEnvC scope cl Cn env := rfl

def CompOk (C : Cx) (A : Around) (env : Env) (elt : Expr) (g : Comprehension) (gs : List Comprehension) (scope : Scope) (cl : List (Str × Addr)) (ρ : Lo) (H : AH) (Q : AH → List V → Prop) : Prop :=
  WIt C A env g.iter g.target ρ H (fun H1 n Ok P => ∀ Cn, H1 Cn = none → LoopOk C A (compEnvC scope cl Cn env) elt g.target g.ifs gs H1 n Ok P (fun _ => none) [] (fun _ H2 zs => Q H2 zs))

theorem comp_whole {elt tgt iter : Expr} {ifs : List Expr} {gs : List Comprehension} {scope : Scope} {pos : Pos} {cl : List (Str × Addr)} {use : Option (Value → Sem Unit)} {s : Shared} {Q : AH → List V → Prop} {QQ : Value → Shared → Prop}
    (hclos : closureFor scope env = pure cl) (hcell : ∀ y ∈ scope.names, y.2 ≠ .cell) (hkind : scope.kind = .function) (hnames : ∀ x ∈ scope.names, x.2 = .local → scope.names.lookup x.1 = some .local)
    (hfs : ∀ x, foldedSetIterable iter env x = pure x) (hgs : ∀ g ∈ gs, g.is_async = 0 ∧ ∀ Cn, ∀ x, foldedSetIterable g.iter (compEnvC scope cl Cn env) x = pure x)
    (hs : St C env.locals ρ H s.heap) (h : CompOk C A env elt ⟨tgt, iter, ifs, 0⟩ gs scope cl ρ H Q)
    (hq : ∀ D Cn H2 zs s', Q H2 zs → H2 D = none → St C env.locals ρ (H2.set D (.list zs)) s'.heap → Step env.locals H (H2.set D (.list zs)) s s' → s.heap.get? Cn = none → Cn ≠ D → H2 Cn = none → (∃ m, s'.heap.Ns Cn m) → compPost C.M A False2 use QQ (.ref D) Cn (.ok .next) s') :
    wpAny C.M A (comprehension (.ListComp elt (⟨tgt, iter, ifs, 0⟩ :: gs) scope pos) scope env (firstIterPos (⟨tgt, iter, ifs, 0⟩ :: gs) pos) (newList []) false (eval iter env) use) QQ False2 s := by
  refine wpAny_comprehension_free (g := ⟨tgt, iter, ifs, 0⟩) (gs := gs) rfl hfs hclos hkind hnames ?_
  refine h s hs _ (fun H1 n Ok P I wr Rr s1 hL it r1 a1 b1 hw => ?_)
  refine wpAny_newObj_type (wpAny_newFunctionEnv hcell (by intro y hy; simp at hy) (fun h2 hns2 hsb2 => ?_) hkind)
  dsimp only at hns2 hsb2 ⊢
  generalize hH2 : s1.heap.push { cls := .type "list", dict := none, data := .seq ([] : List Value).toArray } = HH at hns2 hsb2 ⊢
  have hsz : HH.objs.size = s1.heap.objs.size + 1 := by rw [← hH2, Heap.size_push]
  have hDn : s1.heap.get? s1.heap.objs.size = none := get?_size_none _
  have hCn : HH.get? HH.objs.size = none := get?_size_none _
  have up1 : ∀ b o, s1.heap.get? b = some o → HH.get? b = some o := fun b o e => by rw [← hH2]; exact Heap.get?_push_of_some _ e
  have up2 : ∀ b o, HH.get? b = some o → h2.get? b = some o := fun b o e => hsb2.extBut b o (fun q => by rw [q, hCn] at e; cases e) (Heap.get?_push_of_some _ e)
  have hDC : s1.heap.objs.size ≠ HH.objs.size := by rw [hsz]; exact Nat.ne_of_lt (Nat.lt_succ_self _)
  have hC1 : s1.heap.get? HH.objs.size = none := by
    cases e : s1.heap.get? HH.objs.size with
    | none => rfl
    | some o => rw [up1 _ _ e] at hCn; cases hCn
  have fD := a1.fresh hDn
  have fC := a1.fresh hC1
  have a2 : St C HH.objs.size (fun _ => none) H1 h2 := ⟨fun b o e => up2 _ _ (up1 _ _ (a1.keep b o e)), fun a o e => let ⟨c, e1, e2⟩ := a1.rep a o e; ⟨c, up2 _ _ (up1 _ _ e1), e2⟩, a1.own, ⟨_, hns2, fun x => rfl⟩, fC.1, fC.2.1⟩
  have hDp : h2.PlainList s1.heap.objs.size #[] := ⟨0, up2 _ _ (by rw [← hH2]; exact Heap.get?_push_size _ rfl)⟩
  have accD : Acc C HH.objs.size s1.heap.objs.size H1 [] h2 := ⟨⟨fD.1, fD.2.1, hDC⟩, ⟨#[], hDp, rfl⟩, Nat.zero_le _⟩
  have live1 := it.live 0 s1.heap r1
  have hwne : ∀ b ∈ wr, b ≠ s1.heap.objs.size ∧ b ≠ HH.objs.size := fun b hb => by
    obtain ⟨o, e⟩ := live1 b hb
    exact ⟨fun q => (by rw [q, hDn] at e; cases e), fun q => (by rw [q, hC1] at e; cases e)⟩
  have r2 : Rr 0 h2 := it.frame _ _ _ r1 fun b hb o e => up2 _ _ (up1 _ _ e)
  have o2 : Off C HH.objs.size H1 wr := fun b hb => ⟨(hw b hb).2, (hs.fresh (hw b hb).1).2.1, (hwne b hb).2⟩
  have key := comp_run (C := C) (A := A) (env := compEnvC scope cl HH.objs.size env) (elt := elt) (gens := ⟨tgt, iter, ifs, 0⟩ :: gs) (scope := scope) (pos := pos) (D := s1.heap.objs.size) gs 0 tgt iter ifs rfl (fun g hg => ⟨(hgs g hg).1, (hgs g hg).2 _⟩) (s := { s1 with heap := h2, toks := s1.toks + ([] : List (Str × Value)).length }) (hL HH.objs.size fC.1) it r2 a2 o2 (fun q => (hwne _ q).1 rfl) accD
  refine codeAny_mono key fun r s3 h3 => ?_
  cases r with
  | error e => exact h3.elim
  | ok f =>
    cases f with
    | brk => exact h3.elim
    | cont => exact h3.elim
    | ret v => exact h3.elim
    | next =>
      obtain ⟨ρ3, H3, zs, a3, ⟨oD, ⟨xs, ⟨nn, hp⟩, e⟩, hzs⟩, b3, q3⟩ := h3
      have s13 : ∀ b o, s.heap.get? b = some o → b ∉ s1.heap.objs.size :: wr := fun b o eb q => by
        rcases List.mem_cons.mp q with rfl | q
        · obtain ⟨o', e'⟩ := b1.live _ o eb; rw [hDn] at e'; cases e'
        · rw [(hw b q).1] at eb; cases eb
      have neC : ∀ b o, s.heap.get? b = some o → b ≠ HH.objs.size := fun b o eb q => by obtain ⟨o', e'⟩ := b1.live _ o eb; rw [q, hC1] at e'; cases e'
      have alive2 : ∀ b o, s.heap.get? b = some o → ∃ o', h2.get? b = some o' := fun b o eb => let ⟨o', e'⟩ := b1.live _ o eb; ⟨o', up2 _ _ (up1 _ _ e')⟩
      have kept : ∀ b o, s.heap.get? b = some o → H b = none → b ≠ env.locals → s3.heap.get? b = some o := fun b o eb eH eL =>
        b3.kept b o (s13 b o eb) (up2 _ _ (up1 _ _ (b1.kept b o eb eH eL))) (b1.new b o eb eH) (neC b o eb)
      have new3 : ∀ b o, s.heap.get? b = some o → H b = none → H3 b = none := fun b o eb eH => by
        obtain ⟨o', e'⟩ := alive2 b o eb
        exact b3.new b o' (s13 b o eb) e' (b1.new b o eb eH)
      obtain ⟨m1, ⟨oL, esL, epL, hoL, rL⟩, hm1⟩ := a1.loc
      have hLD : env.locals ≠ s1.heap.objs.size := fun q => by rw [q, hDn] at hoL; cases hoL
      have hLC : env.locals ≠ HH.objs.size := fun q => by rw [q, hC1] at hoL; cases hoL
      have hLx : env.locals ∉ s1.heap.objs.size :: wr := fun q => by
        rcases List.mem_cons.mp q with q | q
        · exact hLD q
        · exact (hs.fresh (hw _ q).1).2.2 rfl
      have hL3 : s3.heap.get? env.locals = some oL := b3.kept _ _ hLx (up2 _ _ (up1 _ _ hoL)) a1.nl hLC
      have nL3 : H3 env.locals = none := b3.new _ _ hLx (up2 _ _ (up1 _ _ hoL)) a1.nl
      have St3 : St C env.locals ρ (H3.set s1.heap.objs.size (.list zs)) s3.heap := by
        refine ⟨a3.keep, fun b o eb => ?_, fun b o eb hm => ?_, ⟨m1, ⟨oL, esL, epL, hL3, rL⟩, hm1⟩, ?_, a1.bl⟩
        · by_cases q : b = s1.heap.objs.size
          · subst q; rw [AH.set_same] at eb; cases eb; exact ⟨_, hp, xs, nn, rfl, e, hzs⟩
          · rw [AH.set_ne _ _ q] at eb; exact a3.rep b o eb
        · by_cases q : b = s1.heap.objs.size
          · subst q; exact fD.2.1
          · rw [AH.set_ne _ _ q] at eb; exact a3.own b o eb hm
        · rw [AH.set_ne _ _ hLD]; exact nL3
      refine hq s1.heap.objs.size HH.objs.size H3 zs s3 q3 oD.1 St3 ⟨?_, kept, fun b o eb eH => ?_, fun b o eb => ?_⟩ ?_ (Ne.symm hDC) a3.nl (let ⟨m, hm, _⟩ := a3.loc; ⟨m, hm⟩)
      · obtain ⟨h', tk', e'⟩ := b1.same
        obtain ⟨h'', tk'', e''⟩ := b3.same
        exact ⟨h'', tk'', by rw [e'', e']⟩
      · rw [AH.set_ne _ _ (fun q => by obtain ⟨o', e'⟩ := b1.live _ o eb; rw [q, hDn] at e'; cases e')]; exact new3 b o eb eH
      · obtain ⟨o', e'⟩ := alive2 b o eb
        exact b3.live b o' (s13 b o eb) e'
      · cases ec : s.heap.get? HH.objs.size with
        | none => rfl
        | some o => exact absurd rfl (neC _ o ec)

theorem Step.letgo {L Cn D : Addr} {H H2 : AH} {s s' : Shared} {h' : Heap} {zs : List V} (x : Step L H H2 s s') (hc : s.heap.get? Cn = none) (hs : Heap.SameBut Cn s'.heap h') : Step L H H2 s { s' with heap := h' } := by
  obtain ⟨⟨h, tk, rfl⟩, k, n, l⟩ := x
  have ne : ∀ b o, s.heap.get? b = some o → b ≠ Cn := fun b o e q => by rw [q, hc] at e; cases e
  exact ⟨⟨h', tk, rfl⟩, fun b o e eb eL => hs.extBut b o (ne b o e) (k b o e eb eL), n, fun b o e => let ⟨o', e'⟩ := l b o e; ⟨o', hs.extBut b o' (ne b o e) e'⟩⟩

theorem WE.listComp {elt tgt iter : Expr} {ifs : List Expr} {gs : List Comprehension} {scope : Scope} {pos : Pos} {cl : List (Str × Addr)} {Q : V → AH → Prop}
    (hclos : closureFor scope env = pure cl) (h : CompOk C A env elt ⟨tgt, iter, ifs, 0⟩ gs scope cl ρ H (fun H2 zs => ∀ D, H2 D = none → Q (.ref D) (H2.set D (.list zs))))
    (hcell : ∀ y ∈ scope.names, y.2 ≠ .cell := by decide) (hkind : scope.kind = .function := by rfl) (hnames : ∀ x ∈ scope.names, x.2 = .local → scope.names.lookup x.1 = some .local := by decide)
    (hfs : ∀ x, foldedSetIterable iter env x = pure x := by intro _; rfl) (hgs : ∀ g ∈ gs, g.is_async = 0 ∧ ∀ Cn, ∀ x, foldedSetIterable g.iter (compEnvC scope cl Cn env) x = pure x := by simp) :
    WE C A env (.ListComp elt (⟨tgt, iter, ifs, 0⟩ :: gs) scope pos) ρ H Q := fun s hs => by
  refine comp_whole (use := none) hclos hcell hkind hnames hfs hgs hs h fun D Cn H2 zs s' q hD a b hCs hCD hC2 hns => ?_
  obtain ⟨m, hm⟩ := hns
  refine ⟨m, hm, fun h' hsb => ⟨ρ, _, ?_, b.letgo (D := D) (zs := zs) hCs hsb, rfl, q D hD⟩⟩
  refine a.off (I := Cn) ?_ ?_ ?_ (fun b o hb e => hsb.extBut b o hb e)
  · rw [AH.set_ne _ _ hCD]; exact hC2
  · exact (hs.fresh hCs).2.1
  · exact (hs.fresh hCs).2.2

theorem W1.asgComp {elt tgt iter : Expr} {ifs : List Expr} {gs : List Comprehension} {scope : Scope} {pos spos p : Pos} {x : Str} {cl : List (Str × Addr)} {Q : Fl → Lo → AH → Prop} (F : Fx C A env) (hl : env.kindOf x = some .local)
    (hclos : closureFor scope env = pure cl) (h : CompOk C A env elt ⟨tgt, iter, ifs, 0⟩ gs scope cl ρ H (fun H2 zs => ∀ D, H2 D = none → Q .next (ρ.set x (.ref D)) (H2.set D (.list zs))))
    (hsw : swapsWith (.ListComp elt (⟨tgt, iter, ifs, 0⟩ :: gs) scope pos) (some (.Name x p)) spos.line env = pure true)
    (hcell : ∀ y ∈ scope.names, y.2 ≠ .cell := by decide) (hkind : scope.kind = .function := by rfl) (hnames : ∀ x ∈ scope.names, x.2 = .local → scope.names.lookup x.1 = some .local := by decide)
    (hfs : ∀ x, foldedSetIterable iter env x = pure x := by intro _; rfl) (hgs : ∀ g ∈ gs, g.is_async = 0 ∧ ∀ Cn, ∀ x, foldedSetIterable g.iter (compEnvC scope cl Cn env) x = pure x := by simp) :
    W1 C A env (.Assign [.Name x p] (.ListComp elt (⟨tgt, iter, ifs, 0⟩ :: gs) scope pos) spos) ρ H Q := fun s hs => by
  rw [exec_Assign_Name_used x p _ spos hsw]
  refine wpAny_bind (wpAny_standAt (wpAny_bind (m := evalThenUse (.ListComp elt (⟨tgt, iter, ifs, 0⟩ :: gs) scope pos) env (PySem.assign (.Name x p) env)) ?_))
  show wpAny C.M A (comprehension (.ListComp elt (⟨tgt, iter, ifs, 0⟩ :: gs) scope pos) scope env (firstIterPos (⟨tgt, iter, ifs, 0⟩ :: gs) pos) (newList []) false (eval iter env) (some (PySem.assign (.Name x p) env)) >>= fun _ => pure PUnit.unit) _ _ s
  refine wpAny_bind ?_
  refine comp_whole (use := some (PySem.assign (.Name x p) env)) hclos hcell hkind hnames hfs hgs hs h fun D Cn H2 zs s' q hD a b hCs hCD hC2 hns => ?_
  obtain ⟨m, hm⟩ := hns
  have hCo : (H2.set D (.list zs)) Cn = none := by rw [AH.set_ne _ _ hCD]; exact hC2
  have hCL : Cn ≠ env.locals := (hs.fresh hCs).2.2
  refine wpAny_mono (Asg.local (pos := p) F hl (Q := fun ρ2 H3 => ρ2 = ρ.set x (.ref D) ∧ H3 = H2.set D (.list zs)) ⟨rfl, rfl⟩ s' (.ref D) a rfl) (fun _ s'' ⟨ρ2, H3, a2, b2, c2, c3⟩ => ?_) fun _ _ e => e
  subst c2 c3
  have hm2 : s''.heap.Ns Cn m := by
    obtain ⟨o, es, ep, ho, r⟩ := hm
    exact ⟨o, es, ep, b2.kept _ _ ho hCo hCL, r⟩
  refine ⟨m, hm2, fun h' hsb => wpAny_pure (wpAny_pure ⟨_, _, ?_, (b.trans b2 (fun _ _ => a2.nl)).letgo (D := D) (zs := zs) hCs hsb, q D hD⟩)⟩
  exact a2.off (I := Cn) hCo (hs.fresh hCs).2.1 hCL (fun b o hb e => hsb.extBut b o hb e)
end
end Mine

namespace Mine
open PySem PySem.W PyProof.Rows

section
variable {C : Cx} {A : Around} {env : Env} {ρ : Lo} {H : AH}

/-! ## the library's frames and ledgers over my states -/
def noHeap : Heap := ⟨#[], {}⟩
theorem noHeap_get (b : Addr) : noHeap.get? b = none := by simp [noHeap, Heap.get?]
def allNews (h : Heap) (L : Addr) : List (Addr × Obj) := (List.range h.objs.size).filterMap fun b => if b = L then none else (h.get? b).map fun o => (b, o)
theorem mem_allNews {h : Heap} {L b : Addr} {o : Obj} (e : h.get? b = some o) (hb : b ≠ L) : (b, o) ∈ allNews h L :=
  List.mem_filterMap.mpr ⟨b, List.mem_range.mpr (Heap.lt_size e), by simp [hb, e]⟩
theorem news_all (h : Heap) (L : Addr) : News noHeap L h (allNews h L) := fun p hp => by
  obtain ⟨b, _, e⟩ := List.mem_filterMap.mp hp
  by_cases hb : b = L
  · simp [hb] at e
  · rw [if_neg hb] at e
    cases hg : h.get? b with
    | none => rw [hg] at e; cases e
    | some o => rw [hg] at e; cases e; exact ⟨hg, hb, noHeap_get _⟩
theorem St.fr {L : Addr} {h : Heap} (hs : St C L ρ H h) : ∃ m, Fr noHeap L h m ∧ ∀ x, (m x).map ab = ρ x := by
  obtain ⟨m, hn, hm⟩ := hs.loc
  exact ⟨m, ⟨hn, fun b o e => (by rw [noHeap_get] at e; cases e), Nat.zero_le _⟩, hm⟩
theorem News.kept {L : Addr} {h h' : Heap} {news : List (Addr × Obj)} (N : News noHeap L h' news) (hsub : ∀ p ∈ allNews h L, p ∈ news) : ∀ b o, b ≠ L → h.get? b = some o → h'.get? b = some o := fun b o hb e => (N _ (hsub _ (mem_allNews e hb))).1
theorem St.of_fr {L : Addr} {h h' : Heap} {m : Str → Option Value} (hs : St C L ρ H h) (F : Fr noHeap L h' m) (hm : ∀ x, (m x).map ab = ρ x) (k : ∀ b o, b ≠ L → h.get? b = some o → h'.get? b = some o) : St C L ρ H h' where
  keep := fun b o e => k b o (fun q => by rw [q, hs.bl] at e; cases e) (hs.keep b o e)
  rep := fun a o e => let ⟨c, e1, e2⟩ := hs.rep a o e; ⟨c, k a c (fun q => by rw [q, hs.nl] at e; cases e) e1, e2⟩
  own := hs.own
  loc := ⟨m, F.ns, hm⟩
  nl := hs.nl
  bl := hs.bl
theorem Step.of_fr {L : Addr} {s : Shared} {h' : Heap} {tk : Nat} {m : Str → Option Value} (F : Fr noHeap L h' m) (k : ∀ b o, b ≠ L → s.heap.get? b = some o → h'.get? b = some o) : Step L H H s { s with heap := h', toks := tk } :=
  ⟨⟨_, _, rfl⟩, fun b o e _ hb => k b o hb e, fun _ _ _ e => e, fun b o e => by
    by_cases q : b = L
    · subst q; obtain ⟨o', _, _, ho, _⟩ := F.ns; exact ⟨o', ho⟩
    · exact ⟨o, k b o q e⟩⟩
/-- a new object, given by its ledger row -/
theorem St.alloc_fr {L a : Addr} {h h' : Heap} {c : Obj} {o : O} {m : Str → Option Value} (hs : St C L ρ H h) (F : Fr noHeap L h' m) (hm : ∀ x, (m x).map ab = ρ x) (ha : h.get? a = none) (hc : h'.get? a = some c) (hr : Rep o c) (k : ∀ b o, b ≠ L → h.get? b = some o → h'.get? b = some o) : St C L ρ (H.set a o) h' := by
  have f := hs.fresh ha
  exact St.alloc' (hs.of_fr F hm k) f.1 f.2.1 f.2.2 hc hr
where
  St.alloc' {h' : Heap} {a : Addr} {c : Obj} {o : O} {L : Addr} {ρ : Lo} {H : AH} (x : St C L ρ H h') (hH : H a = none) (hB : C.base.get? a = none) (hL : a ≠ L) (hc : h'.get? a = some c) (hr : Rep o c) : St C L ρ (H.set a o) h' :=
    ⟨x.keep, fun b o' e => by
      by_cases q : b = a
      · subst q; rw [AH.set_same] at e; cases e; exact ⟨c, hc, hr⟩
      · rw [AH.set_ne _ _ q] at e; exact x.rep b o' e, fun b o' e m => by
      by_cases q : b = a
      · subst q; exact hB
      · rw [AH.set_ne _ _ q] at e; exact x.own b o' e m, x.loc, by rw [AH.set_ne _ _ (Ne.symm hL)]; exact x.nl, x.bl⟩
theorem Step.alloc_fr {L a : Addr} {s : Shared} {h' : Heap} {tk : Nat} {o : O} {m : Str → Option Value} (F : Fr noHeap L h' m) (ha : s.heap.get? a = none) (k : ∀ b o, b ≠ L → s.heap.get? b = some o → h'.get? b = some o) : Step L H (H.set a o) s { s with heap := h', toks := tk } :=
  let x : Step L H H s { s with heap := h', toks := tk } := Step.of_fr F k
  ⟨x.same, x.kept, fun b o e eb => by rw [AH.set_ne _ _ (fun q => by rw [q, ha] at e; cases e)]; exact eb, x.live⟩

/-! ## lists: +, slices -/
def vadd (xs ys : List V) : List V := xs ++ ys
theorem WE.addList {l r : Expr} {pos : Pos} {Q : V → AH → Prop}
    (h : WE C A env l ρ H (fun v H1 => WE C A env r ρ H1 (fun w H2 => ∃ a b oa ob xs ys, v = .ref a ∧ w = .ref b ∧ H2 a = some oa ∧ H2 b = some ob ∧ lst oa = some xs ∧ lst ob = some ys ∧ xs.length + ys.length ≤ sizeLine ∧ ∀ c, H2 c = none → Q (.ref c) (H2.set c (.list (xs ++ ys)))))) :
    WE C A env (.BinOp l .Add r pos) ρ H Q := by
  refine W.BinOp (W.mono h ?_)
  rintro x _ H1 ⟨rfl, h1⟩
  refine W.mono h1 ?_
  rintro y _ H2 ⟨rfl, a, b, oa, ob, xs, ys, ex, ey, ha, hb, la, lb, hsz, hq⟩
  cases ab_ref ex
  cases ab_ref ey
  intro s hs
  obtain ⟨ax, a1, a2, a3⟩ := hs.list ha la
  obtain ⟨bx, b1, b2, b3⟩ := hs.list hb lb
  obtain ⟨m, F, hm⟩ := hs.fr
  have hn := get?_size_none s.heap
  refine add_arrays F (news_all s.heap env.locals) a1 b1 (fun h' F' N' => ?_) (by rw [arr_size a2, arr_size b2]; exact hsz)
  have k := News.kept N' fun p hp => List.mem_cons_of_mem _ hp
  exact ⟨_, _, hs.alloc_fr (o := .list (xs ++ ys)) F' hm hn (N' _ (List.mem_cons_self ..)).1 ⟨_, _, rfl, by simp [a2, b2], by simpa using hsz⟩ k, .alloc_fr F' hn k, rfl, hq _ (hs.fresh hn).1⟩

def slc (lo hi : Option Int) (vs : List V) : List V := (vs.drop (lo.elim 0 (clipAt vs.length))).take (hi.elim vs.length (clipAt vs.length) - lo.elim 0 (clipAt vs.length))
theorem slc_pick {xs : Array Value} {vs : List V} {lo hi : Option Int} (e : xs.toList.map ab = vs) : (slicePick xs lo hi none).toList.map ab = slc lo hi vs := by
  rw [slicePick_plain]
  unfold slc
  rw [show vs.length = xs.size from (arr_size e).symm]
  simp [List.map_take, List.map_drop, ← e]
theorem slc_len (lo hi : Option Int) (vs : List V) : (slc lo hi vs).length ≤ vs.length := by
  unfold slc; simp; omega

/-- a part of a slice -/
inductive EvP (C : Cx) (A : Around) (env : Env) (ρ : Lo) (H : AH) : Option Expr → Option Int → Prop
  | none : EvP C A env ρ H none none
  | some {e : Expr} {i : Int} : Ev C A env ρ H e (.int i) → EvP C A env ρ H (some e) (some i)
theorem EvP.run {e : Option Expr} {k : Option Int} (h : EvP C A env ρ H e k) : W C A env.locals (evalPart e env) ρ H (fun x ρ' H' => ρ' = ρ ∧ H' = H ∧ IsPart x k) := by
  cases h with
  | none => exact W.pure ⟨rfl, rfl, .none⟩
  | some h => exact W.mono h (by rintro x _ _ ⟨rfl, rfl, e⟩; obtain ⟨t, rfl⟩ := ab_int e; exact ⟨rfl, rfl, .int _ t⟩)

theorem WE.slice {o : Expr} {lower upper : Option Expr} {p pos : Pos} {lo hi : Option Int} {Q : V → AH → Prop}
    (h : WE C A env o ρ H (fun v H1 => ∃ l ob vs, v = .ref l ∧ H1 l = some ob ∧ lst ob = some vs ∧ EvP C A env ρ H1 lower lo ∧ EvP C A env ρ H1 upper hi ∧ ∀ c, H1 c = none → Q (.ref c) (H1.set c (.list (slc lo hi vs))))) :
    WE C A env (.Subscript o (.Slice lower upper none p) pos) ρ H Q := fun s hs => by
  refine Subscript_ (wpAny_mono (h s hs) (fun x s1 ⟨ρ1, H1, a1, b1, c1, l, ob, vs, d1, d2, d3, d4, d5, d6⟩ => ?_) fun _ _ e => e)
  subst c1
  cases ab_ref d1
  refine wpAny_Slice (wpAny_mono (d4.run s1 a1) (fun vl s2 ⟨ρ2, H2, a2, b2, c2, c3, pl⟩ => ?_) fun _ _ e => e)
  subst c2 c3
  refine wpAny_mono (d5.run s2 a2) (fun vu s3 ⟨ρ3, H3, a3, b3, c3, c4, pu⟩ => ?_) fun _ _ e => e
  subst c3 c4
  rw [evalPart_none]
  refine wpAny_pure ?_
  obtain ⟨xs, x1, x2, x3⟩ := a3.list d2 d3
  have k1 : ∀ b o, s3.heap.get? b = some o → (s3.heap.push { cls := .type "slice", data := .fields #[vl, vu, .none] }).get? b = some o := fun b o e => Heap.get?_push_of_some _ e
  have a4 := a3.ext k1
  have x1' := x1.push { cls := .type "slice", data := .fields #[vl, vu, .none] }
  have hn := get?_size_none (s3.heap.push { cls := .type "slice", data := .fields #[vl, vu, .none] })
  refine tail_any (ops := [.ref s3.heap.objs.size, .ref l]) x1'.typeIs slot_list_getitem.lookup (wpAny_getItem_list_slice x1' (Heap.IsSliceOf.new ..) pl pu .none (by simp) ?_ (by rw [arr_size x2]; exact x3)) rfl
  have k2 : ∀ b o, (s3.heap.push { cls := .type "slice", data := .fields #[vl, vu, .none] }).get? b = some o → ((s3.heap.push { cls := .type "slice", data := .fields #[vl, vu, .none] }).push { cls := .type "list", data := .seq (slicePick xs lo hi none) }).get? b = some o := fun b o e => Heap.get?_push_of_some _ e
  refine ⟨_, _, a4.alloc (o := .list (slc lo hi vs)) hn (Heap.get?_push_size _ rfl) ⟨_, 0, rfl, slc_pick x2, Nat.le_trans (slc_len ..) x3⟩ k2, ?_, rfl, d6 _ (a4.fresh hn).1⟩
  have b13 := (b1.trans b2 (fun _ _ => a2.nl)).trans b3 (fun _ _ => a3.nl)
  exact (b13.trans (Step.ext (tk := s3.toks) k1) (fun _ _ => a3.nl)).trans (Step.alloc (tk := s3.toks) hn k2) (fun _ _ => by rw [AH.set_ne _ _ (Ne.symm (a4.fresh hn).2.2)]; exact a4.nl)

/-! ## vints of a list -/
def vints (ns : List Int) : List V := ns.map V.int
theorem intsAre_of : ∀ {xs : List Value} {ns : List Int}, xs.map ab = vints ns → IntsAre xs ns
  | [], [], _ => .nil
  | [], _ :: _, h => by simp [vints] at h
  | _ :: _, [], h => by simp [vints] at h
  | x :: xs, n :: ns, h => by
    simp only [vints, List.map_cons, List.cons.injEq] at h
    obtain ⟨t, rfl⟩ := ab_int h.1
    exact .cons n t (intsAre_of h.2)
@[simp] theorem ints_length (ns : List Int) : (vints ns).length = ns.length := by simp [vints]
theorem ints_get {ns : List Int} {i : Nat} {n : Int} (h : ns[i]? = some n) : (vints ns)[i]? = some (.int n) := by simp [vints, h]

theorem WCall.sum {a : Addr} {o : O} {ns : List Int} {Q : V → AH → Prop} (hh : A.handled = none) (hH : H a = some o) (hl : lst o = some (vints ns)) (h : Q (.int ns.sum) H) : WCall C A (.bi "sum") [.ref a] [] H Q := by
  intro L ρ fv vals kvs e1 e2 e3
  cases ab_bi e1
  obtain ⟨x, rfl, ex⟩ := vals1 e2
  cases ab_ref ex
  have : kvs = [] := by simpa using e3
  subst this
  intro s hs
  obtain ⟨xs, h1, h2, h3⟩ := hs.list hH hl
  obtain ⟨m, F, hm⟩ := hs.fr
  refine PyProof.Rows.LSm.sum_ints (vs := xs.toList) F (news_all s.heap L) hh (by simpa using h1) (intsAre_of h2) (fun h' tk t' F' N' => ?_)
  have k := News.kept N' fun p hp => hp
  exact ⟨ρ, H, hs.of_fr F' hm k, .of_fr F' k, rfl, h⟩
theorem WCall.divmod {a b : Int} {Q : V → AH → Prop} (hb : 0 < b) (hb' : b < 1000000) (h : ∀ c, H c = none → Q (.ref c) (H.set c (.tup [.int (a.fdiv b), .int (a.fmod b)]))) : WCall C A (.bi "divmod") [.int a, .int b] [] H Q := by
  intro L ρ fv vals kvs e1 e2 e3
  cases ab_bi e1
  obtain ⟨x, y, rfl, ex, ey⟩ := vals2 e2
  obtain ⟨t, rfl⟩ := ab_int ex
  obtain ⟨u, rfl⟩ := ab_int ey
  have : kvs = [] := by simpa using e3
  subst this
  intro s hs
  have hn := get?_size_none s.heap
  refine divmod_int (by omega) ?_ (Or.inl (PyProof.noPylong_small (by omega)))
  have k : ∀ b' o, s.heap.get? b' = some o → (s.heap.push { cls := .type "tuple", data := .seq #[.int (a.fdiv b) s.toks, .int (a.fmod b) (s.toks + 1)] }).get? b' = some o := fun b' o e => Heap.get?_push_of_some _ e
  exact ⟨ρ, _, hs.alloc (o := .tup [.int (a.fdiv b), .int (a.fmod b)]) hn (Heap.get?_push_size _ rfl) ⟨_, 0, rfl, rfl, (by simp : [V.int (a.fdiv b), V.int (a.fmod b)].length = 2) ▸ (by decide)⟩ k, .alloc hn k, rfl, h _ (hs.fresh hn).1⟩
theorem WCall.abs {a : Int} {Q : V → AH → Prop} (h : Q (.int (if a < 0 then -a else a)) H) : WCall C A (.bi "abs") [.int a] [] H Q := by
  intro L ρ fv vals kvs e1 e2 e3
  cases ab_bi e1
  obtain ⟨x, rfl, ex⟩ := vals1 e2
  obtain ⟨t, rfl⟩ := ab_int ex
  have : kvs = [] := by simpa using e3
  subst this
  intro s hs
  exact call_abs_int fun u tk => ⟨ρ, H, hs, .toks, rfl, h⟩
theorem WCall.count {a : Addr} {ns : List Int} {k : Int} {Q : V → AH → Prop} (hH : H a = some (.list (vints ns))) (h : Q (.int (ns.count k : Nat)) H) : WCall C A (.bi "list.count") [.ref a, .int k] [] H Q := by
  intro L ρ fv vals kvs e1 e2 e3
  cases ab_bi e1
  obtain ⟨x, y, rfl, ex, ey⟩ := vals2 e2
  cases ab_ref ex
  obtain ⟨u, rfl⟩ := ab_int ey
  have : kvs = [] := by simpa using e3
  subst this
  intro s hs
  obtain ⟨xs, h1, h2, h3⟩ := hs.list hH rfl
  exact count_list_ints (vs := xs.toList) (by simpa using h1) (intsAre_of h2) ⟨ρ, H, hs, .toks, rfl, h⟩
end
end Mine

namespace Mine
open PySem PySem.W PyProof.Rows

/-! ## forgetting tracked objects at the end -/
def AH.le (H H' : AH) : Prop := ∀ a o, H a = some o → H' a = some o
theorem AH.le_refl (H : AH) : H.le H := fun _ _ e => e
theorem AH.le_trans {H H' H'' : AH} (x : H.le H') (y : H'.le H'') : H.le H'' := fun a o e => y a o (x a o e)
theorem AH.none_of_le {H H' : AH} (x : H.le H') {a : Addr} (e : H' a = none) : H a = none := by
  cases q : H a with
  | none => rfl
  | some o => have := x a o q; rw [e] at this; cases this
theorem AH.le_set {H H' : AH} (x : H.le H') {a : Addr} {o : O} (e : H a = none) : H.le (H'.set a o) := fun b o' eb => by
  by_cases q : b = a
  · subst q; rw [e] at eb; cases eb
  · rw [AH.set_ne _ _ q]; exact x b o' eb
theorem AH.set_le_set {H H' : AH} (x : H.le H') {a : Addr} {o : O} : (H.set a o).le (H'.set a o) := fun b o' eb => by
  by_cases q : b = a
  · subst q; rw [AH.set_same] at eb ⊢; exact eb
  · rw [AH.set_ne _ _ q] at eb ⊢; exact x b o' eb
theorem AH.get_of_set {H : AH} {a b : Addr} {o o' : O} (e : H b = some o') (ha : H a = none) : (H.set a o) b = some o' := by
  rw [AH.set_ne _ _ (fun q => by rw [q, ha] at e; cases e)]; exact e
theorem AH.none_of_set {H : AH} {a b : Addr} {o : O} (e : (H.set a o) b = none) : H b = none ∧ b ≠ a := by
  by_cases q : b = a
  · subst q; rw [AH.set_same] at e; cases e
  · rw [AH.set_ne _ _ q] at e; exact ⟨e, q⟩

section
variable {C : Cx} {A : Around} {env : Env} {ρ : Lo} {H : AH}
theorem St.le {L : Addr} {H H' : AH} {h : Heap} (x : H.le H') (y : St C L ρ H' h) : St C L ρ H h :=
  ⟨y.keep, fun a o e => y.rep a o (x a o e), fun a o e => y.own a o (x a o e), y.loc, AH.none_of_le x y.nl, y.bl⟩
theorem Post.drop {α : Type} {L : Addr} {s s' : Shared} {Q : α → Lo → AH → Prop} {a : α} (h : Post C L H s (fun a ρ' H' => ∃ H0, AH.le H0 H' ∧ Q a ρ' H0) a s') : Post C L H s Q a s' := by
  obtain ⟨ρ', H', x, y, H0, le, q⟩ := h
  exact ⟨ρ', H0, x.le le, ⟨y.same, y.kept, fun b o e eb => AH.none_of_le le (y.new b o e eb), y.live⟩, q⟩
theorem W.drop {α : Type} {L : Addr} {t : Sem α} {Q : α → Lo → AH → Prop} (h : W C A L t ρ H (fun a ρ' H' => ∃ H0, AH.le H0 H' ∧ Q a ρ' H0)) : W C A L t ρ H Q := fun s hs =>
  wpAny_mono (h s hs) (fun _ _ q => q.drop) fun _ _ e => e
theorem WE.drop {e : Expr} {Q : V → AH → Prop} (h : WE C A env e ρ H (fun v H' => ∃ H0, AH.le H0 H' ∧ Q v H0)) : WE C A env e ρ H Q :=
  W.drop (W.mono h fun _ _ _ ⟨a, H0, b, c⟩ => ⟨H0, b, a, c⟩)
theorem WT.drop {e : Expr} {Q : Bool → AH → Prop} (h : WT C A env e ρ H (fun v H' => ∃ H0, AH.le H0 H' ∧ Q v H0)) : WT C A env e ρ H Q :=
  W.drop (W.mono h fun _ _ _ ⟨a, H0, b, c⟩ => ⟨H0, b, a, c⟩)
theorem WS.drop {e : List Stmt} {Q : Fl → Lo → AH → Prop} (h : WS C A env e ρ H (fun v ρ' H' => ∃ H0, AH.le H0 H' ∧ Q v ρ' H0)) : WS C A env e ρ H Q := W.drop h
theorem W1.drop {e : Stmt} {Q : Fl → Lo → AH → Prop} (h : W1 C A env e ρ H (fun v ρ' H' => ∃ H0, AH.le H0 H' ∧ Q v ρ' H0)) : W1 C A env e ρ H Q := W.drop h
theorem WCall.drop {f : V} {args : List V} {kw : List (Str × V)} {Q : V → AH → Prop} (h : WCall C A f args kw H (fun v H' => ∃ H0, AH.le H0 H' ∧ Q v H0)) : WCall C A f args kw H Q := fun L ρ fv vals kvs e1 e2 e3 =>
  W.drop (W.mono (h L ρ fv vals kvs e1 e2 e3) fun _ _ _ ⟨a, H0, b, c⟩ => ⟨H0, b, a, c⟩)
theorem WS.less {e : List Stmt} {Q : Fl → Lo → AH → Prop} {H₀ : AH} (x : H₀.le H) (h : WS C A env e ρ H₀ Q) : WS C A env e ρ H Q := W.weaken x h
theorem WE.less {e : Expr} {Q : V → AH → Prop} {H₀ : AH} (x : H₀.le H) (h : WE C A env e ρ H₀ Q) : WE C A env e ρ H Q := W.weaken x h
theorem WCall.less {f : V} {args : List V} {kw : List (Str × V)} {Q : V → AH → Prop} {H₀ : AH} (x : H₀.le H) (h : WCall C A f args kw H₀ Q) : WCall C A f args kw H Q := fun L ρ fv vals kvs e1 e2 e3 => W.weaken x (h L ρ fv vals kvs e1 e2 e3)

theorem WEs.nil {Q : List V → AH → Prop} (h : Q [] H) : WEs C A env [] ρ H Q := h
theorem WEs.cons {e : Expr} {es : List Expr} {Q : List V → AH → Prop} (h : WE C A env e ρ H (fun v H1 => WEs C A env es ρ H1 (fun vs H2 => Q (v :: vs) H2))) : WEs C A env (e :: es) ρ H Q := h

/-! ## the call from the top -/
theorem top_call {a : Addr} {o : Obj} {fd : FuncData} {body : List Stmt} {vals : List Value} {bs : List (Str × V)} {Q : V → AH → Prop} {s : Shared} (hbase : C.base = s.heap) (hrep : ∀ a o, H a = some o → ∃ c, s.heap.get? a = some c ∧ Rep o c) (hown : ∀ a o, H a = some o → o.mut = false)
    (ho : s.heap.get? a = some o) (hd : o.data = .func fd) (hdep : A.depth < recursionLimit)
    (hb : fd.body = .stmts body) (hclo : fd.closure = []) (hcd : s.heap.CodeRec fd.code fd.qualname)
    {binds : List (Str × Value)} (hbt : bindArgs fd ⟨vals, []⟩ = pure binds) (hbs : binds.map (fun p => (p.1, ab p.2)) = bs)
    (hkind : (bs.all fun y => fd.scope.names.lookup y.1 == some .local || fd.scope.names.lookup y.1 == some .cell) = true)
    (hnd : ((cellsFrom 0 fd.scope.names []).map (·.1)).Nodup)
    (lm cm : Str → Option V) (hlm : ∀ L x, (bindL (callEnvC fd L a).kindOf binds (fun _ => none) x).map ab = lm x) (hcm : ∀ L x, (bindC (callEnvC fd L a).kindOf binds (fun _ => none) x).map ab = cm x)
    (h : ∀ L, H L = none → (∀ p ∈ cellsFrom (L + 1) fd.scope.names [], H p.2 = none ∧ p.2 ≠ L) → WS C (A.deeper (callEnvC fd L a)) (callEnvC fd L a) body lm (cellH cm (cellsFrom (L + 1) fd.scope.names []) H) (fun f _ H' => Q (retv f) H'))
    (hco : fd.scope.isCoroutine = false := by rfl) (hgen : fd.scope.isGenerator = false := by rfl) (hk : fd.scope.kind = .function := by rfl) :
    wpAny C.M A (call (.ref a) vals []) (fun v s' => (∃ H', Q (ab v) H') ∧ (∀ b o, s.heap.get? b = some o → s'.heap.get? b = some o) ∧ s'.gens = s.gens ∧ s'.os = s.os) False2 s := by
  have hnone := get?_size_none s.heap
  have hHn : ∀ b, s.heap.get? b = none → H b = none := fun b e => by
    cases q : H b with
    | none => rfl
    | some o => obtain ⟨c, e1, _⟩ := hrep b o q; rw [e] at e1; cases e1
  have hkind' : ∀ n, ∀ x ∈ binds, fd.scope.names.lookup x.1 = some .local ∨ (fd.scope.names.lookup x.1 = some .cell ∧ ((cellsFrom n fd.scope.names []).lookup x.1).isSome = true) := fun n x hx => by
    have := kindsX (scope := fd.scope) (binds := binds) (by
      rw [List.all_eq_true]; intro y hy
      exact List.all_eq_true.mp hkind (y.1, ab y.2) (by rw [← hbs]; exact List.mem_map.mpr ⟨y, hy, rfl⟩)) n x hx
    exact this
  refine wpAny_call (codeAny_call_cells hdep ho hd (by have := C.lim; rw [hbase] at this; exact this) hcd hb hbt hclo (hkind' _) (fun s₁ X => ?_) hco hgen hk)
  have hnames : ∀ (n : Nat) (names : List (Str × NameKind)) (acc : List (Str × Addr)) (p : Str × Addr), p ∈ cellsFrom n names acc → p ∈ acc ∨ n ≤ p.2 := by
    intro n names
    induction names generalizing n with
    | nil => intro acc p hp; exact .inl hp
    | cons x r ih =>
      intro acc p hp
      obtain ⟨nm, k⟩ := x
      unfold cellsFrom at hp
      split at hp
      · rcases ih (n + 1) _ p hp with q | q
        · rcases List.mem_cons.mp q with rfl | q
          · exact .inr (Nat.le_refl _)
          · exact .inl q
        · exact .inr (by omega)
      · exact ih n acc p hp
  have habove : ∀ p ∈ cellsFrom (s.heap.objs.size + 1) fd.scope.names [], s.heap.objs.size < p.2 := fun p hp => by
    rcases hnames _ _ _ p hp with q | q
    · cases q
    · omega
  have hfresh : ∀ p ∈ cellsFrom (s.heap.objs.size + 1) fd.scope.names [], s.heap.get? p.2 = none := fun p hp => by
    cases e : s.heap.get? p.2 with
    | none => rfl
    | some o => exact absurd (Heap.lt_size e) (Nat.lt_asymm (habove p hp))
  have same_names : ∀ (n n' : Nat) (names : List (Str × NameKind)) (acc acc' : List (Str × Addr)), acc.map (·.1) = acc'.map (·.1) → (cellsFrom n names acc).map (·.1) = (cellsFrom n' names acc').map (·.1) := by
    intro n n' names
    induction names generalizing n n' with
    | nil => intro acc acc' e; exact e
    | cons x r ih =>
      intro acc acc' e
      obtain ⟨nm, k⟩ := x
      unfold cellsFrom
      split
      · exact ih _ _ _ _ (by simp [e])
      · exact ih _ _ _ _ e
  have hnd' : ((cellsFrom (s.heap.objs.size + 1) fd.scope.names []).map (·.1)).Nodup := by rw [same_names _ 0 _ _ [] rfl]; exact hnd
  have lookup_mem : ∀ {cs : List (Str × Addr)}, (cs.map (·.1)).Nodup → ∀ n c, (n, c) ∈ cs → cs.lookup n = some c := by
    intro cs
    induction cs with
    | nil => intro _ n c hm; cases hm
    | cons p r ih =>
      intro hn n c hm
      obtain ⟨pn, pc⟩ := p
      simp only [List.map_cons, List.nodup_cons] at hn
      rcases List.mem_cons.mp hm with e | hm
      · cases e; simp [List.lookup_cons]
      · have hne : n ≠ pn := fun q => hn.1 (q ▸ List.mem_map.mpr ⟨(n, c), hm, rfl⟩)
        rw [List.lookup_cons, beq_false_of_ne hne]; exact ih hn.2 n c hm
  obtain ⟨⟨⟨h1, tk1, rfl⟩, hns, hkeep, hab⟩, hcell, hap, hgt⟩ := X
  have hst : St C s.heap.objs.size lm (cellH cm (cellsFrom (s.heap.objs.size + 1) fd.scope.names []) H) h1 := by
    refine ⟨fun b o e => hkeep _ _ (by rw [hbase] at e; exact e), fun b o e => ?_, fun b o e hm => ?_, ⟨_, hns, fun x => hlm _ x⟩, ?_, by rw [hbase]; exact hnone⟩
    · rcases cellH_some e with ⟨n, hm, rfl⟩ | e
      · obtain ⟨oc, ho, hd⟩ := hcell n b (lookup_mem hnd' n b hm)
        exact ⟨oc, ho, _, hd, hcm _ n⟩
      · obtain ⟨c, e1, e2⟩ := hrep b o e; exact ⟨c, hkeep _ _ e1, e2⟩
    · rcases cellH_some e with ⟨n, hm', rfl⟩ | e
      · rw [hbase]; exact hfresh _ hm'
      · have := hown b o e; rw [hm] at this; cases this
    · rw [cellH_get (fun p hp q => Nat.ne_of_gt (habove p hp) q)]; exact hHn _ hnone
  refine wpAny_mono (h s.heap.objs.size (hHn _ hnone) (fun p hp => ⟨hHn _ (hfresh p hp), Nat.ne_of_gt (habove p hp)⟩) { s with heap := h1, toks := tk1 } hst) (fun f s' ⟨ρ', H', x, y, z⟩ => ?_) fun _ _ e => e.elim
  obtain ⟨h', tk', e⟩ := y.same
  have e1 : (∃ H', Q (ab (match f with | .ret v => v | _ => .none)) H') := ⟨H', by cases f <;> exact z⟩
  have e2 : ∀ b o, s.heap.get? b = some o → s'.heap.get? b = some o := fun b o e => x.keep b o (by rw [hbase]; exact e)
  have e3 : s'.gens = s.gens ∧ s'.os = s.os := by rw [e]; exact ⟨rfl, rfl⟩
  exact ⟨by cases f <;> exact e1, e2, e3.1, e3.2⟩
end
end Mine

namespace Mine
open PySem PySem.W PyProof.Rows

def aL (k : Str → Option NameKind) : List (Str × V) → Lo → Lo
  | [], m => m
  | (n, v) :: r, m => aL k r (if k n = some .local then fun y => if y = n then some v else m y else m)
def aC (k : Str → Option NameKind) : List (Str × V) → Lo → Lo
  | [], m => m
  | (n, v) :: r, m => aC k r (if k n = some .local then m else fun y => if y = n then some v else m y)
theorem bindL_ab {k : Str → Option NameKind} : ∀ {binds : List (Str × Value)} {m : Str → Option Value} {m' : Lo}, (∀ x, (m x).map ab = m' x) → ∀ x, (bindL k binds m x).map ab = aL k (binds.map fun p => (p.1, ab p.2)) m' x
  | [], _, _, h, x => h x
  | (n, v) :: r, m, m', h, x => by
    rw [List.map_cons, bindL, aL]
    refine bindL_ab (fun y => ?_) x
    split
    · show Option.map ab (if y = n then some v else m y) = if y = n then some (ab v) else m' y
      split
      · rfl
      · exact h y
    · exact h y
theorem bindC_ab {k : Str → Option NameKind} : ∀ {binds : List (Str × Value)} {m : Str → Option Value} {m' : Lo}, (∀ x, (m x).map ab = m' x) → ∀ x, (bindC k binds m x).map ab = aC k (binds.map fun p => (p.1, ab p.2)) m' x
  | [], _, _, h, x => h x
  | (n, v) :: r, m, m', h, x => by
    rw [List.map_cons, bindC, aC]
    refine bindC_ab (fun y => ?_) x
    split
    · exact h y
    · show Option.map ab (if y = n then some v else m y) = if y = n then some (ab v) else m' y
      split
      · rfl
      · exact h y

section
variable {C : Cx} {A : Around} {env : Env} {ρ : Lo} {H : AH}
def kinds (fd : FuncData) (x : Str) : Option NameKind := fd.scope.names.lookup x
theorem WCall.fn {a : Addr} {o : Obj} {fd : FuncData} {body : List Stmt} {args : List V} {bs : List (Str × V)} {Q : V → AH → Prop} (hfn : FnAt C H a o fd) (hdep : A.depth < recursionLimit)
    (hb : fd.body = .stmts body) (hclo : fd.closure = []) (hcd : ∀ h : Heap, (∀ b o, C.base.get? b = some o → h.get? b = some o) → h.CodeRec fd.code fd.qualname)
    (hbind : ∀ vals, vals.map ab = args → ∃ binds, bindArgs fd ⟨vals, []⟩ = pure binds ∧ binds.map (fun p => (p.1, ab p.2)) = bs)
    (hkind : (bs.all fun y => fd.scope.names.lookup y.1 == some .local || fd.scope.names.lookup y.1 == some .cell) = true)
    (hnd : ((cellsFrom 0 fd.scope.names []).map (·.1)).Nodup)
    (h : ∀ L, H L = none → (∀ p ∈ cellsFrom (L + 1) fd.scope.names [], H p.2 = none ∧ p.2 ≠ L) → WS C (A.deeper (callEnvC fd L a)) (callEnvC fd L a) body (aL (kinds fd) bs fun _ => none) (cellH (aC (kinds fd) bs fun _ => none) (cellsFrom (L + 1) fd.scope.names []) H) (fun f _ H' => Q (retv f) H'))
    (hco : fd.scope.isCoroutine = false := by rfl) (hgen : fd.scope.isGenerator = false := by rfl) (hk : fd.scope.kind = .function := by rfl) : WCall C A (.ref a) args [] H Q :=
  WCall.defC hfn hdep hb hclo hcd hbind hkind hnd (aL (kinds fd) bs fun _ => none) (aC (kinds fd) bs fun _ => none) (fun L binds e x => by rw [← e]; exact bindL_ab (fun _ => rfl) x) (fun L binds e x => by rw [← e]; exact bindC_ab (fun _ => rfl) x) h hco hgen hk
theorem top_fn {a : Addr} {o : Obj} {fd : FuncData} {body : List Stmt} {vals : List Value} {bs : List (Str × V)} {Q : V → AH → Prop} {s : Shared} (hbase : C.base = s.heap) (hrep : ∀ a o, H a = some o → ∃ c, s.heap.get? a = some c ∧ Rep o c) (hown : ∀ a o, H a = some o → o.mut = false)
    (ho : s.heap.get? a = some o) (hd : o.data = .func fd) (hdep : A.depth < recursionLimit)
    (hb : fd.body = .stmts body) (hclo : fd.closure = []) (hcd : s.heap.CodeRec fd.code fd.qualname)
    {binds : List (Str × Value)} (hbt : bindArgs fd ⟨vals, []⟩ = pure binds) (hbs : binds.map (fun p => (p.1, ab p.2)) = bs)
    (hkind : (bs.all fun y => fd.scope.names.lookup y.1 == some .local || fd.scope.names.lookup y.1 == some .cell) = true)
    (hnd : ((cellsFrom 0 fd.scope.names []).map (·.1)).Nodup)
    (h : ∀ L, H L = none → (∀ p ∈ cellsFrom (L + 1) fd.scope.names [], H p.2 = none ∧ p.2 ≠ L) → WS C (A.deeper (callEnvC fd L a)) (callEnvC fd L a) body (aL (kinds fd) bs fun _ => none) (cellH (aC (kinds fd) bs fun _ => none) (cellsFrom (L + 1) fd.scope.names []) H) (fun f _ H' => Q (retv f) H'))
    (hco : fd.scope.isCoroutine = false := by rfl) (hgen : fd.scope.isGenerator = false := by rfl) (hk : fd.scope.kind = .function := by rfl) :
    wpAny C.M A (call (.ref a) vals []) (fun v s' => (∃ H', Q (ab v) H') ∧ (∀ b o, s.heap.get? b = some o → s'.heap.get? b = some o) ∧ s'.gens = s.gens ∧ s'.os = s.os) False2 s :=
  top_call hbase hrep hown ho hd hdep hb hclo hcd hbt hbs hkind hnd (aL (kinds fd) bs fun _ => none) (aC (kinds fd) bs fun _ => none) (fun L x => by rw [← hbs]; exact bindL_ab (fun _ => rfl) x) (fun L x => by rw [← hbs]; exact bindC_ab (fun _ => rfl) x) h hco hgen hk

/-! sums, counts, shorter -/
theorem slc_take (vs : List V) (k : Nat) (h : k ≤ vs.length) : slc none (some (k : Int)) vs = vs.take k := by
  unfold slc
  simp [clipAt]
  omega
theorem slc_drop (vs : List V) (k : Nat) : slc (some (k : Int)) none vs = vs.drop k := by
  unfold slc
  rcases Nat.lt_or_ge vs.length k with h | h
  · have e : ((clipAt vs.length (k : Int)) : Nat) = vs.length := by simp [clipAt]; omega
    rw [show (some (k : Int)).elim 0 (clipAt vs.length) = vs.length from e, List.drop_of_length_le (Nat.le_refl _), List.drop_of_length_le (Nat.le_of_lt h)]; simp
  · have e : ((clipAt vs.length (k : Int)) : Nat) = k := by simp [clipAt]; omega
    rw [show (some (k : Int)).elim 0 (clipAt vs.length) = k from e]
    exact List.take_of_length_le (by simp)
theorem slc_dropLast (vs : List V) : slc none (some (-1)) vs = vs.dropLast := by
  unfold slc
  have e : ((clipAt vs.length (-1)) : Nat) = vs.length - 1 := by simp [clipAt]; omega
  rw [show (some (-1 : Int)).elim vs.length (clipAt vs.length) = vs.length - 1 from e]; simp [List.dropLast_eq_take]
theorem Ev.sum {e : Expr} {p pos : Pos} {a : Addr} {o : O} {ns : List Int} {id : Str} (F : Fx C A env) (hf : Ev C A env ρ H (.Name id p) (.bi "sum")) (h : Ev C A env ρ H e (.ref a)) (hH : H a = some o) (hl : lst o = some (vints ns)) (hn : noStar [e] = true := by rfl) : Ev C A env ρ H (.Call (.Name id p) [e] [] pos) (.int ns.sum) :=
  WE.ev (WE.callBi hf (WEs.of (.cons h .nil) (WKs.nil (WCall.sum F.hh hH hl ⟨rfl, rfl⟩))) hn)
theorem Ev.sumTake {e k : Expr} {p pos p1 p2 : Pos} {a : Addr} {o : O} {ns : List Int} {n : Nat} {id : Str} (F : Fx C A env) (hf : Ev C A env ρ H (.Name id p) (.bi "sum")) (h : Ev C A env ρ H e (.ref a)) (hk : Ev C A env ρ H k (.int n)) (hH : H a = some o) (hl : lst o = some (vints ns)) (hn : n ≤ ns.length) :
    Ev C A env ρ H (.Call (.Name id p) [.Subscript e (.Slice Option.none (some k) Option.none p1) p2] [] pos) (.int (ns.take n).sum) := by
  refine WE.ev (WE.drop (WE.callBi hf (WEs.cons (WE.slice (lo := Option.none) (hi := some (n : Int)) (WE.of h ⟨a, o, vints ns, rfl, hH, hl, .none, .some hk, fun c hc => WEs.nil (WKs.nil (WCall.sum F.hh (AH.set_same ..) (ns := ns.take n) ?_ ⟨H, AH.le_set (AH.le_refl _) hc, rfl, rfl⟩))⟩)))))
  show some _ = some _
  rw [slc_take _ _ (by simpa [vints] using hn)]
  simp [vints]
theorem WE.callB {id : Str} {p pos : Pos} {a : Addr} {o : Obj} {fd : FuncData} {es : List Expr} {ks : List Keyword} {Q : V → AH → Prop} (hfn : ∀ H, FnAt C H a o fd) (hf : Ev C A env ρ H (.Name id p) (.ref a))
    (h : WEs C A env es ρ H (fun vs H1 => WKs C A env ks ρ H1 (fun kv H2 => WCall C A (.ref a) vs kv H2 Q))) (hn : noStar es = true := by rfl) (hk : ks.all (·.arg.isSome) = true := by rfl) :
    WE C A env (.Call (.Name id p) es ks pos) ρ H Q := WE.callFn (o := o) (fd := fd) hf (WEs.mono h fun vs H1 q => by
      have : ∀ {ks : List Keyword} {H1 : AH} {Q Q' : List (Str × V) → AH → Prop}, (∀ kv H2, Q kv H2 → Q' kv H2) → WKs C A env ks ρ H1 Q → WKs C A env ks ρ H1 Q' := by
        intro ks
        induction ks with
        | nil => intro H1 Q Q' hq h; exact hq _ _ h
        | cons k ks ih =>
          intro H1 Q Q' hq h
          obtain ⟨arg, value⟩ := k
          cases arg with
          | none => exact h
          | some n => exact WE.mono h fun v H2 h => ih (fun kv H3 q => hq _ _ q) h
      exact this (fun kv H2 q => ⟨hfn H2, q⟩) q) hn hk
theorem Ev.as {e : Expr} {v v' : V} (h : Ev C A env ρ H e v) (hv : v = v') : Ev C A env ρ H e v' := hv ▸ h
theorem Fx.comp {scope : Scope} {cl : List (Str × Addr)} {Cn : Addr} (F : Fx C A env) (h : scope.kind = .function) : Fx C A (compEnvC scope cl Cn env) := ⟨h, F.gl, F.bu, F.hh⟩
/-- a list that is made of numbers in turn -/
theorem comp_range {n : Nat} {f : Nat → V} {elt : Expr} {x : Str} {pos : Pos} {Ok : Nat → AH → Prop} {P : Nat → AH → Dv → Prop} {g : Nat → V} {Q : AH → List V → Prop} (F : Fx C A env) (hx : env.kindOf x = some .local)
    (hOk : ∀ i, Ok i H) (hP : ∀ i d, P i H d → d = .one (g i)) (hn : n ≤ sizeLine) (he : ∀ i (ρ : Lo), i < n → ρ x = some (g i) → Ev C A env ρ H elt (f i)) (hQ : Q H ((List.range n).map f)) :
    LoopOk C A env elt (.Name x pos) [] [] H n Ok P (fun _ => none) [] (fun _ H2 zs => Q H2 zs) := by
  refine ⟨fun i ρ1 H1 zs => H1 = H ∧ zs = (List.range i).map f, ⟨rfl, rfl⟩, ?_, ?_⟩
  · rintro i ρ1 H1 zs hi ⟨rfl, rfl⟩
    refine ⟨hOk i, fun d hd => ?_⟩
    rw [hP i d hd]
    refine Asg.local F hx ⟨fun _ => ?_, fun e => by cases e⟩
    exact WE.of (he i _ hi (Lo.set_same ..)) ⟨by simp; omega, rfl, by rw [List.range_succ]; simp⟩
  · rintro ρ1 H1 zs ⟨rfl, rfl⟩
    exact ⟨hOk n, hQ⟩
end
end Mine

namespace Mine
open PySem PySem.W PyProof.Rows

/-! ## the top -/
theorem gl_own {C : Cx} {K : Frag} {x : Str} {v : Value} (hK : K.In C.base) (e : nsIn K mainGlobals x = some (some v)) : C.gl x = some v := by
  unfold Cx.gl; rw [mg_of hK C.hg e]
theorem gl_boot {C : Cx} {K : Frag} {x : Str} {v : Value} (hK : K.In C.base) (e : nsIn K mainGlobals x = some none) (hb : C.mb x = some v) : C.gl x = some v := by
  unfold Cx.gl; rw [ns_none_of hK C.hg e]; exact hb
theorem ints_of : ∀ {vs : List Value} {ns : List Int}, IntsAre vs ns → vs.map ab = vints ns
  | _, _, .nil => rfl
  | _, _, .cons _ _ h => by
    rw [List.map_cons, ints_of h]; rfl
theorem law_end {r : RowW} {cl : Str → Option Addr} {mean : ExcName → Option Value} {args : List WData} {s₁ s' : Shared} (hr : r.raises = []) (hp : r.claim.post args (.bool true) args = true)
    (hk : ∀ b o, s₁.heap.get? b = some o → s'.heap.get? b = some o) (hg : s'.gens = #[]) (hos : s'.os = s₁.os) : GoodWG r.claim cl mean args s₁ (.ok (.ret (.bool true))) s' :=
  GoodW.toG ⟨.inl ⟨.bool true, .bool true, [], rfl, raisesW_false (by rw [hr]; exact allW_false_nil), .bool true, hp, unshared_nil⟩, hk, hos, hg⟩
theorem addr_ne (L i j : Nat) (h : (i == j) = false) : L + i ≠ L + j := by
  have : i ≠ j := by simpa using h
  omega
def bodyOf (fd : FuncData) : List Stmt := match fd.body with
  | .stmts b => b
  | _ => []
def fdOf (K : Frag) (a : Addr) : FuncData := match K.lookup a with
  | some ⟨_, _, .func fd, _⟩ => fd
  | _ => default
theorem noCell {l : List (Str × NameKind)} (h : l.all (fun x => x.2 != .cell) = true) : ∀ x ∈ l, x.2 ≠ .cell := fun x hx q => by
  have := List.all_eq_true.mp h x hx
  rw [q] at this
  exact absurd this (by decide)
theorem allLocal {l : List (Str × NameKind)} {bs : List (Str × V)} (h : bs.all (fun x => l.lookup x.1 == some .local) = true) : ∀ x ∈ bs, l.lookup x.1 = some .local := fun x hx => by
  simpa using List.all_eq_true.mp h x hx
theorem fn_in {C : Cx} {H : AH} {K : Frag} (hK : K.In C.base) (a : Addr) (h : K.lookup a = some ⟨.type "function", none, .func (fdOf K a), #[]⟩) : FnAt C H a ⟨.type "function", none, .func (fdOf K a), #[]⟩ (fdOf K a) := ⟨rfl, .inl (hK a _ h)⟩
end Mine

namespace Mine
open PySem PySem.W PyProof.Rows

section
variable {C : Cx} {A : Around} {env : Env} {ρ : Lo} {H : AH}

/-! ## a list changed, given by the ledger -/
theorem upd_map {D : Addr} {o o' : Obj} : ∀ {l : List (Addr × Obj)}, l.Pairwise (fun p q => p.1 ≠ q.1) → (D, o) ∈ l → Upd D o o' l (l.map fun p => if p.1 = D then (D, o') else p)
  | [], _, h => by cases h
  | p :: r, hp, h => by
    obtain ⟨h1, h2⟩ := List.pairwise_cons.mp hp
    rw [List.map_cons]
    by_cases q : p.1 = D
    · have hp : p = (D, o) := by
        rcases List.mem_cons.mp h with e | e
        · exact e.symm
        · exact absurd q (h1 _ e)
      subst hp
      have hr : ∀ x ∈ r, x.1 ≠ D := fun x hx => Ne.symm (h1 x hx)
      rw [if_pos rfl]
      have : (r.map fun p => if p.1 = D then (D, o') else p) = r := by
        conv => rhs; rw [← List.map_id r]
        exact List.map_congr_left fun x hx => by rw [if_neg (hr x hx)]; rfl
      rw [this]
      exact .head hr
    · rw [if_neg q]
      have : (D, o) ∈ r := by
        rcases List.mem_cons.mp h with e | e
        · rw [← e] at q; exact absurd rfl q
        · exact e
      exact .tail q (upd_map h2 this)
theorem allNews_keys (h : Heap) (L : Addr) : (allNews h L).Pairwise (fun p q => p.1 ≠ q.1) := by
  unfold allNews
  refine List.Pairwise.filterMap _ ?_ (List.nodup_range (n := h.objs.size))
  intro a a' hne b hb b' hb'
  have key : ∀ {a : Addr} {b : Addr × Obj}, (if a = L then none else (h.get? a).map fun o => (a, o)) = some b → b.1 = a := by
    intro a b e
    split at e
    · cases e
    · cases hg : h.get? a with
      | none => rw [hg] at e; cases e
      | some o => rw [hg] at e; cases e; rfl
  rw [key hb, key hb']; exact hne
/-- what the ledger says behind a change -/
theorem upd_all {L D : Addr} {h : Heap} {o o' : Obj} (hD : D ≠ L) (ho : h.get? D = some o) : ∃ news', Upd D o o' (allNews h L) news' ∧ ∀ h', News noHeap L h' news' → h'.get? D = some o' ∧ ∀ b ob, b ≠ L → b ≠ D → h.get? b = some ob → h'.get? b = some ob := by
  refine ⟨_, upd_map (allNews_keys h L) (mem_allNews ho hD), fun h' N => ⟨?_, fun b ob hb hbD e => ?_⟩⟩
  · exact (N (D, o') (List.mem_map.mpr ⟨(D, o), mem_allNews ho hD, by simp⟩)).1
  · exact (N (b, ob) (List.mem_map.mpr ⟨(b, ob), mem_allNews e hb, by simp [hbD]⟩)).1
theorem St.upd_fr {L a : Addr} {h h' : Heap} {c : Obj} {o₀ o : O} {m : Str → Option Value} (x : St C L ρ H h) (F : Fr noHeap L h' m) (hm : ∀ x, (m x).map ab = ρ x) (hH : H a = some o₀) (hmut : o₀.mut = true) (hc : h'.get? a = some c) (hr : Rep o c) (k : ∀ b o, b ≠ L → b ≠ a → h.get? b = some o → h'.get? b = some o) : St C L ρ (H.set a o) h' where
  keep := fun b o e => k _ _ (fun q => by rw [q, x.bl] at e; cases e) (fun q => by rw [q, x.own a o₀ hH hmut] at e; cases e) (x.keep b o e)
  rep := fun b o' e => by
    by_cases q : b = a
    · subst q; rw [AH.set_same] at e; cases e; exact ⟨c, hc, hr⟩
    · rw [AH.set_ne _ _ q] at e; obtain ⟨c, e1, e2⟩ := x.rep b o' e; exact ⟨c, k _ _ (fun q => by rw [q, x.nl] at e; cases e) q e1, e2⟩
  own := fun b o' e hm' => by
    by_cases q : b = a
    · subst q; exact x.own _ _ hH hmut
    · rw [AH.set_ne _ _ q] at e; exact x.own b o' e hm'
  loc := ⟨m, F.ns, hm⟩
  nl := by rw [AH.set_ne _ _ (fun q => by rw [← q, x.nl] at hH; cases hH)]; exact x.nl
  bl := x.bl
theorem Step.upd_fr {L a : Addr} {s : Shared} {h' : Heap} {tk : Nat} {c : Obj} {o₀ o : O} {m : Str → Option Value} (F : Fr noHeap L h' m) (hH : H a = some o₀) (hc : h'.get? a = some c) (k : ∀ b o, b ≠ L → b ≠ a → s.heap.get? b = some o → h'.get? b = some o) : Step L H (H.set a o) s { s with heap := h', toks := tk } :=
  ⟨⟨_, _, rfl⟩, fun b o e hb hL => k b o hL (fun q => by rw [q, hH] at hb; cases hb) e, fun b o e hb => by rw [AH.set_ne _ _ (fun q => by rw [q, hH] at hb; cases hb)]; exact hb, fun b o e => by
    by_cases q : b = a
    · subst q; exact ⟨c, hc⟩
    · by_cases ql : b = L
      · subst ql; obtain ⟨o', _, _, ho, _⟩ := F.ns; exact ⟨o', ho⟩
      · exact ⟨o, k b o ql q e⟩⟩
theorem St.at {L D : Addr} {h : Heap} {vs : List V} (hs : St C L ρ H h) (hH : H D = some (.list vs)) : ∃ its n, h.get? D = some (listOf its n) ∧ its.toList.map ab = vs ∧ vs.length ≤ sizeLine ∧ D ≠ L := by
  obtain ⟨c, e1, xs, n, rfl, e2, e3⟩ := hs.rep _ _ hH
  exact ⟨xs, n, e1, e2, e3, fun q => by rw [q, hs.nl] at hH; cases hH⟩

/-! ## methods -/
theorem ab_nil {kvs : List (Str × Value)} (h : kvs.map (fun p => (p.1, ab p.2)) = []) : kvs = [] := by simpa using h
theorem WCall.insert {a : Addr} {vs : List V} {k : Nat} {v : V} {Q : V → AH → Prop} (hH : H a = some (.list vs)) (hk : k ≤ vs.length) (hz : vs.length < sizeLine) (h : Q .none (H.set a (.list (vs.take k ++ v :: vs.drop k)))) :
    WCall C A (.bi "list.insert") [.ref a, .int k, v] [] H Q := by
  intro L ρ fv vals kvs e1 e2 e3
  cases ab_bi e1
  obtain ⟨x, y, z, rfl, ex, ey, ez⟩ := vals3 e2
  cases ab_ref ex
  obtain ⟨t, rfl⟩ := ab_int ey
  cases ab_nil e3
  intro s hs
  obtain ⟨its, n, ho, hi, hsz, hL⟩ := hs.at hH
  obtain ⟨m, F, hm⟩ := hs.fr
  have hlen : its.toList.length = vs.length := by rw [← hi]; simp
  have hsl : (sizeLine : Int) < 2 ^ 62 := by decide
  obtain ⟨news', U, hU⟩ := upd_all (o' := listOf (its.toList.take k ++ z :: its.toList.drop k).toArray (n + 1)) hL ho
  refine kl_insert F (news_all _ _) (l := its.toList.take k ++ z :: its.toList.drop k) ?_ ?_ U (by rw [hlen]; exact hsz) (fun h' F' N' => ?_)
  · unfold Builtin.List.listFitsIndex; simp; omega
  · unfold kl_ins
    rw [if_neg (by omega), hlen, Int.toNat_natCast, Nat.min_eq_left hk]
  · obtain ⟨k1, k2⟩ := hU h' N'
    refine ⟨_, _, hs.upd_fr F' hm hH rfl k1 (o := .list (vs.take k ++ v :: vs.drop k)) ⟨_, _, rfl, ?_, ?_⟩ k2, .upd_fr F' hH k1 k2, rfl, h⟩
    · rw [List.toList_toArray]; simp [← hi, ez]
    · simp; omega
theorem WCall.extend {a b : Addr} {vs ws : List V} {Q : V → AH → Prop} (hH : H a = some (.list vs)) (hb : H b = some (.list ws)) (hne : ws ≠ []) (hz : vs.length + ws.length ≤ 1000000) (h : Q .none (H.set a (.list (vs ++ ws)))) :
    WCall C A (.bi "list.extend") [.ref a, .ref b] [] H Q := by
  intro L ρ fv vals kvs e1 e2 e3
  cases ab_bi e1
  obtain ⟨x, y, rfl, ex, ey⟩ := vals2 e2
  cases ab_ref ex
  cases ab_ref ey
  cases ab_nil e3
  intro s hs
  obtain ⟨its, n, ho, hi, hsz, hL⟩ := hs.at hH
  obtain ⟨its2, n2, ho2, hi2, hsz2, hL2⟩ := hs.at hb
  obtain ⟨m, F, hm⟩ := hs.fr
  have hlen : its.toList.length = vs.length := by rw [← hi]; simp
  have hlen2 : its2.toList.length = ws.length := by rw [← hi2]; simp
  have hsl : 1000000 ≤ sizeLine := by decide
  rw [Array.length_toList] at hlen hlen2
  obtain ⟨news', U, hU⟩ := upd_all (o' := listOf (its.toList ++ its2.toList).toArray (n + 1)) hL ho
  refine kl_extend F (news_all _ _) (mem_allNews ho2 hL2) (l := its.toList ++ its2.toList) rfl ?_ U ?_ (by rw [Array.length_toList, hlen]; exact hsz) (by omega) (fun h' F' N' => ?_)
  · rw [Array.length_toList, hlen2]
    intro q; exact hne (List.eq_nil_of_length_eq_zero q)
  · simp only [Bool.and_eq_true, not_and]
    intro _
    unfold Builtin.List.listTooLong
    simp
    omega
  · obtain ⟨k1, k2⟩ := hU h' N'
    refine ⟨_, _, hs.upd_fr F' hm hH rfl k1 (o := .list (vs ++ ws)) ⟨_, _, rfl, ?_, ?_⟩ k2, .upd_fr F' hH k1 k2, rfl, h⟩
    · simp [hi, hi2]
    · simp; omega
theorem kl_last_some : ∀ {l : List Value}, l ≠ [] → ∃ y, kl_last l = some (l.dropLast, y) ∧ l.getLast? = some y
  | [], h => absurd rfl h
  | [x], _ => ⟨x, rfl, rfl⟩
  | x :: y :: r, _ => by
    obtain ⟨z, e1, e2⟩ := kl_last_some (l := y :: r) (by simp)
    refine ⟨z, ?_, ?_⟩
    · rw [kl_last, e1]; rfl
    · rw [List.getLast?_cons_cons]; exact e2
theorem WCall.pop {a : Addr} {vs : List V} {v : V} {Q : V → AH → Prop} (hH : H a = some (.list (vs ++ [v]))) (h : Q v (H.set a (.list vs))) : WCall C A (.bi "list.pop") [.ref a] [] H Q := by
  intro L ρ fv vals kvs e1 e2 e3
  cases ab_bi e1
  obtain ⟨x, rfl, ex⟩ := vals1 e2
  cases ab_ref ex
  cases ab_nil e3
  intro s hs
  obtain ⟨its, n, ho, hi, hsz, hL⟩ := hs.at hH
  obtain ⟨m, F, hm⟩ := hs.fr
  have hlen : its.toList.length = (vs ++ [v]).length := by rw [← hi]; simp
  obtain ⟨y, ey, ey'⟩ := kl_last_some (l := its.toList) (by intro q; rw [q] at hlen; simp at hlen)
  obtain ⟨news', U, hU⟩ := upd_all (o' := listOf its.toList.dropLast.toArray (n + 1)) hL ho
  have hvy : ab y = v := by
    have := congrArg List.getLast? hi
    rw [List.getLast?_map, ey'] at this
    simpa using this
  refine kl_pop F (news_all _ _) ey U (by rw [hlen]; exact hsz) (fun h' F' N' => ?_)
  obtain ⟨k1, k2⟩ := hU h' N'
  refine ⟨_, _, hs.upd_fr F' hm hH rfl k1 (o := .list vs) ⟨_, _, rfl, ?_, ?_⟩ k2, .upd_fr F' hH k1 k2, rfl, by rw [hvy]; exact h⟩
  · rw [List.toList_toArray, List.map_dropLast, hi]; simp
  · simp at hsz; omega
end
end Mine

namespace Mine
open PySem PySem.W PyProof.Rows
open PySem.SeqAt (shaped compareEq_shaped compareNe_shaped in_list_reads notIn_list_reads canLay_of_shaped depth_of_shaped)

/-! ## deep data -/
mutual
def Rd (H : AH) (v : V) : PyData → Prop
  | .none => v = .none
  | .bool b => v = .bool b
  | .int i => v = .int i
  | .str x => v = .str x
  | .list ds => ∃ a ob vs, v = .ref a ∧ H a = some ob ∧ lst ob = some vs ∧ RdL H vs ds
  | .tuple ds => ∃ a vs, v = .ref a ∧ H a = some (.tup vs) ∧ RdL H vs ds
  | .dict _ => False
def RdL (H : AH) (vs : List V) : List PyData → Prop
  | [] => vs = []
  | d :: ds => ∃ v r, vs = v :: r ∧ Rd H v d ∧ RdL H r ds
end

section
variable {C : Cx} {A : Around} {env : Env} {ρ : Lo} {H : AH}
mutual
theorem Rd.reads {L : Addr} {h : Heap} (hs : St C L ρ H h) : ∀ (d : PyData) (x : Value), Rd H (ab x) d → ∃ as, Reads h x d as
  | .none, x, r => by rw [Rd] at r; cases ab_none r; exact ⟨_, .none⟩
  | .bool b, x, r => by rw [Rd] at r; cases ab_bool r; exact ⟨_, .bool b⟩
  | .int i, x, r => by rw [Rd] at r; obtain ⟨t, rfl⟩ := ab_int r; exact ⟨_, .int i t⟩
  | .str y, x, r => by rw [Rd] at r; obtain ⟨t, rfl⟩ := ab_str r; exact ⟨_, .str y t⟩
  | .list ds, x, r => by
    rw [Rd] at r
    obtain ⟨a, ob, vs, e, hH, hl, hr⟩ := r
    cases ab_ref e
    obtain ⟨xs, ⟨o, ho, hc, n, hd⟩, h2, _⟩ := hs.list hH hl
    obtain ⟨as, R⟩ := RdL.reads hs ds xs.toList (by rw [h2]; exact hr)
    exact ⟨_, .list ho hc hd R⟩
  | .tuple ds, x, r => by
    rw [Rd] at r
    obtain ⟨a, vs, e, hH, hr⟩ := r
    cases ab_ref e
    obtain ⟨xs, ⟨o, ho, hc, n, hd⟩, h2, _⟩ := hs.tup hH
    obtain ⟨as, R⟩ := RdL.reads hs ds xs.toList (by rw [h2]; exact hr)
    exact ⟨_, .tuple ho hc hd R⟩
  | .dict _, x, r => by rw [Rd] at r; exact r.elim
theorem RdL.reads {L : Addr} {h : Heap} (hs : St C L ρ H h) : ∀ (ds : List PyData) (xs : List Value), RdL H (xs.map ab) ds → ∃ as, ReadsAll h xs ds as
  | [], xs, r => by
    rw [RdL] at r
    have : xs = [] := by simpa using r
    subst this; exact ⟨_, .nil⟩
  | d :: ds, xs, r => by
    rw [RdL] at r
    obtain ⟨v, q, e, r1, r2⟩ := r
    cases xs with
    | nil => simp at e
    | cons x xs =>
      rw [List.map_cons] at e
      cases e
      obtain ⟨as, R⟩ := Rd.reads hs d x r1
      obtain ⟨bs, R'⟩ := RdL.reads hs ds xs r2
      exact ⟨_, .cons R R'⟩
end
theorem RdL_ints {H : AH} : ∀ (ns : List Int), RdL H (vints ns) (ns.map .int)
  | [] => by rw [List.map_nil, RdL]; rfl
  | n :: ns => by rw [List.map_cons, RdL]; exact ⟨.int n, vints ns, rfl, by rw [Rd], RdL_ints ns⟩
def dints (ns : List Int) : PyData := .list (ns.map .int)
theorem Rd_ints {H : AH} {a : Addr} {ob : O} {ns : List Int} (h : H a = some ob) (hl : lst ob = some (vints ns)) : Rd H (.ref a) (dints ns) := by
  unfold dints; rw [Rd]; exact ⟨a, ob, _, rfl, h, hl, RdL_ints ns⟩
theorem shaped_ints (ns : List Int) : shaped (dints ns) = true := by
  have h1 : PyData.canLayAll0 (ns.map .int) = true := by
    induction ns with
    | nil => rfl
    | cons n ns ih => rw [List.map_cons, PyData.canLayAll0, ih]; rfl
  have h2 : PyData.depthAll (ns.map .int) = 0 := by
    induction ns with
    | nil => rfl
    | cons n ns ih =>
      rw [List.map_cons, PyData.depthAll, ih (by rw [List.map_cons, PyData.canLayAll0] at h1; exact (Bool.and_eq_true_iff.mp h1).2)]; rfl
  unfold shaped dints
  rw [PyData.canLay0, PyData.depth, h1, h2]; rfl
theorem eqvAll_map {α : Type} [DecidableEq α] {enc : α → PyData} (he : ∀ a b, PyData.eqv (enc a) (enc b) = decide (a = b)) : ∀ (xs ys : List α), PyData.eqvAll (xs.map enc) (ys.map enc) = decide (xs = ys)
  | [], [] => by simp [PyData.eqvAll]
  | [], _ :: _ => by simp [PyData.eqvAll]
  | _ :: _, [] => by simp [PyData.eqvAll]
  | x :: xs, y :: ys => by
    rw [List.map_cons, List.map_cons, PyData.eqvAll, he, eqvAll_map he]
    simp
theorem eqv_list_map {α : Type} [DecidableEq α] {enc : α → PyData} (he : ∀ a b, PyData.eqv (enc a) (enc b) = decide (a = b)) (xs ys : List α) : PyData.eqv (.list (xs.map enc)) (.list (ys.map enc)) = decide (xs = ys) := by
  rw [PyData.eqv]; exact eqvAll_map he xs ys
theorem eqv_int (a b : Int) : PyData.eqv (.int a) (.int b) = decide (a = b) := by
  rw [PyData.eqv]; rfl
theorem eqv_ints (xs ys : List Int) : PyData.eqv (dints xs) (dints ys) = decide (xs = ys) := eqv_list_map eqv_int xs ys

theorem W.eqData {L : Addr} {x y : Value} {d e : PyData} {Q : Value → Lo → AH → Prop} (hx : Rd H (ab x) d) (hy : Rd H (ab y) e) (hd : shaped d = true) (he : shaped e = true) (hu : A.units + 64 < cLine) (h : Q (.bool (PyData.eqv d e)) ρ H) : W C A L (compareOp .Eq x y) ρ H Q := fun s hs => by
  obtain ⟨as, R⟩ := Rd.reads hs d x hx
  obtain ⟨bs, R'⟩ := Rd.reads hs e y hy
  exact compareEq_shaped R R' hd he hu ⟨ρ, H, hs, .refl .., h⟩
theorem W.neData {L : Addr} {x y : Value} {d e : PyData} {Q : Value → Lo → AH → Prop} (hx : Rd H (ab x) d) (hy : Rd H (ab y) e) (hd : shaped d = true) (he : shaped e = true) (hu : A.units + 64 < cLine) (h : Q (.bool (!PyData.eqv d e)) ρ H) : W C A L (compareOp .NotEq x y) ρ H Q := fun s hs => by
  obtain ⟨as, R⟩ := Rd.reads hs d x hx
  obtain ⟨bs, R'⟩ := Rd.reads hs e y hy
  exact compareNe_shaped R R' hd he hu ⟨ρ, H, hs, .refl .., h⟩

/-- a comparison whose sides may make things, as a value and as a test -/
theorem WE.cmp {l r : Expr} {op : CmpOp} {pos : Pos} {Q : V → AH → Prop} (h : WE C A env l ρ H (fun v H1 => WE C A env r ρ H1 (fun w H2 => ∀ x y, ab x = v → ab y = w → W C A env.locals (compareOp op x y) ρ H2 (fun z ρ' H' => ρ' = ρ ∧ Q (ab z) H'))))
    (hm : behindInMarks op r = false := by with_unfolding_all rfl) : WE C A env (.Compare l [op] [r] pos) ρ H Q :=
  W.Compare1 hm (W.mono h (by rintro x _ H1 ⟨rfl, h1⟩; exact W.mono h1 (by rintro y _ H2 ⟨rfl, h2⟩; exact h2 x y rfl rfl)))
theorem WT.cmp {l r : Expr} {op : CmpOp} {pos : Pos} {Q : Bool → AH → Prop} (h : WE C A env l ρ H (fun v H1 => WE C A env r ρ H1 (fun w H2 => ∀ x y, ab x = v → ab y = w → W C A env.locals (compareOp op x y) ρ H2 (fun z ρ' H' => ρ' = ρ ∧ ∃ b, z = .bool b ∧ Q b H'))))
    (hm : behindInMarks op r = false := by with_unfolding_all rfl) : WT C A env (.Compare l [op] [r] pos) ρ H Q :=
  W.isTrue_Compare1 hm (W.mono h (by rintro x _ H1 ⟨rfl, h1⟩; exact W.mono h1 (by rintro y _ H2 ⟨rfl, h2⟩; exact W.mono (h2 x y rfl rfl) (by rintro z _ H3 ⟨rfl, b, rfl, q⟩; exact W.truthy_bool ⟨rfl, q⟩))))
theorem WT.eqD {l r : Expr} {pos : Pos} {Q : Bool → AH → Prop} (hu : A.units + 64 < cLine) (h : WE C A env l ρ H (fun v H1 => WE C A env r ρ H1 (fun w H2 => ∃ d e, Rd H2 v d ∧ Rd H2 w e ∧ shaped d = true ∧ shaped e = true ∧ Q (PyData.eqv d e) H2)))
    (hm : behindInMarks .Eq r = false := by with_unfolding_all rfl) : WT C A env (.Compare l [.Eq] [r] pos) ρ H Q :=
  WT.cmp (WE.mono h fun v H1 q => WE.mono q fun w H2 ⟨d, e, r1, r2, s1, s2, q⟩ x y ex ey => W.eqData (ex ▸ r1) (ey ▸ r2) s1 s2 hu ⟨rfl, _, rfl, q⟩) hm
theorem WT.neD {l r : Expr} {pos : Pos} {Q : Bool → AH → Prop} (hu : A.units + 64 < cLine) (h : WE C A env l ρ H (fun v H1 => WE C A env r ρ H1 (fun w H2 => ∃ d e, Rd H2 v d ∧ Rd H2 w e ∧ shaped d = true ∧ shaped e = true ∧ Q (!PyData.eqv d e) H2)))
    (hm : behindInMarks .NotEq r = false := by with_unfolding_all rfl) : WT C A env (.Compare l [.NotEq] [r] pos) ρ H Q :=
  WT.cmp (WE.mono h fun v H1 q => WE.mono q fun w H2 ⟨d, e, r1, r2, s1, s2, q⟩ x y ex ey => W.neData (ex ▸ r1) (ey ▸ r2) s1 s2 hu ⟨rfl, _, rfl, q⟩) hm
theorem WE.eqD {l r : Expr} {pos : Pos} {Q : V → AH → Prop} (hu : A.units + 64 < cLine) (h : WE C A env l ρ H (fun v H1 => WE C A env r ρ H1 (fun w H2 => ∃ d e, Rd H2 v d ∧ Rd H2 w e ∧ shaped d = true ∧ shaped e = true ∧ Q (.bool (PyData.eqv d e)) H2)))
    (hm : behindInMarks .Eq r = false := by with_unfolding_all rfl) : WE C A env (.Compare l [.Eq] [r] pos) ρ H Q :=
  WE.cmp (WE.mono h fun v H1 q => WE.mono q fun w H2 ⟨d, e, r1, r2, s1, s2, q⟩ x y ex ey => W.eqData (ex ▸ r1) (ey ▸ r2) s1 s2 hu ⟨rfl, q⟩) hm
/-- pure tests out of tests that make things -/
theorem WT.ev {e : Expr} {b : Bool} (h : WT C A env e ρ H (fun b' H' => b' = b ∧ H' = H)) : EvT C A env ρ H e b := W.mono h (by rintro x _ _ ⟨rfl, rfl, rfl⟩; exact ⟨rfl, rfl, rfl⟩)

/-! ## in -/
theorem W.inData {L : Addr} {x y : Value} {d : PyData} {es : List PyData} {Q : Value → Lo → AH → Prop} (hx : Rd H (ab x) d) (hy : Rd H (ab y) (.list es)) (hd : shaped d = true) (he : shaped (.list es) = true) (hu : A.units + 66 < cLine) (h : Q (.bool (es.any fun y => PyData.eqv y d)) ρ H) : W C A L (compareOp .In x y) ρ H Q := fun s hs => by
  obtain ⟨as, R⟩ := Rd.reads hs d x hx
  obtain ⟨bs, R'⟩ := Rd.reads hs (.list es) y hy
  exact in_list_reads R' R (canLay_of_shaped he) (canLay_of_shaped hd) (by have := depth_of_shaped hd; omega) ⟨ρ, H, hs, .refl .., h⟩
theorem W.notInData {L : Addr} {x y : Value} {d : PyData} {es : List PyData} {Q : Value → Lo → AH → Prop} (hx : Rd H (ab x) d) (hy : Rd H (ab y) (.list es)) (hd : shaped d = true) (he : shaped (.list es) = true) (hu : A.units + 66 < cLine) (h : Q (.bool (!es.any fun y => PyData.eqv y d)) ρ H) : W C A L (compareOp .NotIn x y) ρ H Q := fun s hs => by
  obtain ⟨as, R⟩ := Rd.reads hs d x hx
  obtain ⟨bs, R'⟩ := Rd.reads hs (.list es) y hy
  exact notIn_list_reads R' R (canLay_of_shaped he) (canLay_of_shaped hd) (by have := depth_of_shaped hd; omega) ⟨ρ, H, hs, .refl .., h⟩
theorem shaped_int (i : Int) : shaped (.int i) = true := by unfold shaped; rw [PyData.canLay0, PyData.depth]; rfl
theorem any_ints (ns : List Int) (k : Int) : ((ns.map PyData.int).any fun y => PyData.eqv y (.int k)) = decide (k ∈ ns) := by
  induction ns with
  | nil => simp
  | cons n ns ih =>
    rw [List.map_cons, List.any_cons, ih, eqv_int]
    by_cases q : n = k
    · simp [q]
    · have : ¬ k = n := fun e => q e.symm
      simp [q, this]
theorem EvT.inInts {l r : Expr} {pos : Pos} {k : Int} {a : Addr} {ob : O} {ns : List Int} (hu : A.units + 66 < cLine) (h1 : Ev C A env ρ H l (.int k)) (h2 : Ev C A env ρ H r (.ref a)) (hH : H a = some ob) (hl : lst ob = some (vints ns)) (hm : behindInMarks .In r = false := by with_unfolding_all rfl) :
    EvT C A env ρ H (.Compare l [.In] [r] pos) (decide (k ∈ ns)) :=
  WT.ev (WT.cmp (WE.of h1 (WE.of h2 fun x y ex ey => W.inData (d := .int k) (es := ns.map .int) (by rw [ex, Rd]) (by rw [ey]; exact Rd_ints hH hl) (shaped_int k) (shaped_ints ns) hu ⟨rfl, _, rfl, any_ints ns k, rfl⟩)) hm)
theorem EvT.notInInts {l r : Expr} {pos : Pos} {k : Int} {a : Addr} {ob : O} {ns : List Int} (hu : A.units + 66 < cLine) (h1 : Ev C A env ρ H l (.int k)) (h2 : Ev C A env ρ H r (.ref a)) (hH : H a = some ob) (hl : lst ob = some (vints ns)) (hm : behindInMarks .NotIn r = false := by with_unfolding_all rfl) :
    EvT C A env ρ H (.Compare l [.NotIn] [r] pos) (!decide (k ∈ ns)) :=
  WT.ev (WT.cmp (WE.of h1 (WE.of h2 fun x y ex ey => W.notInData (d := .int k) (es := ns.map .int) (by rw [ex, Rd]) (by rw [ey]; exact Rd_ints hH hl) (shaped_int k) (shaped_ints ns) hu ⟨rfl, _, rfl, by rw [any_ints], rfl⟩)) hm)

/-! ## negative places, stores, repeats, powers, the greatest -/
theorem Ev.itemNeg {o i : Expr} {pos : Pos} {a : Addr} {ob : O} {vs : List V} {k : Int} {v : V} (h1 : Ev C A env ρ H o (.ref a)) (h2 : Ev C A env ρ H i (.int k)) (hH : H a = some ob) (hl : lst ob = some vs) (h0 : k < 0) (hk : -(vs.length : Int) ≤ k) (hx : vs[(k + vs.length).toNat]? = some v)
    (hs : ∀ t, subscripted i false (.ref a) (.int k t) = operate [.ref a, .int k t] (getItem (.ref a) (.int k t)) := by intro _; with_unfolding_all rfl) : Ev C A env ρ H (.Subscript o i pos) v :=
  W.Subscript (W.mono h1 (by
    rintro x _ _ ⟨rfl, rfl, e⟩
    refine h2.then fun y e' => ?_
    cases ab_ref e
    obtain ⟨t, rfl⟩ := ab_int e'
    intro s hst
    obtain ⟨xs, x1, x2, x3⟩ := hst.list hH hl
    obtain ⟨z, z1, z2⟩ := arr_get x2 hx
    have hsl : (sizeLine : Int) < 2 ^ 62 := by decide
    have hsz := arr_size x2
    refine tail_any (ops := [.ref a, .int k t]) x1.typeIs slot_list_getitem.lookup (wpAny_getItem_list_neg x1 h0 (by rw [hsz]; exact hk) (by omega) (by rw [hsz]; exact z1) ⟨_, _, hst, .refl .., rfl, rfl, z2⟩) (hs t)))
end
end Mine

namespace Mine
open PySem PySem.W PyProof.Rows

section
variable {C : Cx} {A : Around} {env : Env} {ρ : Lo} {H : AH}

theorem kf_at_ints : ∀ {xs : List Value} {ns : List Int} {k : Int} {j : Nat}, xs.map ab = vints ns → ns.idxOf? k = some j → kf_at k xs = some j
  | [], [], k, j, _, h => by simp at h
  | [], _ :: _, _, _, h, _ => by simp [vints] at h
  | _ :: _, [], _, _, h, _ => by simp [vints] at h
  | x :: xs, n :: ns, k, j, h, hk => by
    simp only [vints, List.map_cons, List.cons.injEq] at h
    obtain ⟨t, rfl⟩ := ab_int h.1
    rw [List.idxOf?_cons] at hk
    unfold kf_at
    by_cases q : n = k
    · have : (n == k) = true := by simp [q]
      rw [if_pos this] at hk; cases hk
      have : isInt k (.int n t) = true := by simp [isInt, q]
      rw [this]; rfl
    · have : ¬ (n == k) = true := by simp [q]
      rw [if_neg this] at hk
      have e : isInt k (.int n t) = false := by simp [isInt, q]
      rw [e]
      cases hj : ns.idxOf? k with
      | none => rw [hj] at hk; cases hk
      | some i =>
        rw [hj] at hk; cases hk
        rw [kf_at_ints h.2 hj]; rfl
theorem kf_ints_of : ∀ {xs : List Value} {ns : List Int}, xs.map ab = vints ns → kf_ints xs = true
  | [], _, _ => rfl
  | _ :: _, [], h => by simp [vints] at h
  | x :: xs, n :: ns, h => by
    simp only [vints, List.map_cons, List.cons.injEq] at h
    obtain ⟨t, rfl⟩ := ab_int h.1
    show kf_ints xs = true
    exact kf_ints_of (ns := ns) h.2
theorem WCall.index {a : Addr} {ns : List Int} {k : Int} {j : Nat} {Q : V → AH → Prop} (hH : H a = some (.list (vints ns))) (hj : ns.idxOf? k = some j) (h : Q (.int j) H) : WCall C A (.bi "list.index") [.ref a, .int k] [] H Q := by
  intro L ρ fv vals kvs e1 e2 e3
  cases ab_bi e1
  obtain ⟨x, y, rfl, ex, ey⟩ := vals2 e2
  cases ab_ref ex
  obtain ⟨t, rfl⟩ := ab_int ey
  cases ab_nil e3
  intro s hs
  obtain ⟨its, n, ho, hi, hsz, hL⟩ := hs.at hH
  have hlen : its.toList.length = (vints ns).length := by rw [← hi]; simp
  exact kf_index (news_all s.heap L) (mem_allNews ho hL) (kf_ints_of hi) (kf_at_ints hi hj) rfl (by rw [hlen]; exact hsz) ⟨ρ, H, hs, .toks, rfl, h⟩

/-! ## stores into lists -/
theorem ki_setL_some : ∀ {l : List Value} {k : Nat} {v : Value}, k < l.length → ki_setL l k v = some (l.set k v)
  | [], k, v, h => by simp at h
  | x :: r, 0, v, _ => rfl
  | x :: r, k + 1, v, h => by
    have := ki_setL_some (l := r) (k := k) (v := v) (by simpa using h)
    unfold ki_setL
    rw [this]; rfl
theorem W.setItem {L a : Addr} {vs : List V} {k : Nat} {x y : Value} {Q : Unit → Lo → AH → Prop} (hH : H a = some (.list vs)) (hx : ab x = .int k) (hk : k < vs.length) (h : Q () ρ (H.set a (.list (vs.set k (ab y))))) : W C A L (PySem.setItem (.ref a) x y) ρ H Q := fun s hs => by
  obtain ⟨t, rfl⟩ := ab_int hx
  obtain ⟨its, n, ho, hi, hsz, hL⟩ := hs.at hH
  obtain ⟨m, F, hm⟩ := hs.fr
  have hlen : its.toList.length = vs.length := by rw [← hi]; simp
  have hsl : (sizeLine : Int) < 2 ^ 62 := by decide
  obtain ⟨news', U, hU⟩ := upd_all (o' := listOf (its.toList.set k y).toArray n) hL ho
  refine ki_set F (news_all _ _) (by omega) (by omega) (q := its.toList.set k y) (by rw [Int.toNat_natCast]; exact ki_setL_some (by omega)) U (fun h' F' N' => ?_)
  obtain ⟨k1, k2⟩ := hU h' N'
  refine ⟨_, _, hs.upd_fr F' hm hH rfl k1 (o := .list (vs.set k (ab y))) ⟨_, _, rfl, ?_, ?_⟩ k2, .upd_fr F' hH k1 k2, h⟩
  · rw [List.toList_toArray, List.map_set, hi]
  · simp; exact hsz
/-- a[i] = v -/
theorem Asg.item {o i : Expr} {pos : Pos} {v : V} {a : Addr} {k : Nat} {vs : List V} {Q : Lo → AH → Prop} (h1 : Ev C A env ρ H o (.ref a)) (h2 : Ev C A env ρ H i (.int k)) (hH : H a = some (.list vs)) (hk : k < vs.length) (h : Q ρ (H.set a (.list (vs.set k v)))) : Asg C A env (.Subscript o i pos) (.one v) ρ H Q := fun s y hs hd => by
  have e : ab y = v := hd
  subst e
  refine kas_sub ?_
  refine wpAny_mono (h1 s hs) (fun ov s1 ⟨ρ1, H1, a1, b1, c1, c2, c3⟩ => ?_) fun _ _ e => e
  subst c1 c2
  cases ab_ref c3
  refine wpAny_mono (h2 s1 a1) (fun iv s2 ⟨ρ2, H2, a2, b2, c1, c2, c3⟩ => ?_) fun _ _ e => e
  subst c1 c2
  exact W.at (W.setItem hH c3 hk h) a2 (b1.trans b2 (fun _ _ => a2.nl))

/-! ## repeats, powers, the greatest -/
theorem WE.mulList {l r : Expr} {pos : Pos} {Q : V → AH → Prop}
    (h : WE C A env l ρ H (fun v H1 => WE C A env r ρ H1 (fun w H2 => ∃ a k v0, v = .ref a ∧ w = .int k ∧ H2 a = some (.list [v0]) ∧ 0 ≤ k ∧ k ≤ 1000000 ∧ ∀ c, H2 c = none → Q (.ref c) (H2.set c (.list (List.replicate k.toNat v0)))))) :
    WE C A env (.BinOp l .Mult r pos) ρ H Q := by
  refine W.BinOp (W.mono h ?_)
  rintro x _ H1 ⟨rfl, h1⟩
  refine W.mono h1 ?_
  rintro y _ H2 ⟨rfl, a, k, v0, ex, ey, ha, k0, k1, hq⟩
  cases ab_ref ex
  obtain ⟨u, rfl⟩ := ab_int ey
  intro s hs
  obtain ⟨its, n, ho, hi, hsz, hL⟩ := hs.at ha
  obtain ⟨m, F, hm⟩ := hs.fr
  have hn := get?_size_none s.heap
  have hlen : its.size = 1 := by rw [← Array.length_toList]; have := congrArg List.length hi; simpa using this
  obtain ⟨y0, hy0, hy0'⟩ : ∃ y0, its.toList = [y0] ∧ ab y0 = v0 := by
    obtain ⟨x, e1, e2⟩ := vals1 hi
    exact ⟨x, e1, e2⟩
  refine mul_list F (news_all s.heap env.locals) ho (by omega) (by omega) (by rw [hlen]; omega) (fun h' F' N' => ?_)
  have kk := News.kept N' fun p hp => List.mem_cons_of_mem _ hp
  have hc := (N' _ (List.mem_cons_self ..)).1
  have hemp : its.isEmpty = false := by simp [Array.isEmpty, hlen]
  have hfold : (List.foldl (fun x1 x2 => x1 ++ x2) (#[] : Array Value) (List.replicate (if its.isEmpty = true then 0 else k.toNat) its)).toList.map ab = List.replicate k.toNat v0 := by
    rw [hemp, if_neg (by simp)]
    have : ∀ (j : Nat) (z : Array Value), (List.foldl (fun x1 x2 => x1 ++ x2) z (List.replicate j its)).toList.map ab = z.toList.map ab ++ List.replicate j v0 := by
      intro j
      induction j with
      | zero => intro z; simp
      | succ j ih => intro z; rw [List.replicate_succ, List.foldl_cons, ih]; simp [hy0, hy0', List.replicate_succ]
    rw [this]; simp
  have hsl : 1000000 ≤ sizeLine := by decide
  exact ⟨_, _, hs.alloc_fr F' hm hn hc (o := .list (List.replicate k.toNat v0)) ⟨_, _, rfl, hfold, by rw [List.length_replicate]; omega⟩ kk, Step.alloc_fr (tk := s.toks) F' hn kk, rfl, hq _ (hs.fresh hn).1⟩
theorem Ev.pow {l r : Expr} {pos : Pos} {a n : Int} (h1 : Ev C A env ρ H l (.int a)) (h2 : Ev C A env ρ H r (.int n)) (h0 : 0 ≤ n) (hsz : (Builtin.Int.intBits a : Int) * n ≤ 2 ^ 27) : Ev C A env ρ H (.BinOp l .Pow r pos) (.int (a ^ n.toNat)) :=
  Ev.bin h1 h2 fun x y e e' => by
    obtain ⟨t, rfl⟩ := ab_int e; obtain ⟨u, rfl⟩ := ab_int e'
    exact fun s hs => pow_int h0 hsz ⟨ρ, H, hs, .toks, rfl, rfl, rfl⟩
theorem WCall.max {a : Addr} {ob : O} {ns : List Int} {M : Int} {Q : V → AH → Prop} (hh : A.handled = none) (hH : H a = some ob) (hl : lst ob = some (vints ns)) (hM : M ∈ ns) (hmax : ∀ n ∈ ns, n ≤ M) (h : Q (.int M) H) : WCall C A (.bi "max") [.ref a] [] H Q := by
  intro L ρ fv vals kvs e1 e2 e3
  cases ab_bi e1
  obtain ⟨x, rfl, ex⟩ := vals1 e2
  cases ab_ref ex
  cases ab_nil e3
  intro s hs
  obtain ⟨xs, x1, x2, x3⟩ := hs.list hH hl
  obtain ⟨m, F, hm⟩ := hs.fr
  have x1' : s.heap.IsList a xs.toList.toArray := by rw [Array.toArray_toList]; exact x1
  refine max_list_N hh F (news_all s.heap L) x1' (intsAre_of x2) (List.length_pos_of_mem hM) (fun h' M' t tk F' N' m1 m2 => ?_)
  have : M' = M := by have := m2 M hM; have := hmax M' m1; omega
  subst this
  have kk := News.kept N' fun p hp => hp
  exact ⟨ρ, H, hs.of_fr F' hm kk, .of_fr F' kk, rfl, h⟩
theorem Ev.max {e : Expr} {p pos : Pos} {a : Addr} {ob : O} {ns : List Int} {M : Int} {id : Str} (F : Fx C A env) (hf : Ev C A env ρ H (.Name id p) (.bi "max")) (h : Ev C A env ρ H e (.ref a)) (hH : H a = some ob) (hl : lst ob = some (vints ns)) (hM : M ∈ ns) (hmax : ∀ n ∈ ns, n ≤ M) (hn : noStar [e] = true := by rfl) : Ev C A env ρ H (.Call (.Name id p) [e] [] pos) (.int M) :=
  WE.ev (WE.callBi hf (WEs.of (.cons h .nil) (WKs.nil (WCall.max F.hh hH hl hM hmax ⟨rfl, rfl⟩))) hn)

/-! ## the place's own changes -/
theorem W.loadLocal {x : Str} {v : V} (F : Fx C A env) (hl : env.kindOf x = some .local) (hv : ρ x = some v) : W C A env.locals (loadName env x) ρ H (fun y ρ' H' => ρ' = ρ ∧ H' = H ∧ ab y = v) := fun s hs => by
  obtain ⟨m, hn, hm⟩ := hs.loc
  have := hm x
  rw [hv] at this
  cases hx : m x with
  | none => rw [hx] at this; cases this
  | some y => rw [hx] at this; exact wpAny_loadName_local F.kind hl hn hx ⟨ρ, H, hs, .refl .., rfl, rfl, by simpa using this⟩
theorem W1.augLocal {x : Str} {p pos : Pos} {op : Operator} {e : Expr} {Q : Fl → Lo → AH → Prop} {u : V} (F : Fx C A env) (hl : env.kindOf x = some .local) (hv : ρ x = some u)
    (h : WE C A env e ρ H (fun v H1 => ∀ y z, ab y = u → ab z = v → W C A env.locals (inplaceOp op y z) ρ H1 (fun r ρ' H' => ρ' = ρ ∧ Q .next (ρ.set x (ab r)) H'))) : W1 C A env (.AugAssign (.Name x p) op e pos) ρ H Q := fun s hs => by
  refine wpAny_AugAssign_Name ?_
  refine wpAny_mono (W.loadLocal F hl hv s hs) (fun old s1 ⟨ρ1, H1, a1, b1, c1, c2, c3⟩ => ?_) fun _ _ e => e
  subst c1 c2
  refine wpAny_mono (h s1 a1) (fun v s2 ⟨ρ2, H2, a2, b2, c1, c4⟩ => ?_) fun _ _ e => e
  subst c1
  refine wpAny_mono (c4 old v c3 rfl s2 a2) (fun r s3 ⟨ρ3, H3, a3, b3, c1, c5⟩ => ?_) fun _ _ e => e
  subst c1
  exact W.at (W.storeLocal F hl c5) a3 ((b1.trans b2 (fun _ _ => a2.nl)).trans b3 (fun _ _ => a3.nl))
theorem W1.augSub {x : Str} {p pos : Pos} {e : Expr} {Q : Fl → Lo → AH → Prop} {a b : Int} (F : Fx C A env) (hl : env.kindOf x = some .local) (hv : ρ x = some (.int a)) (he : Ev C A env ρ H e (.int b)) (h : Q .next (ρ.set x (.int (a - b))) H) : W1 C A env (.AugAssign (.Name x p) .Sub e pos) ρ H Q :=
  W1.augLocal F hl hv (WE.of he fun y z ey ez => by
    obtain ⟨t, rfl⟩ := ab_int ey; obtain ⟨u, rfl⟩ := ab_int ez
    exact fun s hs => PySem.AutoIntOps.isub_0 ⟨ρ, H, hs, .toks, rfl, h⟩)
theorem W1.augAdd {x : Str} {p pos : Pos} {e : Expr} {Q : Fl → Lo → AH → Prop} {a b : Int} (F : Fx C A env) (hl : env.kindOf x = some .local) (hv : ρ x = some (.int a)) (he : Ev C A env ρ H e (.int b)) (h : Q .next (ρ.set x (.int (a + b))) H) : W1 C A env (.AugAssign (.Name x p) .Add e pos) ρ H Q :=
  W1.augLocal F hl hv (WE.of he fun y z ey ez => by
    obtain ⟨t, rfl⟩ := ab_int ey; obtain ⟨u, rfl⟩ := ab_int ez
    exact fun s hs => PySem.AutoIntOps.iadd_0 ⟨ρ, H, hs, .toks, rfl, h⟩)

/-! ## backwards -/
theorem WE.rev {o e : Expr} {p pos : Pos} {Q : V → AH → Prop}
    (h : WE C A env o ρ H (fun v H1 => ∃ l ob vs, v = .ref l ∧ H1 l = some ob ∧ lst ob = some vs ∧ Ev C A env ρ H1 e (.int (-1)) ∧ ∀ c, H1 c = none → Q (.ref c) (H1.set c (.list vs.reverse)))) :
    WE C A env (.Subscript o (.Slice none none (some e) p) pos) ρ H Q := fun s hs => by
  refine Subscript_ (wpAny_mono (h s hs) (fun x s1 ⟨ρ1, H1, a1, b1, c1, l, ob, vs, d1, d2, d3, d4, d6⟩ => ?_) fun _ _ e => e)
  subst c1
  cases ab_ref d1
  refine wpAny_Slice ?_
  rw [evalPart_none]
  refine wpAny_pure (wpAny_pure ?_)
  have hp := (EvP.some d4).run s1 a1
  refine wpAny_mono hp (fun vu s3 ⟨ρ3, H3, a3, b3, c3, c4, pu⟩ => ?_) fun _ _ e => e
  subst c3 c4
  obtain ⟨xs, x1, x2, x3⟩ := a3.list d2 d3
  have k1 : ∀ b o, s3.heap.get? b = some o → (s3.heap.push { cls := .type "slice", data := .fields #[.none, .none, vu] }).get? b = some o := fun b o e => Heap.get?_push_of_some _ e
  have a4 := a3.ext k1
  have x1' := x1.push { cls := .type "slice", data := .fields #[.none, .none, vu] }
  have hn := get?_size_none (s3.heap.push { cls := .type "slice", data := .fields #[.none, .none, vu] })
  refine tail_any (ops := [.ref l, .ref s3.heap.objs.size]) x1'.typeIs slot_list_getitem.lookup (wpAny_getItem_list_slice x1' (Heap.IsSliceOf.new ..) .none .none pu (by simp) ?_ (by rw [arr_size x2]; exact x3)) rfl
  have k2 : ∀ b o, (s3.heap.push { cls := .type "slice", data := .fields #[.none, .none, vu] }).get? b = some o → ((s3.heap.push { cls := .type "slice", data := .fields #[.none, .none, vu] }).push { cls := .type "list", data := .seq (slicePick xs none none (some (-1))) }).get? b = some o := fun b o e => Heap.get?_push_of_some _ e
  refine ⟨_, _, a4.alloc (o := .list vs.reverse) hn (Heap.get?_push_size _ rfl) ⟨_, 0, rfl, ?_, by simpa using x3⟩ k2, ?_, rfl, d6 _ (a4.fresh hn).1⟩
  · rw [krv_pick, List.toList_toArray, List.map_reverse, x2]
  · exact ((b1.trans b3 (fun _ _ => a3.nl)).trans (Step.ext (tk := s3.toks) k1) (fun _ _ => a3.nl)).trans (Step.alloc (tk := s3.toks) hn k2) (fun _ _ => by rw [AH.set_ne _ _ (Ne.symm (a4.fresh hn).2.2)]; exact a4.nl)
end
end Mine

namespace Mine
open PySem PySem.W PyProof.Rows

section
variable {C : Cx} {A : Around} {env : Env} {ρ : Lo} {H : AH}
theorem WE.item {o i : Expr} {pos : Pos} {Q : V → AH → Prop} (h : WE C A env o ρ H (fun v H1 => ∃ a ob vs k u, v = .ref a ∧ H1 a = some ob ∧ lst ob = some vs ∧ Ev C A env ρ H1 i (.int k) ∧ 0 ≤ k ∧ vs[k.toNat]? = some u ∧ Q u H1))
    (hs : ∀ a k t, subscripted i false (.ref a) (.int k t) = operate [.ref a, .int k t] (getItem (.ref a) (.int k t)) := by intro _ _ _; with_unfolding_all rfl) : WE C A env (.Subscript o i pos) ρ H Q :=
  W.Subscript (W.mono h (by
    rintro x _ H1 ⟨rfl, a, ob, vs, k, u, e, hH, hl, h2, h0, hx, q⟩
    refine h2.then fun y e' => ?_
    cases ab_ref e
    obtain ⟨t, rfl⟩ := ab_int e'
    intro s hst
    obtain ⟨xs, q1, q2, q3⟩ := hst.list hH hl
    obtain ⟨y, y1, y2⟩ := arr_get q2 hx
    have hlt : k.toNat < vs.length := (List.getElem?_eq_some_iff.mp hx).1
    have hsl : (sizeLine : Int) < 2 ^ 63 := by decide
    exact tail_any q1.typeIs slot_list_getitem.lookup (wpAny_getItem_list q1 h0 (by omega) y1 ⟨_, _, hst, .refl .., rfl, y2 ▸ q⟩) (hs a k t)))
theorem EvT.neNilInts {l : Expr} {p pos : Pos} {a : Addr} {ob : O} {ns : List Int} (hu : A.units + 64 < cLine) (h : Ev C A env ρ H l (.ref a)) (hH : H a = some ob) (hl : lst ob = some (vints ns)) : EvT C A env ρ H (.Compare l [.NotEq] [.List [] p] pos) (!decide (ns = [])) :=
  WT.ev (WT.drop (WT.neD hu (WE.of h (WE.list rfl (by decide) (WEs.nil fun b hb => ⟨dints ns, dints [], Rd_ints (AH.get_of_set hH hb) hl, Rd_ints (AH.set_same ..) rfl, shaped_ints _, shaped_ints _, H, AH.le_set (AH.le_refl _) hb, by rw [eqv_ints], rfl⟩)))))
/-- a list that is made of another's items -/
theorem comp_list {f : Nat → V} {elt : Expr} {x : Str} {pos : Pos} {Ok : Nat → AH → Prop} {vs : List V} {Q : AH → List V → Prop} (F : Fx C A env) (hx : env.kindOf x = some .local) (hn : vs.length ≤ sizeLine)
    (hOk : ∀ i, Ok i H) (he : ∀ i v (ρ : Lo), vs[i]? = some v → ρ x = some v → Ev C A env ρ H elt (f i)) (hQ : Q H ((List.range vs.length).map f)) :
    LoopOk C A env elt (.Name x pos) [] [] H vs.length Ok (fun i _ d => ∃ v, vs[i]? = some v ∧ d = .one v) (fun _ => none) [] (fun _ H2 zs => Q H2 zs) := by
  refine ⟨fun i ρ1 H1 zs => H1 = H ∧ zs = (List.range i).map f, ⟨rfl, rfl⟩, ?_, ?_⟩
  · rintro i ρ1 H1 zs hi ⟨rfl, rfl⟩
    refine ⟨hOk i, ?_⟩
    rintro d ⟨v, hv, rfl⟩
    refine Asg.local F hx ⟨fun _ => ?_, fun e => by cases e⟩
    exact WE.of (he i v _ hv (Lo.set_same ..)) ⟨by simp; omega, rfl, by rw [List.range_succ]; simp⟩
  · rintro ρ1 H1 zs ⟨rfl, rfl⟩
    exact ⟨hOk _, hQ⟩
/-- a list of which nothing is taken -/
theorem comp_none {n : Nat} {elt c : Expr} {x : Str} {pos : Pos} {Ok : Nat → AH → Prop} {P : Nat → AH → Dv → Prop} {g : Nat → V} {Q : AH → List V → Prop} (F : Fx C A env) (hx : env.kindOf x = some .local)
    (hOk : ∀ i, Ok i H) (hP : ∀ i d, P i H d → d = .one (g i)) (he : ∀ i (ρ : Lo), i < n → ρ x = some (g i) → EvT C A env ρ H c false) (hQ : Q H []) :
    LoopOk C A env elt (.Name x pos) [c] [] H n Ok P (fun _ => none) [] (fun _ H2 zs => Q H2 zs) := by
  refine ⟨fun i ρ1 H1 zs => H1 = H ∧ zs = [], ⟨rfl, rfl⟩, ?_, ?_⟩
  · rintro i ρ1 H1 zs hi ⟨rfl, rfl⟩
    refine ⟨hOk i, fun d hd => ?_⟩
    rw [hP i d hd]
    refine Asg.local F hx (WT.of (he i _ hi (Lo.set_same ..)) ⟨fun e => (by cases e), fun _ => ⟨fun e => (by cases e), fun _ => ⟨rfl, rfl⟩⟩⟩)
  · rintro ρ1 H1 zs ⟨rfl, rfl⟩
    exact ⟨hOk n, hQ⟩
theorem Ev.abs {e : Expr} {p pos : Pos} {a : Int} {id : Str} (hf : Ev C A env ρ H (.Name id p) (.bi "abs")) (h : Ev C A env ρ H e (.int a)) (hn : noStar [e] = true := by rfl) : Ev C A env ρ H (.Call (.Name id p) [e] [] pos) (.int (if a < 0 then -a else a)) :=
  WE.ev (WE.callBi hf (WEs.of (.cons h .nil) (WKs.nil (WCall.abs ⟨rfl, rfl⟩))) hn)
theorem map_range_vints {xs : List Int} (f : Int → Int) : (List.range (vints xs).length).map (fun i => V.int (f (xs.getD i 0))) = vints (xs.map f) := by
  rw [ints_length]
  apply List.ext_getElem?
  intro i
  by_cases q : i < xs.length
  · simp [vints, q]
  · simp [vints, q]
theorem vints_at {xs : List Int} {i : Nat} {v : V} (h : (vints xs)[i]? = some v) : v = .int (xs.getD i 0) ∧ i < xs.length := by
  have hi : i < (vints xs).length := (List.getElem?_eq_some_iff.mp h).1
  rw [ints_length] at hi
  rw [List.getD_eq_getElem?_getD]
  refine ⟨?_, hi⟩
  simp [vints, hi] at h ⊢
  exact h.symm
end
end Mine

namespace Mine
open PySem PySem.W PyProof.Rows

theorem div_of {n q r c : Int} (h : n = q * c + r) (h0 : 0 ≤ r) (h1 : r < c) : n.fdiv c = q ∧ n.fmod c = r := by
  have hc : 0 < c := by omega
  have e1 := Int.mul_fdiv_add_fmod n c
  have e2 := Int.fmod_nonneg_of_pos n hc
  have e3 := Int.fmod_lt_of_pos n hc
  have hq : n.fdiv c = q := by
    have k1 : c * (n.fdiv c) + n.fmod c = c * q + r := by rw [e1, h, Int.mul_comm]
    have k2 : c * (n.fdiv c - q) = r - n.fmod c := by rw [Int.mul_sub]; omega
    rcases Int.lt_trichotomy (n.fdiv c - q) 0 with a | a | a
    · have : c * (n.fdiv c - q) ≤ c * (-1) := Int.mul_le_mul_of_nonneg_left (by omega) (by omega)
      omega
    · omega
    · have : c * 1 ≤ c * (n.fdiv c - q) := Int.mul_le_mul_of_nonneg_left (by omega) (by omega)
      omega
  refine ⟨hq, ?_⟩
  rw [hq, Int.mul_comm] at e1
  omega
theorem div_as (n c : Int) (hc : 0 < c) : n = n.fdiv c * c + n.fmod c ∧ 0 ≤ n.fmod c ∧ n.fmod c < c := by
  have e1 := Int.mul_fdiv_add_fmod n c
  rw [Int.mul_comm] at e1
  exact ⟨e1.symm, Int.fmod_nonneg_of_pos n hc, Int.fmod_lt_of_pos n hc⟩
theorem small_bits {k : Int} (h0 : 0 ≤ k) (h1 : k < 1000000) : Builtin.Int.intBits k ≤ 64 := intBits_le_64 (by omega) (by omega)
end Mine

namespace Mine
open PySem PySem.W PyProof.Rows

/-! ## lambdas -/
def Bm (C : Cx) : Prop := ∃ bm ob, C.mg "__builtins__" = some (.ref bm) ∧ bm ≠ builtinsNs ∧ bm ≠ mainGlobals ∧ C.base.get? bm = some ob ∧ ob.cls = .type "module" ∧ ob.dict = some builtinsNs ∧ ob.data = .plain
def hit (es : List (Nat × Nat × Addr)) (pos : Pos) : Option Addr := match es with
  | [] => none
  | e :: r => if e.1 == pos.line && e.2.1 == pos.col then some e.2.2 else hit r pos
theorem triples_tab : ∀ (es : List (Nat × Nat × Addr)), TriplesOk (tabItems es)
  | [] => trivial
  | e :: r => triples_tab r
theorem among_tab {pos : Pos} : ∀ (es : List (Nat × Nat × Addr)), codeAmong pos (tabItems es) = (hit es pos).map Value.ref
  | [] => rfl
  | e :: r => by
    have ih := among_tab (pos := pos) r
    show (if ((e.1 : Int) == (pos.line : Int) && (e.2.1 : Int) == (pos.col : Int)) = true then some (Value.ref e.2.2) else codeAmong pos (tabItems r)) = _
    rw [hit, ih]
    have h1 : ((e.1 : Int) == (pos.line : Int)) = (e.1 == pos.line) := by
      by_cases q : e.1 = pos.line
      · simp [q]
      · have : ¬ (e.1 : Int) = (pos.line : Int) := by omega
        rw [beq_eq_false_iff_ne.mpr q, beq_eq_false_iff_ne.mpr this]
    have h2 : ((e.2.1 : Int) == (pos.col : Int)) = (e.2.1 == pos.col) := by
      by_cases q : e.2.1 = pos.col
      · simp [q]
      · have : ¬ (e.2.1 : Int) = (pos.col : Int) := by omega
        rw [beq_eq_false_iff_ne.mpr q, beq_eq_false_iff_ne.mpr this]
    rw [h1, h2]
    cases (e.1 == pos.line && e.2.1 == pos.col) <;> rfl
theorem tab_snoc (es : List (Nat × Nat × Addr)) (l c : Nat) (a : Addr) : tabItems (es ++ [(l, c, a)]) = tabItems es ++ [rawInt l, rawInt c, .ref a] := by
  simp [tabItems]

section
variable {C : Cx} {A : Around} {env : Env} {ρ : Lo} {H : AH}
abbrev lamFd (C : Cx) (env : Env) (params : Arguments) (body : Expr) (scope : Scope) (clos : List (Str × Addr)) (c' : Addr) (ctv : Value) : FuncData :=
  kla_fn "<lambda>" (env.qual ++ "<lambda>") params body scope clos ((C.mg "__name__").getD .none) (.ref c') ctv

theorem WE.lambda {params : Arguments} {body : Expr} {scope : Scope} {pos : Pos} {clos : List (Str × Addr)} {es : List (Nat × Nat × Addr)} {c P : Addr} {Q : V → AH → Prop} (F : Fx C A env) (hbm : Bm C) (hcode : env.code = .ref c) (hC : CodeHd C.base c P) (hP : H P = some (.tab es))
    (h1 : hit es pos = none → ∀ c' ctv f, H c' = none → H f = none → c' ≠ f → Q (.ref f) (((H.set c' (.code (env.qual ++ "<lambda>"))).set P (.tab (es ++ [(pos.line, pos.col, c')]))).set f (.fn (lamFd C env params body scope clos c' ctv))))
    (h2 : ∀ c', hit es pos = some c' → ∀ ctv f, H f = none → Q (.ref f) (H.set f (.fn (lamFd C env params body scope clos c' ctv))))
    (hdef : defaultsOf params env = ([], []) := by rfl) (hcl : closureFor scope env = pure clos := by rfl) : WE C A env (.Lambda params body scope pos) ρ H Q := fun s hs => by
  refine kla_eval hdef ?_
  obtain ⟨co, hco, hr⟩ := hs.rep P _ hP
  have hPo : s.heap.get? P = some (tabObj (tabItems es).toArray) := by rw [hco, hr]
  have hPL : P ≠ env.locals := fun q => by rw [q, hs.nl] at hP; cases hP
  have hPb := hs.own P _ hP rfl
  have hg := C.hg.keeps hs.keep
  have hgP : mainGlobals ≠ P := fun q => by
    obtain ⟨o, es, ep, e, hd, _⟩ := C.hg
    rw [q, hPb] at e; cases e
  obtain ⟨bm, ob, b1, b2, b3, b4, b5, b6, b7⟩ := hbm
  have hbP : bm ≠ P := fun q => by rw [q, hPb] at b4; cases b4
  have hB : s.heap.BuiltinsAt C.mg P := ⟨bm, ob, b1, b2, b3, hbP, hs.keep _ _ b4, b5, b6, b7⟩
  have hCs := hC.keeps hs.keep
  cases hf : hit es pos with
  | none =>
    refine kla_makeFunction hcl F.gl hg hcode hCs hPo (by rw [List.toList_toArray]; exact triples_tab es) (by rw [List.toList_toArray, among_tab, hf]; rfl) hgP hB fun c' ctv h' tk hx hge hlt hrec htb => ?_
    have hcn : s.heap.get? c' = none := Heap.get?_none_of_le hge
    have hfn : s.heap.get? h'.objs.size = none := Heap.get?_none_of_le (Nat.le_of_lt (Nat.lt_of_le_of_lt hge hlt))
    obtain ⟨c₂, oc, vs, t, e2, hoc, hd, hv⟩ := hrec
    cases e2
    have fc := hs.fresh hcn
    have ff := hs.fresh hfn
    have hcf : c' ≠ h'.objs.size := Nat.ne_of_lt hlt
    have hcP : c' ≠ P := fun q => by rw [q, hPo] at hcn; cases hcn
    have hfP : h'.objs.size ≠ P := fun q => by rw [q, hPo] at hfn; cases hfn
    obtain ⟨m, hn, hm⟩ := hs.loc
    have hpush : ∀ (o' : Obj) b o, h'.get? b = some o → (h'.push o').get? b = some o := fun o' b o e => Heap.get?_push_of_some _ e
    have hget : ∀ (x : Addr) (o : O), ((((H.set c' (.code (env.qual ++ "<lambda>"))).set P (.tab (es ++ [(pos.line, pos.col, c')]))).set h'.objs.size (.fn (lamFd C env params body scope clos c' ctv))) x = some o) → (x = h'.objs.size ∧ o = .fn (lamFd C env params body scope clos c' ctv)) ∨ (x = P ∧ o = .tab (es ++ [(pos.line, pos.col, c')])) ∨ (x = c' ∧ o = .code (env.qual ++ "<lambda>")) ∨ (x ≠ P ∧ H x = some o) := by
      intro x o e
      by_cases q1 : x = h'.objs.size
      · subst q1; rw [AH.set_same] at e; cases e; exact .inl ⟨rfl, rfl⟩
      · rw [AH.set_ne _ _ q1] at e
        by_cases q2 : x = P
        · subst q2; rw [AH.set_same] at e; cases e; exact .inr (.inl ⟨rfl, rfl⟩)
        · rw [AH.set_ne _ _ q2] at e
          by_cases q3 : x = c'
          · subst q3; rw [AH.set_same] at e; cases e; exact .inr (.inr (.inl ⟨rfl, rfl⟩))
          · rw [AH.set_ne _ _ q3] at e; exact .inr (.inr (.inr ⟨q2, e⟩))
    refine ⟨ρ, _, ⟨fun b o e => hpush _ b o (hx b o (fun q => by rw [q, hPb] at e; cases e) (hs.keep b o e)), fun x o e => ?_, fun x o e hm' => ?_, ⟨m, (hn.extBut hx hPL.symm).push _, hm⟩, ?_, hs.bl⟩, ⟨⟨_, tk, rfl⟩, fun b o e eb eL => hpush _ b o (hx b o (fun q => by rw [q, hP] at eb; cases eb) e), fun b o e eb => ?_, fun b o e => ?_⟩, rfl, h1 hf c' ctv _ fc.1 ff.1 hcf⟩
    · rcases hget x o e with ⟨rfl, rfl⟩ | ⟨rfl, rfl⟩ | ⟨rfl, rfl⟩ | ⟨q, e⟩
      · exact ⟨_, Heap.get?_push_size _ rfl, rfl⟩
      · refine ⟨_, hpush _ _ _ htb, ?_⟩
        show tabObj _ = _
        rw [tab_snoc]; simp
      · exact ⟨oc, hpush _ _ _ hoc, vs, t, hd, hv⟩
      · obtain ⟨c0, e1, e2⟩ := hs.rep x o e
        exact ⟨c0, hpush _ _ _ (hx x c0 q e1), e2⟩
    · rcases hget x o e with ⟨rfl, rfl⟩ | ⟨rfl, rfl⟩ | ⟨rfl, rfl⟩ | ⟨q, e⟩
      · cases hm'
      · exact hPb
      · cases hm'
      · exact hs.own x o e hm'
    · rw [AH.set_ne _ _ (Ne.symm ff.2.2), AH.set_ne _ _ hPL.symm, AH.set_ne _ _ (Ne.symm fc.2.2)]; exact hs.nl
    · rw [AH.set_ne _ _ (fun q => by rw [q, hfn] at e; cases e), AH.set_ne _ _ (fun q => by rw [q, hP] at eb; cases eb), AH.set_ne _ _ (fun q => by rw [q, hcn] at e; cases e)]; exact eb
    · by_cases q : b = P
      · subst q; exact ⟨_, hpush _ _ _ htb⟩
      · exact ⟨o, hpush _ b o (hx b o q e)⟩
  | some c' =>
    refine kla_makeFunctionHit hcl F.gl hg hcode hCs hPo (by rw [List.toList_toArray]; exact triples_tab es) (cv := .ref c') (by rw [List.toList_toArray, among_tab, hf]; rfl) hB fun ctv h' tk hk hsz => ?_
    have hfn : s.heap.get? h'.objs.size = none := Heap.get?_none_of_le hsz
    have k : ∀ b o, s.heap.get? b = some o → (h'.push (kla_obj "<lambda>" (env.qual ++ "<lambda>") params body scope clos ((C.mg "__name__").getD .none) c' ctv)).get? b = some o := fun b o e => Heap.get?_push_of_some _ (hk b o e)
    exact ⟨ρ, _, hs.alloc (o := .fn (lamFd C env params body scope clos c' ctv)) hfn (Heap.get?_push_size _ rfl) rfl k, .alloc hfn k, rfl, h2 c' hf ctv _ (hs.fresh hfn).1⟩

/-- a lambda called -/
abbrev lamEnv (fd : FuncData) (L a : Addr) : Env := newEnv fd.scope L fd.globals fd.closure (fd.qualname ++ ".<locals>.") (some a) fd.code none fd.builtins
theorem WCall.lam {a c' : Addr} {fd : FuncData} {body : Expr} {args : List V} {bs : List (Str × V)} {Q : V → AH → Prop} (hfn : H a = some (.fn fd)) (hdep : A.depth < recursionLimit)
    (hb : fd.body = .expr body) (hc : fd.code = .ref c') (hcH : H c' = some (.code fd.qualname)) (hcell : ∀ x ∈ fd.scope.names, x.2 ≠ .cell)
    (hbind : ∀ vals, vals.map ab = args → ∃ binds, bindArgs fd ⟨vals, []⟩ = pure binds ∧ binds.map (fun p => (p.1, ab p.2)) = bs)
    (hloc : ∀ x ∈ bs, fd.scope.names.lookup x.1 = some .local)
    (h : ∀ L, H L = none → WE C (A.deeper (lamEnv fd L a)) (lamEnv fd L a) body (fun y => bs.reverse.lookup y) H Q)
    (hco : fd.scope.isCoroutine = false := by rfl) (hgen : fd.scope.isGenerator = false := by rfl) (hk : fd.scope.kind = .function := by rfl) : WCall C A (.ref a) args [] H Q := by
  intro L ρ fv vals kvs e1 e2 e3
  cases ab_ref e1
  cases ab_nil e3
  obtain ⟨binds, hbt, hbs⟩ := hbind vals e2
  intro s hs
  have ho := hs.func hfn
  have hnone := get?_size_none s.heap
  have hrec : s.heap.CodeRec fd.code fd.qualname := by
    obtain ⟨oc, hoc, vs, t, hd, hv⟩ := hs.rep c' _ hcH
    exact ⟨c', oc, vs, t, hc, hoc, hd, hv⟩
  refine wpAny_call (kla_callFunE hdep ho rfl hco hgen hb hrec ?_)
  rw [hbt]
  refine wpAny_pure (wpAny_newFunctionEnv hcell (fun x hx => hloc (x.1, ab x.2) (by rw [← hbs]; exact List.mem_map.mpr ⟨x, hx, rfl⟩)) (fun h₁ hns hsb => ⟨((C.lim).keeps hs.keep).fresh _ hsb, ?_⟩) hk)
  have hk₁ : ∀ b o, s.heap.get? b = some o → h₁.get? b = some o := fun b o e => hsb.extBut b o (Nat.ne_of_lt (Heap.lt_size e)) (Heap.get?_push_of_some _ e)
  have hst : St C s.heap.objs.size (fun y => bs.reverse.lookup y) H h₁ := by
    refine ⟨fun b o e => hk₁ _ _ (hs.keep b o e), fun a o e => let ⟨c, e1, e2⟩ := hs.rep a o e; ⟨c, hk₁ _ _ e1, e2⟩, hs.own, ⟨_, hns, fun x => ?_⟩, (hs.fresh hnone).1, (hs.fresh hnone).2.1⟩
    rw [← hbs, ← List.map_reverse]
    exact lookup_ab x binds.reverse
  show codeAny _ _ (.expr body (lamEnv fd s.heap.objs.size a)) _ _
  refine kla_codeExpr (wpAny_mono (h s.heap.objs.size (hs.fresh hnone).1 { s with heap := h₁, toks := s.toks + binds.length } hst) (fun v s' ⟨ρ', H', x, y, z1, z⟩ => ?_) fun _ _ e => e.elim)
  obtain ⟨q1, q2, q3, q4⟩ := hs.back (s1 := { s with heap := h₁, toks := s.toks + binds.length }) (L' := s.heap.objs.size) hk₁ hnone (fun _ _ _ e => e) x y
  refine ⟨ρ, H', q1, ⟨?_, fun b o e eb _ => q2 b o e eb, q3, q4⟩, rfl, z⟩
  obtain ⟨h', tk', e⟩ := y.same
  exact ⟨h', tk', by rw [e]⟩
end
end Mine

namespace Mine
open PySem PySem.W PyProof.Rows

section
variable {C : Cx} {A : Around} {env : Env} {ρ : Lo} {H : AH}
/-! ## the call from the top, with code tables that may grow -/
theorem top_call2 {a : Addr} {o : Obj} {fd : FuncData} {body : List Stmt} {vals : List Value} {bs : List (Str × V)} {Q : V → AH → Prop} {s : Shared} (hsub : ∀ b o, C.base.get? b = some o → s.heap.get? b = some o) (hrep : ∀ a o, H a = some o → ∃ c, s.heap.get? a = some c ∧ Rep o c) (hown : ∀ a o, H a = some o → o.mut = true → C.base.get? a = none)
    (ho : s.heap.get? a = some o) (hd : o.data = .func fd) (hdep : A.depth < recursionLimit)
    (hb : fd.body = .stmts body) (hclo : fd.closure = []) (hcd : s.heap.CodeRec fd.code fd.qualname)
    {binds : List (Str × Value)} (hbt : bindArgs fd ⟨vals, []⟩ = pure binds) (hbs : binds.map (fun p => (p.1, ab p.2)) = bs)
    (hkind : (bs.all fun y => fd.scope.names.lookup y.1 == some .local || fd.scope.names.lookup y.1 == some .cell) = true)
    (hnd : ((cellsFrom 0 fd.scope.names []).map (·.1)).Nodup)
    (lm cm : Str → Option V) (hlm : ∀ L x, (bindL (callEnvC fd L a).kindOf binds (fun _ => none) x).map ab = lm x) (hcm : ∀ L x, (bindC (callEnvC fd L a).kindOf binds (fun _ => none) x).map ab = cm x)
    (h : ∀ L, H L = none → (∀ p ∈ cellsFrom (L + 1) fd.scope.names [], H p.2 = none ∧ p.2 ≠ L) → WS C (A.deeper (callEnvC fd L a)) (callEnvC fd L a) body lm (cellH cm (cellsFrom (L + 1) fd.scope.names []) H) (fun f _ H' => Q (retv f) H'))
    (hco : fd.scope.isCoroutine = false := by rfl) (hgen : fd.scope.isGenerator = false := by rfl) (hk : fd.scope.kind = .function := by rfl) :
    wpAny C.M A (call (.ref a) vals []) (fun v s' => (∃ H', Q (ab v) H' ∧ ∀ a o, H' a = some o → ∃ c, s'.heap.get? a = some c ∧ Rep o c) ∧ (∀ b o, C.base.get? b = some o → s'.heap.get? b = some o) ∧ (∀ b o, s.heap.get? b = some o → H b = none → s'.heap.get? b = some o) ∧ (∀ b o, s.heap.get? b = some o → ∃ o', s'.heap.get? b = some o') ∧ s'.gens = s.gens ∧ s'.os = s.os) False2 s := by
  have hnone := get?_size_none s.heap
  have hHn : ∀ b, s.heap.get? b = none → H b = none := fun b e => by
    cases q : H b with
    | none => rfl
    | some o => obtain ⟨c, e1, _⟩ := hrep b o q; rw [e] at e1; cases e1
  have hBn : ∀ b, s.heap.get? b = none → C.base.get? b = none := fun b e => by
    cases q : C.base.get? b with
    | none => rfl
    | some o => rw [hsub b o q] at e; cases e
  have hkind' : ∀ n, ∀ x ∈ binds, fd.scope.names.lookup x.1 = some .local ∨ (fd.scope.names.lookup x.1 = some .cell ∧ ((cellsFrom n fd.scope.names []).lookup x.1).isSome = true) := fun n x hx => by
    have := kindsX (scope := fd.scope) (binds := binds) (by
      rw [List.all_eq_true]; intro y hy
      exact List.all_eq_true.mp hkind (y.1, ab y.2) (by rw [← hbs]; exact List.mem_map.mpr ⟨y, hy, rfl⟩)) n x hx
    exact this
  refine wpAny_call (codeAny_call_cells hdep ho hd (C.lim.keeps hsub) hcd hb hbt hclo (hkind' _) (fun s₁ X => ?_) hco hgen hk)
  have hnames : ∀ (n : Nat) (names : List (Str × NameKind)) (acc : List (Str × Addr)) (p : Str × Addr), p ∈ cellsFrom n names acc → p ∈ acc ∨ n ≤ p.2 := by
    intro n names
    induction names generalizing n with
    | nil => intro acc p hp; exact .inl hp
    | cons x r ih =>
      intro acc p hp
      obtain ⟨nm, k⟩ := x
      unfold cellsFrom at hp
      split at hp
      · rcases ih (n + 1) _ p hp with q | q
        · rcases List.mem_cons.mp q with rfl | q
          · exact .inr (Nat.le_refl _)
          · exact .inl q
        · exact .inr (by omega)
      · exact ih n acc p hp
  have habove : ∀ p ∈ cellsFrom (s.heap.objs.size + 1) fd.scope.names [], s.heap.objs.size < p.2 := fun p hp => by
    rcases hnames _ _ _ p hp with q | q
    · cases q
    · omega
  have hfresh : ∀ p ∈ cellsFrom (s.heap.objs.size + 1) fd.scope.names [], s.heap.get? p.2 = none := fun p hp => by
    cases e : s.heap.get? p.2 with
    | none => rfl
    | some o => exact absurd (Heap.lt_size e) (Nat.lt_asymm (habove p hp))
  have same_names : ∀ (n n' : Nat) (names : List (Str × NameKind)) (acc acc' : List (Str × Addr)), acc.map (·.1) = acc'.map (·.1) → (cellsFrom n names acc).map (·.1) = (cellsFrom n' names acc').map (·.1) := by
    intro n n' names
    induction names generalizing n n' with
    | nil => intro acc acc' e; exact e
    | cons x r ih =>
      intro acc acc' e
      obtain ⟨nm, k⟩ := x
      unfold cellsFrom
      split
      · exact ih _ _ _ _ (by simp [e])
      · exact ih _ _ _ _ e
  have hnd' : ((cellsFrom (s.heap.objs.size + 1) fd.scope.names []).map (·.1)).Nodup := by rw [same_names _ 0 _ _ [] rfl]; exact hnd
  have lookup_mem : ∀ {cs : List (Str × Addr)}, (cs.map (·.1)).Nodup → ∀ n c, (n, c) ∈ cs → cs.lookup n = some c := by
    intro cs
    induction cs with
    | nil => intro _ n c hm; cases hm
    | cons p r ih =>
      intro hn n c hm
      obtain ⟨pn, pc⟩ := p
      simp only [List.map_cons, List.nodup_cons] at hn
      rcases List.mem_cons.mp hm with e | hm
      · cases e; simp [List.lookup_cons]
      · have hne : n ≠ pn := fun q => hn.1 (q ▸ List.mem_map.mpr ⟨(n, c), hm, rfl⟩)
        rw [List.lookup_cons, beq_false_of_ne hne]; exact ih hn.2 n c hm
  obtain ⟨⟨⟨h1, tk1, rfl⟩, hns, hkeep, hab⟩, hcell, hap, hgt⟩ := X
  have hst : St C s.heap.objs.size lm (cellH cm (cellsFrom (s.heap.objs.size + 1) fd.scope.names []) H) h1 := by
    refine ⟨fun b o e => hkeep _ _ (hsub b o e), fun b o e => ?_, fun b o e hm => ?_, ⟨_, hns, fun x => hlm _ x⟩, ?_, hBn _ hnone⟩
    · rcases cellH_some e with ⟨n, hm, rfl⟩ | e
      · obtain ⟨oc, ho, hd⟩ := hcell n b (lookup_mem hnd' n b hm)
        exact ⟨oc, ho, _, hd, hcm _ n⟩
      · obtain ⟨c, e1, e2⟩ := hrep b o e; exact ⟨c, hkeep _ _ e1, e2⟩
    · rcases cellH_some e with ⟨n, hm', rfl⟩ | e
      · exact hBn _ (hfresh _ hm')
      · exact hown b o e hm
    · rw [cellH_get (fun p hp q => Nat.ne_of_gt (habove p hp) q)]; exact hHn _ hnone
  refine wpAny_mono (h s.heap.objs.size (hHn _ hnone) (fun p hp => ⟨hHn _ (hfresh p hp), Nat.ne_of_gt (habove p hp)⟩) { s with heap := h1, toks := tk1 } hst) (fun f s' ⟨ρ', H', x, y, z⟩ => ?_) fun _ _ e => e.elim
  obtain ⟨h', tk', e⟩ := y.same
  have e1 : (∃ H', Q (ab (match f with | .ret v => v | _ => .none)) H' ∧ ∀ a o, H' a = some o → ∃ c, s'.heap.get? a = some c ∧ Rep o c) := ⟨H', by cases f <;> exact z, x.rep⟩
  have e2 : ∀ b o, C.base.get? b = some o → s'.heap.get? b = some o := fun b o e => x.keep b o e
  have e3 : s'.gens = s.gens ∧ s'.os = s.os := by rw [e]; exact ⟨rfl, rfl⟩
  have e4 : ∀ b o, s.heap.get? b = some o → H b = none → s'.heap.get? b = some o := fun b o eb hb => by
    refine y.kept b o (hkeep b o eb) ?_ (fun q => by have q' : b = s.heap.objs.size := q; rw [q', hnone] at eb; cases eb)
    rw [cellH_get (fun p hp q => by have := hfresh p hp; rw [q, eb] at this; cases this)]; exact hb
  have e5 : ∀ b o, s.heap.get? b = some o → ∃ o', s'.heap.get? b = some o' := fun b o eb => y.live b o (hkeep b o eb)
  exact ⟨by cases f <;> exact e1, e2, e4, e5, e3.1, e3.2⟩

theorem law_end2 {r : RowW} {cl : Str → Option Addr} {mean : ExcName → Option Value} {args : List WData} {s₁ s' : Shared} {H H' : AH} {tabs : List Addr} (hr : r.raises = []) (hp : r.claim.post args (.bool true) args = true)
    (htab : ∀ P ∈ tabs, (∃ c, s₁.heap.TableAt c P #[]) ∧ ∃ es, H' P = some (.tab es)) (hrep : ∀ a o, H' a = some o → ∃ c, s'.heap.get? a = some c ∧ Rep o c)
    (hk : ∀ b o, b ∉ tabs → s₁.heap.get? b = some o → s'.heap.get? b = some o) (hl : ∀ b o, s₁.heap.get? b = some o → ∃ o', s'.heap.get? b = some o') (hg : s'.gens = #[]) (hos : s'.os = s₁.os) : GoodWG r.claim cl mean args s₁ (.ok (.ret (.bool true))) s' := by
  refine ⟨.inl ⟨.bool true, .bool true, [], rfl, raisesW_false (by rw [hr]; exact allW_false_nil), .bool true, hp, unshared_nil⟩, ⟨fun b o e => ?_, hl⟩, hos, .of_eq hg⟩
  by_cases q : b ∈ tabs
  · obtain ⟨⟨c, ht⟩, es, he⟩ := htab b q
    have e₀ : o = { cls := .none, data := .fields #[] } := Option.some.inj (e.symm.trans ht.2)
    obtain ⟨co, h1, h2⟩ := hrep b _ he
    refine .inr (.inl ⟨ht.isCodeTable, by rw [e₀], #[], (tabItems es).toArray, by rw [e₀], ?_⟩)
    rw [h1, e₀]
    have : co = { cls := .none, data := .fields (tabItems es).toArray } := h2
    rw [this]; simp
  · exact .inl (hk b o q e)
end
end Mine

namespace Mine
open PySem PySem.W PyProof.Rows

/-! ## comparisons and keys as judgements -/
def LtOk (C : Cx) (A : Around) (H : AH) (v w : V) (b : Bool) : Prop := ∀ L ρ x y, ab x = v → ab y = w → W C A L (compareOp .Lt x y) ρ H (fun z ρ' H' => ρ' = ρ ∧ H' = H ∧ z = .bool b)
def KeyOk (C : Cx) (A : Around) (H : AH) (f : Addr) (v kv : V) : Prop := WCall C A (.ref f) [v] [] H (fun r H' => r = kv ∧ H' = H)
section
variable {C : Cx} {A : Around} {env : Env} {ρ : Lo} {H : AH}
theorem LtOk.int {a b : Int} : LtOk C A H (.int a) (.int b) (decide (a < b)) := fun L ρ x y ex ey => W.icmp (op := .Lt) ex ey rfl ⟨rfl, rfl, rfl⟩
theorem EvT.ltOk {l r : Expr} {pos : Pos} {v w : V} {b : Bool} (h1 : Ev C A env ρ H l v) (h2 : Ev C A env ρ H r w) (h : LtOk C A H v w b) (hm : behindInMarks .Lt r = false := by with_unfolding_all rfl) : EvT C A env ρ H (.Compare l [.Lt] [r] pos) b :=
  WT.ev (WT.cmp (WE.of h1 (WE.of h2 fun x y ex ey => W.mono (h _ _ x y ex ey) (by rintro z _ _ ⟨rfl, rfl, rfl⟩; exact ⟨rfl, _, rfl, rfl, rfl⟩))) hm)
theorem Ev.key {id : Str} {p pos : Pos} {e : Expr} {f : Addr} {o : Obj} {fd : FuncData} {v kv : V} (hf : Ev C A env ρ H (.Name id p) (.ref f)) (hfn : FnAt C H f o fd) (he : Ev C A env ρ H e v) (hk : KeyOk C A H f v kv) (hn : noStar [e] = true := by rfl) : Ev C A env ρ H (.Call (.Name id p) [e] [] pos) kv :=
  WE.ev (WE.callFn hf (WEs.of (.cons he .nil) (WKs.nil ⟨hfn, hk⟩)) hn)
/-! is, is not -/
theorem Ev.any {l r : Expr} {op : CmpOp} {pos : Pos} {v w : V} {b : Bool} (h1 : Ev C A env ρ H l v) (h2 : Ev C A env ρ H r w) (h : ∀ x y, ab x = v → ab y = w → W C A env.locals (compareOp op x y) ρ H (fun z ρ' H' => ρ' = ρ ∧ H' = H ∧ z = .bool b)) (hm : behindInMarks op r = false := by with_unfolding_all rfl) : EvT C A env ρ H (.Compare l [op] [r] pos) b :=
  WT.ev (WT.cmp (WE.of h1 (WE.of h2 fun x y ex ey => W.mono (h x y ex ey) (by rintro z _ _ ⟨rfl, rfl, rfl⟩; exact ⟨rfl, _, rfl, rfl, rfl⟩))) hm)
theorem EvT.isNotSelf {l r : Expr} {pos : Pos} {a : Addr} (h1 : Ev C A env ρ H l (.ref a)) (h2 : Ev C A env ρ H r (.ref a)) (hm : behindInMarks .IsNot r = false := by with_unfolding_all rfl) : EvT C A env ρ H (.Compare l [.IsNot] [r] pos) false :=
  Ev.any h1 h2 (fun x y ex ey => by
    cases ab_ref ex; cases ab_ref ey
    exact fun s hs => wpAny_isNot_ref_self ⟨ρ, H, hs, .refl .., rfl, rfl, rfl⟩) hm
end
/-- one frame deeper -/
def Nx (A A' : Around) : Prop := A'.depth = A.depth + 1 ∧ A'.units = A.units + 3 ∧ A'.handled = A.handled
theorem Nx.of (A : Around) (env : Env) : Nx A (A.deeper env) := ⟨rfl, rfl, rfl⟩

/-! ## the search -/
def bis (f : Nat → Bool) (lo hi : Nat) : Nat :=
  if h : lo < hi then
    if f ((lo + hi) / 2) then bis f lo ((lo + hi) / 2) else bis f ((lo + hi) / 2 + 1) hi
  else lo
termination_by hi - lo
decreasing_by all_goals omega
theorem bis_eq {f : Nat → Bool} {s : Nat} : ∀ {lo hi : Nat}, lo ≤ s → s ≤ hi → (∀ i, lo ≤ i → i < s → f i = false) → (∀ i, s ≤ i → i < hi → f i = true) → bis f lo hi = s := by
  intro lo hi
  induction hm : hi - lo using Nat.strongRecOn generalizing lo hi with
  | ind n ih =>
    intro h1 h2 h3 h4
    unfold bis
    by_cases h : lo < hi
    · rw [dif_pos h]
      by_cases hf : f ((lo + hi) / 2) = true
      · rw [if_pos hf]
        have : s ≤ (lo + hi) / 2 := by
          rcases Nat.lt_or_ge ((lo + hi) / 2) s with q | q
          · have := h3 _ (by omega) q; rw [hf] at this; cases this
          · exact q
        exact ih _ (by omega) rfl h1 this h3 (fun i a b => h4 i a (by omega))
      · rw [if_neg hf]
        have : (lo + hi) / 2 < s := by
          rcases Nat.lt_or_ge ((lo + hi) / 2) s with q | q
          · exact q
          · exact absurd (h4 _ q (by omega)) hf
        exact ih _ (by omega) rfl this h2 (fun i a b => h3 i (by omega) b) h4
    · rw [dif_neg h]; omega
theorem bis_cross {f : Nat → Bool} {lo hi : Nat} (h : hi ≤ lo) : bis f lo hi = lo := by
  unfold bis; rw [dif_neg (by omega)]
theorem bis_true {f : Nat → Bool} {lo hi : Nat} (h : lo < hi) (hf : f ((lo + hi) / 2) = true) : bis f lo hi = bis f lo ((lo + hi) / 2) := by
  conv => lhs; unfold bis
  rw [dif_pos h, if_pos hf]
theorem bis_false {f : Nat → Bool} {lo hi : Nat} (h : lo < hi) (hf : f ((lo + hi) / 2) = false) : bis f lo hi = bis f ((lo + hi) / 2 + 1) hi := by
  conv => lhs; unfold bis
  rw [dif_pos h, if_neg (by simp [hf])]
end Mine

namespace Mine
open PySem PySem.W PyProof.Rows

section
variable {C : Cx} {A : Around} {env : Env} {ρ : Lo} {H : AH}
/-! ## enumerate -/
theorem Itr.enum {e it l : Addr} {elts : List Expr} {kk : Nat} {pos : Pos} {ob : O} {vs : List V} (hh : A.handled = none) (hei : e ≠ it) (hle : l ≠ e) (hli : l ≠ it) (hl : lst ob = some vs) :
    Itr C A e [e, it] (.Tuple elts kk pos) vs.length (fun i h => (∃ old, IsEnum h e it i old) ∧ h.IsListIter it l i) (fun _ H => H l = some ob) (fun i H d => ∃ v, vs[i]? = some v ∧ d = .tup [.int i, v]) where
  live := fun i h ⟨⟨old, he⟩, o, ho, _⟩ b hb => by
    rcases List.mem_cons.mp hb with rfl | hb
    · exact ⟨_, he⟩
    · rw [List.mem_singleton.mp hb]; exact ⟨o, ho⟩
  frame := fun i h h' ⟨⟨old, he⟩, hit⟩ k => ⟨⟨old, k e (by simp) _ he⟩, hit.at fun o x => k it (by simp) o x⟩
  item := fun i s L ρ H Q hi hr hs hw hok hq => by
    obtain ⟨⟨old, he⟩, hit⟩ := hr
    obtain ⟨xs, h1, h2, h3⟩ := hs.list hok hl
    obtain ⟨x, x1, x2⟩ := arr_get (i := i) (v := vs[i]) h2 (by simp [hi])
    refine wpAny_pyNext_enum_item he hit h1 x1 hei fun h' ho hit' hT hsz hk => ?_
    refine wpAny_letOwnedTupleGo_enum ho fun h'' he'' hs'' => ?_
    have helt : e < s.heap.objs.size := Heap.lt_size he
    have k : ∀ b o, b ∉ [e, it] → s.heap.get? b = some o → h''.get? b = some o := fun b o hb eb => (hs''.2 b fun q => hb (by simp [q])).trans (hk b o (fun q => hb (by simp [q])) (fun q => hb (by simp [q])) eb)
    refine hq (.ref s.heap.objs.size) (.tup [.int i, vs[i]]) h'' (s.toks + 1) ⟨_, by simp [hi], rfl⟩ ⟨_, #[.int i s.toks, x], rfl, ⟨_, (hs''.2 _ (Nat.ne_of_gt helt)).trans hT, rfl, _, rfl⟩, by show [ab _, ab x] = _; rw [x2]; rfl⟩ (hs.offL hw k) ⟨⟨x, by simpa using he''⟩, hit'.at fun o y => (hs''.2 it hei.symm).trans y⟩ k
  done := fun s L ρ H Q hr hs hw hok hq => by
    obtain ⟨⟨old, he⟩, hit⟩ := hr
    obtain ⟨xs, h1, h2, h3⟩ := hs.list hok hl
    refine wpAny_pyNext_enum_end hh he hit h1 (by rw [← arr_size h2]; simp) fun h' hx => ?_
    have k : ∀ b o, b ∉ [e, it] → s.heap.get? b = some o → h'.get? b = some o := fun b o hb eb => hx b o (fun q => hb (by simp [q])) eb
    exact hq h' s.toks (hs.offL hw k) k
  self := fun i s Q ⟨⟨old, he⟩, _⟩ hq => wpAny_pyIter_enum he hq

theorem WIt.enum {e : Expr} {elts : List Expr} {kk : Nat} {tpos : Pos} {id : Str} {p pos : Pos} {K : AH → Nat → (Nat → AH → Prop) → (Nat → AH → Dv → Prop) → Prop} (F : Fx C A env) (hf : Ev C A env ρ H (.Name id p) (.ty "enumerate"))
    (h : WE C A env e ρ H (fun v H1 => ∃ l ob vs, v = .ref l ∧ H1 l = some ob ∧ lst ob = some vs ∧ K H1 vs.length (fun _ H2 => H2 l = some ob) (fun i _ d => ∃ v, vs[i]? = some v ∧ d = .tup [.int i, v]))) (hn : noStar [e] = true := by rfl) :
    WIt C A env (.Call (.Name id p) [e] [] pos) (.Tuple elts kk tpos) ρ H K := fun s hs Q hq => by
  refine wpAny_Call_Name_kw (wpAny_mono (hf s hs) (fun f s1 ⟨ρ1, H1, a1, b1, c1, c2, c3⟩ => ?_) fun _ _ e => e)
  subst c1 c2
  cases ab_ty c3
  refine PySem.callWith_type (backTo_any hn) (wpAny_mono (evalArgs_run (ks := []) (Q := fun vs kv H2 => ∃ v, vs = [v] ∧ kv = [] ∧ ∃ l ob ws, v = .ref l ∧ H2 l = some ob ∧ lst ob = some ws ∧ K H2 ws.length (fun _ H3 => H3 l = some ob) (fun i _ d => ∃ v, ws[i]? = some v ∧ d = .tup [.int i, v])) hn rfl (WEs.cons (WE.mono h fun v H1 q => WEs.nil (WKs.nil ⟨v, rfl, rfl, q⟩))) s1 a1) (fun x s2 ⟨ρ2, H2, a2, b2, c2, v, d1, d2, l, ob, ws, d3, d4, d5, d6⟩ => ?_) fun _ _ e => e)
  subst c2
  have hkw : x.kw = [] := by simpa using d2
  obtain ⟨y, ey, ey'⟩ := vals1 d1
  subst d3
  cases ab_ref ey'
  rw [hkw, ey]
  obtain ⟨xs, x1, x2, x3⟩ := a2.list d4 d5
  have hn1 := get?_size_none s2.heap
  have hn2 : s2.heap.get? (s2.heap.objs.size + 1) = none := Heap.get?_none_of_le (by omega)
  have hlne : l < s2.heap.objs.size := by obtain ⟨o, ho, _⟩ := x1; exact Heap.lt_size ho
  have b12 := b1.trans b2 (fun _ _ => a2.nl)
  have back : ∀ b, s2.heap.get? b = none → s.heap.get? b = none := fun b e => by
    cases q : s.heap.get? b with
    | none => rfl
    | some o => obtain ⟨o', e'⟩ := b12.live _ o q; rw [e] at e'; cases e'
  refine call_enumerate_list x1 fun h' he hit hsz k => ?_
  refine wpAny_pyIter_enum he ?_
  refine hq H2 _ _ _ (s2.heap.objs.size + 1) [s2.heap.objs.size + 1, s2.heap.objs.size] _ _ d6 (Itr.enum F.hh (Nat.succ_ne_self _) (Nat.ne_of_lt (Nat.lt_succ_of_lt hlne)) (Nat.ne_of_lt hlne) d5) ⟨⟨.none, he⟩, hit⟩ (a2.ext k) (b12.trans (Step.ext (tk := s2.toks) k) (fun _ _ => a2.nl)) fun b hb => ?_
  rcases List.mem_cons.mp hb with rfl | hb
  · exact ⟨back _ hn2, (a2.fresh hn2).1⟩
  · rw [List.mem_singleton.mp hb]; exact ⟨back _ hn1, (a2.fresh hn1).1⟩
end
end Mine

namespace Mine
open PySem PySem.W PyProof.Rows
open PySem.AutoSeq1 (wpAny_loadPart')
open PySem.MeetsSeq PySem.MeetsSeq3

/-! ## lists of one number, compared -/
theorem lt_end (l b : Addr) (x y : Value) (n n2 : Nat) (dd dd2 : Option Addr) (sl sl2 : Array (Option Value)) :
    Meets (Builtin.«list.__eq__.loop» ⟨[.ref l, .ref b, rawInt 1, rawInt 0], []⟩)
      (fun A R s => s.heap.get? l = some { cls := .type "list", dict := dd, data := .seq #[x] n, slots := sl } ∧ s.heap.get? b = some { cls := .type "list", dict := dd2, data := .seq #[y] n2, slots := sl2 } ∧ R (.ok (.ret (.bool false))) s) := by
  intro prog w A R s h
  obtain ⟨hp, g, d, tk, os⟩ := s; obtain ⟨hl, hb, h⟩ := h
  wp_walk using wpAny_loadPart' hl, wpAny_loadPart' hb
  exact h
theorem lt_one (l b : Addr) (items items2 : Array Value) (x y : Int) (t u : Tok) (n n2 : Nat) (dd dd2 : Option Addr) (sl sl2 : Array (Option Value)) (e1 : items = #[.int x t]) (e2 : items2 = #[.int y u]) :
    Meets (Builtin.«list.__eq__.loop» ⟨[.ref l, .ref b, rawInt 0, rawInt 0], []⟩)
      (fun A R s => s.heap.get? l = some { cls := .type "list", dict := dd, data := .seq items n, slots := sl } ∧ s.heap.get? b = some { cls := .type "list", dict := dd2, data := .seq items2 n2, slots := sl2 } ∧ R (.ok (.ret (.bool (decide (x < y))))) s) := by
  intro prog w A R s h
  obtain ⟨hp, g, d, tk, os⟩ := s; obtain ⟨hl, hb, h⟩ := h
  have h1 : items[(0 : Int).toNat]? = some (.int x t) := by rw [e1]; rfl
  have h2 : items2[(0 : Int).toNat]? = some (.int y u) := by rw [e2]; rfl
  wp_walk using wpAny_loadPart' hl, wpAny_loadPart' hb
  rw [h1, h2]
  refine wpAny_bind (EqGives.int x y t u prog w _ _ _ _ ?_)
  cases hxy : (x == y) with
  | true =>
    have e : x = y := by simpa using hxy
    wp_walk
    rw [show decide (x < y) = false by simp [e]] at h
    exact ⟨plainId_quiet plain_eq_loop _, codeAny_builtin entry_eq_loop (by
        rw [Around.under_plainId plain_eq_loop _]
        rw [e1] at hl; rw [e2] at hb
        exact lt_end l b _ _ n n2 dd dd2 sl sl2 prog w A R _ ⟨hl, hb, h⟩)⟩
  | false =>
    wp_walk using wpAny_loadPart' hl, wpAny_loadPart' hb
    rw [h1, h2]
    refine wpAny_bind (show wpAny _ _ (compareOp .Lt (.int x t) (.int y u)) _ _ _ from PySem.wpAny_lt_int ?_)
    wp_walk
    exact h
theorem list_lt_one (l b : Addr) (items items2 : Array Value) (x y : Int) (t u : Tok) (n n2 : Nat) (dd dd2 : Option Addr) (sl sl2 : Array (Option Value)) (e1 : items = #[.int x t]) (e2 : items2 = #[.int y u]) :
    Meets (Builtin.«list.__lt__» ⟨[.ref l, .ref b], []⟩)
      (fun A R s => s.heap.get? l = some { cls := .type "list", dict := dd, data := .seq items n, slots := sl } ∧ s.heap.get? b = some { cls := .type "list", dict := dd2, data := .seq items2 n2, slots := sl2 } ∧ R (.ok (.ret (.bool (decide (x < y))))) s) := by
  intro prog w A R s h
  obtain ⟨hp, g, d, tk, os⟩ := s; obtain ⟨hl, hb, h⟩ := h
  have f3 := AutoSeq1.sub_list_list
  wp_walk using wpAny_loadPart' hl, wpAny_loadPart' hb
  exact ⟨plainId_quiet plain_eq_loop _, codeAny_builtin entry_eq_loop (by
    rw [Around.under_plainId plain_eq_loop _]
    exact lt_one l b items items2 x y t u n n2 dd dd2 sl sl2 e1 e2 prog w A R _ ⟨hl, hb, h⟩)⟩
section
variable {C : Cx} {A : Around} {env : Env} {ρ : Lo} {H : AH}
theorem LtOk.one {a b : Addr} {x y : Int} (ha : H a = some (.list [.int x])) (hb : H b = some (.list [.int y])) (hu : A.units < cLine) : LtOk C A H (.ref a) (.ref b) (decide (x < y)) := fun L ρ v w ev ew => by
  cases ab_ref ev; cases ab_ref ew
  intro s hs
  obtain ⟨its, n, ho, hi, _, _⟩ := hs.at ha
  obtain ⟨its2, n2, ho2, hi2, _, _⟩ := hs.at hb
  obtain ⟨v, e1, e1'⟩ := vals1 hi
  obtain ⟨w, e2, e2'⟩ := vals1 hi2
  obtain ⟨t, rfl⟩ := ab_int e1'
  obtain ⟨u, rfl⟩ := ab_int e2'
  have e3 : its = #[.int x t] := by rw [← Array.toArray_toList (xs := its), e1]
  have e4 : its2 = #[.int y u] := by rw [← Array.toArray_toList (xs := its2), e2]
  refine cmp_ofLt (richCompare_meets_room (T := "list") ⟨_, ho, rfl⟩ ⟨_, ho2, rfl⟩ PySem.F.slot_list_lt PySem.F.entry_list_lt (PySem.F.args_list_lt_2 _ _) (list_lt_one a b its its2 x y t u n n2 none none #[] #[] e3 e4) ⟨ho, ho2, ?_⟩ hu)
  exact ⟨by simp, ρ, H, hs, .refl .., rfl, rfl, rfl⟩

/-! ## more lists made -/
/-- of a list's items those that pass a test -/
theorem comp_filter {p : V → Bool} {elt c : Expr} {x : Str} {pos : Pos} {Ok : Nat → AH → Prop} {vs : List V} {g : V → V} {Q : AH → List V → Prop} (F : Fx C A env) (hx : env.kindOf x = some .local) (hn : vs.length ≤ sizeLine)
    (hOk : ∀ i, Ok i H) (he : ∀ v (ρ : Lo), v ∈ vs → ρ x = some v → Ev C A env ρ H elt (g v)) (hc : ∀ v (ρ : Lo), v ∈ vs → ρ x = some v → EvT C A env ρ H c (p v)) (hQ : Q H ((vs.filter p).map g)) :
    LoopOk C A env elt (.Name x pos) [c] [] H vs.length Ok (fun i _ d => ∃ v, vs[i]? = some v ∧ d = .one v) (fun _ => none) [] (fun _ H2 zs => Q H2 zs) := by
  refine ⟨fun i ρ1 H1 zs => H1 = H ∧ zs = ((vs.take i).filter p).map g, ⟨rfl, rfl⟩, ?_, ?_⟩
  · rintro i ρ1 H1 zs hi ⟨rfl, rfl⟩
    refine ⟨hOk i, ?_⟩
    rintro d ⟨v, hv, rfl⟩
    have hm : v ∈ vs := List.mem_of_getElem? hv
    have ht : vs.take (i + 1) = vs.take i ++ [v] := by rw [List.take_add_one, hv]; rfl
    refine Asg.local F hx (WT.of (hc v _ hm (Lo.set_same ..)) ⟨fun e => ⟨fun _ => ?_, fun e => (by cases e)⟩, fun e => ⟨fun e => (by cases e), fun _ => ⟨rfl, ?_⟩⟩⟩)
    · refine WE.of (he v _ hm (Lo.set_same ..)) ⟨?_, rfl, ?_⟩
      · have := List.length_filter_le p (vs.take i)
        simp at this ⊢
        omega
      · rw [ht]; simp [e]
    · rw [ht]; simp [e]
  · rintro ρ1 H1 zs ⟨rfl, rfl⟩
    exact ⟨hOk _, by rw [List.take_length]; exact hQ⟩
theorem Ev.lenFilter {p : V → Bool} {x : Str} {iter c : Expr} {q q' q2 pos pos' : Pos} {id : Str} {scope : Scope} {cl : List (Str × Addr)} {l : Addr} {ob : O} {vs : List V} (F : Fx C A env) (hf : Ev C A env ρ H (.Name id q2) (.bi "len")) (hclos : closureFor scope env = pure cl)
    (hit : Ev C A env ρ H iter (.ref l)) (hH : H l = some ob) (hl : lst ob = some vs) (hn : vs.length ≤ sizeLine) (hx : ∀ Cn, (compEnvC scope cl Cn env).kindOf x = some .local)
    (hc : ∀ Cn v (ρ : Lo), v ∈ vs → ρ x = some v → EvT C A (compEnvC scope cl Cn env) ρ H c (p v))
    (hcell : ∀ y ∈ scope.names, y.2 ≠ .cell := by decide) (hkind : scope.kind = .function := by rfl) (hnames : ∀ x ∈ scope.names, x.2 = .local → scope.names.lookup x.1 = some .local := by decide)
    (hfs : ∀ x, foldedSetIterable iter env x = pure x := by intro _; rfl) (hd : (x == ("__debug__" : Str)) = false := by decide) :
    Ev C A env ρ H (.Call (.Name id q2) [.ListComp (.Name x q) [⟨.Name x q', iter, [c], 0⟩] scope pos] [] pos') (.int (vs.countP p : Nat)) := by
  refine WE.ev (WE.drop (WE.callBi hf (WEs.cons (WE.listComp hclos (WIt.list F (WE.of hit ⟨l, ob, vs, rfl, hH, hl, fun Cn hCn => ?_⟩)) hcell hkind hnames hfs)) rfl))
  refine comp_filter (p := p) (g := fun v => v) (F.comp hkind) (hx Cn) hn (fun _ => hH) (fun v ρ _ hv => Ev.local (F.comp hkind) (hx Cn) hv hd) (hc Cn) fun D hD => ?_
  refine WEs.nil (WKs.nil (WCall.len (AH.set_same ..) rfl ⟨H, AH.le_set (AH.le_refl _) hD, ?_, rfl⟩))
  rw [List.length_map, List.countP_eq_length_filter]
/-- the items of lists, one list behind the other -/
theorem comp_flat {x y : Str} {p1 p2 p3 p4 : Pos} {Ok : Nat → AH → Prop} {as : List Addr} {vss : List (List V)} {Q : AH → List V → Prop} (F : Fx C A env) (hx : env.kindOf x = some .local) (hy : env.kindOf y = some .local)
    (hlen : as.length = vss.length) (hat : ∀ (i : Nat) a vs, as[i]? = some a → vss[i]? = some vs → H a = some (.list vs)) (hn : vss.flatten.length ≤ sizeLine)
    (hOk : ∀ i, Ok i H) (hQ : Q H vss.flatten) (hdx : (x == ("__debug__" : Str)) = false := by decide) (hdy : (y == ("__debug__" : Str)) = false := by decide) :
    LoopOk C A env (.Name y p1) (.Name x p2) [] [⟨.Name y p3, .Name x p4, [], 0⟩] H as.length Ok (fun i _ d => ∃ v, (as.map V.ref)[i]? = some v ∧ d = .one v) (fun _ => none) [] (fun _ H2 zs => Q H2 zs) := by
  refine ⟨fun i ρ1 H1 zs => H1 = H ∧ zs = (vss.take i).flatten, ⟨rfl, rfl⟩, ?_, ?_⟩
  · rintro i ρ1 H1 zs hi ⟨rfl, rfl⟩
    refine ⟨hOk i, ?_⟩
    rintro d ⟨v, hv, rfl⟩
    obtain ⟨a, ha, rfl⟩ : ∃ a, as[i]? = some a ∧ v = .ref a := ⟨as[i], List.getElem?_eq_getElem hi, by rw [List.getElem?_map, List.getElem?_eq_getElem hi] at hv; exact (Option.some.inj hv).symm⟩
    have hi' : i < vss.length := by omega
    have hvs : vss[i]? = some vss[i] := List.getElem?_eq_getElem hi'
    have hHa := hat i a _ ha hvs
    refine Asg.local F hx ⟨fun _ => ?_, fun e => by cases e⟩
    refine WIt.list F (WE.of (Ev.local F hx (Lo.set_same ..) hdx) ⟨a, _, _, rfl, hHa, rfl, ?_⟩)
    have ht : (vss.take (i + 1)).flatten = (vss.take i).flatten ++ vss[i] := by rw [List.take_add_one, hvs, List.flatten_append]; simp
    have hle : (vss.take i).flatten.length + vss[i].length ≤ vss.flatten.length := by
      rw [← List.length_append, ← ht]
      conv => rhs; rw [← List.take_append_drop (i + 1) vss]
      rw [List.flatten_append, List.length_append]
      exact Nat.le_add_right _ _
    refine ⟨fun j ρ2 H2 us => H2 = H1 ∧ us = (vss.take i).flatten ++ vss[i].take j, ⟨rfl, by simp⟩, ?_, ?_⟩
    · rintro j ρ2 H2 us hj ⟨rfl, rfl⟩
      refine ⟨hHa, ?_⟩
      rintro d ⟨v, hv, rfl⟩
      refine Asg.local F hy ⟨fun _ => ?_, fun e => by cases e⟩
      refine WE.of (Ev.local F hy (Lo.set_same ..) hdy) ⟨by rw [List.length_append, List.length_take]; omega, rfl, ?_⟩
      rw [List.take_add_one, hv]; simp
    · rintro ρ2 H2 us ⟨rfl, rfl⟩
      exact ⟨hHa, rfl, by rw [List.take_length, ht]⟩
  · rintro ρ1 H1 zs ⟨rfl, rfl⟩
    exact ⟨hOk _, by rw [hlen, List.take_length]; exact hQ⟩
end
end Mine

namespace Mine
open PySem PySem.W PyProof.Rows

/-! ## a[i:j] = another list -/
section
variable {prog : Program} {w : World} {A : Around} {E : Value → Shared → Prop} {s : Shared}
theorem setItem_slice {l sl r : Addr} {items new : Array Value} {n nn : Nat} {vl vu : Value} {lo hi : Option Int} {Q : Unit → Shared → Prop} (ho : s.heap.get? l = some (listOf items n)) (hs : s.heap.IsSliceOf sl vl vu .none) (pl : IsPart vl lo) (pu : IsPart vu hi)
    (hr : s.heap.get? r = some (listOf new nn)) (hne : l ≠ r) (hsz : items.size + new.size ≤ 1000000)
    (h : Q () { s with heap := s.heap.update l (Obj.mapSeq fun xs => xs.extract 0 (lo.elim 0 (clipAt items.size)) ++ new ++ xs.extract (max (lo.elim 0 (clipAt items.size)) (hi.elim items.size (clipAt items.size))) xs.size) }) :
    wpAny (model prog w) A (setItem (.ref l) (.ref sl) (.ref r)) Q E s := by
  obtain ⟨os, hos, hcs, hds⟩ := id hs
  have hTs : s.TypeIs (.ref sl) "slice" := ⟨os, hos, hcs⟩
  have hTl : s.TypeIs (.ref l) "list" := ⟨_, ho, rfl⟩
  have hTr : s.TypeIs (.ref r) "list" := ⟨_, hr, rfl⟩
  unfold setItem
  try with_reducible refine wpAny_holding ?_
  first | refine wpAny_bind (wpAny_pure ?_) | skip
  refine wpAny_bind (wpAny_sequenceKey hTl (by decide) ?_)
  refine wpAny_bind (wpAny_callSpecial?_slot (name := Str.ofString "__setitem__") hTl slot_list_setitem
    (wpAny_call_entry slot_list_setitem hTl entry_list_setitem ?_ (args_list_setitem _ _ _)))
  show wpAny _ _ (Builtin.List.listSubscript? (.ref sl) >>= _) _ _ s
  refine wpAny_bind ?_
  unfold Builtin.List.listSubscript?
  refine wpAny_bind (wpAny_specialOf hTs slice_no_index ?_)
  simp only [Option.isNone_none, if_true]
  refine wpAny_pure ?_
  show wpAny _ _ (typeOf (.ref sl) >>= _) _ _ s
  refine wpAny_bind (wpAny_typeOf hTs ?_)
  rw [if_neg (by decide)]
  rw [listSliceParts_eq]
  have hstep : ¬ ((rawPart none == rawInt 0) = true) := Bool.false_ne_true
  refine wpAny_bind (wpAny_bind (wpAny_field hos hds (x := .none) rfl (wpAny_bind (wpAny_listPart .none ?_))))
  rw [if_neg hstep]
  refine wpAny_bind (wpAny_field hos hds (x := vl) rfl (wpAny_bind (wpAny_listPart pl ?_)))
  refine wpAny_bind (wpAny_field hos hds (x := vu) rfl (wpAny_bind (wpAny_listPart pu (wpAny_pure ?_))))
  have hsame : Builtin.List.listSameRef (.ref l) (.ref r) = false := by show (l == r) = false; simpa using hne
  rw [hsame]
  have hsl : 1000000 ≤ sizeLine := by decide
  refine wpAny_bind (m := if false = true then Builtin.List.listItems (.ref r) else Builtin.List.listAllItems (.ref r) "must assign iterable to extended slice") ?_
  rw [if_neg Bool.false_ne_true]
  refine wpAny_bind (wpAny_typeOf hTr ?_)
  rw [if_pos (by decide)]
  refine listItems_at hr rfl ?_
  refine wpAny_bind (listItems_at ho rfl ?_)
  refine wpAny_bind (wpAny_of_eq (sliceIndices_raw lo hi none items.size (by simp)) ?_)
  rw [sliceBounds_plain]
  show wpAny _ _ (if ((1 : Int) == 1) = true then _ else _) _ _ _
  rw [if_pos (by decide)]
  refine wpAny_bind (wpAny_rule ?_)
  rw [if_neg (by unfold Builtin.List.listTooLong; simp; omega)]
  have h1 : (((lo.elim 0 (clipAt items.size) : Nat) : Int)).toNat = lo.elim 0 (clipAt items.size) := Int.toNat_natCast _
  have h2 : (max ((lo.elim 0 (clipAt items.size) : Nat) : Int) ((hi.elim items.size (clipAt items.size) : Nat) : Int)).toNat = max (lo.elim 0 (clipAt items.size)) (hi.elim items.size (clipAt items.size)) := by omega
  refine wpAny_bind (listUpdate_at ho rfl ?_ (by omega) ?_)
  · refine wpAny_bind (wpAny_letGo ?_)
    rw [h1, h2]
    exact wpAny_bind (wpAny_pure (wpAny_pure ⟨_, rfl, wpAny_pure h⟩))
  · simp; omega
end
section
variable {C : Cx} {A : Around} {env : Env} {ρ : Lo} {H : AH}
def slcSet (lo hi : Option Int) (vs ws : List V) : List V := vs.take (lo.elim 0 (clipAt vs.length)) ++ ws ++ vs.drop (max (lo.elim 0 (clipAt vs.length)) (hi.elim vs.length (clipAt vs.length)))
theorem Asg.slice {o : Expr} {lower upper : Option Expr} {p pos : Pos} {a b : Addr} {vs ws : List V} {lo hi : Option Int} {Q : Lo → AH → Prop} (h1 : Ev C A env ρ H o (.ref a)) (hl : EvP C A env ρ H lower lo) (hu : EvP C A env ρ H upper hi) (hH : H a = some (.list vs)) (hb : H b = some (.list ws)) (hne : a ≠ b) (hz : vs.length + ws.length ≤ 1000000)
    (h : Q ρ (H.set a (.list (slcSet lo hi vs ws)))) : Asg C A env (.Subscript o (.Slice lower upper none p) pos) (.one (.ref b)) ρ H Q := fun s y hs hd => by
  have e : ab y = .ref b := hd
  cases ab_ref e
  refine kas_sub ?_
  refine wpAny_mono (h1 s hs) (fun ov s1 ⟨ρ1, H1, a1, b1, c1, c2, c3⟩ => ?_) fun _ _ e => e
  subst c1 c2
  cases ab_ref c3
  refine wpAny_Slice (wpAny_mono (hl.run s1 a1) (fun vl s2 ⟨ρ2, H2, a2, b2, c2, c3, pl⟩ => ?_) fun _ _ e => e)
  subst c2 c3
  refine wpAny_mono (hu.run s2 a2) (fun vu s3 ⟨ρ3, H3, a3, b3, c3, c4, pu⟩ => ?_) fun _ _ e => e
  subst c3 c4
  rw [evalPart_none]
  refine wpAny_pure ?_
  obtain ⟨its, n, ho, hi1, hsz, hL⟩ := a3.at hH
  obtain ⟨its2, n2, ho2, hi2, hsz2, hL2⟩ := a3.at hb
  have k1 : ∀ b o, s3.heap.get? b = some o → (s3.heap.push { cls := .type "slice", data := .fields #[vl, vu, .none] }).get? b = some o := fun b o e => Heap.get?_push_of_some _ e
  have a4 := a3.ext k1
  have hlen : its.size = vs.length := by rw [← hi1]; simp
  have hlen2 : its2.size = ws.length := by rw [← hi2]; simp
  refine setItem_slice (k1 _ _ ho) (Heap.IsSliceOf.new ..) pl pu (k1 _ _ ho2) hne (by omega) ?_
  have hget := get?_update_seq (c := "list") (k1 _ _ ho) (fun xs => xs.extract 0 (lo.elim 0 (clipAt its.size)) ++ its2 ++ xs.extract (max (lo.elim 0 (clipAt its.size)) (hi.elim its.size (clipAt its.size))) xs.size)
  have hoth : ∀ b o, b ≠ a → (s3.heap.push { cls := .type "slice", data := .fields #[vl, vu, .none] }).get? b = some o → ((s3.heap.push { cls := .type "slice", data := .fields #[vl, vu, .none] }).update a (Obj.mapSeq fun xs => xs.extract 0 (lo.elim 0 (clipAt its.size)) ++ its2 ++ xs.extract (max (lo.elim 0 (clipAt its.size)) (hi.elim its.size (clipAt its.size))) xs.size)).get? b = some o := fun b o hb' e => (Heap.get?_update_other _ _ (Ne.symm hb')).trans e
  have hsl : 1000000 ≤ sizeLine := by decide
  refine ⟨_, _, a4.upd (o := .list (slcSet lo hi vs ws)) hH rfl hget ⟨_, _, rfl, ?_, ?_⟩ hoth, ?_, h⟩
  · unfold slcSet
    rw [← hlen]
    simp only [Array.toList_append, Array.toList_extract, List.map_append, hi2]
    simp [List.map_take, List.map_drop, hi1, hlen]
    rw [List.take_of_length_le (by simp)]
  · unfold slcSet; simp; omega
  · exact ((((b1.trans b2 (fun _ _ => a2.nl)).trans b3 (fun _ _ => a3.nl)).trans (Step.ext (tk := s3.toks) k1) (fun _ _ => a3.nl))).trans (Step.upd (tk := s3.toks) hH hget hoth) (fun _ _ => by rw [AH.set_ne _ _ (Ne.symm hL)]; exact a3.nl)
end
end Mine

namespace Mine
open PySem PySem.W PyProof.Rows

/-! ## plain lists: the place among sorted things, one part grown -/
def ins {α : Type} (xs : List α) (k : Nat) (x : α) : List α := xs.take k ++ x :: xs.drop k
theorem count_split {α : Type} {P : α → Bool} : ∀ {xs : List α}, xs.Pairwise (fun p q => P q = true → P p = true) → ∀ (j : Nat) (x : α), xs[j]? = some x → (P x = true ↔ j < xs.countP P)
  | [], _, j, x, e => by simp at e
  | a :: r, h, j, x, e => by
    obtain ⟨h1, h2⟩ := List.pairwise_cons.mp h
    have ih := count_split h2
    by_cases ha : P a = true
    · rw [List.countP_cons_of_pos ha]
      cases j with
      | zero => simp at e; subst e; simp [ha]
      | succ j => rw [List.getElem?_cons_succ] at e; rw [ih j x e]; omega
    · have hall : ∀ y ∈ r, ¬ P y = true := fun y hy q => ha (h1 y hy q)
      have h0 : r.countP P = 0 := by rw [List.countP_eq_zero]; exact hall
      rw [List.countP_cons_of_neg ha, h0]
      cases j with
      | zero => simp at e; subst e; simp [ha]
      | succ j =>
        rw [List.getElem?_cons_succ] at e
        have := hall x (List.mem_of_getElem? e)
        simp [this]

theorem countP_or {α : Type} {P Q : α → Bool} : ∀ {xs : List α}, (∀ x ∈ xs, P x = true → Q x = true → False) → xs.countP P + xs.countP Q = xs.countP (fun x => P x || Q x)
  | [], _ => rfl
  | a :: r, h => by
    have ih := countP_or (P := P) (Q := Q) (xs := r) fun x hx => h x (List.mem_cons_of_mem _ hx)
    have ha := h a (List.mem_cons_self ..)
    rw [List.countP_cons, List.countP_cons, List.countP_cons]
    cases h1 : P a <;> cases h2 : Q a <;> simp_all <;> omega

theorem bis_part {α : Type} {P : α → Bool} {xs : List α} {f : Nat → Bool} {lo hi : Nat} (h : xs.Pairwise (fun p q => P q = true → P p = true)) (hhi : hi = lo + xs.length) (hf : ∀ j x, xs[j]? = some x → f (lo + j) = !P x) : bis f lo hi = lo + xs.countP P := by
  have hc := List.countP_le_length (p := P) (l := xs)
  refine bis_eq (by omega) (by omega) (fun i h1 h2 => ?_) (fun i h1 h2 => ?_)
  · obtain ⟨j, rfl⟩ : ∃ j, i = lo + j := ⟨i - lo, by omega⟩
    have hj : j < xs.length := by omega
    rw [hf j _ (List.getElem?_eq_getElem hj), ((count_split h j _ (List.getElem?_eq_getElem hj)).mpr (by omega))]; rfl
  · obtain ⟨j, rfl⟩ : ∃ j, i = lo + j := ⟨i - lo, by omega⟩
    have hj : j < xs.length := by omega
    rw [hf j _ (List.getElem?_eq_getElem hj)]
    cases q : P xs[j] with
    | false => rfl
    | true => have := (count_split h j _ (List.getElem?_eq_getElem hj)).mp q; omega

theorem split_at {α : Type} {P : α → Bool} {xs : List α} (h : xs.Pairwise (fun p q => P q = true → P p = true)) : (∀ p ∈ xs.take (xs.countP P), P p = true) ∧ (∀ p ∈ xs.drop (xs.countP P), P p = false) := by
  refine ⟨fun p hp => ?_, fun p hp => ?_⟩
  · obtain ⟨j, hj⟩ := List.getElem?_of_mem hp
    rw [List.getElem?_take] at hj
    split at hj
    · exact (count_split h j p hj).mpr ‹_›
    · cases hj
  · obtain ⟨j, hj⟩ := List.getElem?_of_mem hp
    rw [List.getElem?_drop] at hj
    have := count_split h _ p hj
    cases q : P p with
    | false => rfl
    | true => have := this.mp q; omega
theorem ins_flat {α : Type} {xss : List (List α)} {w k : Nat} {xs : List α} {x : α} (hw : xss[w]? = some xs) (hk : k ≤ xs.length) : ins xss.flatten ((xss.take w).flatten.length + k) x = (xss.set w (ins xs k x)).flatten := by
  have hlt : w < xss.length := (List.getElem?_eq_some_iff.mp hw).1
  have e : xss = xss.take w ++ xs :: xss.drop (w + 1) := by
    have := List.take_append_drop w xss
    rw [List.drop_eq_getElem_cons hlt] at this
    rw [(List.getElem?_eq_some_iff.mp hw).2] at this
    exact this.symm
  have e2 : xss.set w (ins xs k x) = xss.take w ++ ins xs k x :: xss.drop (w + 1) := by
    conv => lhs; rw [e]
    rw [List.set_append_right _ _ (by simp; omega)]
    have : w - (xss.take w).length = 0 := by simp; omega
    rw [this, List.set_cons_zero]
  rw [e2]
  have e3 : xss.flatten = (xss.take w).flatten ++ (xs ++ (xss.drop (w + 1)).flatten) := by
    conv => lhs; rw [e]
    simp
  rw [e3]
  unfold ins
  rw [List.take_length_add_append, List.drop_length_add_append, List.take_append_of_le_length hk, List.drop_append_of_le_length hk]
  simp
theorem flat_at {α : Type} {xss : List (List α)} {w j : Nat} {xs : List α} {x : α} (hw : xss[w]? = some xs) (hx : xs[j]? = some x) : xss.flatten[(xss.take w).flatten.length + j]? = some x := by
  have hlt : w < xss.length := (List.getElem?_eq_some_iff.mp hw).1
  have hj : j < xs.length := (List.getElem?_eq_some_iff.mp hx).1
  have e : xss = xss.take w ++ xs :: xss.drop (w + 1) := by
    have := List.take_append_drop w xss
    rw [List.drop_eq_getElem_cons hlt] at this
    rw [(List.getElem?_eq_some_iff.mp hw).2] at this
    exact this.symm
  have e3 : xss.flatten = (xss.take w).flatten ++ (xs ++ (xss.drop (w + 1)).flatten) := by
    conv => lhs; rw [e]
    simp
  rw [e3, List.getElem?_append_right (by omega), Nat.add_sub_cancel_left, List.getElem?_append_left hj]; exact hx
theorem flat_len {α : Type} {xss : List (List α)} {w : Nat} {xs : List α} (hw : xss[w]? = some xs) : (xss.take w).flatten.length + xs.length ≤ xss.flatten.length ∧ (w + 1 = xss.length → (xss.take w).flatten.length + xs.length = xss.flatten.length) := by
  have hlt : w < xss.length := (List.getElem?_eq_some_iff.mp hw).1
  have e : xss = xss.take w ++ xs :: xss.drop (w + 1) := by
    have := List.take_append_drop w xss
    rw [List.drop_eq_getElem_cons hlt] at this
    rw [(List.getElem?_eq_some_iff.mp hw).2] at this
    exact this.symm
  have e3 : xss.flatten = (xss.take w).flatten ++ (xs ++ (xss.drop (w + 1)).flatten) := by
    conv => lhs; rw [e]
    simp
  have e4 := congrArg List.length e3
  rw [List.length_append, List.length_append] at e4
  refine ⟨by omega, fun q => ?_⟩
  have : xss.drop (w + 1) = [] := by rw [List.drop_eq_nil_iff]; omega
  rw [this] at e4
  simp only [List.flatten_nil, List.length_nil] at e4
  omega
theorem map_ins {α β : Type} (g : α → β) (xs : List α) (k : Nat) (x : α) : (ins xs k x).map g = ins (xs.map g) k (g x) := by
  unfold ins; simp [List.map_take, List.map_drop]
theorem ins_length {α : Type} (xs : List α) (k : Nat) (x : α) (h : k ≤ xs.length) : (ins xs k x).length = xs.length + 1 := by
  unfold ins; simp; omega
theorem mem_ins {α : Type} {xs : List α} {k : Nat} {x y : α} (h : y ∈ ins xs k x) : y = x ∨ y ∈ xs := by
  unfold ins at h
  rcases List.mem_append.mp h with h | h
  · exact .inr (List.mem_of_mem_take h)
  · rcases List.mem_cons.mp h with h | h
    · exact .inl h
    · exact .inr (List.mem_of_mem_drop h)

/-! ## statements, lambdas, heaps -/
def stAt (l : List Stmt) (n : Nat) : Stmt := (l[n]?).getD (.Pass ⟨0, 0, 0, 0⟩)
def forBody : Stmt → List Stmt
  | .For _ _ b _ _ => b
  | _ => []
def lamF (C : Cx) (env : Env) (e : Expr) (c' : Addr) (ctv : Value) : FuncData := match e with
  | .Lambda params body scope pos => lamFd C env params body scope [] c' ctv
  | _ => default
theorem set_at {H : AH} {a b : Addr} {o o' o2 : O} (ha : H a = some o) (hb : H b = some o') (hne : o ≠ o') : (H.set b o2) a = some o := by
  rw [AH.set_ne _ _ (fun q => by rw [q, hb] at ha; exact hne (Option.some.inj ha).symm)]; exact ha
theorem hit_mem {es : List (Nat × Nat × Addr)} {pos : Pos} {c : Addr} (h : hit es pos = some c) : ∃ e ∈ es, e.2.2 = c := by
  induction es with
  | nil => cases h
  | cons e r ih =>
    rw [hit] at h
    split at h
    · exact ⟨e, List.mem_cons_self .., Option.some.inj h⟩
    · obtain ⟨e', h1, h2⟩ := ih h
      exact ⟨e', List.mem_cons_of_mem _ h1, h2⟩

theorem lens_range {α : Type} {xss : List (List α)} {w m : Nat} (hm : m = w) (hw : w ≤ xss.length) : (List.range m).map (fun i => V.int ((xss.getD i []).length : Nat)) = vints ((xss.take w).map fun xs => (xs.length : Int)) := by
  subst hm
  apply List.ext_getElem?
  intro i
  unfold vints
  rw [List.getElem?_map, List.getElem?_map, List.getElem?_map, List.getElem?_take]
  by_cases q : i < m
  · rw [List.getElem?_range q, if_pos q, Option.map_some, List.getD_eq_getElem?_getD, List.getElem?_eq_getElem (by omega)]; rfl
  · rw [if_neg q, List.getElem?_eq_none (by simp; omega)]; rfl
theorem lens_sum {α : Type} (xss : List (List α)) (w : Nat) : ((xss.take w).map (fun xs => (xs.length : Int))).sum = ((xss.take w).flatten.length : Nat) := by
  generalize xss.take w = l
  induction l with
  | nil => rfl
  | cons a r ih => rw [List.map_cons, List.sum_cons, ih, List.flatten_cons, List.length_append]; simp
section
variable {C : Cx} {A : Around} {env : Env} {ρ : Lo} {H : AH}
theorem comp_empties {n : Nat} {x : Str} {pos p : Pos} {Ok : Nat → AH → Prop} {P : Nat → AH → Dv → Prop} {Q : AH → List V → Prop} (F : Fx C A env) (hx : env.kindOf x = some .local) (hn : n ≤ sizeLine)
    (hOk : ∀ i H', H.le H' → Ok i H') (hP : ∀ i H' d, P i H' d → ∃ v, d = .one v) (hQ : ∀ (sa : List Addr) H2, sa.length = n → sa.Nodup → H.le H2 → (∀ a ∈ sa, H a = none ∧ H2 a = some (.list [])) → Q H2 (sa.map .ref)) :
    LoopOk C A env (.List [] p) (.Name x pos) [] [] H n Ok P (fun _ => none) [] (fun _ H2 zs => Q H2 zs) := by
  refine ⟨fun i ρ1 H1 zs => ∃ sa : List Addr, zs = sa.map .ref ∧ sa.length = i ∧ sa.Nodup ∧ H.le H1 ∧ ∀ a ∈ sa, H a = none ∧ H1 a = some (.list []), ⟨[], rfl, rfl, List.nodup_nil, AH.le_refl _, by simp⟩, ?_, ?_⟩
  · rintro i ρ1 H1 zs hi ⟨sa, rfl, hl, hnd, hle, hsa⟩
    refine ⟨hOk i _ hle, fun d hd => ?_⟩
    obtain ⟨v, rfl⟩ := hP _ _ _ hd
    refine Asg.local F hx ⟨fun _ => ?_, fun e => by cases e⟩
    refine WE.list rfl (by decide) (WEs.nil fun a ha => ⟨by simp; omega, sa ++ [a], by simp, by simp [hl], ?_, AH.le_trans hle (AH.le_set (AH.le_refl _) ha), ?_⟩)
    · rw [List.nodup_append]
      refine ⟨hnd, by simp, fun b hb c hc q => ?_⟩
      rw [List.mem_singleton.mp hc] at q
      rw [q] at hb
      have := (hsa a hb).2
      rw [ha] at this; cases this
    · intro b hb
      rcases List.mem_append.mp hb with hb | hb
      · exact ⟨(hsa b hb).1, AH.get_of_set (hsa b hb).2 ha⟩
      · rw [List.mem_singleton.mp hb]; exact ⟨AH.none_of_le hle ha, AH.set_same ..⟩
  · rintro ρ1 H1 zs ⟨sa, rfl, hl, hnd, hle, hsa⟩
    exact ⟨hOk n _ hle, hQ sa H1 hl hnd hle hsa⟩
end
end Mine

namespace Mine
open PySem PySem.W PyProof.Rows

/-! ## a table whose codes are all of one lambda -/
def Tab (H : AH) (T : Addr) (q : Str) : Prop := ∃ es, H T = some (.tab es) ∧ ∀ e ∈ es, H e.2.2 = some (.code q)
theorem Tab.up {H H' : AH} {T : Addr} {q : Str} (h : Tab H T q) (k : ∀ a o, H a = some o → (∀ vs, o ≠ .list vs) → H' a = some o) : Tab H' T q :=
  let ⟨es, e1, e2⟩ := h; ⟨es, k _ _ e1 (by simp), fun e he => k _ _ (e2 e he) (by simp)⟩
theorem Tab.le {H H' : AH} {T : Addr} {q : Str} (h : Tab H T q) (k : H.le H') : Tab H' T q := h.up fun a o e _ => k a o e
theorem WE.lamT {C : Cx} {A : Around} {env : Env} {ρ : Lo} {H : AH} {params : Arguments} {body : Expr} {scope : Scope} {pos : Pos} {clos : List (Str × Addr)} {c T : Addr} {Q : V → AH → Prop} (F : Fx C A env) (hbm : Bm C) (hcode : env.code = .ref c) (hC : CodeHd C.base c T) (ht : Tab H T (env.qual ++ "<lambda>"))
    (h : ∀ H1 g c' ctv, (∀ a o, H a = some o → a ≠ T → H1 a = some o) → Tab H1 T (env.qual ++ "<lambda>") → H1 g = some (.fn (lamFd C env params body scope clos c' ctv)) → H1 c' = some (.code (env.qual ++ "<lambda>")) → H g = none → (∀ a, H1 a = none → H a = none) → Q (.ref g) H1)
    (hdef : defaultsOf params env = ([], []) := by rfl) (hcl : closureFor scope env = pure clos := by rfl) : WE C A env (.Lambda params body scope pos) ρ H Q := by
  obtain ⟨es, hes, hec⟩ := ht
  refine WE.lambda (es := es) F hbm hcode hC hes (fun hm c' ctv f hc' hf' hcf => ?_) (fun c' hm ctv f hf' => ?_) hdef hcl
  · have up : ∀ {x : Addr} {o : O}, H x = some o → x ≠ T → (((H.set c' (.code (env.qual ++ "<lambda>"))).set T (.tab (es ++ [(pos.line, pos.col, c')]))).set f (.fn (lamFd C env params body scope clos c' ctv))) x = some o := fun {x o} e hn => by
      rw [AH.set_ne _ _ (fun q => by rw [q, hf'] at e; cases e), AH.set_ne _ _ hn, AH.set_ne _ _ (fun q => by rw [q, hc'] at e; cases e)]; exact e
    have hcT : c' ≠ T := fun e => by rw [e, hes] at hc'; cases hc'
    have hTf : T ≠ f := fun e => by rw [← e, hes] at hf'; cases hf'
    have hc2 : (((H.set c' (.code (env.qual ++ "<lambda>"))).set T (.tab (es ++ [(pos.line, pos.col, c')]))).set f (.fn (lamFd C env params body scope clos c' ctv))) c' = some (.code (env.qual ++ "<lambda>")) := by
      rw [AH.set_ne _ _ hcf, AH.set_ne _ _ hcT, AH.set_same]
    refine h _ f c' ctv (fun a o e hn => up e hn) ⟨es ++ [(pos.line, pos.col, c')], by rw [AH.set_ne _ _ hTf, AH.set_same], fun e he => ?_⟩ (AH.set_same ..) hc2 hf' fun a ha => ?_
    · rcases List.mem_append.mp he with he | he
      · exact up (hec e he) (fun q => by have := hec e he; rw [q, hes] at this; cases this)
      · rw [List.mem_singleton.mp he]; exact hc2
    · cases q : H a with
      | none => rfl
      | some o =>
        by_cases hT : a = T
        · rw [hT, AH.set_ne _ _ hTf, AH.set_same] at ha; cases ha
        · rw [up q hT] at ha; cases ha
  · obtain ⟨e0, he0, rfl⟩ := hit_mem hm
    refine h _ f e0.2.2 ctv (fun a o e _ => AH.get_of_set e hf') ⟨es, AH.get_of_set hes hf', fun e he => AH.get_of_set (hec e he) hf'⟩ (AH.set_same ..) (AH.get_of_set (hec e0 he0) hf') hf' fun a ha => (AH.none_of_set ha).1
end Mine

namespace Mine
open PySem PySem.W PyProof.Rows
open PySem.SeqAt (shaped)

/-! ## deep data, made of parts -/
def Dp (d : PyData) (k : Nat) : Prop := d.canLay0 = true ∧ d.depth ≤ k
theorem Dp.int (i : Int) : Dp (.int i) 0 := ⟨by rw [PyData.canLay0], by rw [PyData.depth]; exact Nat.le_refl _⟩
theorem Dp.shaped {d : PyData} {k : Nat} (h : Dp d k) (hk : k ≤ 64) : shaped d = true := by
  unfold PySem.SeqAt.shaped; rw [h.1, Bool.true_and]; exact decide_eq_true (Nat.le_trans h.2 hk)
theorem Dp.all {ds : List PyData} {k : Nat} (h : ∀ d ∈ ds, Dp d k) : PyData.canLayAll0 ds = true ∧ PyData.depthAll ds ≤ k := by
  induction ds with
  | nil => exact ⟨by rw [PyData.canLayAll0], by rw [PyData.depthAll]; exact Nat.zero_le _⟩
  | cons d r ih =>
    obtain ⟨h1, h2⟩ := ih fun x hx => h x (List.mem_cons_of_mem _ hx)
    obtain ⟨h3, h4⟩ := h d (List.mem_cons_self ..)
    refine ⟨by rw [PyData.canLayAll0, h3, h1]; rfl, ?_⟩
    rw [PyData.depthAll]; omega
theorem Dp.list {ds : List PyData} {k : Nat} (h : ∀ d ∈ ds, Dp d k) : Dp (.list ds) (k + 1) := by
  obtain ⟨h1, h2⟩ := Dp.all h
  exact ⟨by rw [PyData.canLay0]; exact h1, by rw [PyData.depth]; omega⟩
theorem Dp.tuple {ds : List PyData} {k : Nat} (h : ∀ d ∈ ds, Dp d k) : Dp (.tuple ds) (k + 1) := by
  obtain ⟨h1, h2⟩ := Dp.all h
  exact ⟨by rw [PyData.canLay0]; exact h1, by rw [PyData.depth]; omega⟩
theorem RdL_map {α : Type} {H : AH} {f : α → V} {e : α → PyData} : ∀ {xs : List α}, (∀ x ∈ xs, Rd H (f x) (e x)) → RdL H (xs.map f) (xs.map e)
  | [], _ => by rw [List.map_nil, List.map_nil, RdL]
  | x :: r, h => by
    rw [List.map_cons, List.map_cons, RdL]
    exact ⟨f x, r.map f, rfl, h x (List.mem_cons_self ..), RdL_map fun y hy => h y (List.mem_cons_of_mem _ hy)⟩
theorem Rd_list {H : AH} {a : Addr} {ob : O} {vs : List V} {ds : List PyData} (h : H a = some ob) (hl : lst ob = some vs) (hr : RdL H vs ds) : Rd H (.ref a) (.list ds) := by
  rw [Rd]; exact ⟨a, ob, vs, rfl, h, hl, hr⟩
section
variable {C : Cx} {A : Around} {env : Env} {ρ : Lo} {H : AH}
theorem eqv_nil (ds : List PyData) : PyData.eqv (.list ds) (.list []) = decide (ds = []) := by
  cases ds with
  | nil => rw [PyData.eqv, PyData.eqvAll]; rfl
  | cons d r => rw [PyData.eqv, PyData.eqvAll]; simp
mutual
theorem Rd.le {H H' : AH} (k : H.le H') : ∀ (d : PyData) (v : V), Rd H v d → Rd H' v d
  | .none, v, r => by rw [Rd] at r ⊢; exact r
  | .bool b, v, r => by rw [Rd] at r ⊢; exact r
  | .int i, v, r => by rw [Rd] at r ⊢; exact r
  | .str x, v, r => by rw [Rd] at r ⊢; exact r
  | .list ds, v, r => by
    rw [Rd] at r ⊢
    obtain ⟨a, ob, vs, e, h, hl, hr⟩ := r
    exact ⟨a, ob, vs, e, k _ _ h, hl, RdL.le k ds vs hr⟩
  | .tuple ds, v, r => by
    rw [Rd] at r ⊢
    obtain ⟨a, vs, e, h, hr⟩ := r
    exact ⟨a, vs, e, k _ _ h, RdL.le k ds vs hr⟩
  | .dict _, v, r => by rw [Rd] at r; exact r.elim
theorem RdL.le {H H' : AH} (k : H.le H') : ∀ (ds : List PyData) (vs : List V), RdL H vs ds → RdL H' vs ds
  | [], vs, r => by rw [RdL] at r ⊢; exact r
  | d :: ds, vs, r => by
    rw [RdL] at r ⊢
    obtain ⟨v, q, e, r1, r2⟩ := r
    exact ⟨v, q, e, Rd.le k d v r1, RdL.le k ds q r2⟩
end
theorem EvT.eqNil {l : Expr} {p pos : Pos} {a : Addr} {ds : List PyData} (hu : A.units + 64 < cLine) (h : Ev C A env ρ H l (.ref a)) (hr : Rd H (.ref a) (.list ds)) (hs : shaped (.list ds) = true) : EvT C A env ρ H (.Compare l [.Eq] [.List [] p] pos) (decide (ds = [])) :=
  WT.ev (WT.drop (WT.eqD hu (WE.of h (WE.list rfl (by decide) (WEs.nil fun b hb => ⟨.list ds, .list [], Rd.le (AH.le_set (AH.le_refl _) hb) _ _ hr, Rd_list (AH.set_same ..) rfl (by rw [RdL]), hs, (Dp.list (k := 0) (by simp)).shaped (by decide), H, AH.le_set (AH.le_refl _) hb, by rw [eqv_nil], rfl⟩)))))
theorem EvT.neNil {l : Expr} {p pos : Pos} {a : Addr} {ds : List PyData} (hu : A.units + 64 < cLine) (h : Ev C A env ρ H l (.ref a)) (hr : Rd H (.ref a) (.list ds)) (hs : shaped (.list ds) = true) : EvT C A env ρ H (.Compare l [.NotEq] [.List [] p] pos) (!decide (ds = [])) :=
  WT.ev (WT.drop (WT.neD hu (WE.of h (WE.list rfl (by decide) (WEs.nil fun b hb => ⟨.list ds, .list [], Rd.le (AH.le_set (AH.le_refl _) hb) _ _ hr, Rd_list (AH.set_same ..) rfl (by rw [RdL]), hs, (Dp.list (k := 0) (by simp)).shaped (by decide), H, AH.le_set (AH.le_refl _) hb, by rw [eqv_nil], rfl⟩)))))
end
end Mine

namespace Mine
open PySem PySem.W PyProof.Rows
open PySem.AutoSeq1 (wpAny_loadPart')

/-! ## a list unpacked -/
section
variable {prog : Program} {w : World} {A : Around} {E : Value → Shared → Prop}
theorem draw_list {it t : Addr} {items : Array Value} (hne : t ≠ it) : ∀ (n i : Nat) (s : Shared) (Q : List Value → Shared → Prop), s.heap.IsListIter it t i → s.heap.IsList t items → i + n ≤ items.size →
    (∀ h', h'.IsListIter it t (i + n) → Heap.SameBut it s.heap h' → Q ((items.toList.drop i).take n) { s with heap := h' }) → wpAny (model prog w) A (draw (.ref it) n) Q E s
  | 0, i, s, Q, hit, _, _, hQ => by
    show wpAny _ _ (pure []) Q E s
    exact wpAny_pure (by simpa using hQ s.heap hit (Heap.SameBut.refl ..))
  | n + 1, i, s, Q, hit, ht, hle, hQ => by
    have hlt : i < items.size := by omega
    show wpAny _ _ (pyNext (.ref it) >>= _) Q E s
    refine wpAny_bind (wpAny_pyNext_list_item hit ht (x := items[i]) (by simp [hlt]) fun h₁ hit₁ hs₁ => ?_)
    have ht₁ : h₁.IsList t items := by
      obtain ⟨o, ho, r⟩ := ht
      exact ⟨o, hs₁.extBut t o hne ho, r⟩
    refine wpAny_bind (wpAny_holding (draw_list hne n (i + 1) _ _ hit₁ ht₁ (by omega) fun h₂ hit₂ hs₂ => wpAny_pure ?_))
    have hd : items.toList.drop i = items[i] :: items.toList.drop (i + 1) := by simp [List.drop_eq_getElem_cons, hlt]
    have := hQ h₂ (by rw [show i + (n + 1) = i + 1 + n by omega]; exact hit₂) (hs₁.trans hs₂)
    rw [hd, List.take_succ_cons] at this
    exact this
theorem unpackItems_list {s : Shared} {t : Addr} {items : Array Value} {Q : List Value → Shared → Prop} (hh : A.handled = none) (ht : s.heap.IsList t items)
    (hQ : ∀ h', Heap.ExtBut s.heap.objs.size s.heap h' → Q items.toList { s with heap := h' }) : wpAny (model prog w) A (unpackItems (.ref t) items.size none) Q E s := by
  have hlt : t ≠ s.heap.objs.size := by obtain ⟨o, ho, _⟩ := ht; exact Nat.ne_of_lt (Heap.lt_size ho)
  unfold unpackItems
  refine wpAny_bind ?_
  unfold notIterableAtAll
  refine wpAny_bind (wpAny_specialOf ht.typeIs slot_list_iter.lookup ?_)
  refine wpAny_pure ?_
  simp only [Bool.false_eq_true, if_false]
  refine wpAny_bind (wpAny_holding (wpAny_pyIter_list ht ?_))
  have ht0 := ht.push { cls := .type "list_iterator", data := .fields #[.ref t, .int 0 0] }
  refine wpAny_bind (wpAny_holding (draw_list hlt items.size 0 _ _ ⟨_, Heap.get?_push_size _ rfl, rfl, rfl⟩ ht0 (by omega) fun h₁ hit₁ hs₁ => ?_))
  have hall : List.take items.size (List.drop 0 items.toList) = items.toList := by
    rw [List.drop_zero]; exact List.take_of_length_le (by simp)
  rw [hall]
  rw [if_neg (by simp)]
  have ht₁ : h₁.IsList t items := by
    obtain ⟨o, ho, r⟩ := ht0
    exact ⟨o, hs₁.extBut t o hlt ho, r⟩
  refine wpAny_bind (wpAny_holding (wpAny_pyNext_list_end hh hit₁ ht₁ (by simp) fun h₂ he₂ => ?_))
  simp only [Option.isSome_none, Bool.false_eq_true, if_false]
  refine wpAny_pure (hQ h₂ fun b o hb e => he₂ b o hb (hs₁.extBut b o hb (Heap.get?_push_of_some _ e)))
theorem unpack_list {s : Shared} {t : Addr} {items : Array Value} {targets : List (Bool × (Value → Sem Unit))} {Q : Unit → Shared → Prop} (hh : A.handled = none) (ht : s.heap.IsList t items)
    (hn : targets.length = items.size) (hstar : targets.findIdx? (·.1) = none)
    (h : ∀ h', Heap.ExtBut s.heap.objs.size s.heap h' → wpAny (model prog w) A (assignInOrder (targets.map (·.2)) items.toList) Q E { s with heap := h' }) :
    wpAny (model prog w) A (unpack (.ref t) targets) Q E s := by
  unfold unpack
  rw [hn, hstar]
  exact wpAny_bind (wpAny_holding (unpackItems_list hh ht h))
end
section
variable {C : Cx} {A : Around} {env : Env} {ρ : Lo} {H : AH}
theorem Asg.unpackL {ts : List Expr} {k : Nat} {pos : Pos} {l : Addr} {ob : O} {vs : List V} {Q : Lo → AH → Prop} (F : Fx C A env) (hst : noStar ts = true) (hH : H l = some ob) (hl : lst ob = some vs) (hlen : ts.length = vs.length) (h : AsgL C A env ts vs ρ H Q) : Asg C A env (.Tuple ts k pos) (.one (.ref l)) ρ H Q := fun s x hs hd => by
  have e : ab x = .ref l := hd
  cases ab_ref e
  obtain ⟨xs, hT, e, _⟩ := hs.list hH hl
  have hsz : xs.size = vs.length := by rw [← e]; simp
  rw [assign_Tuple]
  refine wpAny_bind (wpAny_standAt (unpack_list F.hh hT (by rw [assignEach_plain hst, List.length_map, hlen, hsz]) (by rw [assignEach_plain hst]; simp) fun h' hx => ?_))
  have k : ∀ b o, s.heap.get? b = some o → h'.get? b = some o := fun b o eb => hx b o (Nat.ne_of_lt (Heap.lt_size eb)) eb
  have := Asg.inOrder (C := C) (A := A) (env := env) xs.toList e h
  rw [assignEach_plain hst, List.map_map]
  exact this.at (hs.ext k) (.ext k)

/-! ## a list beside an empty one -/
theorem W.neNilRaw {L a b : Addr} {vs : List V} {Q : Value → Lo → AH → Prop} (ha : H a = some (.list vs)) (hb : H b = some (.list [])) (hu : A.units + 64 < cLine) (h : Q (.bool (!decide (vs = []))) ρ H) : W C A L (compareOp .NotEq (.ref a) (.ref b)) ρ H Q := fun s hs => by
  obtain ⟨its, n, ho, hi, _, _⟩ := hs.at ha
  obtain ⟨its2, n2, ho2, hi2, _, _⟩ := hs.at hb
  have h2 : its2.size = 0 := by rw [← Array.length_toList]; have := congrArg List.length hi2; simpa using this
  have h1 : its.size = vs.length := by rw [← hi]; simp
  by_cases q : vs = []
  · have h1' : its.size = 0 := by rw [h1, q]; rfl
    refine cmp_ofNotEq (richCompare_meets_room (T := "list") ⟨_, ho, rfl⟩ ⟨_, ho2, rfl⟩ PySem.F.slot_list_ne PySem.F.entry_list_ne (PySem.F.args_list_ne_2 _ _) (PySem.SeqAt.list_neAt a b its its2 n n2 none none #[] #[] (by omega) (fun _ => true)) ⟨ho, ho2, fun j hj _ => by omega, ?_⟩ (by omega))
    refine ⟨by simp, ρ, H, hs, .refl .., ?_⟩
    rw [h1']
    simpa [q] using h
  · have hne : (its.size != its2.size) = true := by rw [h1, h2]; have : vs.length ≠ 0 := fun e => q (List.eq_nil_of_length_eq_zero e); simpa using this
    refine cmp_ofNotEq (richCompare_meets_room (T := "list") ⟨_, ho, rfl⟩ ⟨_, ho2, rfl⟩ PySem.F.slot_list_ne PySem.F.entry_list_ne (PySem.F.args_list_ne_2 _ _) (PySem.SeqAt.list_ne_lengthsAt a b its its2 n n2 none none #[] #[] hne) ⟨ho, ho2, ?_⟩ (by omega))
    refine ⟨by simp, ρ, H, hs, .refl .., ?_⟩
    simpa [q] using h
theorem W.eqNilRaw {L a b : Addr} {vs : List V} {Q : Value → Lo → AH → Prop} (ha : H a = some (.list vs)) (hb : H b = some (.list [])) (hu : A.units + 64 < cLine) (h : Q (.bool (decide (vs = []))) ρ H) : W C A L (compareOp .Eq (.ref a) (.ref b)) ρ H Q := fun s hs => by
  obtain ⟨its, n, ho, hi, _, _⟩ := hs.at ha
  obtain ⟨its2, n2, ho2, hi2, _, _⟩ := hs.at hb
  have h2 : its2.size = 0 := by rw [← Array.length_toList]; have := congrArg List.length hi2; simpa using this
  have h1 : its.size = vs.length := by rw [← hi]; simp
  by_cases q : vs = []
  · have h1' : its.size = 0 := by rw [h1, q]; rfl
    refine cmp_ofEq (richCompare_meets_room (T := "list") ⟨_, ho, rfl⟩ ⟨_, ho2, rfl⟩ PySem.F.slot_list_eq PySem.F.entry_list_eq (PySem.F.args_list_eq_2 _ _) (PySem.SeqAt.list_eqAt a b its its2 n n2 none none #[] #[] (by omega) (fun _ => true)) ⟨ho, ho2, fun j hj _ => by omega, ?_⟩ (by omega))
    refine ⟨by simp, ρ, H, hs, .refl .., ?_⟩
    rw [h1']
    simpa [q] using h
  · have hne : (its.size != its2.size) = true := by rw [h1, h2]; have : vs.length ≠ 0 := fun e => q (List.eq_nil_of_length_eq_zero e); simpa using this
    refine cmp_ofEq (richCompare_meets_room (T := "list") ⟨_, ho, rfl⟩ ⟨_, ho2, rfl⟩ PySem.F.slot_list_eq PySem.F.entry_list_eq (PySem.F.args_list_eq_2 _ _) (PySem.SeqAt.list_eq_lengthsAt a b its its2 n n2 none none #[] #[] hne) ⟨ho, ho2, ?_⟩ (by omega))
    refine ⟨by simp, ρ, H, hs, .refl .., ?_⟩
    simpa [q] using h
theorem EvT.neNilRaw {l : Expr} {p pos : Pos} {a : Addr} {vs : List V} (hu : A.units + 64 < cLine) (h : Ev C A env ρ H l (.ref a)) (hH : H a = some (.list vs)) : EvT C A env ρ H (.Compare l [.NotEq] [.List [] p] pos) (!decide (vs = [])) :=
  WT.ev (WT.drop (WT.cmp (WE.of h (WE.list rfl (by decide) (WEs.nil fun b hb => fun x y ex ey => by
    cases ab_ref ex; cases ab_ref ey
    exact W.neNilRaw (AH.get_of_set hH hb) (AH.set_same ..) hu ⟨rfl, _, rfl, H, AH.le_set (AH.le_refl _) hb, rfl, rfl⟩)))))
theorem EvT.eqNilRaw {l : Expr} {p pos : Pos} {a : Addr} {vs : List V} (hu : A.units + 64 < cLine) (h : Ev C A env ρ H l (.ref a)) (hH : H a = some (.list vs)) : EvT C A env ρ H (.Compare l [.Eq] [.List [] p] pos) (decide (vs = [])) :=
  WT.ev (WT.drop (WT.cmp (WE.of h (WE.list rfl (by decide) (WEs.nil fun b hb => fun x y ex ey => by
    cases ab_ref ex; cases ab_ref ey
    exact W.eqNilRaw (AH.get_of_set hH hb) (AH.set_same ..) hu ⟨rfl, _, rfl, H, AH.le_set (AH.le_refl _) hb, rfl, rfl⟩)))))
end

/-! ## del a[k:] -/
section
variable {prog : Program} {w : World} {A : Around} {E : Value → Shared → Prop} {s : Shared}
theorem filt_take {g : Value × Nat → Option Value} {a N : Nat} (hg : ∀ x k, k < N → g (x, k) = if a ≤ k then none else some x) : ∀ (l : List Value) (n : Nat), n + l.length ≤ N → (l.zipIdx n).filterMap g = l.take (a - n)
  | [], _, _ => by simp
  | x :: r, n, hN => by
    rw [List.length_cons] at hN
    rw [List.zipIdx_cons, List.filterMap_cons, hg x n (by omega)]
    by_cases q : a ≤ n
    · rw [if_pos q]
      show (r.zipIdx (n + 1)).filterMap g = _
      rw [filt_take hg r (n + 1) (by omega), show a - n = 0 by omega, show a - (n + 1) = 0 by omega]; rfl
    · rw [if_neg q]
      show x :: (r.zipIdx (n + 1)).filterMap g = _
      rw [filt_take hg r (n + 1) (by omega), show a - n = (a - (n + 1)) + 1 by omega]; rfl
theorem delItem_tail {l sl : Addr} {items : Array Value} {n : Nat} {vl : Value} {lo : Int} {Q : Unit → Shared → Prop} (ho : s.heap.get? l = some (listOf items n)) (hs : s.heap.IsSliceOf sl vl .none .none) (pl : IsPart vl (some lo)) (hsz : items.size ≤ 1000000)
    (h : ∀ f : Array Value → Array Value, f items = (items.toList.take (clipAt items.size lo)).toArray → Q () { s with heap := s.heap.update l (Obj.mapSeq f) }) :
    wpAny (model prog w) A (delItem (.ref l) (.ref sl)) Q E s := by
  obtain ⟨os, hos, hcs, hds⟩ := id hs
  have hTs : s.TypeIs (.ref sl) "slice" := ⟨os, hos, hcs⟩
  have hTl : s.TypeIs (.ref l) "list" := ⟨_, ho, rfl⟩
  have hsl : 1000000 ≤ sizeLine := by decide
  refine wpAny_delItem_slot hTl (by decide) PySem.F.slot_list_delitem (wpAny_call_entry PySem.F.slot_list_delitem hTl PySem.F.entry_list_delitem ?_ (PySem.F.args_list_delitem_2 _ _))
  show wpAny _ _ (Builtin.List.listSubscript? (.ref sl) >>= _) _ _ s
  refine wpAny_bind ?_
  unfold Builtin.List.listSubscript?
  refine wpAny_bind (wpAny_specialOf hTs slice_no_index ?_)
  simp only [Option.isNone_none, if_true]
  refine wpAny_pure ?_
  show wpAny _ _ (typeOf (.ref sl) >>= _) _ _ s
  refine wpAny_bind (wpAny_typeOf hTs ?_)
  rw [if_neg (by decide)]
  rw [listSliceParts_eq]
  have hstep : ¬ ((rawPart none == rawInt 0) = true) := Bool.false_ne_true
  refine wpAny_bind (wpAny_bind (wpAny_field hos hds (x := .none) rfl (wpAny_bind (wpAny_listPart .none ?_))))
  rw [if_neg hstep]
  refine wpAny_bind (wpAny_field hos hds (x := vl) rfl (wpAny_bind (wpAny_listPart pl ?_)))
  refine wpAny_bind (wpAny_field hos hds (x := .none) rfl (wpAny_bind (wpAny_listPart .none (wpAny_pure ?_))))
  refine wpAny_bind (listItems_at ho rfl ?_)
  refine wpAny_bind (wpAny_of_eq (sliceIndices_raw (some lo) none none items.size (by simp)) ?_)
  rw [sliceBounds_plain]
  refine wpAny_bind (wpAny_rule ?_)
  have key : ∀ g : Value × Nat → Option Value, (∀ x (k : Nat), g (x, k) = if (decide (((clipAt items.size lo : Nat) : Int) ≤ (k : Int)) && decide ((k : Int) < ((items.size : Nat) : Int)) && (((k : Int) - ((clipAt items.size lo : Nat) : Int)) % 1 == 0)) = true then none else some x) → items.toList.zipIdx.filterMap g = items.toList.take (clipAt items.size lo) := fun g hg => by
    rw [filt_take (a := clipAt items.size lo) (N := items.size) (fun x k hk => ?_) items.toList 0 (by simp)]
    · rfl
    · rw [hg]
      have h1 : ((k : Int) - ((clipAt items.size lo : Nat) : Int)) % 1 = 0 := Int.emod_one _
      have h2 : decide ((k : Int) < ((items.size : Nat) : Int)) = true := decide_eq_true (by omega)
      rw [h1, h2]
      by_cases q : clipAt items.size lo ≤ k
      · rw [if_pos q, if_pos]; simp; omega
      · rw [if_neg q, if_neg]; simp; omega
  refine wpAny_bind (listUpdate_at ho rfl ?_ (by show items.size ≤ sizeLine; omega) ?_)
  · refine wpAny_bind (wpAny_letGo ?_)
    refine wpAny_pure ⟨_, rfl, h _ ?_⟩
    congr 1
    exact key _ (fun x k => rfl)
  · rw [List.size_toArray, key _ (fun x k => rfl)]
    rw [List.length_take]; simp; omega
end
section
variable {C : Cx} {A : Around} {env : Env} {ρ : Lo} {H : AH}
theorem W1.delTail {o e : Expr} {p pos spos : Pos} {a : Addr} {vs : List V} {k : Nat} {Q : Fl → Lo → AH → Prop} (h1 : Ev C A env ρ H o (.ref a)) (h2 : Ev C A env ρ H e (.int k)) (hH : H a = some (.list vs)) (hz : vs.length ≤ 1000000) (h : Q .next ρ (H.set a (.list (vs.take k)))) :
    W1 C A env (.Delete [.Subscript o (.Slice (some e) none none p) pos] spos) ρ H Q := fun s hs => by
  refine wpAny_Delete (wpAny_deleteEach_cons (wpAny_delete_Subscript ?_))
  refine wpAny_mono (h1 s hs) (fun ov s1 ⟨ρ1, H1, a1, b1, c1, c2, c3⟩ => ?_) fun _ _ e => e
  subst c1 c2
  cases ab_ref c3
  refine wpAny_Slice (wpAny_mono ((EvP.some h2).run s1 a1) (fun vl s2 ⟨ρ2, H2, a2, b2, c2, c3, pl⟩ => ?_) fun _ _ e => e)
  subst c2 c3
  rw [evalPart_none]
  refine wpAny_pure (wpAny_pure ?_)
  obtain ⟨its, n, ho, hi, hsz, hL⟩ := a2.at hH
  have k1 : ∀ b o, s2.heap.get? b = some o → (s2.heap.push { cls := .type "slice", data := .fields #[vl, .none, .none] }).get? b = some o := fun b o e => Heap.get?_push_of_some _ e
  have a3 := a2.ext k1
  have hlen : its.size = vs.length := by rw [← hi]; simp
  refine delItem_tail (k1 _ _ ho) (Heap.IsSliceOf.new ..) pl (by omega) fun f hf => wpAny_deleteEach_nil ?_
  have hget := get?_update_seq (c := "list") (k1 _ _ ho) f
  rw [hf] at hget
  have hoth : ∀ b o, b ≠ a → (s2.heap.push { cls := .type "slice", data := .fields #[vl, .none, .none] }).get? b = some o → ((s2.heap.push { cls := .type "slice", data := .fields #[vl, .none, .none] }).update a (Obj.mapSeq f)).get? b = some o := fun b o hb' e => (Heap.get?_update_other _ _ (Ne.symm hb')).trans e
  refine ⟨_, _, a3.upd (o := .list (vs.take k)) hH rfl hget ⟨_, _, rfl, ?_, ?_⟩ hoth, ?_, h⟩
  · rw [List.toList_toArray, List.map_take, hi, hlen]
    have : clipAt vs.length (k : Int) = min k vs.length := by simp [clipAt]; omega
    rw [this]
    by_cases q : k ≤ vs.length
    · rw [Nat.min_eq_left q]
    · rw [Nat.min_eq_right (by omega), List.take_length, List.take_of_length_le (by omega)]
  · rw [List.length_take]; omega
  · exact ((b1.trans b2 (fun _ _ => a2.nl)).trans (Step.ext (tk := s2.toks) k1) (fun _ _ => a2.nl)).trans (Step.upd (tk := s2.toks) hH hget hoth) (fun _ _ => by rw [AH.set_ne _ _ (Ne.symm hL)]; exact a2.nl)
end
end Mine

namespace Mine
open PySem PySem.W PyProof.Rows
open PySem.SeqAt (shaped)

/-! ## things in rising order -/
section
variable {α : Type} (g : α → Int)
def SrtBy (xs : List α) : Prop := xs.Pairwise fun p q => g p ≤ g q
variable {g}
theorem SrtBy.le {xs : List α} (h : SrtBy g xs) (v : Int) : xs.Pairwise (fun p q => decide (g q ≤ v) = true → decide (g p ≤ v) = true) :=
  List.Pairwise.imp (fun {p q} hpq hq => by simp at *; omega) h
theorem SrtBy.lt {xs : List α} (h : SrtBy g xs) (v : Int) : xs.Pairwise (fun p q => decide (g q < v) = true → decide (g p < v) = true) :=
  List.Pairwise.imp (fun {p q} hpq hq => by simp at *; omega) h
theorem srt_ints {xs : List Int} (h : xs.Pairwise (fun a b => a ≤ b)) : SrtBy (fun x => x) xs := h
theorem ins_srt {xs : List α} {x : α} (h : SrtBy g xs) : SrtBy g (ins xs (xs.countP (fun y => decide (g y ≤ g x))) x) := by
  obtain ⟨h1, h2⟩ := split_at (h.le (g x))
  generalize xs.countP (fun y => decide (g y ≤ g x)) = k at *
  unfold SrtBy ins
  rw [List.pairwise_append]
  refine ⟨List.Pairwise.sublist (List.take_sublist ..) h, List.pairwise_cons.mpr ⟨fun p hp => ?_, List.Pairwise.sublist (List.drop_sublist ..) h⟩, fun a ha b hb => ?_⟩
  · have := h2 p hp; simp at this; omega
  · rcases List.mem_cons.mp hb with rfl | hb
    · have := h1 a ha; simpa using this
    · have := List.pairwise_append.mp (by rw [List.take_append_drop]; exact h : (xs.take k ++ xs.drop k).Pairwise fun p q => g p ≤ g q)
      exact this.2.2 a ha b hb

theorem filter_drop {P : α → Bool} : ∀ {xs : List α}, xs.Pairwise (fun p q => P q = true → P p = true) → xs.filter (fun x => !P x) = xs.drop (xs.countP P)
  | [], _ => rfl
  | a :: r, h => by
    obtain ⟨h1, h2⟩ := List.pairwise_cons.mp h
    by_cases ha : P a = true
    · rw [List.countP_cons_of_pos ha, List.filter_cons_of_neg (by simp [ha]), List.drop_succ_cons]; exact filter_drop h2
    · have hall : ∀ y ∈ r, ¬ P y = true := fun y hy q => ha (h1 y hy q)
      have h0 : r.countP P = 0 := by rw [List.countP_eq_zero]; exact hall
      rw [List.countP_cons_of_neg ha, h0, List.drop_zero, List.filter_eq_self]
      intro y hy
      rcases List.mem_cons.mp hy with rfl | hy
      · simp [ha]
      · simp [hall y hy]
end

/-! ## items of two numbers -/
abbrev It := Addr × (Int × Int)
def gx (p : It) : Int := p.2.2
def refs (xs : List It) : List V := xs.map fun p => V.ref p.1
abbrev IsIt (H : AH) (p : It) : Prop := H p.1 = some (.list [.int p.2.1, .int p.2.2])
theorem refs_at {xs : List It} {i : Nat} {u : V} (h : (refs xs)[i]? = some u) : ∃ p, xs[i]? = some p ∧ u = .ref p.1 := by
  unfold refs at h
  rw [List.getElem?_map] at h
  cases q : xs[i]? with
  | none => rw [q] at h; cases h
  | some p => rw [q] at h; exact ⟨p, rfl, (Option.some.inj h).symm⟩
theorem refs_len (xs : List It) : (refs xs).length = xs.length := by unfold refs; rw [List.length_map]
theorem mem_refs {xs : List It} {u : V} (h : u ∈ refs xs) : ∃ p ∈ xs, u = .ref p.1 := by
  obtain ⟨p, hp, e⟩ := List.mem_map.mp h
  exact ⟨p, hp, e.symm⟩
theorem not_refs {z z' : Int} {as : List Addr} : ([.int z, .int z'] : List V) ≠ as.map .ref := by
  cases as <;> simp
theorem not_refs' {z z' : Int} {xs : List It} : ([.int z, .int z'] : List V) ≠ refs xs := by
  cases xs <;> simp [refs]
def dIt (p : Int × Int) : PyData := .list [.int p.1, .int p.2]
def dPart (xs : List It) : PyData := .list (xs.map fun p => dIt p.2)
theorem Rd_it {H : AH} {p : It} (h : IsIt H p) : Rd H (.ref p.1) (dIt p.2) := by
  unfold dIt
  refine Rd_list h rfl ?_
  rw [RdL]
  refine ⟨_, _, rfl, by rw [Rd], ?_⟩
  rw [RdL]
  exact ⟨_, _, rfl, by rw [Rd], by rw [RdL]⟩
theorem Dp_it (p : Int × Int) : Dp (dIt p) 1 := by
  unfold dIt
  refine Dp.list fun d hd => ?_
  rcases List.mem_cons.mp hd with rfl | hd
  · exact Dp.int _
  · rw [List.mem_singleton.mp hd]; exact Dp.int _
theorem Dp_part (xs : List It) : Dp (dPart xs) 2 := by
  unfold dPart
  refine Dp.list fun d hd => ?_
  obtain ⟨p, _, rfl⟩ := List.mem_map.mp hd
  exact Dp_it _
theorem Rd_part {H : AH} {a : Addr} {ob : O} {xs : List It} (h : H a = some ob) (hl : lst ob = some (refs xs)) (hI : ∀ p ∈ xs, IsIt H p) : Rd H (.ref a) (dPart xs) :=
  Rd_list h hl (RdL_map fun p hp => Rd_it (hI p hp))
theorem eqv_it (a b : Int × Int) : PyData.eqv (dIt a) (dIt b) = decide (a = b) := by
  unfold dIt
  rw [PyData.eqv, PyData.eqvAll, PyData.eqvAll, PyData.eqvAll, eqv_int, eqv_int]
  rw [Bool.and_true, ← Bool.decide_and]
  congr 1
  apply propext
  constructor
  · intro ⟨h1, h2⟩; exact Prod.ext h1 h2
  · intro h; rw [h]; exact ⟨rfl, rfl⟩
theorem eqv_part (a b : List It) : PyData.eqv (dPart a) (dPart b) = decide (a.map (·.2) = b.map (·.2)) := by
  unfold dPart
  rw [show (a.map fun p => dIt p.2) = (a.map (·.2)).map dIt by simp, show (b.map fun p => dIt p.2) = (b.map (·.2)).map dIt by simp]
  exact eqv_list_map eqv_it _ _
def valIt (H : AH) : V → Int × Int
  | .ref a => (match H a with
    | some (.list [.int z, .int z']) => (z, z')
    | _ => (0, 0))
  | _ => (0, 0)
theorem valIt_ref {H : AH} {p : It} (h : IsIt H p) : valIt H (.ref p.1) = p.2 := by
  show (match H p.1 with | some (.list [.int z, .int z']) => (z, z') | _ => (0, 0)) = p.2
  rw [h]
theorem count_refs {H : AH} {xs : List It} (g : Int × Int → Bool) (h : ∀ p ∈ xs, IsIt H p) : (refs xs).countP (fun u => g (valIt H u)) = xs.countP (fun p => g p.2) := by
  unfold refs
  rw [List.countP_map]
  apply List.countP_congr
  intro p hp
  simp only [Function.comp, valIt_ref (h p hp)]
theorem filter_refs {H : AH} {xs : List It} (g : Int × Int → Bool) (h : ∀ p ∈ xs, IsIt H p) : (refs xs).filter (fun u => g (valIt H u)) = refs (xs.filter fun p => g p.2) := by
  unfold refs
  rw [List.filter_map]
  congr 1
  apply List.filter_congr
  intro p hp
  simp only [Function.comp, valIt_ref (h p hp)]
theorem count_map2 {xs ys : List It} (h : xs.map (·.2) = ys.map (·.2)) (g : Int × Int → Bool) : xs.countP (fun p => g p.2) = ys.countP (fun p => g p.2) := by
  have e : ∀ l : List It, l.countP (fun p => g p.2) = (l.map (·.2)).countP g := fun l => by rw [List.countP_map]; rfl
  rw [e, e, h]
section
variable {C : Cx} {A : Around} {ρ : Lo} {H : AH}
theorem EvT.as {env : Env} {e : Expr} {b b' : Bool} (h : EvT C A env ρ H e b) (hb : b = b') : EvT C A env ρ H e b' := hb ▸ h
theorem slc_one {vs : List V} {k : Nat} {v : V} (h : vs[k]? = some v) : slc (some (k : Int)) (some ((k : Int) + 1)) vs = [v] := by
  have hk : k < vs.length := (List.getElem?_eq_some_iff.mp h).1
  unfold slc
  have h1 : (some (k : Int)).elim 0 (clipAt vs.length) = k := by simp [clipAt]; omega
  have h2 : (some ((k : Int) + 1)).elim vs.length (clipAt vs.length) = k + 1 := by simp [clipAt]; omega
  rw [h1, h2, List.drop_eq_getElem_cons hk, Nat.add_sub_cancel_left]
  rw [(List.getElem?_eq_some_iff.mp h).2]; rfl
theorem EvT.notInData {env : Env} {l r : Expr} {pos : Pos} {v w : V} {d : PyData} {es : List PyData} (hu : A.units + 66 < cLine) (h1 : Ev C A env ρ H l v) (h2 : Ev C A env ρ H r w) (hx : Rd H v d) (hy : Rd H w (.list es)) (hd : shaped d = true) (he : shaped (.list es) = true) (hm : behindInMarks .NotIn r = false := by with_unfolding_all rfl) :
    EvT C A env ρ H (.Compare l [.NotIn] [r] pos) (!es.any fun y => PyData.eqv y d) :=
  Ev.any h1 h2 (fun x y ex ey => W.notInData (by rw [ex]; exact hx) (by rw [ey]; exact hy) hd he hu ⟨rfl, rfl, rfl⟩) hm
theorem any_it (dl : List It) (v : Int × Int) : ((dl.map fun p => dIt p.2).any fun y => PyData.eqv y (dIt v)) = dl.any fun q => decide (q.2 = v) := by
  rw [List.any_map]
  congr 1
  funext q
  simp only [Function.comp, eqv_it]

theorem ins_refs (xs : List It) (k : Nat) (p : It) : ins (refs xs) k (.ref p.1) = refs (ins xs k p) := by unfold refs; rw [map_ins]

def Sm (A : Around) : Prop := A.handled = none ∧ A.depth < recursionLimit ∧ A.units < cLine
theorem Sm.nx {A A' : Around} (h : Nx A A') (hh : A.handled = none) (hd : A.depth + 4 < recursionLimit) (hu : A.units + 100 < cLine) : Sm A' := ⟨h.2.2.trans hh, by rw [h.1]; omega, by rw [h.2.1]; omega⟩
theorem Sm.nx2 {A A' A'' : Around} (h : Nx A A') (h' : Nx A' A'') (hh : A.handled = none) (hd : A.depth + 4 < recursionLimit) (hu : A.units + 100 < cLine) : Sm A'' := ⟨h'.2.2.trans (h.2.2.trans hh), by rw [h'.1, h.1]; omega, by rw [h'.2.1, h.2.1]; omega⟩
def ifThen : Stmt → List Stmt
  | .If _ b _ _ => b
  | _ => []
def ifElse : Stmt → List Stmt
  | .If _ _ b _ => b
  | _ => []
end
end Mine

set_option maxHeartbeats 1000000
namespace Mine

/-! ## one row: what is put in, what is pushed out -/
abbrev Pr := Int × Int
def swp (x : Pr) : Pr := (x.2, x.1)
def leL (x y : Pr) : Prop := x.1 < y.1 ∨ (x.1 = y.1 ∧ x.2 ≤ y.2)
def SL (L : List Pr) : Prop := L.Pairwise leL
abbrev PS := List Int × List Int × List Pr
def plc (R : List Int) (p : Int) : Nat := R.countP (fun z => decide (z ≤ p))
def pstep (st : PS) (e : Pr) : PS :=
  if plc st.1 e.2 = st.1.length then (st.1 ++ [e.2], st.2.1 ++ [e.1], st.2.2)
  else (st.1.set (plc st.1 e.2) e.2, st.2.1, st.2.2 ++ [(e.1, st.1.getD (plc st.1 e.2) 0)])
def pass (L : List Pr) : PS := L.foldl pstep ([], [], [])
def prow (L : List Pr) : List Int := (pass L).1
def pq (L : List Pr) : List Int := (pass L).2.1
def pout (L : List Pr) : List Pr := (pass L).2.2
theorem pass_snoc (L : List Pr) (e : Pr) : pass (L ++ [e]) = pstep (pass L) e := by unfold pass; rw [List.foldl_append]; rfl

/-! the first column taken off -/
def peel (c : Int) : List Pr → List Pr × List Pr
  | [] => ([], [])
  | e :: r => if e.2 < c then (e :: (peel e.2 r).1, (peel e.2 r).2) else ((peel c r).1, e :: (peel c r).2)
def bumps (c : Int) : List Pr → List Pr
  | [] => []
  | e :: r => (e.1, c) :: bumps e.2 r
def lastC (c : Int) : List Pr → Int
  | [] => c
  | e :: r => lastC e.2 r
theorem pass_peel : ∀ (L : List Pr) (c q0 : Int) (R Q : List Int) (O O2 B : List Pr), (∀ y ∈ R, c ≤ y) → O.Perm (B ++ O2) →
    ∃ O', L.foldl pstep (c :: R, q0 :: Q, O) = (lastC c (peel c L).1 :: ((peel c L).2.foldl pstep (R, Q, O2)).1, q0 :: ((peel c L).2.foldl pstep (R, Q, O2)).2.1, O') ∧ O'.Perm (B ++ bumps c (peel c L).1 ++ ((peel c L).2.foldl pstep (R, Q, O2)).2.2)
  | [], c, q0, R, Q, O, O2, B, hR, hO => ⟨O, rfl, by simpa [peel, bumps] using hO⟩
  | e :: r, c, q0, R, Q, O, O2, B, hR, hO => by
    by_cases h : e.2 < c
    · have hk : plc (c :: R) e.2 = 0 := by
        unfold plc
        rw [List.countP_eq_zero]
        intro z hz
        rcases List.mem_cons.mp hz with rfl | hz
        · simp; omega
        · have := hR z hz; simp; omega
      have hs : pstep (c :: R, q0 :: Q, O) e = (e.2 :: R, q0 :: Q, O ++ [(e.1, c)]) := by
        unfold pstep; simp only [hk]; rw [if_neg (by simp)]; rfl
      obtain ⟨O', h1, h2⟩ := pass_peel r e.2 q0 R Q (O ++ [(e.1, c)]) O2 (B ++ [(e.1, c)]) (fun y hy => by have := hR y hy; omega) (by
        refine (List.Perm.append_right _ hO).trans ?_
        rw [List.append_assoc, List.append_assoc]
        exact List.Perm.append_left _ List.perm_append_comm)
      refine ⟨O', ?_, ?_⟩
      · rw [List.foldl_cons, hs, h1]; simp [peel, h, lastC]
      · simpa [peel, h, bumps] using h2
    · have hk : plc (c :: R) e.2 = plc R e.2 + 1 := by
        unfold plc; rw [List.countP_cons_of_pos (by simp; omega)]
      have hp : peel c (e :: r) = ((peel c r).1, e :: (peel c r).2) := by rw [peel, if_neg h]
      rw [hp]
      by_cases hl : plc R e.2 = R.length
      · have hs : pstep (c :: R, q0 :: Q, O) e = (c :: (R ++ [e.2]), q0 :: (Q ++ [e.1]), O) := by
          unfold pstep; simp only [hk]; rw [if_pos (by simp [hl])]; rfl
        have hs2 : pstep (R, Q, O2) e = (R ++ [e.2], Q ++ [e.1], O2) := by unfold pstep; rw [if_pos hl]
        obtain ⟨O', h1, h2⟩ := pass_peel r c q0 (R ++ [e.2]) (Q ++ [e.1]) O O2 B (fun y hy => by
          rcases List.mem_append.mp hy with hy | hy
          · exact hR y hy
          · rw [List.mem_singleton.mp hy]; omega) hO
        exact ⟨O', by rw [List.foldl_cons, hs, h1, List.foldl_cons, hs2], by rw [List.foldl_cons, hs2]; exact h2⟩
      · have hs : pstep (c :: R, q0 :: Q, O) e = (c :: R.set (plc R e.2) e.2, q0 :: Q, O ++ [(e.1, R.getD (plc R e.2) 0)]) := by
          unfold pstep; simp only [hk]; rw [if_neg (by simpa using hl)]; rfl
        have hs2 : pstep (R, Q, O2) e = (R.set (plc R e.2) e.2, Q, O2 ++ [(e.1, R.getD (plc R e.2) 0)]) := by unfold pstep; rw [if_neg hl]
        obtain ⟨O', h1, h2⟩ := pass_peel r c q0 (R.set (plc R e.2) e.2) Q (O ++ [(e.1, R.getD (plc R e.2) 0)]) (O2 ++ [(e.1, R.getD (plc R e.2) 0)]) B (fun y hy => by
          rcases List.mem_or_eq_of_mem_set hy with hy | hy
          · exact hR y hy
          · rw [hy]; omega) (by rw [← List.append_assoc]; exact List.Perm.append_right _ hO)
        exact ⟨O', by rw [List.foldl_cons, hs, h1, List.foldl_cons, hs2], by rw [List.foldl_cons, hs2]; exact h2⟩
theorem pass_cons (e : Pr) (L : List Pr) : prow (e :: L) = lastC e.2 (peel e.2 L).1 :: prow (peel e.2 L).2 ∧ pq (e :: L) = e.1 :: pq (peel e.2 L).2 ∧ (pout (e :: L)).Perm (bumps e.2 (peel e.2 L).1 ++ pout (peel e.2 L).2) := by
  obtain ⟨O', h1, h2⟩ := pass_peel L e.2 e.1 [] [] [] [] [] (by simp) (by simp)
  have h0 : pass (e :: L) = L.foldl pstep ([e.2], [e.1], []) := by unfold pass; rw [List.foldl_cons]; rfl
  rw [h1] at h0
  unfold prow pq pout
  rw [h0]
  exact ⟨rfl, rfl, by unfold pass; simpa using h2⟩

/-! what is taken off: the least ones -/
theorem peel_perm : ∀ (L : List Pr) (c : Int), L.Perm ((peel c L).1 ++ (peel c L).2)
  | [], _ => by simp [peel]
  | e :: r, c => by
    rw [peel]
    split
    · exact List.Perm.cons _ (peel_perm r e.2)
    · exact ((peel_perm r c).cons e).trans (List.perm_middle.symm)
theorem peel_sub : ∀ (L : List Pr) (c : Int), (peel c L).1.Sublist L ∧ (peel c L).2.Sublist L
  | [], _ => by simp [peel]
  | e :: r, c => by
    rw [peel]
    split
    · exact ⟨(peel_sub r e.2).1.cons_cons _, (peel_sub r e.2).2.cons _⟩
    · exact ⟨(peel_sub r c).1.cons _, (peel_sub r c).2.cons_cons _⟩
theorem peel_desc : ∀ (L : List Pr) (c : Int), (∀ x ∈ (peel c L).1, x.2 < c) ∧ (peel c L).1.Pairwise (fun x y => y.2 < x.2)
  | [], _ => by simp [peel]
  | e :: r, c => by
    rw [peel]
    split
    · rename_i h
      obtain ⟨h1, h2⟩ := peel_desc r e.2
      refine ⟨fun x hx => ?_, List.pairwise_cons.mpr ⟨h1, h2⟩⟩
      rcases List.mem_cons.mp hx with rfl | hx
      · exact h
      · have := h1 x hx; omega
    · exact peel_desc r c
theorem peel_below : ∀ (L : List Pr) (c q0 : Int), SL L → (∀ y ∈ L, q0 ≤ y.1) → ∀ y ∈ L, (∃ m ∈ (peel c L).1, m.1 ≤ y.1 ∧ m.2 ≤ y.2) ∨ c ≤ y.2
  | [], _, _, _, _ => by simp
  | e :: r, c, q0, hs, hq => by
    obtain ⟨h1, h2⟩ := List.pairwise_cons.mp hs
    intro y hy
    rw [peel]
    have he : ∀ z ∈ r, e.1 ≤ z.1 := fun z hz => by rcases h1 z hz with q | ⟨q, _⟩ <;> omega
    split
    · rcases List.mem_cons.mp hy with rfl | hy
      · exact .inl ⟨y, List.mem_cons_self .., Int.le_refl _, Int.le_refl _⟩
      · rcases peel_below r e.2 e.1 h2 he y hy with ⟨m, hm, hm'⟩ | h
        · exact .inl ⟨m, List.mem_cons_of_mem _ hm, hm'⟩
        · exact .inl ⟨e, List.mem_cons_self .., he y hy, h⟩
    · rename_i h
      rcases List.mem_cons.mp hy with rfl | hy
      · right; omega
      · exact peel_below r c e.1 h2 he y hy
/-- the least ones of a list in order -/
def mins : List Pr → List Pr
  | [] => []
  | e :: r => e :: (peel e.2 r).1
def rest : List Pr → List Pr
  | [] => []
  | e :: r => (peel e.2 r).2
theorem mins_anti {L : List Pr} (hs : SL L) : (mins L).Pairwise (fun x y => x.1 < y.1 ∧ y.2 < x.2) := by
  cases L with
  | nil => exact List.Pairwise.nil
  | cons e r =>
    have hsub : (mins (e :: r)).Sublist (e :: r) := (peel_sub r e.2).1.cons_cons e
    have h1 : (mins (e :: r)).Pairwise leL := List.Pairwise.sublist hsub hs
    obtain ⟨d1, d2⟩ := peel_desc r e.2
    have h2 : (mins (e :: r)).Pairwise (fun x y => y.2 < x.2) := List.pairwise_cons.mpr ⟨d1, d2⟩
    refine List.Pairwise.imp (fun {x y} h => ?_) (List.Pairwise.and h1 h2)
    obtain ⟨q | ⟨q1, q2⟩, h'⟩ := h
    · exact ⟨q, h'⟩
    · omega
theorem mins_mem {L : List Pr} (hs : SL L) (x : Pr) : x ∈ mins L ↔ x ∈ L ∧ ∀ y ∈ L, y.1 ≤ x.1 → y.2 ≤ x.2 → y = x := by
  have below : ∀ y ∈ L, ∃ m ∈ mins L, m.1 ≤ y.1 ∧ m.2 ≤ y.2 := by
    cases L with
    | nil => simp
    | cons e r =>
      obtain ⟨h1, h2⟩ := List.pairwise_cons.mp hs
      have he : ∀ z ∈ r, e.1 ≤ z.1 := fun z hz => by rcases h1 z hz with q | ⟨q, _⟩ <;> omega
      intro y hy
      rcases List.mem_cons.mp hy with rfl | hy
      · exact ⟨y, List.mem_cons_self .., Int.le_refl _, Int.le_refl _⟩
      · rcases peel_below r e.2 e.1 h2 he y hy with ⟨m, hm, hm'⟩ | h
        · exact ⟨m, List.mem_cons_of_mem _ hm, hm'⟩
        · exact ⟨e, List.mem_cons_self .., he y hy, h⟩
  have sub : ∀ m ∈ mins L, m ∈ L := by
    cases L with
    | nil => simp [mins]
    | cons e r => exact fun m hm => ((peel_sub r e.2).1.cons_cons e).subset hm
  have anti := mins_anti hs
  have same : ∀ m ∈ mins L, ∀ x ∈ mins L, m.1 ≤ x.1 → m.2 ≤ x.2 → m = x := by
    intro m hm x hx h1 h2
    obtain ⟨i, hi⟩ := List.getElem?_of_mem hm
    obtain ⟨j, hj⟩ := List.getElem?_of_mem hx
    have hil : i < (mins L).length := (List.getElem?_eq_some_iff.mp hi).1
    have hjl : j < (mins L).length := (List.getElem?_eq_some_iff.mp hj).1
    rcases Nat.lt_trichotomy i j with q | q | q
    · have := List.pairwise_iff_getElem.mp anti i j hil hjl q
      rw [(List.getElem?_eq_some_iff.mp hi).2, (List.getElem?_eq_some_iff.mp hj).2] at this
      omega
    · subst q; rw [hi] at hj; exact Option.some.inj hj
    · have := List.pairwise_iff_getElem.mp anti j i hjl hil q
      rw [(List.getElem?_eq_some_iff.mp hi).2, (List.getElem?_eq_some_iff.mp hj).2] at this
      omega
  constructor
  · intro hx
    refine ⟨sub x hx, fun y hy h1 h2 => ?_⟩
    obtain ⟨m, hm, m1, m2⟩ := below y hy
    have := same m hm x hx (by omega) (by omega)
    subst this
    exact Prod.ext (by omega) (by omega)
  · rintro ⟨hx, h⟩
    obtain ⟨m, hm, m1, m2⟩ := below x hx
    rw [← h m (sub m hm) m1 m2]; exact hm
theorem strict_eq : ∀ {A B : List Pr}, A.Pairwise (fun x y => x.1 < y.1) → B.Pairwise (fun x y => x.1 < y.1) → (∀ x, x ∈ A ↔ x ∈ B) → A = B
  | [], [], _, _, _ => rfl
  | [], b :: B, _, _, h => by have := (h b).mpr (List.mem_cons_self ..); cases this
  | a :: A, [], _, _, h => by have := (h a).mp (List.mem_cons_self ..); cases this
  | a :: A, b :: B, h1, h2, h => by
    obtain ⟨p1, p2⟩ := List.pairwise_cons.mp h1
    obtain ⟨q1, q2⟩ := List.pairwise_cons.mp h2
    have hab : a = b := by
      rcases List.mem_cons.mp ((h a).mp (List.mem_cons_self ..)) with e | e
      · exact e
      · rcases List.mem_cons.mp ((h b).mpr (List.mem_cons_self ..)) with e' | e'
        · exact e'.symm
        · have := q1 a e; have := p1 b e'; omega
    subst hab
    congr 1
    refine strict_eq p2 q2 fun x => ⟨fun hx => ?_, fun hx => ?_⟩
    · rcases List.mem_cons.mp ((h x).mp (List.mem_cons_of_mem _ hx)) with e | e
      · subst e; have := p1 x hx; omega
      · exact e
    · rcases List.mem_cons.mp ((h x).mpr (List.mem_cons_of_mem _ hx)) with e | e
      · subst e; have := q1 x hx; omega
      · exact e
theorem mins_swap {L L' : List Pr} (h1 : SL L) (h2 : SL L') (hp : L'.Perm (L.map swp)) : mins L' = ((mins L).map swp).reverse := by
  have a1 := mins_anti h1
  have a2 := mins_anti h2
  refine strict_eq (List.Pairwise.imp (fun h => h.1) a2) ?_ fun x => ?_
  · rw [List.pairwise_reverse, List.pairwise_map]
    exact List.Pairwise.imp (fun h => h.2) a1
  · rw [List.mem_reverse, List.mem_map, mins_mem h2]
    have hm : ∀ y, y ∈ L' ↔ swp y ∈ L := fun y => by
      rw [hp.mem_iff, List.mem_map]
      constructor
      · rintro ⟨z, hz, rfl⟩; exact hz
      · intro h; exact ⟨swp y, h, rfl⟩
    constructor
    · rintro ⟨hx, h⟩
      refine ⟨swp x, (mins_mem h1 _).mpr ⟨(hm x).mp hx, fun y hy q1 q2 => ?_⟩, rfl⟩
      have := h (swp y) ((hm (swp y)).mpr hy) q2 q1
      rw [← this]; rfl
    · rintro ⟨z, hz, rfl⟩
      obtain ⟨z1, z2⟩ := (mins_mem h1 z).mp hz
      refine ⟨(hm _).mpr z1, fun y hy q1 q2 => ?_⟩
      have := z2 (swp y) ((hm y).mp hy) q2 q1
      rw [← this]; rfl
def bumpsL : List Pr → List Pr
  | [] => []
  | e :: r => bumps e.2 r
theorem bumpsL_snoc : ∀ (M : List Pr) (a b : Pr), bumpsL (M ++ [a] ++ [b]) = bumpsL (M ++ [a]) ++ [(b.1, a.2)]
  | [], a, b => rfl
  | [x], a, b => rfl
  | x :: y :: r, a, b => by
    have ih := bumpsL_snoc (y :: r) a b
    show (y.1, x.2) :: bumpsL (y :: r ++ [a] ++ [b]) = (y.1, x.2) :: bumpsL (y :: r ++ [a]) ++ [(b.1, a.2)]
    rw [ih]; rfl
theorem bumps_swap : ∀ (M : List Pr), (bumpsL ((M.map swp).reverse)).Perm ((bumpsL M).map swp)
  | [] => by simp [bumpsL]
  | [x] => by simp [bumpsL, bumps]
  | x :: y :: r => by
    have ih := bumps_swap (y :: r)
    have e1 : ((x :: y :: r).map swp).reverse = ((r.map swp).reverse ++ [swp y]) ++ [swp x] := by simp
    have e2 : ((y :: r).map swp).reverse = (r.map swp).reverse ++ [swp y] := by simp
    rw [e1, bumpsL_snoc, ← e2]
    have e3 : (bumpsL (x :: y :: r)).map swp = swp (y.1, x.2) :: (bumpsL (y :: r)).map swp := rfl
    rw [e3]
    exact (List.Perm.append_right _ ih).trans (List.perm_append_singleton _ _)
theorem lastC_eq (e : Pr) : ∀ (r : List Pr), lastC e.2 r = ((e :: r).getLast (by simp)).2 := by
  intro r
  induction r generalizing e with
  | nil => rfl
  | cons a r ih => rw [lastC, ih a, List.getLast_cons_cons]

/-- one row of both -/
theorem sym_row : ∀ (n : Nat) {L L' : List Pr}, L.length = n → SL L → SL L' → L'.Perm (L.map swp) → prow L' = pq L ∧ pq L' = prow L ∧ (pout L').Perm ((pout L).map swp) := by
  intro n
  induction n using Nat.strongRecOn with
  | ind n ih =>
    intro L L' hn h1 h2 hp
    cases L with
    | nil =>
      have : L' = [] := List.Perm.eq_nil (by simpa using hp)
      subst this
      exact ⟨rfl, rfl, by simp [pout, pass]⟩
    | cons e r =>
      cases L' with
      | nil => have := hp.length_eq; simp at this
      | cons e' r' =>
        have hm := mins_swap h1 h2 hp
        obtain ⟨a1, a2, a3⟩ := pass_cons e r
        obtain ⟨b1, b2, b3⟩ := pass_cons e' r'
        have p1 : (e :: r).Perm (mins (e :: r) ++ rest (e :: r)) := (peel_perm r e.2).cons e
        have p2 : (e' :: r').Perm (mins (e' :: r') ++ rest (e' :: r')) := (peel_perm r' e'.2).cons e'
        have hr : (rest (e' :: r')).Perm ((rest (e :: r)).map swp) := by
          have q1 : (mins (e' :: r') ++ rest (e' :: r')).Perm ((mins (e :: r)).map swp ++ (rest (e :: r)).map swp) := by
            rw [← List.map_append]; exact p2.symm.trans (hp.trans (p1.map swp))
          have q2 : (mins (e' :: r')).Perm ((mins (e :: r)).map swp) := by rw [hm]; exact List.reverse_perm _
          exact (List.perm_append_left_iff _).mp ((List.Perm.append_right _ q2.symm).trans q1)
        have hlen : (rest (e :: r)).length < n := by
          have := (peel_sub r e.2).2.length_le
          rw [← hn]; show (peel e.2 r).2.length < _; simp; omega
        have s1 : SL (rest (e :: r)) := List.Pairwise.sublist (peel_sub r e.2).2 (List.pairwise_cons.mp h1).2
        have s2 : SL (rest (e' :: r')) := List.Pairwise.sublist (peel_sub r' e'.2).2 (List.pairwise_cons.mp h2).2
        obtain ⟨i1, i2, i3⟩ := ih _ hlen rfl s1 s2 hr
        have hne : mins (e :: r) ≠ [] := by simp [mins]
        have hne' : mins (e' :: r') ≠ [] := by simp [mins]
        have l1 : lastC e.2 (peel e.2 r).1 = ((mins (e :: r)).getLast hne).2 := lastC_eq e _
        have l2 : lastC e'.2 (peel e'.2 r').1 = ((mins (e' :: r')).getLast hne').2 := lastC_eq e' _
        have g1 : e'.1 = ((mins (e :: r)).getLast hne).2 := by
          have : (mins (e' :: r')).head hne' = e' := rfl
          rw [← this]
          simp only [hm, List.head_reverse, List.getLast_map]; rfl
        have g2 : ((mins (e' :: r')).getLast hne').2 = e.1 := by
          simp only [hm, List.getLast_reverse, List.head_map]; rfl
        refine ⟨?_, ?_, ?_⟩
        · rw [b1, a2, l2, g2, show prow (peel e'.2 r').2 = pq (peel e.2 r).2 from i1]
        · rw [b2, a1, l1, ← g1, show pq (peel e'.2 r').2 = prow (peel e.2 r).2 from i2]
        · refine b3.trans ?_
          refine List.Perm.trans ?_ (a3.map swp).symm
          rw [List.map_append]
          refine List.Perm.append ?_ i3
          have e1 : bumps e'.2 (peel e'.2 r').1 = bumpsL (mins (e' :: r')) := rfl
          have e2 : bumps e.2 (peel e.2 r).1 = bumpsL (mins (e :: r)) := rfl
          rw [e1, e2, hm]
          exact bumps_swap _

/-! what is pushed out comes in order -/
theorem plc_split {R : List Int} (h : R.Pairwise (fun a b => a ≤ b)) (p : Int) : (∀ z ∈ R.take (plc R p), z ≤ p) ∧ (∀ z ∈ R.drop (plc R p), p < z) := by
  obtain ⟨h1, h2⟩ := split_at (P := fun z => decide (z ≤ p)) (xs := R) ((srt_ints h).le p)
  exact ⟨fun z hz => by simpa using h1 z hz, fun z hz => by have := h2 z hz; simpa using this⟩
theorem plc_le (R : List Int) (p : Int) : plc R p ≤ R.length := List.countP_le_length
theorem set_split {R : List Int} {k : Nat} {p : Int} (hk : k < R.length) : R.set k p = R.take k ++ p :: R.drop (k + 1) := List.set_eq_take_append_cons_drop.trans (if_pos hk)
theorem pstep_sorted {st : PS} {e : Pr} (h : st.1.Pairwise (fun a b => a ≤ b)) : (pstep st e).1.Pairwise (fun a b => a ≤ b) := by
  obtain ⟨h1, h2⟩ := plc_split h e.2
  unfold pstep
  split
  · rename_i hl
    rw [hl, List.take_length] at h1
    rw [List.pairwise_append]
    exact ⟨h, by simp, fun a ha b hb => by rw [List.mem_singleton.mp hb]; exact h1 a ha⟩
  · rename_i hl
    have hk : plc st.1 e.2 < st.1.length := by have := plc_le st.1 e.2; omega
    show (st.1.set _ _).Pairwise _
    rw [set_split hk, List.pairwise_append]
    refine ⟨List.Pairwise.sublist (List.take_sublist ..) h, List.pairwise_cons.mpr ⟨fun z hz => ?_, List.Pairwise.sublist (List.drop_sublist ..) h⟩, fun a ha b hb => ?_⟩
    · have : z ∈ st.1.drop (plc st.1 e.2) := by
        rw [List.drop_eq_getElem_cons hk]; exact List.mem_cons_of_mem _ hz
      have := h2 z this; omega
    · have ha' := h1 a ha
      rcases List.mem_cons.mp hb with rfl | hb
      · exact ha'
      · have : b ∈ st.1.drop (plc st.1 e.2) := by
          rw [List.drop_eq_getElem_cons hk]; exact List.mem_cons_of_mem _ hb
        have := h2 b this; omega
theorem getD_drop {R : List Int} {k : Nat} (hk : k < R.length) : R.getD k 0 ∈ R.drop k := by
  rw [List.drop_eq_getElem_cons hk, List.getD_eq_getElem?_getD, List.getElem?_eq_getElem hk]; exact List.mem_cons_self ..
theorem getD_least {R : List Int} {k : Nat} (h : R.Pairwise (fun a b => a ≤ b)) (hk : k < R.length) : ∀ z ∈ R.drop k, R.getD k 0 ≤ z := by
  intro z hz
  have hs := List.Pairwise.sublist (List.drop_sublist k R) h
  rw [List.drop_eq_getElem_cons hk] at hz hs
  rw [List.getD_eq_getElem?_getD, List.getElem?_eq_getElem hk]
  rcases List.mem_cons.mp hz with rfl | hz
  · exact Int.le_refl _
  · exact (List.pairwise_cons.mp hs).1 z hz
theorem out_go : ∀ (L : List Pr) (st : PS) (e0 : Pr), SL (e0 :: L) → st.1.Pairwise (fun a b => a ≤ b) → SL st.2.2 → (∀ o ∈ st.2.2, o.1 < e0.1 ∨ (o.1 = e0.1 ∧ ∀ z ∈ st.1, e0.2 < z → o.2 ≤ z)) →
    SL (L.foldl pstep st).2.2 ∧ (L.foldl pstep st).1.Pairwise (fun a b => a ≤ b)
  | [], st, _, _, h1, h2, _ => ⟨h2, h1⟩
  | e :: L, st, e0, hL, h1, h2, h3 => by
    obtain ⟨q1, q2⟩ := List.pairwise_cons.mp hL
    have hee := q1 e (List.mem_cons_self ..)
    rw [List.foldl_cons]
    refine out_go L (pstep st e) e q2 (pstep_sorted h1) ?_ ?_
    · unfold pstep
      split
      · exact h2
      · rename_i hl
        have hk : plc st.1 e.2 < st.1.length := by have := plc_le st.1 e.2; omega
        show (st.2.2 ++ [_]).Pairwise leL
        rw [List.pairwise_append]
        refine ⟨h2, by simp, fun o ho b hb => ?_⟩
        rw [List.mem_singleton.mp hb]
        have hd := getD_drop hk
        have hgt := (plc_split h1 e.2).2 _ hd
        rcases h3 o ho with q | ⟨q, q'⟩
        · left; rcases hee with w | ⟨w, _⟩ <;> show o.1 < e.1 <;> omega
        · rcases hee with w | ⟨w, w'⟩
          · left; show o.1 < e.1; omega
          · right
            exact ⟨by show o.1 = e.1; omega, q' _ (List.mem_of_mem_drop hd) (by omega)⟩
    · have old : ∀ o ∈ st.2.2, o.1 < e.1 ∨ (o.1 = e.1 ∧ ∀ z ∈ st.1, e.2 < z → o.2 ≤ z) := fun o ho => by
        rcases h3 o ho with q | ⟨q, q'⟩
        · left; rcases hee with w | ⟨w, _⟩ <;> omega
        · rcases hee with w | ⟨w, w'⟩
          · left; omega
          · right; exact ⟨by omega, fun z hz hlt => q' z hz (by omega)⟩
      unfold pstep
      split
      · intro o ho
        rcases old o ho with q | ⟨q, q'⟩
        · exact .inl q
        · refine .inr ⟨q, fun z hz hlt => ?_⟩
          rcases List.mem_append.mp hz with hz | hz
          · exact q' z hz hlt
          · rw [List.mem_singleton.mp hz] at hlt; omega
      · rename_i hl
        have hk : plc st.1 e.2 < st.1.length := by have := plc_le st.1 e.2; omega
        have inset : ∀ z ∈ st.1.set (plc st.1 e.2) e.2, e.2 < z → z ∈ st.1 := fun z hz hlt => by
          rcases List.mem_or_eq_of_mem_set hz with hz | hz
          · exact hz
          · omega
        intro o ho
        rcases List.mem_append.mp ho with ho | ho
        · rcases old o ho with q | ⟨q, q'⟩
          · exact .inl q
          · exact .inr ⟨q, fun z hz hlt => q' z (inset z hz hlt) hlt⟩
        · rw [List.mem_singleton.mp ho]
          refine .inr ⟨rfl, fun z hz hlt => ?_⟩
          have hz' := inset z hz hlt
          have : z ∈ st.1.drop (plc st.1 e.2) := by
            rw [← List.take_append_drop (plc st.1 e.2) st.1] at hz'
            rcases List.mem_append.mp hz' with hz' | hz'
            · have := (plc_split h1 e.2).1 z hz'; omega
            · exact hz'
          exact getD_least h1 hk z this
theorem out_sorted {L : List Pr} (h : SL L) : SL (pout L) ∧ (prow L).Pairwise (fun a b => a ≤ b) := by
  cases L with
  | nil => exact ⟨List.Pairwise.nil, List.Pairwise.nil⟩
  | cons e r =>
    refine out_go (e :: r) ([], [], []) e (List.pairwise_cons.mpr ⟨fun y hy => ?_, h⟩) List.Pairwise.nil List.Pairwise.nil (by simp)
    rcases List.mem_cons.mp hy with rfl | hy
    · exact .inr ⟨rfl, Int.le_refl _⟩
    · exact (List.pairwise_cons.mp h).1 y hy
theorem out_len_go : ∀ (L : List Pr) (st : PS), (L.foldl pstep st).2.2.length + (L.foldl pstep st).1.length = st.2.2.length + st.1.length + L.length ∧ st.1.length ≤ (L.foldl pstep st).1.length
  | [], st => by simp
  | e :: L, st => by
    obtain ⟨h1, h2⟩ := out_len_go L (pstep st e)
    have h3 : (pstep st e).2.2.length + (pstep st e).1.length = st.2.2.length + st.1.length + 1 ∧ st.1.length ≤ (pstep st e).1.length := by
      unfold pstep; split <;> simp <;> omega
    rw [List.foldl_cons, List.length_cons]; omega
theorem out_len {L : List Pr} (h : L ≠ []) : (pout L).length < L.length := by
  cases L with
  | nil => exact absurd rfl h
  | cons e r =>
    have h0 : pass (e :: r) = r.foldl pstep ([e.2], [e.1], []) := by unfold pass; rw [List.foldl_cons]; rfl
    obtain ⟨h1, h2⟩ := out_len_go r ([e.2], [e.1], [])
    unfold pout
    rw [h0]
    simp at h1 h2 ⊢; omega

/-! ## the tables -/
def tabs : Nat → List Pr → List (List Int) × List (List Int)
  | 0, _ => ([], [])
  | _ + 1, [] => ([], [])
  | n + 1, e :: r => (prow (e :: r) :: (tabs n (pout (e :: r))).1, pq (e :: r) :: (tabs n (pout (e :: r))).2)
theorem tabs_fuel : ∀ (n m : Nat) (L : List Pr), L.length ≤ n → L.length ≤ m → tabs n L = tabs m L
  | 0, 0, _, _, _ => rfl
  | 0, m + 1, [], _, _ => rfl
  | 0, _ + 1, _ :: _, h, _ => by simp at h
  | n + 1, 0, [], _, _ => rfl
  | _ + 1, 0, _ :: _, _, h => by simp at h
  | n + 1, m + 1, [], _, _ => rfl
  | n + 1, m + 1, e :: r, h1, h2 => by
    have := out_len (L := e :: r) (by simp)
    have ih := tabs_fuel n m (pout (e :: r)) (by simp at *; omega) (by simp at *; omega)
    rw [tabs, tabs, ih]
def table (L : List Pr) : List (List Int) × List (List Int) := tabs L.length L
theorem sym_tabs : ∀ (n : Nat) {L L' : List Pr}, L.length ≤ n → SL L → SL L' → L'.Perm (L.map swp) → tabs n L' = ((tabs n L).2, (tabs n L).1)
  | 0, L, L', h, _, _, _ => rfl
  | n + 1, [], L', _, _, _, hp => by
    have : L' = [] := List.Perm.eq_nil (by simpa using hp)
    subst this; rfl
  | n + 1, e :: r, [], _, _, _, hp => by have := hp.length_eq; simp at this
  | n + 1, e :: r, e' :: r', hn, h1, h2, hp => by
    obtain ⟨q1, q2, q3⟩ := sym_row _ rfl h1 h2 hp
    have := out_len (L := e :: r) (by simp)
    have ih := sym_tabs n (L := pout (e :: r)) (L' := pout (e' :: r')) (by simp at *; omega) (out_sorted h1).1 (out_sorted h2).1 q3
    rw [tabs, tabs, ih, q1, q2]
theorem sym_table {L L' : List Pr} (h1 : SL L) (h2 : SL L') (hp : L'.Perm (L.map swp)) : table L' = ((table L).2, (table L).1) := by
  have hl : L'.length = L.length := by rw [hp.length_eq, List.length_map]
  unfold table
  rw [hl]
  exact sym_tabs _ (Nat.le_refl _) h1 h2 hp
/-- one more put in: the rows, and the place where a cell is added -/
def putR : List (List Int) → Int → List (List Int) × Nat
  | [], b => ([[b]], 0)
  | R :: rows, b => if plc R b = R.length then ((R ++ [b]) :: rows, 0) else (R.set (plc R b) b :: (putR rows (R.getD (plc R b) 0)).1, (putR rows (R.getD (plc R b) 0)).2 + 1)
def putS (steps : List (List Int)) (k : Nat) (a : Int) : List (List Int) := if k = steps.length then steps ++ [[a]] else steps.set k (steps.getD k [] ++ [a])
theorem tabs_len : ∀ (n : Nat) (L : List Pr), (tabs n L).1.length = (tabs n L).2.length
  | 0, _ => rfl
  | _ + 1, [] => rfl
  | n + 1, e :: r => by rw [tabs]; simp [tabs_len n]
theorem putR_le : ∀ (rows : List (List Int)) (b : Int), (putR rows b).2 ≤ rows.length
  | [], _ => Nat.le_refl _
  | R :: rows, b => by
    rw [putR]; split
    · exact Nat.zero_le _
    · have := putR_le rows (R.getD (plc R b) 0); simp; exact this
theorem tabs_snoc : ∀ (n : Nat) (L : List Pr) (e : Pr), L.length ≤ n → tabs (n + 1) (L ++ [e]) = ((putR (tabs n L).1 e.2).1, putS (tabs n L).2 (putR (tabs n L).1 e.2).2 e.1)
  | n, [], e, _ => by
    have h0 : tabs n [] = ([], []) := by cases n <;> rfl
    rw [h0, List.nil_append, tabs]
    have hp : pass [e] = ([e.2], [e.1], []) := rfl
    have h1 : prow [e] = [e.2] := rfl
    have h2 : pq [e] = [e.1] := rfl
    have h3 : pout [e] = [] := rfl
    rw [h1, h2, h3, h0]; rfl
  | 0, _ :: _, _, h => by simp at h
  | n + 1, x :: r, e, hn => by
    have hlen := out_len (L := x :: r) (by simp)
    have hs := pass_snoc (x :: r) e
    have e1 : tabs (n + 1 + 1) (x :: r ++ [e]) = (prow (x :: r ++ [e]) :: (tabs (n + 1) (pout (x :: r ++ [e]))).1, pq (x :: r ++ [e]) :: (tabs (n + 1) (pout (x :: r ++ [e]))).2) := rfl
    have e2 : tabs (n + 1) (x :: r) = (prow (x :: r) :: (tabs n (pout (x :: r))).1, pq (x :: r) :: (tabs n (pout (x :: r))).2) := rfl
    rw [e1, e2]
    by_cases hk : plc (prow (x :: r)) e.2 = (prow (x :: r)).length
    · have hp : pass (x :: r ++ [e]) = (prow (x :: r) ++ [e.2], pq (x :: r) ++ [e.1], pout (x :: r)) := by rw [hs]; unfold pstep; exact if_pos hk
      have f1 : prow (x :: r ++ [e]) = prow (x :: r) ++ [e.2] := by unfold prow; rw [hp]; rfl
      have f2 : pq (x :: r ++ [e]) = pq (x :: r) ++ [e.1] := by unfold pq; rw [hp]; rfl
      have f3 : pout (x :: r ++ [e]) = pout (x :: r) := by unfold pout; rw [hp]; rfl
      rw [f1, f2, f3, tabs_fuel (n + 1) n (pout (x :: r)) (by simp at *; omega) (by simp at *; omega)]
      have g : putR (prow (x :: r) :: (tabs n (pout (x :: r))).1) e.2 = ((prow (x :: r) ++ [e.2]) :: (tabs n (pout (x :: r))).1, 0) := by rw [putR, if_pos hk]
      rw [g]
      unfold putS
      rw [if_neg (by simp)]
      rfl
    · have hp : pass (x :: r ++ [e]) = ((prow (x :: r)).set (plc (prow (x :: r)) e.2) e.2, pq (x :: r), pout (x :: r) ++ [(e.1, (prow (x :: r)).getD (plc (prow (x :: r)) e.2) 0)]) := by rw [hs]; unfold pstep; exact if_neg hk
      have f1 : prow (x :: r ++ [e]) = (prow (x :: r)).set (plc (prow (x :: r)) e.2) e.2 := by unfold prow; rw [hp]; rfl
      have f2 : pq (x :: r ++ [e]) = pq (x :: r) := by unfold pq; rw [hp]; rfl
      have f3 : pout (x :: r ++ [e]) = pout (x :: r) ++ [(e.1, (prow (x :: r)).getD (plc (prow (x :: r)) e.2) 0)] := by unfold pout; rw [hp]; rfl
      rw [f1, f2, f3, tabs_snoc n (pout (x :: r)) _ (by simp at *; omega)]
      have g : putR (prow (x :: r) :: (tabs n (pout (x :: r))).1) e.2 = ((prow (x :: r)).set (plc (prow (x :: r)) e.2) e.2 :: (putR (tabs n (pout (x :: r))).1 ((prow (x :: r)).getD (plc (prow (x :: r)) e.2) 0)).1, (putR (tabs n (pout (x :: r))).1 ((prow (x :: r)).getD (plc (prow (x :: r)) e.2) 0)).2 + 1) := by rw [putR, if_neg hk]
      rw [g]
      unfold putS
      simp only [List.length_cons, Nat.add_right_cancel_iff]
      split
      · rfl
      · rfl
theorem table_snoc (L : List Pr) (e : Pr) : table (L ++ [e]) = ((putR (table L).1 e.2).1, putS (table L).2 (putR (table L).1 e.2).2 e.1) := by
  unfold table
  rw [show (L ++ [e]).length = L.length + 1 by simp]
  exact tabs_snoc _ L e (Nat.le_refl _)
end Mine

set_option maxHeartbeats 1000000
namespace Mine
open PySem PySem.W PyProof.Rows

/-! ## the sorting of fewer than 64 things, asked by pairs -/
def krun {α : Type} (lt : Nat → Nat → Bool) : KasT α → α
  | .ret a => a
  | .ask i j k => krun lt (k (lt i j))
def kok {α : Type} (lt : Nat → Nat → Bool) (N : Nat) : KasT α → Prop
  | .ret _ => True
  | .ask i j k => i < N ∧ j < N ∧ kok lt N (k (lt i j))
theorem kwp {α : Type} {lt : Nat → Nat → Bool} {N : Nat} {cmp : Nat → Nat → (Bool → Shared → Prop) → Shared → Prop} {s : Shared} (hc : ∀ i j C, i < N → j < N → C (lt i j) s → cmp i j C s) {Q : α → Shared → Prop} : ∀ (t : KasT α), kok lt N t → Q (krun lt t) s → t.kasWp cmp Q s
  | .ret a, _, h => h
  | .ask i j k, ⟨h1, h2, h3⟩, h => hc i j _ h1 h2 (kwp hc (k (lt i j)) h3 h)
theorem krun_bind {α β : Type} (lt : Nat → Nat → Bool) (f : α → KasT β) : ∀ (t : KasT α), krun lt (t.bind f) = krun lt (f (krun lt t))
  | .ret a => rfl
  | .ask i j k => krun_bind lt f (k (lt i j))
theorem kok_bind {α β : Type} {lt : Nat → Nat → Bool} {N : Nat} (f : α → KasT β) : ∀ (t : KasT α), kok lt N t → kok lt N (f (krun lt t)) → kok lt N (t.bind f)
  | .ret a, _, h => h
  | .ask i j k, ⟨h1, h2, h3⟩, h => ⟨h1, h2, kok_bind f (k (lt i j)) h3 h⟩

section
variable {lt : Nat → Nat → Bool} {N : Nat}
structure Ord (lt : Nat → Nat → Bool) : Prop where
  asym : ∀ a b, lt a b = true → lt b a = false
  trans : ∀ a b c, lt b a = false → lt c b = false → lt c a = false
theorem Ord.refl (o : Ord lt) (a : Nat) : lt a a = false := by
  cases h : lt a a with
  | false => rfl
  | true => have := o.asym a a h; rw [h] at this; cases this
abbrev gP (p : Array Nat) (i : Nat) : Nat := p.getD i 0
def SP (lt : Nat → Nat → Bool) (p : Array Nat) (k : Nat) : Prop := ∀ i j, i ≤ j → j < k → lt (gP p j) (gP p i) = false
def NI (lt : Nat → Nat → Bool) (p : Array Nat) (k : Nat) : Prop := ∀ i j, i ≤ j → j < k → lt (gP p i) (gP p j) = false
structure In (N : Nat) (p : Array Nat) : Prop where
  size : p.size = N
  perm : p.toList.Perm (List.range N)
theorem In.bd {p : Array Nat} (h : In N p) {i : Nat} (hi : i < N) : gP p i < N := by
  have hi' : i < p.size := by rw [h.size]; exact hi
  have e : gP p i = p[i] := by simp [gP, Array.getD, hi']
  have hm : p[i] ∈ p.toList := by simp
  rw [e]; simpa using h.perm.mem_iff.mp hm
theorem gP_of {p q : Array Nat} {i j : Nat} (h : p[i]? = q[j]?) : gP p i = gP q j := by
  simp only [gP, Array.getD_eq_getD_getElem?, h]
theorem rev_get {p : Array Nat} {i j : Nat} (hj : j ≤ p.size) (k : Nat) : gP (kas_rev p i j) k = if i ≤ k ∧ k < j then gP p (i + j - 1 - k) else gP p k := by
  have := getElem?_mirror_all (xs := p) (i := i) hj k
  split
  · rename_i h; rw [if_pos h] at this; exact gP_of this
  · rename_i h; rw [if_neg h] at this; exact gP_of this
theorem In.rev {p : Array Nat} (h : In N p) (i j : Nat) : In N (kas_rev p i j) := ⟨by rw [kas_rev_size, h.size], (Array.perm_iff_toList_perm.mp (mirror_perm p i j _)).trans h.perm⟩
theorem asc_ok (o : Ord lt) {p : Array Nat} (hp : In N p) : ∀ (f n : Nat), 1 ≤ n → n + f ≤ N → SP lt p n → kok lt N (kas_asc p f n) ∧ n ≤ krun lt (kas_asc p f n) ∧ krun lt (kas_asc p f n) ≤ n + f ∧ SP lt p (krun lt (kas_asc p f n))
  | 0, n, h1, h2, hs => ⟨trivial, Nat.le_refl _, Nat.le_refl _, hs⟩
  | f + 1, n, h1, h2, hs => by
    unfold kas_asc
    cases hc : lt (p.getD n 0) (p.getD (n - 1) 0) with
    | true =>
      refine ⟨⟨hp.bd (by omega), hp.bd (by omega), ?_⟩, ?_⟩
      · rw [hc]; trivial
      · show n ≤ krun lt (if lt _ _ = true then _ else _) ∧ _
        simp only [krun, hc, if_true]
        exact ⟨Nat.le_refl _, by omega, hs⟩
    | false =>
      have hs' : SP lt p (n + 1) := fun i j hij hj => by
        by_cases q : j < n
        · exact hs i j hij q
        · have : j = n := by omega
          subst this
          by_cases q2 : i = j
          · subst q2; exact o.refl _
          · exact o.trans _ _ _ (hs i (j - 1) (by omega) (by omega)) hc
      obtain ⟨a1, a2, a3, a4⟩ := asc_ok o hp f (n + 1) (by omega) (by omega) hs'
      refine ⟨⟨hp.bd (by omega), hp.bd (by omega), ?_⟩, ?_⟩
      · rw [hc]; exact a1
      · simp only [krun, hc, Bool.false_eq_true, if_false]
        exact ⟨by omega, by omega, a4⟩
/-- the last q + 1 are alike -/
def Eqs (lt : Nat → Nat → Bool) (p : Array Nat) (n q : Nat) : Prop := q + 1 ≤ n ∧ ∀ i, n - (q + 1) ≤ i → i < n → lt (gP p (n - 1)) (gP p i) = false ∧ lt (gP p i) (gP p (n - 1)) = false
theorem rev_eqs (o : Ord lt) {p : Array Nat} {n q : Nat} (hn : n ≤ p.size) (h : NI lt p n) (he : Eqs lt p n q) : NI lt (kas_rev p (n - (q + 1)) n) n ∧ (∀ k, n ≤ k → gP (kas_rev p (n - (q + 1)) n) k = gP p k) ∧ lt (gP (kas_rev p (n - (q + 1)) n) (n - 1)) (gP p (n - 1)) = false ∧ lt (gP p (n - 1)) (gP (kas_rev p (n - (q + 1)) n) (n - 1)) = false := by
  obtain ⟨hq, he⟩ := he
  have hget := rev_get (p := p) (i := n - (q + 1)) hn
  refine ⟨fun i j hij hj => ?_, fun k hk => by rw [hget, if_neg (by omega)], ?_, ?_⟩
  · rw [hget, hget]
    by_cases q1 : n - (q + 1) ≤ i
    · rw [if_pos ⟨q1, by omega⟩, if_pos ⟨by omega, hj⟩]
      have a := he (n - (q + 1) + n - 1 - i) (by omega) (by omega)
      have b := he (n - (q + 1) + n - 1 - j) (by omega) (by omega)
      exact o.trans _ _ _ b.1 a.2
    · rw [if_neg (by omega)]
      by_cases q2 : n - (q + 1) ≤ j
      · rw [if_pos ⟨q2, hj⟩]; exact h i _ (by omega) (by omega)
      · rw [if_neg (by omega)]; exact h i j hij hj
  · rw [hget, if_pos ⟨by omega, by omega⟩]; exact (he _ (by omega) (by omega)).2
  · rw [hget, if_pos ⟨by omega, by omega⟩]; exact (he _ (by omega) (by omega)).1
theorem desc_ok (o : Ord lt) : ∀ (f : Nat) (p : Array Nat) (n q : Nat), In N p → 1 ≤ n → n + f ≤ N → NI lt p n → Eqs lt p n q →
    kok lt N (kas_desc f p n q) ∧ In N (krun lt (kas_desc f p n q)).1 ∧ n ≤ (krun lt (kas_desc f p n q)).2.1 ∧ (krun lt (kas_desc f p n q)).2.1 ≤ n + f ∧ NI lt (krun lt (kas_desc f p n q)).1 (krun lt (kas_desc f p n q)).2.1 ∧ Eqs lt (krun lt (kas_desc f p n q)).1 (krun lt (kas_desc f p n q)).2.1 (krun lt (kas_desc f p n q)).2.2
  | 0, p, n, q, hp, h1, h2, hs, he => ⟨trivial, hp, Nat.le_refl _, Nat.le_refl _, hs, he⟩
  | f + 1, p, n, q, hp, h1, h2, hs, he => by
    have l1 : p.getD n 0 < N := hp.bd (by omega)
    have l2 : p.getD (n - 1) 0 < N := hp.bd (by omega)
    have grow : ∀ (p' : Array Nat), NI lt p' n → lt (gP p' (n - 1)) (gP p' n) = false → NI lt p' (n + 1) := fun p' hs' hb i j hij hj => by
      by_cases q1 : j < n
      · exact hs' i j hij q1
      · have : j = n := by omega
        subst this
        by_cases q2 : i = j
        · subst q2; exact o.refl _
        · exact o.trans _ _ _ hb (hs' i (j - 1) (by omega) (by omega))
    have one : ∀ (p' : Array Nat), Eqs lt p' (n + 1) 0 := fun p' => ⟨by omega, fun i hi hi2 => by
      have : i = n := by omega
      subst this
      exact ⟨o.refl _, o.refl _⟩⟩
    unfold kas_desc
    cases hc : lt (p.getD n 0) (p.getD (n - 1) 0) with
    | true =>
      by_cases hq : q > 0
      · obtain ⟨r1, r2, r3, r4⟩ := rev_eqs o (by rw [hp.size]; omega) hs he
        have hb : lt (gP (kas_rev p (n - (q + 1)) n) (n - 1)) (gP (kas_rev p (n - (q + 1)) n) n) = false := by
          rw [r2 n (Nat.le_refl _)]
          exact o.trans _ _ _ (o.asym _ _ hc) r3
        obtain ⟨a1, a2, a3, a4, a5, a6⟩ := desc_ok o f (kas_rev p (n - (q + 1)) n) (n + 1) 0 (hp.rev _ _) (by omega) (by omega) (grow _ r1 hb) (one _)
        refine ⟨⟨l1, l2, by rw [hc]; simp only [if_true, if_pos hq]; exact a1⟩, ?_⟩
        simp only [krun, hc, if_true, if_pos hq]
        exact ⟨a2, by omega, by omega, a5, a6⟩
      · obtain ⟨a1, a2, a3, a4, a5, a6⟩ := desc_ok o f p (n + 1) 0 hp (by omega) (by omega) (grow _ hs (o.asym _ _ hc)) (one _)
        refine ⟨⟨l1, l2, by rw [hc]; simp only [if_true, if_neg hq]; exact a1⟩, ?_⟩
        simp only [krun, hc, if_true, if_neg hq]
        exact ⟨a2, by omega, by omega, a5, a6⟩
    | false =>
      cases hd : lt (p.getD (n - 1) 0) (p.getD n 0) with
      | true =>
        refine ⟨⟨l1, l2, ?_⟩, ?_⟩
        · rw [hc]
          refine ⟨l2, l1, ?_⟩
          rw [hd]; trivial
        · simp only [krun, hc, hd, Bool.false_eq_true, if_false, if_true]
          exact ⟨hp, Nat.le_refl _, by omega, hs, he⟩
      | false =>
        have he' : Eqs lt p (n + 1) (q + 1) := ⟨by have := he.1; omega, fun i hi hi2 => by
          by_cases q1 : i = n
          · subst q1; exact ⟨o.refl _, o.refl _⟩
          · have := he.2 i (by omega) (by omega)
            exact ⟨o.trans _ _ _ this.1 hc, o.trans _ _ _ hd this.2⟩⟩
        obtain ⟨a1, a2, a3, a4, a5, a6⟩ := desc_ok o f p (n + 1) (q + 1) hp (by omega) (by omega) (grow _ hs hd) he'
        refine ⟨⟨l1, l2, ?_⟩, ?_⟩
        · rw [hc]
          refine ⟨l2, l1, ?_⟩
          rw [hd]; exact a1
        · simp only [krun, hc, hd, Bool.false_eq_true, if_false]
          exact ⟨a2, by omega, by omega, a5, a6⟩
theorem tail_ok (o : Ord lt) {p : Array Nat} {n : Nat} (hp : In N p) (h1 : 1 ≤ n) (h2 : n ≤ N) (hs : NI lt p n) : kok lt N (kas_tail3 n N p) ∧ In N (krun lt (kas_tail3 n N p)).2 ∧ (krun lt (kas_tail3 n N p)).1 ≤ N ∧ 1 ≤ (krun lt (kas_tail3 n N p)).1 ∧ SP lt (krun lt (kas_tail3 n N p)).2 (krun lt (kas_tail3 n N p)).1 := by
  have hget := rev_get (p := p) (i := 0) (j := n) (by rw [hp.size]; omega)
  have hs' : SP lt (kas_rev p 0 n) n := fun i j hij hj => by
    rw [hget, hget, if_pos ⟨by omega, by omega⟩, if_pos ⟨by omega, by omega⟩]
    exact hs _ _ (by omega) (by omega)
  obtain ⟨a1, a2, a3, a4⟩ := asc_ok o (hp.rev 0 n) (N - n) n h1 (by omega) hs'
  unfold kas_tail3
  refine ⟨kok_bind _ _ a1 trivial, ?_⟩
  rw [krun_bind]
  exact ⟨hp.rev 0 n, by show krun lt _ ≤ N; omega, by show 1 ≤ krun lt _; omega, a4⟩
theorem part_ok (o : Ord lt) {p : Array Nat} {n : Nat} (hp : In N p) (h1 : 1 ≤ n) (h2 : n + 1 ≤ N) (hs : NI lt p (n + 1)) : kok lt N (kas_descPart n N p) ∧ In N (krun lt (kas_descPart n N p)).2 ∧ (krun lt (kas_descPart n N p)).1 ≤ N ∧ 1 ≤ (krun lt (kas_descPart n N p)).1 ∧ SP lt (krun lt (kas_descPart n N p)).2 (krun lt (kas_descPart n N p)).1 := by
  have one : Eqs lt p (n + 1) 0 := ⟨by omega, fun i hi hi2 => by
      have : i = n := by omega
      subst this
      exact ⟨o.refl _, o.refl _⟩⟩
  obtain ⟨a1, a2, a3, a4, a5, a6⟩ := desc_ok o (N - (n + 1)) p (n + 1) 0 hp (by omega) (by omega) hs one
  unfold kas_descPart
  rw [krun_bind]
  generalize hr : krun lt (kas_desc (N - (n + 1)) p (n + 1) 0) = r at *
  by_cases hq : r.2.2 > 0
  · obtain ⟨r1, _⟩ := rev_eqs o (by rw [a2.size]; omega) a5 a6
    have t := tail_ok o (a2.rev (r.2.1 - (r.2.2 + 1)) r.2.1) (by omega) (by omega) r1
    refine ⟨kok_bind _ _ a1 ?_, ?_⟩
    · rw [hr, if_pos hq]; exact t.1
    · rw [if_pos hq]; exact t.2
  · have t := tail_ok o a2 (by omega) (by omega) a5
    refine ⟨kok_bind _ _ a1 ?_, ?_⟩
    · rw [hr, if_neg hq]; exact t.1
    · rw [if_neg hq]; exact t.2
theorem asc_stop {p : Array Nat} : ∀ (f n : Nat), krun lt (kas_asc p f n) < n + f → lt (gP p (krun lt (kas_asc p f n))) (gP p (krun lt (kas_asc p f n) - 1)) = true
  | 0, n, h => by simp [kas_asc, krun] at h
  | f + 1, n, h => by
    unfold kas_asc at h ⊢
    cases hc : lt (p.getD n 0) (p.getD (n - 1) 0) with
    | true => simp only [krun, hc, if_true]
    | false =>
      simp only [krun, hc, Bool.false_eq_true, if_false] at h ⊢
      exact asc_stop f (n + 1) (by omega)
theorem count_ok (o : Ord lt) {p : Array Nat} (hp : In N p) (hN : 1 ≤ N) : kok lt N (kas_count N p) ∧ In N (krun lt (kas_count N p)).2 ∧ (krun lt (kas_count N p)).1 ≤ N ∧ 1 ≤ (krun lt (kas_count N p)).1 ∧ SP lt (krun lt (kas_count N p)).2 (krun lt (kas_count N p)).1 := by
  have hs1 : SP lt p 1 := fun i j hij hj => by
    have : i = j := by omega
    subst this
    exact o.refl _
  obtain ⟨a1, a2, a3, a4⟩ := asc_ok o hp (N - 1) 1 (Nat.le_refl _) (by omega) hs1
  have stop := asc_stop (lt := lt) (p := p) (N - 1) 1
  unfold kas_count
  rw [krun_bind]
  generalize hr : krun lt (kas_asc p (N - 1) 1) = n at *
  by_cases hn : (n == N) = true
  · refine ⟨kok_bind _ _ a1 (by rw [hr, if_pos hn]; trivial), ?_⟩
    rw [if_pos hn]
    exact ⟨hp, by show n ≤ N; omega, a2, a4⟩
  · have hnN : n < N := by
      have : n ≠ N := by simpa using hn
      omega
    have hst := stop (by omega)
    by_cases h1 : n > 1
    · cases hc : lt (p.getD 0 0) (p.getD (n - 1) 0) with
      | true =>
        refine ⟨kok_bind _ _ a1 ?_, ?_⟩
        · rw [hr, if_neg hn, if_pos h1]
          exact ⟨hp.bd (by omega), hp.bd (by omega), by rw [hc]; trivial⟩
        · rw [if_neg hn, if_pos h1]
          simp only [krun, hc, if_true]
          exact ⟨hp, by omega, a2, a4⟩
      | false =>
        -- all alike so far
        have hget := rev_get (p := p) (i := 0) (j := n) (by rw [hp.size]; omega)
        have hall : ∀ i j, i < n → j < n → lt (gP p i) (gP p j) = false := fun i j hi hj => by
          exact o.trans _ _ _ (o.trans _ _ _ (a4 j (n - 1) (by omega) (by omega)) hc) (a4 0 i (Nat.zero_le _) hi)
        have hni : NI lt (kas_rev p 0 n) (n + 1) := fun i j hij hj => by
          rw [hget, hget]
          by_cases q : j < n
          · rw [if_pos ⟨by omega, by omega⟩, if_pos ⟨by omega, q⟩]; exact hall _ _ (by omega) (by omega)
          · have : j = n := by omega
            subst this
            rw [if_neg (show ¬ (0 ≤ j ∧ j < j) by omega)]
            by_cases q2 : i = j
            · subst q2; rw [if_neg (by omega)]; exact o.refl _
            · rw [if_pos ⟨by omega, by omega⟩]
              exact o.trans _ _ _ (o.asym _ _ hst) (hall _ _ (by omega) (by omega))
        have t := part_ok o (hp.rev 0 n) (by omega) (by omega) hni
        refine ⟨kok_bind _ _ a1 ?_, ?_⟩
        · rw [hr, if_neg hn, if_pos h1]
          exact ⟨hp.bd (by omega), hp.bd (by omega), by rw [hc]; exact t.1⟩
        · rw [if_neg hn, if_pos h1]
          simp only [krun, hc, Bool.false_eq_true, if_false]
          exact t.2
    · have hn1 : n = 1 := by omega
      subst hn1
      have hni : NI lt p 2 := fun i j hij hj => by
        by_cases q : i = j
        · subst q; exact o.refl _
        · have : i = 0 ∧ j = 1 := by omega
          obtain ⟨rfl, rfl⟩ := this
          exact o.asym _ _ hst
      have t := part_ok o hp (Nat.le_refl _) (by omega) hni
      refine ⟨kok_bind _ _ a1 ?_, ?_⟩
      · rw [hr, if_neg hn, if_neg h1]; exact t.1
      · rw [if_neg hn, if_neg h1]; exact t.2
theorem place_ok (o : Ord lt) {p : Array Nat} (hp : In N p) {k : Nat} (hk : k < N) (hs : SP lt p k) : ∀ (f l r : Nat), r ≤ k → l ≤ r → r - l ≤ f → (∀ i, i < l → lt (gP p k) (gP p i) = false) → (∀ i, r ≤ i → i < k → lt (gP p k) (gP p i) = true) →
    kok lt N (kas_place p k f l r) ∧ krun lt (kas_place p k f l r) ≤ k ∧ (∀ i, i < krun lt (kas_place p k f l r) → lt (gP p k) (gP p i) = false) ∧ (∀ i, krun lt (kas_place p k f l r) ≤ i → i < k → lt (gP p k) (gP p i) = true)
  | 0, l, r, h1, h2, h3, h4, h5 => by
    have : l = r := by omega
    subst this
    exact ⟨trivial, h1, h4, h5⟩
  | f + 1, l, r, h1, h2, h3, h4, h5 => by
    unfold kas_place
    by_cases hl : l ≥ r
    · have : l = r := by omega
      subst this
      rw [if_pos hl]
      exact ⟨trivial, h1, h4, h5⟩
    · rw [if_neg hl]
      cases hc : lt (p.getD k 0) (p.getD ((l + r) / 2) 0) with
      | true =>
        have := place_ok o hp hk hs f l ((l + r) / 2) (by omega) (by omega) (by omega) h4 (fun i hi hik => by
          cases q : lt (gP p k) (gP p i) with
          | true => rfl
          | false =>
            have h6 := hs ((l + r) / 2) i hi hik
            have := o.trans _ _ _ h6 q
            rw [hc] at this; cases this)
        refine ⟨⟨hp.bd hk, hp.bd (by omega), by rw [hc]; exact this.1⟩, ?_⟩
        simp only [krun, hc, if_true]
        exact this.2
      | false =>
        have := place_ok o hp hk hs f ((l + r) / 2 + 1) r h1 (by omega) (by omega) (fun i hi => by
          have h6 := hs i ((l + r) / 2) (by omega) (by omega)
          exact o.trans _ _ _ h6 hc) h5
        refine ⟨⟨hp.bd hk, hp.bd (by omega), by rw [hc]; exact this.1⟩, ?_⟩
        simp only [krun, hc, Bool.false_eq_true, if_false]
        exact this.2
theorem bin_ok (o : Ord lt) : ∀ (f : Nat) (p : Array Nat) (k : Nat), In N p → k + f = N → SP lt p k → kok lt N (kas_bin f p k) ∧ In N (krun lt (kas_bin f p k)) ∧ SP lt (krun lt (kas_bin f p k)) N
  | 0, p, k, hp, hk, hs => ⟨trivial, hp, by
      have : k = N := by omega
      subst this
      exact hs⟩
  | f + 1, p, k, hp, hk, hs => by
    obtain ⟨a1, a2, a3, a4⟩ := place_ok o hp (by omega) hs k 0 k (Nat.le_refl _) (Nat.zero_le _) (by omega) (fun i hi => by omega) (fun i hi hik => by omega)
    unfold kas_bin
    rw [krun_bind]
    generalize hr : krun lt (kas_place p k k 0 k) = l at *
    have hget : ∀ i, gP (bubble p k (k - l)) i = if i = l then gP p k else if l < i ∧ i ≤ k then gP p (i - 1) else gP p i := fun i => by
      have := getElem?_bubble (xs := p) (src := k) (by rw [hp.size]; omega) (k - l) (by omega) i
      rw [show k - (k - l) = l by omega] at this
      split
      · rename_i h; rw [if_pos h] at this; exact gP_of this
      · rename_i h
        rw [if_neg h] at this
        split
        · rename_i h'; rw [if_pos h'] at this; exact gP_of this
        · rename_i h'; rw [if_neg h'] at this; exact gP_of this
    have hs' : SP lt (bubble p k (k - l)) (k + 1) := fun i j hij hj => by
      rw [hget, hget]
      by_cases j1 : j = l
      · rw [if_pos j1]
        by_cases i1 : i = l
        · rw [if_pos i1]; exact o.refl _
        · rw [if_neg i1, if_neg (by omega)]; exact a3 i (by omega)
      · rw [if_neg j1]
        by_cases j2 : l < j ∧ j ≤ k
        · rw [if_pos j2]
          by_cases i1 : i = l
          · rw [if_pos i1]; exact o.asym _ _ (a4 (j - 1) (by omega) (by omega))
          · rw [if_neg i1]
            by_cases i2 : l < i ∧ i ≤ k
            · rw [if_pos i2]; exact hs _ _ (by omega) (by omega)
            · rw [if_neg i2]; exact hs _ _ (by omega) (by omega)
        · rw [if_neg j2, if_neg (by omega), if_neg (by omega)]; exact hs i j hij (by omega)
    have hp' : In N (bubble p k (k - l)) := ⟨by rw [bubble_size, hp.size], (Array.perm_iff_toList_perm.mp (bubble_perm p k _)).trans hp.perm⟩
    obtain ⟨b1, b2, b3⟩ := bin_ok o f (bubble p k (k - l)) (k + 1) hp' (by omega) hs'
    exact ⟨kok_bind _ _ a1 (by rw [hr]; exact b1), b2, b3⟩
theorem sort_ok (o : Ord lt) (hN : 1 ≤ N) : kok lt N (kas_sort N) ∧ In N (krun lt (kas_sort N)) ∧ SP lt (krun lt (kas_sort N)) N := by
  have hp : In N (List.toArray (List.range N)) := ⟨by simp, by simp⟩
  obtain ⟨a1, a2, a3, a4, a5⟩ := count_ok o hp hN
  unfold kas_sort
  rw [krun_bind]
  generalize hr : krun lt (kas_count N (List.toArray (List.range N))) = r at *
  by_cases h : r.1 < N
  · have hm : max r.1 1 = r.1 := by omega
    obtain ⟨b1, b2, b3⟩ := bin_ok o (N - r.1) r.2 r.1 a2 (by omega) a5
    refine ⟨kok_bind _ _ a1 (by rw [hr, if_pos h, hm]; exact b1), ?_⟩
    rw [if_pos h, hm]; exact ⟨b2, b3⟩
  · have : r.1 = N := by omega
    refine ⟨kok_bind _ _ a1 (by rw [hr, if_neg h]; trivial), ?_⟩
    rw [if_neg h]
    exact ⟨a2, by rw [this] at a5; exact a5⟩
end
end Mine

set_option maxHeartbeats 1000000
namespace Mine
open PySem PySem.W PyProof.Rows
open PySem.MeetsSeq

/-! ## pairs of numbers, sorted -/
section
variable {prog : Program} {w : World} {A : Around} {E : Value → Shared → Prop} {s : Shared}
theorem sorted_short {l : Addr} {vs : List Value} {Q : Value → Shared → Prop} (hl : s.heap.IsList l vs.toArray) (h1 : vs.length < 2)
    (h : Q (.ref (s.heap.objs.size + 1)) { s with heap := sortedAll s.heap vs vs.toArray }) : wpAny (model prog w) A (call (.builtin "sorted") [.ref l]) Q E s := by
  refine Calls.call_function_entry kind_sorted plain_sorted entry_sorted (args_sorted1 _) ?_
  unfold Builtin.«sorted»
  refine wpAny_bind (m := checkCount "sorted" 1 1 _) (wpAny_pure ?_)
  refine wpAny_bind (collect_list hl ?_ (by rw [sizeLine_eq]; omega))
  refine wpAny_bind (wpAny_newList ?_ (by rw [sizeLine_eq]; omega))
  have hsz : ((s.heap.push (seqObj "list" #[] 0)).update s.heap.objs.size (Obj.mapSeq (· ++ vs.toArray))).objs.size = s.heap.objs.size + 1 := by
    rw [Heap.size_update, size_push']
  have hoL : (((s.heap.push (seqObj "list" #[] 0)).update s.heap.objs.size (Obj.mapSeq (· ++ vs.toArray))).push (seqObj "list" vs.toArray 0)).get? (s.heap.objs.size + 1) = some (seqObj "list" vs.toArray 0) := by
    rw [← hsz]; exact Heap.get?_push_size _ rfl
  show wpAny _ _ _ _ _ { s with heap := ((s.heap.push (seqObj "list" #[] 0)).update s.heap.objs.size (Obj.mapSeq (· ++ vs.toArray))).push (seqObj "list" vs.toArray 0) }
  rw [hsz]
  refine wpAny_bind (wpAny_holding (wpAny_call_entry slot_list_sort ⟨_, hoL, rfl⟩ entry_list_sort ?body (args_list_sort _)))
  case body =>
    generalize hs1 : ((s.heap.push (seqObj "list" #[] 0)).update s.heap.objs.size (Obj.mapSeq (· ++ vs.toArray))).push (seqObj "list" vs.toArray 0) = h1' at *
    have ha : s.heap.objs.size + 1 < h1'.objs.size := Heap.lt_size hoL
    show wpAny (model prog w) A.in1.in1 (Builtin.«list.sort» ⟨[.ref (s.heap.objs.size + 1)], []⟩) _ _ _
    rw [list_sort_plain]
    refine wpAny_bind (listItems_at hoL rfl ?_)
    refine wpAny_bind (listUpdate_at hoL rfl ?_ (by rw [List.size_toArray, sizeLine_eq]; omega) (Nat.zero_le _))
    obtain ⟨e1, ho1⟩ : ∃ e1, (h1'.update (s.heap.objs.size + 1) (Obj.mapSeq fun _ => (#[] : Array Value))).get? (s.heap.objs.size + 1) = some (seqObj "list" #[] e1) := ⟨_, get?_update_seq hoL (fun _ => #[])⟩
    refine wpAny_bind (seqEpoch_at ho1 rfl ?_)
    refine wpAny_bind (wpAny_newTuple ?_ (by show vs.length ≤ _; rw [sizeLine_eq]; omega))
    refine wpAny_bind (wpAny_newList ?_ (Nat.zero_le _))
    refine wpAny_holding ?_
    have ho6 : (((h1'.update (s.heap.objs.size + 1) (Obj.mapSeq fun _ => (#[] : Array Value))).push (seqObj "tuple" vs.toArray 0)).push (seqObj "list" #[] 0)).get? (s.heap.objs.size + 1) = some (seqObj "list" #[] e1) := by
      rw [Heap.get?_push_ne _ _ _ (by rw [size_push', Heap.size_update]; exact Nat.ne_of_lt (Nat.lt_succ_of_lt ha)), Heap.get?_push_ne _ _ _ (by rw [Heap.size_update]; exact Nat.ne_of_lt ha)]
      exact ho1
    show wpAny (model prog w) _ _ _ _ { s with heap := ((h1'.update (s.heap.objs.size + 1) (Obj.mapSeq fun _ => (#[] : Array Value))).push (seqObj "tuple" vs.toArray 0)).push (seqObj "list" #[] 0) }
    dsimp only
    have h2 : vs.toArray.size < 2 := by simpa using h1
    rw [if_pos h2, if_pos h2]
    refine wpAny_bind (wpAny_pure ?_)
    rw [StateT.run_pure]
    refine wpAny_bind (wpAny_pure ?_)
    dsimp only
    refine wpAny_bind (seqEpoch_at ho6 rfl ?_)
    refine wpAny_bind (listUpdate_at ho6 rfl ?_ (Nat.zero_le _) (hsz2 := by rw [Array.size_map]; show (pairsOf vs).size ≤ _; rw [pairsOf_size, sizeLine_eq]; omega))
    simp only [bne_self_eq_false, Bool.false_eq_true, if_false]
    refine wpAny_pure ⟨_, rfl, wpAny_pure ⟨_, rfl, ?_⟩⟩
    have hout : (arrOf (SortSt.mk' general' (vs.toArray.zip vs.toArray) #[] 7 none)).map (·.2) = vs.toArray := by
      show (vs.toArray.zip vs.toArray).map (·.2) = vs.toArray
      apply Array.toList_inj.mp
      rw [Array.toList_map, ksk_zip]
      exact List.map_snd_zip (by simp)
    have hfin := h
    unfold sortedAll at hfin
    rw [hs1] at hfin
    rw [hout]
    exact hfin
end
section
variable {C : Cx} {A : Around} {env : Env} {ρ : Lo} {H : AH}
abbrev PA := Addr × Pr
abbrev IsPr (H : AH) (p : PA) : Prop := H p.1 = some (.tup [.int p.2.1, .int p.2.2])
def prefs (ps : List PA) : List V := ps.map fun p => V.ref p.1
def ltP (a b : Pr) : Bool := decide (a.1 < b.1) || (decide (a.1 = b.1) && decide (a.2 < b.2))
theorem leL_of {a b : Pr} (h : ltP b a = false) : leL a b := by
  unfold ltP at h; unfold leL
  simp at h
  obtain ⟨h1, h2⟩ := h
  rcases Int.lt_or_eq_of_le h1 with q | q
  · exact .inl q
  · exact .inr ⟨q, h2 q.symm⟩
theorem WCall.sortedPairs {l : Addr} {ob : O} {ps : List PA} {Q : V → AH → Prop} (hH : H l = some ob) (hl : lst ob = some (prefs ps)) (hI : ∀ p ∈ ps, IsPr H p) (h64 : ps.length < 64)
    (h : ∀ D qs, H D = none → qs.Perm ps → SL (qs.map (·.2)) → Q (.ref D) (H.set D (.list (prefs qs)))) : WCall C A (.bi "sorted") [.ref l] [] H Q := by
  intro L ρ fv vals kvs e1 e2 e3
  cases ab_bi e1
  obtain ⟨x, rfl, ex⟩ := vals1 e2
  cases ab_ref ex
  cases ab_nil e3
  intro s hs
  obtain ⟨xs, x1, x2, x3⟩ := hs.list hH hl
  have x1' : s.heap.IsList l xs.toList.toArray := by rw [Array.toArray_toList]; exact x1
  have hlen : xs.toList.length = ps.length := by have := congrArg List.length x2; simpa [prefs] using this
  have hvs : ∀ i p, ps[i]? = some p → xs.toList.getD i Value.none = .ref p.1 := fun i p hp => by
    have hi : i < xs.toList.length := by rw [hlen]; exact (List.getElem?_eq_some_iff.mp hp).1
    have e : (xs.toList.map ab)[i]? = some (.ref p.1) := by rw [x2]; unfold prefs; rw [List.getElem?_map, hp]; rfl
    rw [List.getElem?_map, List.getElem?_eq_getElem hi] at e
    rw [List.getD_eq_getElem?_getD, List.getElem?_eq_getElem hi]
    exact ab_ref (Option.some.inj e)
  have hxs : xs.toList = ps.map fun p => Value.ref p.1 := by
    apply List.ext_getElem?
    intro i
    by_cases hi : i < ps.length
    · have := hvs i _ (List.getElem?_eq_getElem hi)
      rw [List.getD_eq_getElem?_getD, List.getElem?_eq_getElem (by omega)] at this
      rw [List.getElem?_eq_getElem (by omega), List.getElem?_map, List.getElem?_eq_getElem hi]
      exact congrArg some this
    · rw [List.getElem?_eq_none (by omega), List.getElem?_eq_none (by simp; omega)]
  by_cases h2 : ps.length < 2
  · refine sorted_short x1' (by omega) ?_
    obtain ⟨e, he⟩ := sortedAll_at s.heap xs.toList xs.toList.toArray
    have hn : s.heap.get? (s.heap.objs.size + 1) = none := Heap.get?_none_of_le (by omega)
    have kk : ∀ b o, s.heap.get? b = some o → (sortedAll s.heap xs.toList xs.toList.toArray).get? b = some o := fun b o e => sortedAll_old e
    refine ⟨_, _, hs.alloc (o := .list (prefs ps)) hn he ⟨_, _, rfl, by rw [List.toList_toArray]; exact x2, by simp [prefs]; have : sizeLine = 2 ^ 24 := rfl; omega⟩ kk, Step.alloc (tk := s.toks) hn kk, rfl, h _ ps (hs.fresh hn).1 (List.Perm.refl _) ?_⟩
    match ps, h2 with
    | [], _ => exact List.Pairwise.nil
    | [p], _ => exact List.pairwise_singleton _ _
  obtain ⟨m, F, hm⟩ := hs.fr
  refine kat_sorted F (news_all s.heap L) x1' (by omega) (by omega) (fun D e1 h' F' N' hlt => ?_)
  have kk : ∀ b o, b ≠ L → s.heap.get? b = some o → h'.get? b = some o := News.kept N' fun p hp => List.mem_cons_of_mem _ hp
  -- the pairs as they stand there
  have htup : ∀ p ∈ ps, ∃ (t u : Tok) (n : Nat), h'.get? p.1 = some { cls := .type "tuple", data := .seq #[.int p.2.1 t, .int p.2.2 u] n } := fun p hp => by
    obtain ⟨c, hc, ys, n, rfl, e2, _⟩ := hs.rep _ _ (hI p hp)
    obtain ⟨y1, y2, ey, z1, z2⟩ := vals2 e2
    obtain ⟨t, rfl⟩ := ab_int z1
    obtain ⟨u, rfl⟩ := ab_int z2
    have : ys = #[.int p.2.1 t, .int p.2.2 u] := by rw [← Array.toArray_toList (xs := ys), ey]
    subst this
    exact ⟨t, u, n, kk _ _ (fun q => by have := hI p hp; unfold IsPr at this; rw [q, hs.nl] at this; cases this) hc⟩
  have hk1 : ∀ (qs : List PA), (∀ p ∈ qs, p ∈ ps) → ∃ fs, KatTups h' (qs.map fun p => Value.ref p.1) fs ∧ fs.length = qs.length ∧ ∀ v ∈ fs, ∃ i t, v = .int i t := by
    intro qs
    induction qs with
    | nil => intro _; exact ⟨[], .nil, rfl, by simp⟩
    | cons q r ih =>
      intro hq
      obtain ⟨fs, a1, a2, a3⟩ := ih fun p hp => hq p (List.mem_cons_of_mem _ hp)
      obtain ⟨t, u, n, e⟩ := htup q (hq q (List.mem_cons_self ..))
      refine ⟨.int q.2.1 t :: fs, .cons e rfl rfl rfl a1, by simp [a2], fun v hv => ?_⟩
      rcases List.mem_cons.mp hv with rfl | hv
      · exact ⟨_, _, rfl⟩
      · exact a3 v hv
  obtain ⟨fs, f1, f2, f3⟩ := hk1 ps fun p hp => hp
  rw [← hxs] at f1
  refine kat_kind (T := .type "int") f1 (by omega) (fun v hv => by obtain ⟨i, t, rfl⟩ := f3 v hv; exact Looks.of_pure rfl) (by decide) ?_
  -- asked by pairs
  let lt : Nat → Nat → Bool := fun i j => ltP ((ps.getD i (0, 0, 0)).2) ((ps.getD j (0, 0, 0)).2)
  have hord : Ord lt := ⟨fun a b hab => by
      show ltP _ _ = false
      have : ltP _ _ = true := hab
      unfold ltP at this ⊢
      simp at this ⊢; omega, fun a b c h1 h2 => by
      have h1' : ltP _ _ = false := h1
      have h2' : ltP _ _ = false := h2
      show ltP _ _ = false
      unfold ltP at h1' h2' ⊢
      simp at h1' h2' ⊢; omega⟩
  have hcmp : ∀ i j (Cc : Bool → Shared → Prop), i < xs.toList.length → j < xs.toList.length → Cc (lt i j) { s with heap := h' } → kas_ask C.prog C.w A.in1.in1 (tuples' (Value.type "int" != Value.type "tuple")) xs.toList i j Cc { s with heap := h' } := by
    intro i j Cc hi hj hC
    have hi' : i < ps.length := by omega
    have hj' : j < ps.length := by omega
    obtain ⟨p, hp⟩ : ∃ p, ps[i]? = some p := ⟨_, List.getElem?_eq_getElem hi'⟩
    obtain ⟨q, hq⟩ : ∃ q, ps[j]? = some q := ⟨_, List.getElem?_eq_getElem hj'⟩
    obtain ⟨t, u, n, e⟩ := htup p (List.mem_of_getElem? hp)
    obtain ⟨t', u', n', e'⟩ := htup q (List.mem_of_getElem? hq)
    have hlt' : lt i j = ltP p.2 q.2 := by show ltP _ _ = _; rw [List.getD_eq_getElem?_getD, List.getD_eq_getElem?_getD, hp, hq]; rfl
    rw [hlt'] at hC
    unfold kas_ask
    rw [hvs i p hp, hvs j q hq]
    refine kat_lt (b := true) e rfl e' rfl ?_
    show KatLex _ _ _ _ _ _ [(Value.int p.2.1 t, Value.int q.2.1 t'), (Value.int p.2.2 u, Value.int q.2.2 u')] 0 _
    refine kat_cons (EqGives.int p.2.1 q.2.1 t t' C.prog C.w _ _ _ _ ?_)
    by_cases q1 : p.2.1 = q.2.1
    · rw [show (p.2.1 == q.2.1) = true by simpa using q1]
      refine kat_yes (kat_cons (EqGives.int p.2.2 q.2.2 u u' C.prog C.w _ _ _ _ ?_))
      by_cases q2 : p.2.2 = q.2.2
      · rw [show (p.2.2 == q.2.2) = true by simpa using q2]
        refine kat_yes (kat_nil ?_)
        have : ltP p.2 q.2 = false := by unfold ltP; simp [q1, q2]
        rw [this] at hC; exact hC
      · rw [show (p.2.2 == q.2.2) = false by simpa using q2]
        refine kat_no (kat_one _ _ (PySem.wpAny_lt_int ?_))
        have : ltP p.2 q.2 = decide (p.2.2 < q.2.2) := by unfold ltP; simp [q1]
        rw [this] at hC; exact hC
    · rw [show (p.2.1 == q.2.1) = false by simpa using q1]
      refine kat_no (oneLt_int ?_)
      have : ltP p.2 q.2 = decide (p.2.1 < q.2.1) := by unfold ltP; simp [q1]
      rw [this] at hC; exact hC
  obtain ⟨s1, s2, s3⟩ := sort_ok (N := xs.toList.length) hord (by omega)
  refine kwp hcmp _ s1 ?_
  generalize hpm : krun lt (kas_sort xs.toList.length) = pm at s2 s3
  have hDn : ∀ q ∈ allNews s.heap L, q.1 ≠ D := fun q hq => Nat.ne_of_lt (hlt q hq)
  refine KasFin.intro F' N' (.head hDn) fun h2' c F2 N2 => ?_
  have kk2 : ∀ b o, b ≠ L → s.heap.get? b = some o → h2'.get? b = some o := News.kept N2 fun p hp => List.mem_cons_of_mem _ hp
  have hD2 := (N2 _ (List.mem_cons_self ..)).1
  have hDs : s.heap.get? D = none := by
    cases q : s.heap.get? D with
    | none => rfl
    | some o =>
      have hDL : D ≠ L := (N' _ (List.mem_cons_self ..)).2.1
      exact absurd rfl (hDn _ (mem_allNews q hDL))
  have hperm : (pm.toList.map fun i => ps.getD i (0, 0, 0)).Perm ps := by
    refine (s2.perm.map _).trans ?_
    have : (List.range xs.toList.length).map (fun i => ps.getD i (0, 0, 0)) = ps := by
      rw [hlen]
      apply List.ext_getElem?
      intro i
      by_cases hi : i < ps.length
      · rw [List.getElem?_map, List.getElem?_range hi, Option.map_some, List.getD_eq_getElem?_getD, List.getElem?_eq_getElem hi]; rfl
      · rw [List.getElem?_eq_none (by simp; omega), List.getElem?_eq_none (by omega)]
    rw [this]
  have hsorted : SL ((pm.toList.map fun i => ps.getD i (0, 0, 0)).map (·.2)) := by
    unfold SL
    rw [List.pairwise_map, List.pairwise_map, List.pairwise_iff_getElem]
    intro i j hi hj hij
    have hj' : j < xs.toList.length := by rw [← s2.size]; simpa using hj
    have := s3 i j (Nat.le_of_lt hij) hj'
    have gi : gP pm i = pm.toList[i] := by simp [gP, Array.getD, show i < pm.size by simpa using hi]
    have gj : gP pm j = pm.toList[j] := by simp [gP, Array.getD, show j < pm.size by simpa using hj]
    rw [gi, gj] at this
    exact leL_of this
  refine ⟨_, _, hs.alloc_fr F2 hm hDs hD2 (o := .list (prefs (pm.toList.map fun i => ps.getD i (0, 0, 0)))) ⟨_, _, rfl, ?_, ?_⟩ kk2, Step.alloc_fr (tk := s.toks) F2 hDs kk2, rfl, h D _ (hs.fresh hDs).1 hperm hsorted⟩
  · rw [List.toList_toArray]
    unfold prefs
    rw [List.map_map, List.map_map]
    apply List.map_congr_left
    intro i hi
    have hi' : i < xs.toList.length := by simpa using s2.perm.mem_iff.mp hi
    have hp := List.getElem?_eq_getElem (show i < ps.length by omega)
    show ab (xs.toList.getD i Value.none) = V.ref (ps.getD i (0, 0, 0)).1
    rw [hvs i _ hp, List.getD_eq_getElem?_getD, hp]; rfl
  · unfold prefs
    rw [List.length_map, hperm.length_eq]
    have : sizeLine = 2 ^ 24 := rfl
    omega
end
end Mine

set_option maxHeartbeats 4000000
namespace Mine
open PySem PySem.W PyProof.Rows
open_top hd for PySem.Challenge.rw_dm0010_02
end Mine

set_option maxHeartbeats 4000000
namespace Mine
open PySem PySem.W PyProof.Rows

/-- bisect_right, all shapes of call -/
theorem br_core {C : Cx} {A : Around} {H : AH} {P : Params} (hK : (hd.heap_39 P).In C.base) (hlen : C.gl "len" = some (.builtin "len")) (hh : A.handled = none) (hdep : A.depth < recursionLimit)
    {args : List V} {kw : List (Str × V)} {a : Addr} {ob : O} {vs : List V} {x hiV keyV : V} {lo hi : Nat} (f : Nat → Bool)
    (hbind : ∀ vals kvs, vals.map ab = args → kvs.map (fun p => (p.1, ab p.2)) = kw → ∃ binds, (∀ s, Keep C s → BindsTo s (fdOf (hd.heap_39 P) 23) ⟨vals, kvs⟩ binds) ∧ binds.map (fun p => (p.1, ab p.2)) = ([("a", .ref a), ("x", x), ("lo", .int lo), ("hi", hiV), ("key", keyV)] : List (Str × V)))
    (ha : H a = some ob) (hl : lst ob = some vs) (hhi : (hiV = .none ∧ hi = vs.length) ∨ (hiV = .int hi ∧ hi ≤ vs.length))
    (hkey : ∀ A', Nx A A' → (keyV = .none ∧ ∀ i v, lo ≤ i → i < hi → vs[i]? = some v → LtOk C A' H x v (f i)) ∨ (∃ g o fd, keyV = .ref g ∧ FnAt C H g o fd ∧ ∀ i v, lo ≤ i → i < hi → vs[i]? = some v → ∃ kv, KeyOk C A' H g v kv ∧ LtOk C A' H x kv (f i)))
    {Q : V → AH → Prop} (hQ : Q (.int (bis f lo hi)) H) : WCall C A (.ref 23) args kw H Q := by
  refine WCall.def (fn_in hK 23 rfl) hdep rfl (noCell rfl) (fun h k => codeRec_of (hK.keeps k) rfl) (bs := [("a", .ref a), ("x", x), ("lo", .int lo), ("hi", hiV), ("key", keyV)]) hbind (allLocal rfl) ?_
  intro L hL
  have hNx := Nx.of A (callEnv (fdOf (hd.heap_39 P) 23) L 23)
  generalize hA' : A.deeper (callEnv (fdOf (hd.heap_39 P) 23) L 23) = A' at *
  have F : Fx C A' (callEnv (fdOf (hd.heap_39 P) 23) L 23) := ⟨rfl, rfl, rfl, hNx.2.2.trans hh⟩
  generalize hρ : (fun y => List.lookup y (([("a", .ref a), ("x", x), ("lo", .int lo), ("hi", hiV), ("key", keyV)] : List (Str × V)).reverse)) = ρ
  have ra : ρ "a" = some (.ref a) := by rw [← hρ]; rfl
  have rx : ρ "x" = some x := by rw [← hρ]; rfl
  have rlo : ρ "lo" = some (.int lo) := by rw [← hρ]; rfl
  have rhi : ρ "hi" = some hiV := by rw [← hρ]; rfl
  have rk : ρ "key" = some keyV := by rw [← hρ]; rfl
  have hhl : hi ≤ vs.length := by rcases hhi with ⟨_, q⟩ | ⟨_, q⟩ <;> omega
  refine WS.seq (W1.if (WT.of (b := false) (EvT.icmp (Ev.local F rfl rlo) Ev.int (by simp [icmp])) ⟨fun e => by simp at e, fun _ => WS.nil ⟨rfl, ?_⟩⟩))
  refine WS.seq (W1.if (WT.of (EvT.isNone (Ev.local F rfl rhi)) ?_))
  suffices goal : ∀ ρ : Lo, ρ "a" = some (.ref a) → ρ "x" = some x → ρ "lo" = some (.int lo) → ρ "hi" = some (.int hi) → ρ "key" = some keyV → WS C A' (callEnv (fdOf (hd.heap_39 P) 23) L 23) ((bodyOf (fdOf (hd.heap_39 P) 23)).drop 2) ρ H (fun f _ H' => Q (retv f) H') by
    refine ⟨fun e => ?_, fun e => ?_⟩
    · have hn : hiV = .none := by simpa using e
      rcases hhi with ⟨_, q⟩ | ⟨q, _⟩
      · refine WS.seq (W1.asgLocal F rfl (WE.of (Ev.len (Ev.glob F rfl hlen) (Ev.local F rfl ra) ha hl) ⟨rfl, WS.nil ⟨rfl, ?_⟩⟩))
        rw [← q]
        exact goal _ ra rx rlo rfl rk
      · rw [hn] at q; cases q
    · rcases hhi with ⟨q, _⟩ | ⟨q, _⟩
      · rw [q] at e; simp at e
      · refine WS.nil ⟨rfl, ?_⟩
        exact goal _ ra rx rlo (by rw [rhi, q]) rk
  clear rlo rhi ra rx rk hρ
  intro ρ ra rx rlo rhi rk
  have hkey' := hkey A' hNx
  refine WS.seq (W1.if (WT.of (EvT.isNone (Ev.local F rfl rk)) ⟨fun e => ?_, fun e => ?_⟩))
  · have hn : keyV = .none := by simpa using e
    obtain ⟨_, hlt⟩ : keyV = .none ∧ ∀ i v, lo ≤ i → i < hi → vs[i]? = some v → LtOk C A' H x v (f i) := by
      rcases hkey' with q | ⟨g, o, fd, q, _⟩
      · exact q
      · rw [hn] at q; cases q
    refine WS.seq (W1.while F (fun n ρ1 H1 => ∃ l h : Nat, n = h - l ∧ lo ≤ l ∧ h ≤ hi ∧ H1 = H ∧ ρ1 "a" = some (.ref a) ∧ ρ1 "x" = some x ∧ ρ1 "lo" = some (.int l) ∧ ρ1 "hi" = some (.int h) ∧ bis f l h = bis f lo hi) _ ⟨lo, hi, rfl, Nat.le_refl _, Nat.le_refl _, rfl, ra, rx, rlo, rhi, rfl⟩ ?_)
    rintro n ρ1 H1 ⟨l, h, rfl, hle, hhi', rfl, ra, rx, rlo, rhi, hb⟩
    refine WT.of (EvT.icmp (Ev.local F rfl rlo) (Ev.local F rfl rhi) rfl) ⟨fun e => ?_, fun e => ?_⟩
    · have hlt' : l < h := by simpa using e
      have hmid : ((l : Int) + (h : Int)).fdiv 2 = ((l + h) / 2 : Nat) := by
        rw [Int.fdiv_eq_ediv_of_nonneg _ (by decide)]; omega
      refine WS.seq (W1.asgLocal F rfl (WE.of (Ev.fdiv (Ev.add (Ev.local F rfl rlo) (Ev.local F rfl rhi)) Ev.int (by decide) (by decide)) ?_))
      rw [hmid]
      refine ⟨rfl, ?_⟩
      have hm : (l + h) / 2 < vs.length := by omega
      refine WS.seq (W1.if (WT.of (EvT.ltOk (Ev.local F rfl rx) (Ev.item (v := vs[(l + h) / 2]) (Ev.local F rfl ra) (Ev.local F rfl rfl) ha hl (by omega) (by rw [Int.toNat_natCast]; exact List.getElem?_eq_getElem hm)) (hlt _ _ (by omega) (by omega) (List.getElem?_eq_getElem hm))) ⟨fun e2 => ?_, fun e2 => ?_⟩))
      · refine WS.seq (W1.asgLocal F rfl (WE.of (Ev.local F rfl rfl) ⟨rfl, WS.nil ⟨rfl, WS.nil ⟨(l + h) / 2 - l, by omega, l, (l + h) / 2, rfl, by omega, by omega, rfl, ra, rx, rlo, rfl, ?_⟩⟩⟩))
        rw [← hb, bis_true hlt' e2]
      · refine WS.seq (W1.asgLocal F rfl (WE.of (Ev.add (Ev.local F rfl rfl) Ev.int) ⟨rfl, WS.nil ⟨rfl, WS.nil ⟨h - ((l + h) / 2 + 1), by omega, (l + h) / 2 + 1, h, rfl, by omega, by omega, rfl, ra, rx, rfl, rhi, ?_⟩⟩⟩))
        rw [← hb, bis_false hlt' e2]
    · have hge : ¬ l < h := by simpa using e
      rw [← hb, bis_cross (by omega)] at hQ
      exact ⟨rfl, WS.nil ⟨rfl, WS.cons (W1.ret (WE.of (Ev.local F rfl rlo) hQ))⟩⟩
  · have hn : keyV ≠ .none := by simpa using e
    obtain ⟨g, o, fd, rfl, hfn, hlt⟩ : ∃ g o fd, keyV = .ref g ∧ FnAt C H g o fd ∧ ∀ i v, lo ≤ i → i < hi → vs[i]? = some v → ∃ kv, KeyOk C A' H g v kv ∧ LtOk C A' H x kv (f i) := by
      rcases hkey' with ⟨q, _⟩ | q
      · exact absurd q hn
      · exact q
    refine WS.seq (W1.while F (fun n ρ1 H1 => ∃ l h : Nat, n = h - l ∧ lo ≤ l ∧ h ≤ hi ∧ H1 = H ∧ ρ1 "a" = some (.ref a) ∧ ρ1 "x" = some x ∧ ρ1 "key" = some (.ref g) ∧ ρ1 "lo" = some (.int l) ∧ ρ1 "hi" = some (.int h) ∧ bis f l h = bis f lo hi) _ ⟨lo, hi, rfl, Nat.le_refl _, Nat.le_refl _, rfl, ra, rx, rk, rlo, rhi, rfl⟩ ?_)
    rintro n ρ1 H1 ⟨l, h, rfl, hle, hhi', rfl, ra, rx, rk, rlo, rhi, hb⟩
    refine WT.of (EvT.icmp (Ev.local F rfl rlo) (Ev.local F rfl rhi) rfl) ⟨fun e => ?_, fun e => ?_⟩
    · have hlt' : l < h := by simpa using e
      have hmid : ((l : Int) + (h : Int)).fdiv 2 = ((l + h) / 2 : Nat) := by
        rw [Int.fdiv_eq_ediv_of_nonneg _ (by decide)]; omega
      refine WS.seq (W1.asgLocal F rfl (WE.of (Ev.fdiv (Ev.add (Ev.local F rfl rlo) (Ev.local F rfl rhi)) Ev.int (by decide) (by decide)) ?_))
      rw [hmid]
      refine ⟨rfl, ?_⟩
      have hm : (l + h) / 2 < vs.length := by omega
      obtain ⟨kv, hkv, hlk⟩ := hlt _ _ (by omega) (by omega) (List.getElem?_eq_getElem hm)
      refine WS.seq (W1.if (WT.of (EvT.ltOk (Ev.local F rfl rx) (Ev.key (Ev.local F rfl rk) hfn (Ev.item (v := vs[(l + h) / 2]) (Ev.local F rfl ra) (Ev.local F rfl rfl) ha hl (by omega) (by rw [Int.toNat_natCast]; exact List.getElem?_eq_getElem hm)) hkv) hlk) ⟨fun e2 => ?_, fun e2 => ?_⟩))
      · refine WS.seq (W1.asgLocal F rfl (WE.of (Ev.local F rfl rfl) ⟨rfl, WS.nil ⟨rfl, WS.nil ⟨(l + h) / 2 - l, by omega, l, (l + h) / 2, rfl, by omega, by omega, rfl, ra, rx, rk, rlo, rfl, ?_⟩⟩⟩))
        rw [← hb, bis_true hlt' e2]
      · refine WS.seq (W1.asgLocal F rfl (WE.of (Ev.add (Ev.local F rfl rfl) Ev.int) ⟨rfl, WS.nil ⟨rfl, WS.nil ⟨h - ((l + h) / 2 + 1), by omega, (l + h) / 2 + 1, h, rfl, by omega, by omega, rfl, ra, rx, rk, rfl, rhi, ?_⟩⟩⟩))
        rw [← hb, bis_false hlt' e2]
    · have hge : ¬ l < h := by simpa using e
      rw [← hb, bis_cross (by omega)] at hQ
      exact ⟨rfl, WS.nil ⟨rfl, WS.cons (W1.ret (WE.of (Ev.local F rfl rlo) hQ))⟩⟩

end Mine

set_option maxHeartbeats 4000000
namespace Mine
open PySem PySem.W PyProof.Rows

/-! ## two lists, item by item -/
def Zip {α β : Type} (R : α → β → Prop) : List α → List β → Prop
  | [], [] => True
  | a :: as, b :: bs => R a b ∧ Zip R as bs
  | _, _ => False
section
variable {α β : Type} {R R' : α → β → Prop}
theorem Zip.length : ∀ {as : List α} {bs : List β}, Zip R as bs → as.length = bs.length
  | [], [], _ => rfl
  | _ :: _, _ :: _, h => by rw [List.length_cons, List.length_cons, Zip.length h.2]
  | [], _ :: _, h => h.elim
  | _ :: _, [], h => h.elim
theorem Zip.append : ∀ {as : List α} {bs : List β} {cs : List α} {ds : List β}, Zip R as bs → Zip R cs ds → Zip R (as ++ cs) (bs ++ ds)
  | [], [], _, _, _, h => h
  | _ :: _, _ :: _, _, _, h, k => ⟨h.1, Zip.append h.2 k⟩
  | [], _ :: _, _, _, h, _ => h.elim
  | _ :: _, [], _, _, h, _ => h.elim
theorem Zip.take : ∀ {as : List α} {bs : List β} (n : Nat), Zip R as bs → Zip R (as.take n) (bs.take n)
  | _, _, 0, _ => by rw [List.take_zero, List.take_zero]; trivial
  | [], [], _ + 1, _ => trivial
  | _ :: _, _ :: _, n + 1, h => ⟨h.1, Zip.take n h.2⟩
  | [], _ :: _, _ + 1, h => h.elim
  | _ :: _, [], _ + 1, h => h.elim
theorem Zip.drop : ∀ {as : List α} {bs : List β} (n : Nat), Zip R as bs → Zip R (as.drop n) (bs.drop n)
  | _, _, 0, h => h
  | [], [], _ + 1, _ => trivial
  | _ :: _, _ :: _, n + 1, h => Zip.drop n h.2
  | [], _ :: _, _ + 1, h => h.elim
  | _ :: _, [], _ + 1, h => h.elim
theorem Zip.mono : ∀ {as : List α} {bs : List β}, Zip R as bs → (∀ a ∈ as, ∀ b, R a b → R' a b) → Zip R' as bs
  | [], [], _, _ => trivial
  | a :: _, b :: _, h, k => ⟨k a (List.mem_cons_self ..) b h.1, Zip.mono h.2 fun x hx => k x (List.mem_cons_of_mem _ hx)⟩
  | [], _ :: _, h, _ => h.elim
  | _ :: _, [], h, _ => h.elim
theorem Zip.get : ∀ {as : List α} {bs : List β} (j : Nat) (a : α) (b : β), Zip R as bs → as[j]? = some a → bs[j]? = some b → R a b
  | [], _, _, _, _, _, e, _ => by simp at e
  | _ :: _, [], _, _, _, h, _, _ => h.elim
  | x :: _, y :: _, 0, a, b, h, e, e' => by simp at e e'; subst e e'; exact h.1
  | _ :: _, _ :: _, j + 1, a, b, h, e, e' => by
    rw [List.getElem?_cons_succ] at e e'
    exact Zip.get j a b h.2 e e'
theorem Zip.rd {H : AH} {as : List Addr} {bs : List β} {e : β → PyData} : ∀ {as : List Addr} {bs : List β}, Zip (fun a b => Rd H (.ref a) (e b)) as bs → RdL H (as.map .ref) (bs.map e)
  | [], [], _ => by rw [List.map_nil, List.map_nil, RdL]
  | a :: as, b :: bs, h => by
    rw [List.map_cons, List.map_cons, RdL]
    exact ⟨.ref a, as.map .ref, rfl, h.1, Zip.rd h.2 (H := H) (as := as) (bs := bs)⟩
  | [], _ :: _, h => h.elim
  | _ :: _, [], h => h.elim
end

theorem Zip.set {α β : Type} {R : α → β → Prop} : ∀ {as : List α} {bs : List β} (k : Nat) (a : α) (b : β), Zip R as bs → as[k]? = some a → R a b → Zip R as (bs.set k b)
  | [], _, _, _, _, _, e, _ => by simp at e
  | _ :: _, [], _, _, _, h, _, _ => h.elim
  | x :: _, y :: _, 0, a, b, h, e, r => by simp at e; subst e; exact ⟨r, h.2⟩
  | _ :: _, _ :: _, k + 1, a, b, h, e, r => by
    rw [List.getElem?_cons_succ] at e
    exact ⟨h.1, Zip.set k a b h.2 e r⟩
/-! ## rows on the heap -/
structure RowsAt (R0 : Addr) (ra : List Addr) (rows : List (List Int)) (H : AH) : Prop where
  hR : H R0 = some (.list (ra.map .ref))
  hX : Zip (fun a row => H a = some (.list (vints row))) ra rows
  ne : R0 ∉ ra
  nd : ra.Nodup
theorem RowsAt.keep {R0 : Addr} {ra : List Addr} {rows : List (List Int)} {H H' : AH} (h : RowsAt R0 ra rows H) (k : ∀ a, a = R0 ∨ a ∈ ra → ∀ o, H a = some o → H' a = some o) : RowsAt R0 ra rows H' :=
  ⟨k _ (.inl rfl) _ h.hR, h.hX.mono fun a ha row e => k _ (.inr ha) _ e, h.ne, h.nd⟩
theorem RowsAt.mem {R0 : Addr} {ra : List Addr} {rows : List (List Int)} {H : AH} (h : RowsAt R0 ra rows H) {a : Addr} (ha : a ∈ ra) : ∃ row, H a = some (.list (vints row)) := by
  obtain ⟨j, hj⟩ := List.getElem?_of_mem ha
  have hjl : j < ra.length := (List.getElem?_eq_some_iff.mp hj).1
  have := Zip.get j _ _ h.hX hj (List.getElem?_eq_getElem (by rw [← h.hX.length]; exact hjl))
  exact ⟨_, this⟩
/-- one row changed -/
theorem RowsAt.upd {R0 a : Addr} {ra : List Addr} {rows : List (List Int)} {H : AH} {k : Nat} {row : List Int} (h : RowsAt R0 ra rows H) (hk : ra[k]? = some a) : RowsAt R0 ra (rows.set k row) (H.set a (.list (vints row))) := by
  have ha := List.mem_of_getElem? hk
  have hkl : k < ra.length := (List.getElem?_eq_some_iff.mp hk).1
  refine ⟨by rw [AH.set_ne _ _ (fun q : R0 = a => h.ne (q ▸ ha))]; exact h.hR, ?_, h.ne, h.nd⟩
  have hkr : k < rows.length := by rw [← h.hX.length]; exact hkl
  have hra : ra = ra.take k ++ a :: ra.drop (k + 1) := by
    have := List.take_append_drop k ra
    rw [List.drop_eq_getElem_cons hkl, (List.getElem?_eq_some_iff.mp hk).2] at this
    exact this.symm
  have hrows : rows.set k row = rows.take k ++ row :: rows.drop (k + 1) := List.set_eq_take_append_cons_drop.trans (if_pos hkr)
  have hnd := h.nd
  rw [hra, List.nodup_append] at hnd
  obtain ⟨n1, n2, n3⟩ := hnd
  obtain ⟨n4, n5⟩ := List.nodup_cons.mp n2
  rw [hrows]
  conv => arg 2; rw [hra]
  refine Zip.append ((h.hX.take k).mono fun b hb r e => ?_) ⟨AH.set_same .., (h.hX.drop (k + 1)).mono fun b hb r e => ?_⟩
  · rw [AH.set_ne _ _ (fun q => n3 b hb a (List.mem_cons_self ..) q)]; exact e
  · rw [AH.set_ne _ _ (fun q : b = a => n4 (q ▸ hb))]; exact e
/-- one row more -/
theorem RowsAt.add {R0 a : Addr} {ra : List Addr} {rows : List (List Int)} {H : AH} {row : List Int} (h : RowsAt R0 ra rows H) (ha : H a = none) : RowsAt R0 (ra ++ [a]) (rows ++ [row]) ((H.set a (.list (vints row))).set R0 (.list ((ra ++ [a]).map .ref))) := by
  have haR : a ≠ R0 := fun q => by rw [q, h.hR] at ha; cases ha
  have hara : a ∉ ra := fun q => by obtain ⟨r, e⟩ := h.mem q; rw [ha] at e; cases e
  refine ⟨AH.set_same .., Zip.append (h.hX.mono fun b hb r e => ?_) ⟨?_, trivial⟩, ?_, ?_⟩
  · rw [AH.set_ne _ _ (fun q : b = R0 => h.ne (q ▸ hb))]; exact AH.get_of_set e ha
  · show ((H.set a _).set R0 _) a = _
    rw [AH.set_ne _ _ haR]; exact AH.set_same ..
  · intro q
    rcases List.mem_append.mp q with q | q
    · exact h.ne q
    · exact haR (List.mem_singleton.mp q).symm
  · rw [List.nodup_append]
    exact ⟨h.nd, by simp, fun b hb c hc q => by rw [List.mem_singleton.mp hc] at q; exact hara (q ▸ hb)⟩

noncomputable abbrev put02 (P : Params) : FuncData := fdOf (hd.heap_39 P) 30
noncomputable abbrev tables02 (P : Params) : FuncData := fdOf (hd.heap_39 P) 37
noncomputable abbrev law02 (P : Params) : FuncData := fdOf (hd.heap_39 P) 42
structure Gl02 (C : Cx) : Prop where
  len : C.gl "len" = some (.builtin "len")
  range : C.gl "range" = some (.type "range")
  sorted : C.gl "sorted" = some (.builtin "sorted")
  br : C.gl "bisect_right" = some (.ref 23)
  put : C.gl "_law_put" = some (.ref 30)
  tables : C.gl "_law_tables" = some (.ref 37)
section
variable {C : Cx} {A : Around} {ρ : Lo} {H : AH} {P : Params}
theorem br_ints (hK : (hd.heap_39 P).In C.base) (hlen : C.gl "len" = some (.builtin "len")) (hh : A.handled = none) (hdep : A.depth < recursionLimit) {a : Addr} {ns : List Int} {x : Int} (ha : H a = some (.list (vints ns))) (hs : ns.Pairwise fun p q => p ≤ q) :
    WCall C A (.ref 23) [.ref a, .int x] [] H (fun r H' => r = .int (plc ns x : Nat) ∧ H' = H) := by
  have hb : bis (fun i => !decide (ns.getD i 0 ≤ x)) 0 ns.length = plc ns x := by
    have := bis_part (f := fun i => !decide (ns.getD i 0 ≤ x)) (lo := 0) (hi := ns.length) ((srt_ints hs).le x) (by simp) (fun j y hj => by show (!decide (ns.getD (0 + j) 0 ≤ x)) = _; rw [List.getD_eq_getElem?_getD, Nat.zero_add, hj]; rfl)
    rw [this, Nat.zero_add]; rfl
  have hbind : ∀ (vals : List Value) (kvs : List (Str × Value)), vals.map ab = [.ref a, .int x] → kvs.map (fun p => (p.1, ab p.2)) = ([] : List (Str × V)) → ∃ binds, (∀ s, Keep C s → BindsTo s (fdOf (hd.heap_39 P) 23) ⟨vals, kvs⟩ binds) ∧ binds.map (fun p => (p.1, ab p.2)) = ([("a", .ref a), ("x", .int x), ("lo", .int (0 : Nat)), ("hi", .none), ("key", .none)] : List (Str × V)) := by
    intro vals kvs e1 e2
    obtain ⟨x1, x2, rfl, y1, y2⟩ := vals2 e1
    cases ab_nil e2
    refine ⟨[("a", x1), ("x", x2), ("lo", .int 0 189), ("hi", .none), ("key", .none)], fun s hs => kp_binds (hK.keeps hs) (fun S => by kernel_rfl), ?_⟩
    show [(_, ab x1), (_, ab x2), _, _, _] = _
    rw [y1, y2]; rfl
  refine br_core hK hlen hh hdep (fun i => !decide (ns.getD i 0 ≤ x)) hbind (hi := ns.length) ha rfl (.inl ⟨rfl, by rw [ints_length]⟩) (fun A' hA' => .inl ⟨rfl, fun i v _ _ hv => ?_⟩) ⟨by rw [hb], rfl⟩
  obtain ⟨rfl, hi⟩ := vints_at hv
  show LtOk C A' H _ _ (!decide (ns.getD i 0 ≤ x))
  rw [show (!decide (ns.getD i 0 ≤ x)) = decide (x < ns.getD i 0) by rw [← decide_not]; congr 1; apply propext; omega]
  exact LtOk.int
theorem put_spec {R0 : Addr} {ra : List Addr} {rows : List (List Int)} {b : Int} (hK : (hd.heap_39 P).In C.base) (G : Gl02 C) (hh : A.handled = none) (hdep : A.depth + 4 < recursionLimit) (h : RowsAt R0 ra rows H) (hs : ∀ R ∈ rows, R.Pairwise fun p q => p ≤ q) (hz : rows.length ≤ 900 ∧ ∀ R ∈ rows, R.length ≤ 900)
    {Q : V → AH → Prop} (hQ : ∀ H' ra', RowsAt R0 ra' (putR rows b).1 H' → (∀ a o, H a = some o → a ≠ R0 → a ∉ ra → H' a = some o) → (∀ a ∈ ra', a ∈ ra ∨ H a = none) → (∀ a, H' a = none → H a = none) → Q (.int (putR rows b).2) H') :
    WCall C A (.ref 30) [.ref R0, .int b] [] H Q := by
  have hsz : 1000 ≤ sizeLine := by decide
  refine WCall.def (fn_in hK 30 rfl) (by omega) rfl (noCell rfl) (fun h k => codeRec_of (hK.keeps k) rfl) (bs := [("rows", .ref R0), ("x", .int b)]) ?_ (allLocal rfl) ?_
  · intro vals kvs e1 e2
    obtain ⟨x1, x2, rfl, y1, y2⟩ := vals2 e1
    cases ab_nil e2
    refine ⟨[("rows", x1), ("x", x2)], fun s hs => kp_binds (hK.keeps hs) (fun S => by kernel_rfl), ?_⟩
    show [(_, ab x1), (_, ab x2)] = _
    rw [y1, y2]
  intro L hL
  have hNx := Nx.of A (callEnv (put02 P) L 30)
  generalize hA' : A.deeper (callEnv (put02 P) L 30) = A' at *
  have F : Fx C A' (callEnv (put02 P) L 30) := ⟨rfl, rfl, rfl, hNx.2.2.trans hh⟩
  have hd1 := hNx.1
  generalize hρ : (fun y => List.lookup y (([("rows", .ref R0), ("x", .int b)] : List (Str × V)).reverse)) = ρ
  have rr : ρ "rows" = some (.ref R0) := by rw [← hρ]; rfl
  have rx : ρ "x" = some (.int b) := by rw [← hρ]; rfl
  clear hρ
  have hlr := h.hX.length
  refine WS.cons (W1.for (WIt.range1 F (Ev.glob F rfl G.range) (Ev.len (Ev.glob F rfl G.len) (Ev.local F rfl rr) h.hR rfl) (by omega) (by simp; omega) ?_))
  refine ⟨fun i ρ1 H1 => ∃ done x, done.length = i ∧ i ≤ rows.length ∧ RowsAt R0 ra (done ++ rows.drop i) H1 ∧ putR rows b = (done ++ (putR (rows.drop i) x).1, i + (putR (rows.drop i) x).2) ∧ (∀ a o, H a = some o → a ≠ R0 → a ∉ ra → H1 a = some o) ∧ (∀ a, H1 a = none → H a = none) ∧ ρ1 "rows" = some (.ref R0) ∧ ρ1 "x" = some (.int x), ⟨[], b, rfl, Nat.zero_le _, h, by simp, fun a o e _ _ => e, fun a e => e, rr, rx⟩, ?_, ?_⟩
  · rintro i ρ1 H1 hi ⟨done, x, hdl, hil, h1, hput, hfr, hnn, r1, r2⟩
    refine ⟨trivial, ?_⟩
    rintro d rfl
    refine Asg.local F rfl ?_
    have hi' : i < rows.length := by rw [← hlr]; simpa using hi
    obtain ⟨R, hRi⟩ : ∃ R, rows[i]? = some R := ⟨_, List.getElem?_eq_getElem hi'⟩
    obtain ⟨a, hai⟩ : ∃ a, ra[i]? = some a := ⟨_, List.getElem?_eq_getElem (by omega)⟩
    have hdr : rows.drop i = R :: rows.drop (i + 1) := by rw [List.drop_eq_getElem_cons hi', (List.getElem?_eq_some_iff.mp hRi).2]
    have hdi : (done ++ rows.drop i)[i]? = some R := by rw [List.getElem?_append_right (by omega), hdl, Nat.sub_self, hdr]; rfl
    have haH := Zip.get i _ _ h1.hX hai hdi
    have hRs := hs R (List.mem_of_getElem? hRi)
    have hRl := hz.2 R (List.mem_of_getElem? hRi)
    have rowE : ∀ {ρ' : Lo} {H' : AH} {p1 p2 p3 : Pos}, ρ' "rows" = some (.ref R0) → ρ' "k" = some (.int i) → H' R0 = some (.list (ra.map .ref)) → Ev C A' (callEnv (put02 P) L 30) ρ' H' (.Subscript (.Name "rows" p1) (.Name "k" p2) p3) (.ref a) := fun q1 q2 q3 =>
      Ev.item (Ev.local F rfl q1) (Ev.local F rfl q2) q3 rfl (by omega) (by rw [Int.toNat_natCast, List.getElem?_map, hai]; rfl)
    refine WS.seq (W1.asgLocal F rfl (WE.callB (fun _ => fn_in hK 23 rfl) (Ev.glob F rfl G.br) (WEs.of (.cons (rowE (by exact r1) rfl h1.hR) (.cons (Ev.local F rfl (by exact r2)) .nil)) (WKs.nil (WCall.mono (br_ints hK G.len F.hh (by omega) haH hRs) ?_)))))
    rintro v H2 ⟨rfl, rfl⟩
    refine ⟨rfl, ?_⟩
    have hpl := plc_le R x
    have hsets : ∀ row, (done ++ rows.drop i).set i row = done ++ row :: rows.drop (i + 1) := fun row => by
      rw [hdr, List.set_append_right _ _ (by omega), hdl, Nat.sub_self]; rfl
    refine WS.cons (W1.if (WT.of (EvT.icmp (op := .Eq) (Ev.local F rfl rfl) (Ev.len (Ev.glob F rfl G.len) (rowE (by exact r1) rfl h1.hR) haH rfl) rfl) ⟨fun e => ?_, fun e => WS.nil ?_⟩))
    · have hk : plc R x = R.length := by
        have : (plc R x : Int) = ((vints R).length : Int) := by simpa using e
        rw [ints_length] at this; omega
      have hp : putR (R :: rows.drop (i + 1)) x = ((R ++ [x]) :: rows.drop (i + 1), 0) := by rw [putR, if_pos hk]
      refine WS.seq (W1.expr F (WE.listMeth PySem.F.slot_list_append rfl (WE.of (rowE (by exact r1) rfl h1.hR) ⟨a, _, rfl, haH, WEs.of (.cons (Ev.local F rfl (by exact r2)) .nil) (WCall.append haH (by rw [ints_length]; omega) ⟨(by intro a e; cases e), rfl, ?_⟩)⟩)))
      rw [show vints R ++ [V.int x] = vints (R ++ [x]) by simp [vints]]
      have hu := h1.upd (row := R ++ [x]) hai
      rw [hsets] at hu
      refine WS.cons (W1.ret (WE.of (Ev.local F rfl rfl) ?_))
      have e2 : (putR rows b).2 = i := by rw [hput, hdr, hp]; rfl
      have e1 : (putR rows b).1 = done ++ (R ++ [x]) :: rows.drop (i + 1) := by rw [hput, hdr, hp]
      rw [← e1] at hu
      have := hQ _ ra hu (fun b' o e n1 n2 => ?_) (fun a' ha' => .inl ha') (fun b' e => hnn b' (AH.none_of_set e).1)
      · rw [e2] at this; exact this
      · rw [AH.set_ne _ _ (fun q : b' = a => n2 (q ▸ List.mem_of_getElem? hai))]; exact hfr b' o e n1 n2
    · have hk : ¬ plc R x = R.length := by
        have : ¬ (plc R x : Int) = ((vints R).length : Int) := by simpa using e
        rw [ints_length] at this; omega
      have hkl : plc R x < R.length := by omega
      have hp : putR (R :: rows.drop (i + 1)) x = (R.set (plc R x) x :: (putR (rows.drop (i + 1)) (R.getD (plc R x) 0)).1, (putR (rows.drop (i + 1)) (R.getD (plc R x) 0)).2 + 1) := by rw [putR, if_neg hk]
      have hgv : (vints R)[plc R x]? = some (.int (R.getD (plc R x) 0)) := by rw [List.getD_eq_getElem?_getD]; simp [vints, hkl]
      refine WS.cons (W1.asgTup F (WEs.of (.cons (Ev.item (rowE (by exact r1) rfl h1.hR) (Ev.local F rfl rfl) haH rfl (by omega) (by rw [Int.toNat_natCast]; exact hgv)) (.cons (Ev.local F rfl (by exact r2)) .nil)) (Asg.local F rfl (Asg.item (k := plc R x) (rowE (by exact r1) rfl h1.hR) (Ev.local F rfl rfl) haH (by rw [ints_length]; exact hkl) ?_))))
      simp only [AsgL]
      rw [show (vints R).set (plc R x) (V.int x) = vints (R.set (plc R x) x) by simp [vints]]
      have hu := h1.upd (row := R.set (plc R x) x) hai
      rw [hsets] at hu
      refine WS.nil ⟨done ++ [R.set (plc R x) x], R.getD (plc R x) 0, by simp [hdl], by omega, by simpa using hu, ?_, fun b' o e n1 n2 => ?_, fun b' e => hnn b' (AH.none_of_set e).1, r1, rfl⟩
      · rw [hput, hdr, hp]; simp; omega
      · rw [AH.set_ne _ _ (fun q : b' = a => n2 (q ▸ List.mem_of_getElem? hai))]; exact hfr b' o e n1 n2
  · rintro ρ1 H1 ⟨done, x, hdl, hil, h1, hput, hfr, hnn, r1, r2⟩
    refine ⟨trivial, ?_⟩
    have hn : ((List.map V.ref ra).length : Int).toNat = rows.length := by simp [hlr]
    rw [hn] at h1 hput hdl
    rw [List.drop_length, List.append_nil] at h1
    rw [List.drop_length] at hput
    have hp : putR [] x = ([[x]], 0) := rfl
    rw [hp] at hput
    refine WS.seq (W1.expr F (WE.listMeth PySem.F.slot_list_append rfl (WE.of (Ev.local F rfl r1) ⟨R0, _, rfl, h1.hR, WEs.cons (WE.list rfl (by decide) (WEs.of (.cons (Ev.local F rfl r2) .nil) fun a ha => WEs.nil (WCall.append (AH.get_of_set h1.hR ha) (by simp; omega) ⟨(by intro a e; cases e), rfl, ?_⟩)))⟩)))
    have hadd := h1.add (row := [x]) ha
    rw [show (ra.map V.ref) ++ [V.ref a] = (ra ++ [a]).map V.ref by simp]
    have hl2 := hadd.hR
    refine WS.cons (W1.ret (WE.of (Ev.sub (Ev.len (Ev.glob F rfl G.len) (Ev.local F rfl r1) hl2 rfl) Ev.int) ?_))
    have e1 : (putR rows b).1 = done ++ [[x]] := by rw [hput]
    have e2 : (putR rows b).2 = rows.length := by rw [hput]; simp
    rw [← e1] at hadd
    have := hQ _ _ hadd (fun b' o e n1 n2 => ?_) (fun a' ha' => ?_) (fun b' e => hnn b' (AH.none_of_set (AH.none_of_set e).1).1)
    · rw [e2] at this
      show Q (.int _) _
      rw [show (((ra ++ [a]).map V.ref).length : Int) - 1 = (rows.length : Int) by simp [hlr]]
      exact this
    · rw [AH.set_ne _ _ n1]; exact AH.get_of_set (hfr b' o e n1 n2) ha
    · rcases List.mem_append.mp ha' with q | q
      · exact .inl q
      · rw [List.mem_singleton.mp q]; exact .inr (hnn _ ha)
end
end Mine

set_option maxHeartbeats 4000000
namespace Mine
open PySem PySem.W PyProof.Rows

theorem tabs_sorted : ∀ (n : Nat) (L : List Pr), SL L → ∀ R ∈ (tabs n L).1, R.Pairwise fun p q => p ≤ q
  | 0, _, _, R, h => by rw [tabs] at h; cases h
  | _ + 1, [], _, R, h => by rw [tabs] at h; cases h
  | n + 1, e :: r, hs, R, h => by
    rw [tabs] at h
    rcases List.mem_cons.mp h with rfl | h
    · exact (out_sorted hs).2
    · exact tabs_sorted n _ (out_sorted hs).1 R h
theorem putR_len : ∀ (rows : List (List Int)) (b : Int) (n : Nat), (∀ R ∈ rows, R.length ≤ n) → ∀ R ∈ (putR rows b).1, R.length ≤ n + 1
  | [], b, n, _, R, h => by rw [putR] at h; rw [List.mem_singleton.mp h]; simp
  | S :: rows, b, n, hn, R, h => by
    rw [putR] at h
    have h0 := hn S (List.mem_cons_self ..)
    split at h
    · rcases List.mem_cons.mp h with rfl | h
      · simp; omega
      · have := hn R (List.mem_cons_of_mem _ h); omega
    · rcases List.mem_cons.mp h with rfl | h
      · simp; omega
      · exact putR_len rows _ n (fun R' h' => hn R' (List.mem_cons_of_mem _ h')) R h
theorem putR_cnt : ∀ (rows : List (List Int)) (b : Int), (putR rows b).1.length ≤ rows.length + 1
  | [], b => by rw [putR]; simp
  | S :: rows, b => by
    rw [putR]; split
    · simp
    · have := putR_cnt rows (S.getD (plc S b) 0); simp; exact this
theorem putS_len {steps : List (List Int)} {k : Nat} {a : Int} {n : Nat} (hn : ∀ R ∈ steps, R.length ≤ n) : ∀ R ∈ putS steps k a, R.length ≤ n + 1 := by
  intro R h
  unfold putS at h
  split at h
  · rcases List.mem_append.mp h with h | h
    · have := hn R h; omega
    · rw [List.mem_singleton.mp h]; simp
  · rcases List.mem_or_eq_of_mem_set h with h | rfl
    · have := hn R h; omega
    · rw [List.length_append, List.length_singleton]
      by_cases hk : k < steps.length
      · have := hn (steps.getD k []) (by rw [List.getD_eq_getElem?_getD, List.getElem?_eq_getElem hk]; exact List.getElem_mem hk)
        omega
      · rw [List.getD_eq_getElem?_getD, List.getElem?_eq_none (by omega)]; simp
theorem putS_eq {steps : List (List Int)} {k : Nat} (a : Int) (hk : k ≤ steps.length) : putS steps k a = (if k = steps.length then steps ++ [[]] else steps).set k ((if k = steps.length then steps ++ [[]] else steps).getD k [] ++ [a]) := by
  unfold putS
  split
  · rename_i e
    subst e
    rw [List.set_append_right _ _ (Nat.le_refl _), List.getD_eq_getElem?_getD, List.getElem?_append_right (Nat.le_refl _)]
    simp
  · rfl

section
variable {C : Cx} {A : Around} {ρ : Lo} {H : AH} {P : Params}
theorem tables_spec {l : Addr} {ob : O} {ps : List PA} (hK : (hd.heap_39 P).In C.base) (G : Gl02 C) (hh : A.handled = none) (hdep : A.depth + 8 < recursionLimit) (hH : H l = some ob) (hl : lst ob = some (prefs ps)) (hI : ∀ p ∈ ps, IsPr H p) (h64 : ps.length < 64)
    {Q : V → AH → Prop} (hQ : ∀ H' T R0 S0 ra sa qs, H.le H' → qs.Perm (ps.map (·.2)) → SL qs → RowsAt R0 ra (table qs).1 H' → RowsAt S0 sa (table qs).2 H' → H' T = some (.tup [.ref R0, .ref S0]) → Q (.ref T) H') :
    WCall C A (.ref 37) [.ref l] [] H Q := by
  have hsz : 1000 ≤ sizeLine := by decide
  refine WCall.def (fn_in hK 37 rfl) (by omega) rfl (noCell rfl) (fun h k => codeRec_of (hK.keeps k) rfl) (bs := [("pairs", .ref l)]) ?_ (allLocal rfl) ?_
  · intro vals kvs e1 e2
    obtain ⟨x1, rfl, y1⟩ := vals1 e1
    cases ab_nil e2
    refine ⟨[("pairs", x1)], fun s hs => kp_binds (hK.keeps hs) (fun S => by kernel_rfl), ?_⟩
    show [(_, ab x1)] = _
    rw [y1]
  intro L hL
  have hNx := Nx.of A (callEnv (tables02 P) L 37)
  generalize hA' : A.deeper (callEnv (tables02 P) L 37) = A' at *
  have F : Fx C A' (callEnv (tables02 P) L 37) := ⟨rfl, rfl, rfl, hNx.2.2.trans hh⟩
  have hd1 := hNx.1
  generalize hρ : (fun y => List.lookup y (([("pairs", .ref l)] : List (Str × V)).reverse)) = ρ
  have rp : ρ "pairs" = some (.ref l) := by rw [← hρ]; rfl
  clear hρ
  refine WS.seq (W1.asgSwap (names := ["rows", "steps"]) F (WEs.cons (WE.list rfl (by decide) (WEs.nil fun R0 hR0 => WEs.cons (WE.list rfl (by decide) (WEs.nil fun S0 hS0 => WEs.nil ⟨rfl, ?_⟩))))) rfl (by intro n hn; rcases List.mem_cons.mp hn with rfl | hn; rfl; rw [List.mem_singleton.mp hn]; rfl))
  have le1 : H.le ((H.set R0 (.list [])).set S0 (.list [])) := AH.le_trans (AH.le_set (AH.le_refl _) hR0) (AH.le_set (AH.le_refl _) hS0)
  have eR : ((H.set R0 (.list [])).set S0 (.list [])) R0 = some (.list []) := AH.get_of_set (AH.set_same ..) hS0
  have eS : ((H.set R0 (.list [])).set S0 (.list [])) S0 = some (.list []) := AH.set_same ..
  have nS := AH.none_of_set hS0
  generalize (H.set R0 (.list [])).set S0 (.list []) = H1 at *
  refine WS.cons (W1.for (WIt.list F (WE.callBi (Ev.glob F rfl G.sorted) (WEs.of (.cons (Ev.local F rfl (by exact rp)) .nil) (WKs.nil (WCall.sortedPairs (le1 _ _ hH) hl (fun p hp => le1 _ _ (hI p hp)) h64 fun D qs hD hperm hSL => ⟨D, _, _, rfl, AH.set_same .., rfl, ?_⟩))))))
  have le2 : H1.le (H1.set D (.list (prefs qs))) := AH.le_set (AH.le_refl _) hD
  have eD : (H1.set D (.list (prefs qs))) D = some (.list (prefs qs)) := AH.set_same ..
  have eR2 := le2 _ _ eR
  have eS2 := le2 _ _ eS
  have hDR : D ≠ R0 := fun q => by rw [q, eR] at hD; cases hD
  have hDS : D ≠ S0 := fun q => by rw [q, eS] at hD; cases hD
  have hI2 : ∀ p ∈ qs, IsPr (H1.set D (.list (prefs qs))) p := fun p hp => le2 _ _ (le1 _ _ (hI p (hperm.mem_iff.mp hp)))
  have le3 := AH.le_trans le1 le2
  have hql : qs.length < 64 := by rw [hperm.length_eq]; exact h64
  generalize H1.set D (.list (prefs qs)) = HB at *
  generalize hws : qs.map (·.2) = ws at *
  have hwl : ws.length = qs.length := by rw [← hws]; simp
  have hpl : (prefs qs).length = qs.length := by simp [prefs]
  have hnil : RowsAt R0 [] [] HB := ⟨eR2, trivial, by simp, by simp⟩
  have hnil' : RowsAt S0 [] [] HB := ⟨eS2, trivial, by simp, by simp⟩
  refine ⟨fun i ρ1 H2 => ∃ ra sa, RowsAt R0 ra (table (ws.take i)).1 H2 ∧ RowsAt S0 sa (table (ws.take i)).2 H2 ∧ (∀ R ∈ (table (ws.take i)).1, R.length ≤ i) ∧ (∀ R ∈ (table (ws.take i)).2, R.length ≤ i) ∧ (table (ws.take i)).1.length ≤ i ∧ (∀ a o, HB a = some o → a ≠ R0 → a ≠ S0 → H2 a = some o) ∧ (∀ a, a ∈ ra ∨ a ∈ sa → HB a = none) ∧ (∀ a ∈ ra, a ∉ sa) ∧ ρ1 "rows" = some (.ref R0) ∧ ρ1 "steps" = some (.ref S0), ⟨[], [], by rw [List.take_zero]; exact hnil, by rw [List.take_zero]; exact hnil', by rw [List.take_zero]; simp [table, tabs], by rw [List.take_zero]; simp [table, tabs], by rw [List.take_zero]; simp [table, tabs], fun a o e _ _ => e, by simp, by simp, rfl, rfl⟩, ?_, ?_⟩
  · rintro i ρ1 H2 hi ⟨ra, sa, h1, h2, z1, z2, z3, hk, hn, hdj, r1, r2⟩
    have hkD := hk _ _ eD hDR hDS
    refine ⟨hkD, ?_⟩
    rintro d ⟨u, hu1, rfl⟩
    rw [hpl] at hi
    obtain ⟨p, hp⟩ : ∃ p, qs[i]? = some p := ⟨_, List.getElem?_eq_getElem hi⟩
    have hu2 : u = .ref p.1 := by
      unfold prefs at hu1
      rw [List.getElem?_map, hp] at hu1
      exact (Option.some.inj hu1).symm
    subst hu2
    have hpm := List.mem_of_getElem? hp
    have hpI := hI2 p hpm
    have hpR : p.1 ≠ R0 := fun q => by unfold IsPr at hpI; rw [q, eR2] at hpI; cases hpI
    have hpS : p.1 ≠ S0 := fun q => by unfold IsPr at hpI; rw [q, eS2] at hpI; cases hpI
    have htk : ws.take (i + 1) = ws.take i ++ [p.2] := by
      rw [List.take_succ, ← hws, List.getElem?_map, hp]; rfl
    have htab := table_snoc (ws.take i) p.2
    rw [← htk] at htab
    refine Asg.of_tup (hk _ _ hpI hpR hpS) (Asg.tuple F rfl rfl (Asg.local F rfl (Asg.local F rfl ?_)))
    simp only [AsgL]
    have hRS : R0 ≠ S0 := fun q => nS.2 q.symm
    have hRsa : R0 ∉ sa := fun q => by have := hn _ (.inr q); rw [eR2] at this; cases this
    have hSra : S0 ∉ ra := fun q => by have := hn _ (.inl q); rw [eS2] at this; cases this
    have hsrt : ∀ R ∈ (table (ws.take i)).1, R.Pairwise fun p q => p ≤ q := tabs_sorted _ _ (hSL.sublist (List.take_sublist ..))
    have htl := tabs_len (ws.take i).length (ws.take i)
    change (table (ws.take i)).1.length = (table (ws.take i)).2.length at htl
    have hkle := putR_le (table (ws.take i)).1 p.2.2
    have c1 := putR_len (table (ws.take i)).1 p.2.2 i z1
    have c2 := putS_len (k := (putR (table (ws.take i)).1 p.2.2).2) (a := p.2.1) z2
    have c3 := putR_cnt (table (ws.take i)).1 p.2.2
    refine WS.seq (W1.asgLocal F rfl (WE.callB (fun _ => fn_in hK 30 rfl) (Ev.glob F rfl G.put) (WEs.of (.cons (Ev.local F rfl (by exact r1)) (.cons (Ev.local F rfl rfl) .nil)) (WKs.nil (put_spec hK G F.hh (by omega) h1 hsrt ⟨by omega, fun R hR => by have := z1 R hR; omega⟩ fun H3 ra' g1 g2 g3 g4 => ⟨rfl, ?_⟩)))))
    have h3 : RowsAt S0 sa (table (ws.take i)).2 H3 := h2.keep fun a ha o e => g2 a o e (by
      rcases ha with rfl | ha
      · exact hRS.symm
      · exact fun q : a = R0 => hRsa (q ▸ ha)) (by
      rcases ha with rfl | ha
      · exact hSra
      · exact fun q => hdj _ q ha)
    have hk3 : ∀ a o, HB a = some o → a ≠ R0 → a ≠ S0 → H3 a = some o := fun a o e n1 n2 => g2 a o (hk a o e n1 n2) n1 fun q => by have := hn _ (.inl q); rw [e] at this; cases this
    have hBn : ∀ a, H2 a = none → HB a = none := fun a e => by
      cases q : HB a with
      | none => rfl
      | some o =>
        by_cases q1 : a = R0
        · rw [q1, h1.hR] at e; cases e
        by_cases q2 : a = S0
        · rw [q2, h2.hR] at e; cases e
        rw [hk a o q q1 q2] at e; cases e
    have hn3 : ∀ a ∈ ra', HB a = none ∧ a ∉ sa := fun a ha => by
      rcases g3 a ha with q | q
      · exact ⟨hn a (.inl q), hdj a q⟩
      · exact ⟨hBn a q, fun q' => by obtain ⟨r, e⟩ := h2.mem q'; rw [q] at e; cases e⟩
    generalize hkv : (putR (table (ws.take i)).1 p.2.2).2 = k at *
    have e2 : putS (table (ws.take i)).2 k p.2.1 = (table (ws.take (i + 1))).2 := by rw [htab]
    have e1 : (putR (table (ws.take i)).1 p.2.2).1 = (table (ws.take (i + 1))).1 := by rw [htab]
    rw [e1] at g1 c1 c3
    rw [e2] at c2
    rw [putS_eq _ (by omega)] at e2
    generalize hst : (if k = (table (ws.take i)).2.length then (table (ws.take i)).2 ++ [[]] else (table (ws.take i)).2) = st at e2
    refine WS.seq (W1.mono (Q := fun f ρ' H4 => f = .next ∧ (ρ' "rows" = some (.ref R0) ∧ ρ' "steps" = some (.ref S0) ∧ ρ' "k" = some (.int k) ∧ ρ' "a" = some (.int p.2.1)) ∧ ∃ sa', RowsAt R0 ra' (table (ws.take (i + 1))).1 H4 ∧ RowsAt S0 sa' st H4 ∧ (∀ a o, HB a = some o → a ≠ R0 → a ≠ S0 → H4 a = some o) ∧ (∀ a ∈ sa', HB a = none ∧ a ∉ ra')) ?_ ?_)
    · refine W1.if (WT.of (EvT.icmp (op := .Eq) (Ev.local F rfl rfl) (Ev.len (Ev.glob F rfl G.len) (Ev.local F rfl (by exact r2)) h3.hR rfl) rfl) ⟨fun e => ?_, fun e => WS.nil ⟨rfl, ⟨r1, r2, rfl, rfl⟩, sa, g1, ?_, hk3, fun a ha => ⟨hn _ (.inr ha), fun q => (hn3 a q).2 ha⟩⟩⟩)
      · have e' : (k : Int) = ((sa.map V.ref).length : Int) := by simpa using e
        rw [List.length_map, h3.hX.length] at e'
        have e'' : k = (table (ws.take i)).2.length := by omega
        rw [if_pos e''] at hst
        refine WS.seq (W1.expr F (WE.listMeth PySem.F.slot_list_append rfl (WE.of (Ev.local F rfl (by exact r2)) ⟨S0, _, rfl, h3.hR, WEs.cons (WE.list rfl (by decide) (WEs.nil fun a ha => WEs.nil (WCall.append (AH.get_of_set h3.hR ha) (by rw [List.length_map, h3.hX.length]; omega) ⟨(by intro a e; cases e), rfl, ?_⟩)))⟩)))
        have hadd := h3.add (row := []) ha
        rw [hst] at hadd
        have haR : a ≠ R0 := fun q => by rw [q, g1.hR] at ha; cases ha
        have hara : a ∉ ra' := fun q => by obtain ⟨r, e⟩ := g1.mem q; rw [ha] at e; cases e
        have haB : HB a = none := by
          cases q : HB a with
          | none => rfl
          | some o =>
            by_cases q2 : a = S0
            · rw [q2, h3.hR] at ha; cases ha
            rw [hk3 a o q haR q2] at ha; cases ha
        rw [show (sa.map V.ref) ++ [V.ref a] = (sa ++ [a]).map V.ref by simp]
        refine WS.nil ⟨rfl, ⟨r1, r2, rfl, rfl⟩, sa ++ [a], g1.keep fun b hb o e => ?_, hadd, fun b o e n1 n2 => ?_, fun b hb => ?_⟩
        · rw [AH.set_ne _ _ ?_]
          · exact AH.get_of_set e ha
          · rcases hb with rfl | hb
            · exact hRS
            · exact fun q : b = S0 => by have := (hn3 _ hb).1; rw [q, eS2] at this; cases this
        · rw [AH.set_ne _ _ n2]; exact AH.get_of_set (hk3 b o e n1 n2) ha
        · rcases List.mem_append.mp hb with q | q
          · exact ⟨hn _ (.inr q), fun q' => (hn3 b q').2 q⟩
          · rw [List.mem_singleton.mp q]; exact ⟨haB, hara⟩
      · have e' : ¬ (k : Int) = ((sa.map V.ref).length : Int) := by simpa using e
        rw [List.length_map, h3.hX.length] at e'
        rw [if_neg (by omega)] at hst
        rw [← hst]; exact h3
    rintro f ρ2 H4 ⟨rfl, ⟨s1, s2, s3, s4⟩, sa', h5, h6, hk4, hn4⟩
    refine ⟨rfl, ?_⟩
    have hstl : k < st.length := by
      rw [← hst]; split
      · simp; omega
      · omega
    have hsal := h6.hX.length
    obtain ⟨a, ha⟩ : ∃ a, sa'[k]? = some a := ⟨_, List.getElem?_eq_getElem (by omega)⟩
    have haR := Zip.get k _ _ h6.hX ha (show st[k]? = some (st.getD k []) by rw [List.getD_eq_getElem?_getD, List.getElem?_eq_getElem hstl]; rfl)
    have ham := List.mem_of_getElem? ha
    have hln : (st.getD k []).length ≤ 100 := by
      have := c2 (st.getD k [] ++ [p.2.1]) (by rw [← e2]; exact List.mem_set hstl _)
      rw [List.length_append] at this; omega
    refine WS.seq (W1.expr F (WE.listMeth PySem.F.slot_list_append rfl (WE.of (Ev.item (Ev.local F rfl s2) (Ev.local F rfl s3) h6.hR rfl (by omega) (by rw [Int.toNat_natCast, List.getElem?_map, ha]; rfl)) ⟨a, _, rfl, haR, WEs.of (.cons (Ev.local F rfl s4) .nil) (WCall.append haR (by rw [ints_length]; omega) ⟨(by intro a e; cases e), rfl, ?_⟩)⟩)))
    rw [show vints (st.getD k []) ++ [V.int p.2.1] = vints (st.getD k [] ++ [p.2.1]) by simp [vints]]
    have h7 := h6.upd (row := st.getD k [] ++ [p.2.1]) ha
    rw [e2] at h7
    refine WS.nil ⟨ra', sa', h5.keep fun b hb o e => ?_, h7, fun R hR => c1 R hR, fun R hR => c2 R hR, by omega, fun b o e n1 n2 => ?_, fun b hb => ?_, fun b hb q => (hn4 b q).2 hb, s1, s2⟩
    · rw [AH.set_ne _ _ ?_]
      · exact e
      · rcases hb with rfl | hb
        · exact fun q => by have := (hn4 _ ham).1; rw [← q, eR2] at this; cases this
        · exact fun q : b = a => (hn4 _ ham).2 (q ▸ hb)
    · rw [AH.set_ne _ _ (fun q => by have := (hn4 _ ham).1; rw [← q, e] at this; cases this)]; exact hk4 b o e n1 n2
    · rcases hb with q | q
      · exact (hn3 b q).1
      · exact (hn4 b q).1
  · rintro ρ1 H2 ⟨ra, sa, h1, h2, z1, z2, z3, hk, hn, hdj, r1, r2⟩
    refine ⟨hk _ _ eD hDR hDS, ?_⟩
    rw [hpl, ← hwl, List.take_length] at h1 h2
    refine WS.cons (W1.ret (WE.tuple rfl (by decide) (WEs.of (.cons (Ev.local F rfl r1) (.cons (Ev.local F rfl r2) .nil)) fun T hT => ?_)))
    have le5 := AH.le_set (o := .tup [.ref R0, .ref S0]) (AH.le_refl H2) hT
    refine hQ _ T R0 S0 ra sa ws (fun a o e => le5 _ _ (hk a o (le3 _ _ e) (fun q => by rw [q, hR0] at e; cases e) (fun q => by rw [q, nS.1] at e; cases e))) ?_ hSL (h1.keep fun a _ o e => le5 _ _ e) (h2.keep fun a _ o e => le5 _ _ e) (AH.set_same ..)
    rw [← hws]; exact hperm.map _
end
end Mine

set_option maxHeartbeats 4000000
namespace Mine
open PySem PySem.W PyProof.Rows
open PySem.SeqAt (shaped)

theorem rangeSize_pos {n : Int} {c : Nat} (hc : 0 < c) : Builtin.Range.rangeSize 0 n c = (((n + (c : Int) - 1) / (c : Int)).toNat : Int) := by
  unfold Builtin.Range.rangeSize
  have hc' : (0 : Int) < (c : Int) := by omega
  rw [if_pos hc']
  have e : (n + (c : Int) - 1) / (c : Int) = (n - 1) / (c : Int) + 1 := by
    rw [show n + (c : Int) - 1 = (n - 1) + (c : Int) * 1 by omega, Int.add_mul_ediv_left _ _ (by omega)]
  by_cases h : 0 < n
  · rw [if_pos h, e]
    have : 0 ≤ (n - 1) / (c : Int) := Int.ediv_nonneg (by omega) (by omega)
    rw [show n - 0 - 1 = n - 1 by omega]; omega
  · rw [if_neg h, e]
    have : (n - 1) / (c : Int) < 0 := Int.ediv_neg_of_neg_of_pos (by omega) hc'
    omega
theorem small_pos {n : Int} {c : Nat} (hc : 0 < c) (hc' : c < 1000) (h1 : -1000 ≤ n) (h2 : n ≤ 1000) : Builtin.Range.small 0 n c = true := by
  unfold Builtin.Range.small
  rw [rangeSize_pos hc]
  have hle : (n + (c : Int) - 1) / (c : Int) ≤ 3000 := by
    by_cases q : 0 ≤ n + (c : Int) - 1
    · have := Int.ediv_le_self (c : Int) q; omega
    · have : (n + (c : Int) - 1) / (c : Int) < 0 := Int.ediv_neg_of_neg_of_pos (by omega) (by omega)
      omega
  simp only [Builtin.Range.rangeFitsLong, Bool.and_eq_true, Bool.or_eq_true, decide_eq_true_eq, beq_iff_eq, show ((c : Int) > 0) by omega, if_true]
  omega

section
variable {C : Cx} {A : Around} {env : Env} {ρ : Lo} {H : AH} {P : Params}
/-- a list of pairs of numbers is made -/
theorem comp_pairs {n : Nat} {g : Nat → Pr} {e1 e2 tgt : Expr} {kk : Nat} {p : Pos} {Ok : Nat → AH → Prop} {Pd : Nat → AH → Dv → Prop} {Q : AH → List V → Prop} (hn : n ≤ sizeLine)
    (ht : ∀ i (ρ1 : Lo) H1, i < n → H.le H1 → Ok i H1 ∧ ∀ d, Pd i H1 d → Asg C A env tgt d ρ1 H1 (fun ρ2 H3 => H3 = H1 ∧ Ev C A env ρ2 H1 e1 (.int (g i).1) ∧ Ev C A env ρ2 H1 e2 (.int (g i).2)))
    (hOk : ∀ H1, H.le H1 → Ok n H1) (hne : noStar [e1, e2] = true)
    (hQ : ∀ (ps : List PA) H2, ps.map (·.2) = (List.range n).map g → H.le H2 → (∀ p ∈ ps, IsPr H2 p) → Q H2 (prefs ps)) :
    LoopOk C A env (.Tuple [e1, e2] kk p) tgt [] [] H n Ok Pd (fun _ => none) [] (fun _ H2 zs => Q H2 zs) := by
  refine ⟨fun i ρ1 H1 zs => ∃ ps : List PA, zs = prefs ps ∧ ps.length = i ∧ ps.map (·.2) = (List.range i).map g ∧ H.le H1 ∧ ∀ p ∈ ps, IsPr H1 p, ⟨[], rfl, rfl, rfl, AH.le_refl _, by simp⟩, ?_, ?_⟩
  · rintro i ρ1 H1 zs hi ⟨ps, rfl, hl, hm, hle, hps⟩
    obtain ⟨ok, t⟩ := ht i ρ1 H1 hi hle
    refine ⟨ok, fun d hd => Asg.mono (t d hd) ?_⟩
    rintro ρ2 H3 ⟨rfl, v1, v2⟩
    refine ⟨fun _ => ?_, fun e => by cases e⟩
    refine WE.tuple hne (by simp) (WEs.of (.cons v1 (.cons v2 .nil)) fun a ha => ⟨by simp [prefs]; omega, ps ++ [(a, g i)], by simp [prefs], by simp [hl], ?_, AH.le_trans hle (AH.le_set (AH.le_refl _) ha), fun p hp => ?_⟩)
    · rw [List.range_succ]; simp [hm]
    · rcases List.mem_append.mp hp with hp | hp
      · exact AH.get_of_set (hps p hp) ha
      · rw [List.mem_singleton.mp hp]; exact AH.set_same ..
  · rintro ρ1 H1 zs ⟨ps, rfl, hl, hm, hle, hps⟩
    exact ⟨hOk _ hle, hQ ps H1 hm hle hps⟩
theorem prefs_at {ps : List PA} {i : Nat} {u : V} (h : (prefs ps)[i]? = some u) : ∃ p, ps[i]? = some p ∧ u = .ref p.1 := by
  unfold prefs at h
  rw [List.getElem?_map] at h
  cases q : ps[i]? with
  | none => rw [q] at h; cases h
  | some p => rw [q] at h; exact ⟨p, rfl, (Option.some.inj h).symm⟩
def dRows (rows : List (List Int)) : PyData := .list (rows.map dints)
theorem RowsAt.rd {R0 : Addr} {ra : List Addr} {rows : List (List Int)} (h : RowsAt R0 ra rows H) : Rd H (.ref R0) (dRows rows) :=
  Rd_list h.hR rfl (Zip.rd (H := H) (as := ra) (bs := rows) (h.hX.mono fun a _ row e => Rd_ints e rfl))
theorem Dp_ints (ns : List Int) : Dp (dints ns) 1 := Dp.list fun d hd => by
  obtain ⟨n, _, rfl⟩ := List.mem_map.mp hd
  exact Dp.int n
theorem Dp_rows (rows : List (List Int)) : Dp (dRows rows) 2 := Dp.list fun d hd => by
  obtain ⟨n, _, rfl⟩ := List.mem_map.mp hd
  exact Dp_ints n
theorem eqv_rows (a b : List (List Int)) : PyData.eqv (dRows a) (dRows b) = decide (a = b) := eqv_list_map eqv_ints a b
theorem Rd_tup2 {a : Addr} {v w : V} {d e : PyData} (h : H a = some (.tup [v, w])) (h1 : Rd H v d) (h2 : Rd H w e) : Rd H (.ref a) (.tuple [d, e]) := by
  rw [Rd]
  refine ⟨a, _, rfl, h, ?_⟩
  rw [RdL]
  refine ⟨_, _, rfl, h1, ?_⟩
  rw [RdL]
  exact ⟨_, _, rfl, h2, by rw [RdL]⟩
theorem eqv_tup2 (a b c d : PyData) : PyData.eqv (.tuple [a, b]) (.tuple [c, d]) = (PyData.eqv a c && PyData.eqv b d) := by
  rw [PyData.eqv, PyData.eqvAll, PyData.eqvAll, PyData.eqvAll, Bool.and_true]

theorem law_body (hK : (hd.heap_39 P).In C.base) (G : Gl02 C) {L : Addr} (F : Fx C A (callEnvC (law02 P) L 42)) (hdep : A.depth + 20 < recursionLimit) (hu : A.units + 200 < cLine)
    {sc : Addr} {ns : List Int} {ρ : Lo} (rs : ρ "script" = some (.ref sc)) (hsc : H sc = some (.scr (vints ns))) (hns : ns.length ≤ 63)
    (c1 : H (L + 1) = some (.cell none)) (c2 : H (L + 2) = some (.cell none)) :
    WS C A (callEnvC (law02 P) L 42) (bodyOf (law02 P)) ρ H (fun f _ _ => retv f = .bool true) := by
  have hsz : 1000 ≤ sizeLine := by decide
  refine WS.seq (W1.asg (WE.of (v := .int (if ns = [] then 0 else (ns.headD 0).fmod 6)) (Ev.ifexp (c := !(vints ns).isEmpty) (EvT.of (Ev.local F rfl rs) (by simp [truth, hsc]) (by intro x e; cases e)) (fun e => ?_) (fun e => ?_)) (Asg.cell F rfl rfl c1 ⟨rfl, ?_⟩)))
  · cases ns with
    | nil => simp [vints] at e
    | cons x r => rw [if_neg (by simp)]; exact Ev.mod (Ev.item (Ev.local F rfl rs) Ev.int hsc rfl (by decide) rfl) Ev.int (by decide)
  · cases ns with
    | nil => rw [if_pos rfl]; exact Ev.int
    | cons x r => simp [vints] at e
  obtain ⟨way, hway⟩ : ∃ z : Nat, (if ns = [] then (0 : Int) else (ns.headD 0).fmod 6) = (z : Int) := by
    split
    · exact ⟨0, rfl⟩
    · exact ⟨((ns.headD 0).fmod 6).toNat, by have := (div_as (ns.headD 0) 6 (by decide)).2; omega⟩
  rw [hway]
  have d1 : (H.set (L + 1) (.cell (some (.int way)))) (L + 1) = some (.cell (some (.int way))) := AH.set_same ..
  have d2 : (H.set (L + 1) (.cell (some (.int way)))) (L + 2) = some (.cell none) := by rw [AH.set_ne _ _ (addr_ne L 2 1 rfl)]; exact c2
  have d3 : (H.set (L + 1) (.cell (some (.int way)))) sc = some (.scr (vints ns)) := set_at hsc c1 (by simp)
  generalize H.set (L + 1) (.cell (some (.int way))) = H1 at *
  -- numbers
  refine WS.seq (W1.asg (WE.listComp (cl := [("way", L + 1)]) rfl (WIt.list F (WE.slice (lo := some 1) (hi := none) (WE.of (Ev.local F rfl rs) ⟨sc, _, _, rfl, d3, rfl, .some Ev.int, .none, fun l0 hl0 => ⟨l0, _, _, rfl, AH.set_same .., rfl, fun Cn hCn => ?_⟩⟩)))))
  have hvs : slc (some 1) none (vints ns) = vints (ns.drop 1) := by
    rw [show (1 : Int) = ((1 : Nat) : Int) from rfl, slc_drop]; simp [vints]
  have le1 : H1.le (H1.set l0 (.list (slc (some 1) none (vints ns)))) := AH.le_set (AH.le_refl _) hl0
  have el0 : (H1.set l0 (.list (slc (some 1) none (vints ns)))) l0 = some (.list (slc (some 1) none (vints ns))) := AH.set_same ..
  rw [hvs] at *
  have e1 := le1 _ _ d1
  have e2 := le1 _ _ d2
  generalize H1.set l0 (.list (vints (ns.drop 1))) = H2 at *
  obtain ⟨gf, hgf⟩ : ∃ gf : Int → Int, gf = fun y : Int => if (way : Int) > 0 then y.fmod (way + 1) else y := ⟨_, rfl⟩
  refine comp_list (f := fun i => .int (gf ((ns.drop 1).getD i 0))) (F.comp rfl) rfl (by rw [ints_length]; simp; omega) (fun _ => el0) ?_ ?_
  · intro i v ρ2 hv hk
    obtain ⟨rfl, _⟩ := vints_at hv
    rw [hgf]
    refine Ev.ifexp (EvT.icmp (op := .Gt) (Ev.cell (F.comp rfl) rfl rfl e1) Ev.int rfl) (fun e => ?_) (fun e => ?_)
    · have e' : (way : Int) > 0 := by simpa using e
      show Ev _ _ _ _ _ _ (.int (if (way : Int) > 0 then _ else _))
      rw [if_pos e']
      exact Ev.mod (Ev.local (F.comp rfl) rfl hk) (Ev.add (Ev.cell (F.comp rfl) rfl rfl e1) Ev.int) (by omega)
    · have e' : ¬ (way : Int) > 0 := by simpa using e
      show Ev _ _ _ _ _ _ (.int (if (way : Int) > 0 then _ else _))
      rw [if_neg e']
      exact Ev.local (F.comp rfl) rfl hk
  rw [map_range_vints gf]
  generalize hxs : (ns.drop 1).map gf = xs
  have hxl : xs.length ≤ 63 := by rw [← hxs]; simp; omega
  intro N hN
  refine Asg.cell F rfl rfl (AH.get_of_set e2 hN) ⟨rfl, ?_⟩
  have f2 : ((H2.set N (.list (vints xs))).set (L + 2) (.cell (some (.ref N)))) (L + 2) = some (.cell (some (.ref N))) := AH.set_same ..
  have fN : ((H2.set N (.list (vints xs))).set (L + 2) (.cell (some (.ref N)))) N = some (.list (vints xs)) := set_at (AH.set_same ..) (AH.get_of_set e2 hN) (by simp)
  generalize (H2.set N (.list (vints xs))).set (L + 2) (.cell (some (.ref N))) = H3 at *
  -- pairs
  generalize hcn : ((((xs.length : Int) - 1) + ((2 : Nat) : Int) - 1) / ((2 : Nat) : Int)).toNat = cn
  refine WS.seq (W1.asgComp F rfl (cl := [("numbers", L + 2)]) rfl (WIt.range3 (a := 0) (b := (xs.length : Int) - 1) (c := ((2 : Nat) : Int)) (n := cn) F (Ev.glob F rfl G.range) Ev.int (Ev.sub (Ev.as (Ev.len (Ev.glob F rfl G.len) (Ev.cell F rfl rfl f2) fN rfl) (by rw [ints_length])) Ev.int) Ev.int (by decide) (by decide) (small_pos (by decide) (by decide) (by omega) (by omega)) (by rw [rangeSize_pos (by decide), hcn]) fun Cn hCn => ?_) rfl)
  refine comp_pairs (g := fun i => (xs.getD (2 * i) 0, xs.getD (2 * i + 1) 0)) (by omega) (fun i ρ1 H4 hi hle => ⟨trivial, ?_⟩) (fun _ _ => trivial) rfl ?_
  · rintro d rfl
    have hi2 : 2 * i + 1 < xs.length := by omega
    refine Asg.local (F.comp rfl) rfl ⟨rfl, ?_, ?_⟩
    · exact Ev.item (Ev.cell (F.comp rfl) rfl rfl (hle _ _ f2)) (Ev.local (F.comp rfl) rfl rfl) (hle _ _ fN) rfl (by omega) (by
        rw [show ((0 : Int) + (i : Int) * ((2 : Nat) : Int)).toNat = 2 * i by omega]
        show (vints xs)[2 * i]? = some (.int (xs.getD (2 * i) 0))
        rw [List.getD_eq_getElem?_getD]; simp [vints, show 2 * i < xs.length by omega])
    · exact Ev.item (Ev.cell (F.comp rfl) rfl rfl (hle _ _ f2)) (Ev.add (Ev.local (F.comp rfl) rfl rfl) Ev.int) (hle _ _ fN) rfl (by omega) (by
        rw [show ((0 : Int) + (i : Int) * ((2 : Nat) : Int) + 1).toNat = 2 * i + 1 by omega]
        show (vints xs)[2 * i + 1]? = some (.int (xs.getD (2 * i + 1) 0))
        rw [List.getD_eq_getElem?_getD]; simp [vints, hi2])
  intro ps H4 hps hle hI Dp0 hDp
  have hpl : ps.length = cn := by have := congrArg List.length hps; simpa using this
  have hcn2 : cn < 64 := by omega
  refine ⟨rfl, ?_⟩
  have le4 : H4.le (H4.set Dp0 (.list (prefs ps))) := AH.le_set (AH.le_refl _) hDp
  have eP : (H4.set Dp0 (.list (prefs ps))) Dp0 = some (.list (prefs ps)) := AH.set_same ..
  have hI5 : ∀ p ∈ ps, IsPr (H4.set Dp0 (.list (prefs ps))) p := fun p hp => le4 _ _ (hI p hp)
  generalize H4.set Dp0 (.list (prefs ps)) = H5 at *
  -- the tables
  refine WS.seq (W1.asg (WE.callB (fun _ => fn_in hK 37 rfl) (Ev.glob F rfl G.tables) (WEs.of (.cons (Ev.local F rfl rfl) .nil) (WKs.nil (tables_spec hK G F.hh (by omega) eP rfl hI5 (by omega) fun H6 T R0 S0 ra sa qs hle6 hpm hSL hR hS hT => ?_)))))
  refine Asg.of_tup hT (Asg.tuple F rfl rfl (Asg.local F rfl (Asg.local F rfl ⟨rfl, ?_⟩)))
  have eP6 := hle6 _ _ eP
  have hI6 : ∀ p ∈ ps, IsPr H6 p := fun p hp => hle6 _ _ (hI5 p hp)
  refine WS.cons (W1.ret (WE.eqD (by omega) (WE.callB (fun _ => fn_in hK 37 rfl) (Ev.glob F rfl G.tables) (WEs.cons (WE.listComp (cl := []) rfl (WIt.list F (WE.of (Ev.local F rfl rfl) ⟨Dp0, _, _, rfl, eP6, rfl, fun Cn hCn => ?_⟩)))))))
  refine comp_pairs (g := fun i => swp ((ps.map (·.2)).getD i (0, 0))) (by simp [prefs]; omega) (fun i ρ1 H7 hi hle7 => ⟨hle7 _ _ eP6, ?_⟩) (fun H7 hle7 => hle7 _ _ eP6) rfl ?_
  · rintro d ⟨u, hu1, rfl⟩
    obtain ⟨p, hp, rfl⟩ := prefs_at hu1
    have hpg : (ps.map (·.2)).getD i (0, 0) = p.2 := by rw [List.getD_eq_getElem?_getD, List.getElem?_map, hp]; rfl
    refine Asg.of_tup (hle7 _ _ (hI6 p (List.mem_of_getElem? hp))) (Asg.tuple (F.comp rfl) rfl rfl (Asg.local (F.comp rfl) rfl (Asg.local (F.comp rfl) rfl ⟨rfl, ?_, ?_⟩)))
    · show Ev _ _ _ _ _ _ (.int (swp ((ps.map (·.2)).getD i (0, 0))).1)
      rw [hpg]; exact Ev.local (F.comp rfl) rfl rfl
    · show Ev _ _ _ _ _ _ (.int (swp ((ps.map (·.2)).getD i (0, 0))).2)
      rw [hpg]; exact Ev.local (F.comp rfl) rfl rfl
  intro qs2 H7 hq2 hle7 hI7 X hX
  have hpl2 : (prefs ps).length = ps.length := by simp [prefs]
  have hq2' : qs2.map (·.2) = (ps.map (·.2)).map swp := by
    rw [hq2, hpl2]
    apply List.ext_getElem?
    intro i
    by_cases q : i < ps.length
    · simp [q]
    · simp [q]
  have hql2 : qs2.length = ps.length := by have := congrArg List.length hq2'; simpa using this
  have le8 : H7.le (H7.set X (.list (prefs qs2))) := AH.le_set (AH.le_refl _) hX
  refine WEs.nil (WKs.nil (tables_spec hK G F.hh (by omega) (AH.set_same ..) rfl (fun p hp => le8 _ _ (hI7 p hp)) (by omega) fun H9 T' R0' S0' ra' sa' qs' hle9 hpm' hSL' hR' hS' hT' => ?_))
  have le69 : H6.le H9 := AH.le_trans hle7 (AH.le_trans le8 hle9)
  refine WE.tuple rfl (by decide) (WEs.of (.cons (Ev.local F rfl rfl) (.cons (Ev.local F rfl rfl) .nil)) fun U hU => ?_)
  have leU : H9.le (H9.set U (.tup [.ref S0, .ref R0])) := AH.le_set (AH.le_refl _) hU
  have le6U := AH.le_trans le69 leU
  refine ⟨.tuple [dRows (table qs').1, dRows (table qs').2], .tuple [dRows (table qs).2, dRows (table qs).1], Rd_tup2 (leU _ _ hT') (Rd.le leU _ _ hR'.rd) (Rd.le leU _ _ hS'.rd), Rd_tup2 (AH.set_same ..) (Rd.le le6U _ _ hS.rd) (Rd.le le6U _ _ hR.rd), ?_, ?_, ?_⟩
  · refine (Dp.tuple (k := 2) fun d hd => ?_).shaped (by decide)
    rcases List.mem_cons.mp hd with rfl | hd
    · exact Dp_rows _
    · rw [List.mem_singleton.mp hd]; exact Dp_rows _
  · refine (Dp.tuple (k := 2) fun d hd => ?_).shaped (by decide)
    rcases List.mem_cons.mp hd with rfl | hd
    · exact Dp_rows _
    · rw [List.mem_singleton.mp hd]; exact Dp_rows _
  · have hsym := sym_table hSL hSL' (by rw [hq2'] at hpm'; exact hpm'.trans (hpm.map swp).symm)
    rw [eqv_tup2, eqv_rows, eqv_rows, hsym]
    simp [retv]
end
end Mine

open PySem PySem.W PyProof.Rows Mine in
set_option maxRecDepth 100000 in
set_option maxHeartbeats 8000000 in
theorem PySem.Challenge.cw_dm0010_02_holds : PySem.Challenge.rw_dm0010_02.Holds :=
  Mine.hd (by
  w_strict (
  k_fill
  intro w s₀ s₁ mg mb G Y fa o pm cd doc dV kV ho hd hcd hD hmg hg args vals as hpre hlay hrd hwl hlo
  have KX := kIn_of Y
  refine Ground.open G ?_
  intro T B D TE TW
  clear ho hd hcd hD
  wrow_args hpre hlay hrd hwl hlo
  rename_i ns _ _ _ _ _ _ _ sc vs _ hL _ _ _ hI _ hlen _
  have hfa : fa = 42 := by
    have h1 : mg "law" = some (.ref 42) := mg_of KX T.g rfl
    have h2 : mg "law" = some (.ref fa) := hmg
    rw [h1] at h2; cases h2; rfl
  subst hfa
  let C : Cx := { prog := Challenge.rw_dm0010_02.row.prog, w := w, base := s₁.heap, mg := mg, mb := mb, hg := T.g, hb := T.b, lim := T.nolimit }
  have bt : ∀ x : Str, x ≠ "__name__" → C.mb x = bootBuiltins x := T.builtins
  have hns : ns.length ≤ 63 := by omega
  have hmap : vs.map ab = vints ns := ints_of hI
  have key := top_fn (C := C) (A := callerA) (H := fun b => if b = sc then some (.scr (vints ns)) else none) (Q := fun v _ => v = .bool true) (s := s₁) (a := 42) (fd := fdOf (Mine.hd.heap_39 w.params) 42) (vals := [.ref sc]) (bs := [("script", .ref sc)]) rfl ?_ ?_ (KX 42 ⟨.type "function", none, .func (fdOf (Mine.hd.heap_39 w.params) 42), #[]⟩ rfl) rfl (by decide) rfl rfl (codeRec_of KX rfl) (binds := [("script", .ref sc)]) rfl rfl rfl (show (["numbers", "way"] : List Str).Nodup by decide) ?_
  · refine wpAny_mono key (fun v s' ⟨⟨_, hv⟩, hk, hgn, hos⟩ => ?_) fun _ _ e => e.elim
    cases ab_bool hv
    exact law_end rfl (by wrow_post) hk (hgn.trans hg) hos
  · intro b ob hb
    by_cases q : b = sc
    · subst q
      rw [if_pos rfl] at hb; cases hb
      obtain ⟨o, ho, hc, n, hd⟩ := hL
      exact ⟨o, ho, hc, _, n, hd, hmap, by rw [ints_length]; exact Nat.le_trans hns (by decide)⟩
    · rw [if_neg q] at hb; cases hb
  · intro b ob hb
    by_cases q : b = sc
    · subst q
      rw [if_pos rfl] at hb; cases hb; rfl
    · rw [if_neg q] at hb; cases hb
  · intro L hL0 hcs
    have hscL : ∀ p ∈ cellsFrom (L + 1) (fdOf (Mine.hd.heap_39 w.params) 42).scope.names [], sc ≠ p.2 := fun p hp q => by
      have := (hcs p hp).1
      rw [if_pos q.symm] at this; cases this
    have n1 : sc ≠ L + 1 := hscL ("way", L + 1) (.tail _ (.head _))
    have n2 : sc ≠ L + 2 := hscL ("numbers", L + 2) (.head _)
    refine law_body (C := C) (sc := sc) (ns := ns) KX ⟨(gl_boot KX rfl ((bt _ (by decide)).trans (by decide +kernel))), (gl_boot KX rfl ((bt _ (by decide)).trans (by decide +kernel))), (gl_boot KX rfl ((bt _ (by decide)).trans (by decide +kernel))), (gl_own KX rfl), (gl_own KX rfl), (gl_own KX rfl)⟩ ⟨rfl, rfl, rfl, rfl⟩ (show callerA.depth + 1 + 20 < recursionLimit by decide) (show callerA.units + 3 + 200 < cLine by decide) rfl ?_ hns ?_ ?_
    · show ((AH.set (AH.set _ (L + 1) (.cell none)) (L + 2) (.cell none)) sc) = _
      rw [AH.set_ne _ _ n2, AH.set_ne _ _ n1]; exact if_pos rfl
    · show ((AH.set (AH.set _ (L + 1) (.cell none)) (L + 2) (.cell none)) (L + 1)) = _
      rw [AH.set_ne _ _ (addr_ne L 1 2 rfl), AH.set_same]
    · show ((AH.set (AH.set _ (L + 1) (.cell none)) (L + 2) (.cell none)) (L + 2)) = _
      rw [AH.set_same]))

