import PyProof.Rows.All
import Wide.All
import OpenK.AllK
import Wide.FinOn
import PySem.Challenge.RW_dm0010_05
set_option Elab.async false
set_option linter.unusedVariables false
set_option maxRecDepth 100000
namespace Mine
open PySem PySem.W PyProof.Rows

/-! ## abstract values, objects, heaps -/
inductive V where
  | none | bool (b : Bool) | int (i : Int) | str (x : Str) | ref (a : Addr) | bi (id : String) | ty (n : String) | oth
  deriving DecidableEq

def ab : Value → V
  | .none => .none
  | .bool b => .bool b
  | .int i _ => .int i
  | .str x _ => .str x
  | .ref a => .ref a
  | .builtin i => .bi i
  | .type n => .ty n
  | _ => .oth

theorem ab_none {v : Value} (h : ab v = .none) : v = .none := by cases v <;> simp_all [ab]
theorem ab_bool {v : Value} {b} (h : ab v = .bool b) : v = .bool b := by cases v <;> simp_all [ab]
theorem ab_int {v : Value} {i} (h : ab v = .int i) : ∃ t, v = .int i t := by cases v <;> simp_all [ab]
theorem ab_str {v : Value} {x} (h : ab v = .str x) : ∃ t, v = .str x t := by cases v <;> simp_all [ab]
theorem ab_ref {v : Value} {a} (h : ab v = .ref a) : v = .ref a := by cases v <;> simp_all [ab]
theorem ab_bi {v : Value} {a} (h : ab v = .bi a) : v = .builtin a := by cases v <;> simp_all [ab]
theorem ab_ty {v : Value} {a} (h : ab v = .ty a) : v = .type a := by cases v <;> simp_all [ab]

inductive O where
  | list (vs : List V)
  | scr (vs : List V)
  | tup (vs : List V)
  | cell (v : Option V)
  | fn (fd : FuncData)
  | rng (a n c : Int)

def O.mut : O → Bool
  | .list _ => true
  | .cell _ => true
  | _ => false

def Rep : O → Obj → Prop
  | .list vs, c => ∃ xs n, c = { cls := .type "list", data := .seq xs n } ∧ xs.toList.map ab = vs ∧ vs.length ≤ sizeLine
  | .scr vs, c => c.cls = .type "list" ∧ ∃ xs n, c.data = .seq xs n ∧ xs.toList.map ab = vs ∧ vs.length ≤ sizeLine
  | .tup vs, c => ∃ xs n, c = { cls := .type "tuple", data := .seq xs n } ∧ xs.toList.map ab = vs ∧ vs.length ≤ sizeLine
  | .cell v, c => ∃ u, c.data = .cell u ∧ u.map ab = v
  | .fn fd, c => c = { cls := .type "function", data := .func fd }
  | .rng a n d, c => c.cls = .type "range" ∧ c.data = .fields #[.int a 0, .int (a + n * d) 0, .int d 0]

abbrev AH := Addr → Option O
abbrev Lo := Str → Option V

def AH.set (H : AH) (a : Addr) (o : O) : AH := fun b => if b = a then some o else H b
@[simp] theorem AH.set_same (H : AH) (a : Addr) (o : O) : (H.set a o) a = some o := by simp [AH.set]
theorem AH.set_ne (H : AH) {a b : Addr} (o : O) (h : b ≠ a) : (H.set a o) b = H b := by simp [AH.set, h]
def Lo.set (ρ : Lo) (x : Str) (v : V) : Lo := fun y => if y = x then some v else ρ y
@[simp] theorem Lo.set_same (ρ : Lo) (x : Str) (v : V) : (ρ.set x v) x = some v := by simp [Lo.set]
theorem Lo.set_ne (ρ : Lo) {x y : Str} (v : V) (h : y ≠ x) : (ρ.set x v) y = ρ y := by simp [Lo.set, h]

structure Cx where
  prog : Program
  w : World
  base : Heap
  mg : Str → Option Value
  mb : Str → Option Value
  hg : base.Ns mainGlobals mg
  hb : base.Ns builtinsNs mb
  lim : base.NoLimit

def Cx.gl (C : Cx) (x : Str) : Option Value := match C.mg x with | some v => some v | none => C.mb x
abbrev Cx.M (C : Cx) : Model := model C.prog C.w

structure St (C : Cx) (L : Addr) (ρ : Lo) (H : AH) (h : Heap) : Prop where
  keep : ∀ b o, C.base.get? b = some o → h.get? b = some o
  rep : ∀ a o, H a = some o → ∃ c, h.get? a = some c ∧ Rep o c
  own : ∀ a o, H a = some o → o.mut = true → C.base.get? a = none
  loc : ∃ m, h.Ns L m ∧ ∀ x, (m x).map ab = ρ x
  nl : H L = none
  bl : C.base.get? L = none

structure Step (L : Addr) (H H' : AH) (s s' : Shared) : Prop where
  same : ∃ h tk, s' = { s with heap := h, toks := tk }
  kept : ∀ b o, s.heap.get? b = some o → H b = none → b ≠ L → s'.heap.get? b = some o
  new : ∀ b o, s.heap.get? b = some o → H b = none → H' b = none
  live : ∀ b o, s.heap.get? b = some o → ∃ o', s'.heap.get? b = some o'

theorem Step.refl (L : Addr) (H : AH) (s : Shared) : Step L H H s s := ⟨⟨s.heap, s.toks, rfl⟩, fun _ _ e _ _ => e, fun _ _ _ e => e, fun _ o e => ⟨o, e⟩⟩
theorem Step.trans {L : Addr} {H H' H'' : AH} {s s' s'' : Shared} (x : Step L H H' s s') (y : Step L H' H'' s' s'') (hL : H L = none → H' L = none → H'' L = none) : Step L H H'' s s'' := by
  obtain ⟨⟨h, tk, rfl⟩, k1, n1, l1⟩ := x
  obtain ⟨⟨h', tk', rfl⟩, k2, n2, l2⟩ := y
  refine ⟨⟨h', tk', rfl⟩, fun b o e eH eL => k2 b o (k1 b o e eH eL) (n1 b o e eH) eL, fun b o e eH => ?_, fun b o e => let ⟨o', e'⟩ := l1 b o e; l2 b o' e'⟩
  by_cases hb : b = L
  · subst hb; exact hL eH (n1 _ o e eH)
  · exact n2 b o (k1 b o e eH hb) (n1 b o e eH)

abbrev False2 : Value → Shared → Prop := fun _ _ => False

def Post {α : Type} (C : Cx) (L : Addr) (H : AH) (s : Shared) (Q : α → Lo → AH → Prop) (a : α) (s' : Shared) : Prop := ∃ ρ' H', St C L ρ' H' s'.heap ∧ Step L H H' s s' ∧ Q a ρ' H'

def W {α : Type} (C : Cx) (A : Around) (L : Addr) (t : Sem α) (ρ : Lo) (H : AH) (Q : α → Lo → AH → Prop) : Prop :=
  ∀ s : Shared, St C L ρ H s.heap → wpAny C.M A t (Post C L H s Q) False2 s

section
variable {α β : Type} {C : Cx} {A : Around} {L : Addr} {ρ : Lo} {H : AH}

theorem W.pure {a : α} {Q : α → Lo → AH → Prop} (h : Q a ρ H) : W C A L (Pure.pure a) ρ H Q := fun s hs => wpAny_pure ⟨ρ, H, hs, .refl .., h⟩
theorem W.mono {t : Sem α} {Q Q' : α → Lo → AH → Prop} (h : W C A L t ρ H Q) (hq : ∀ a ρ' H', Q a ρ' H' → Q' a ρ' H') : W C A L t ρ H Q' := fun s hs =>
  wpAny_mono (h s hs) (fun a s' ⟨ρ', H', x, y, z⟩ => ⟨ρ', H', x, y, hq _ _ _ z⟩) fun _ _ e => e
theorem W.bind {t : Sem α} {f : α → Sem β} {Q : β → Lo → AH → Prop} (h : W C A L t ρ H (fun a ρ' H' => W C A L (f a) ρ' H' Q)) : W C A L (t >>= f) ρ H Q := fun s hs =>
  wpAny_bind (wpAny_mono (h s hs) (fun a s' ⟨ρ', H', x, y, z⟩ => wpAny_mono (z s' x) (fun b s'' ⟨ρ'', H'', x', y', z'⟩ =>
    ⟨ρ'', H'', x', y.trans y' (fun _ _ => x'.nl), z'⟩) fun _ _ e => e) fun _ _ e => e)
theorem W.map {t : Sem α} {f : α → β} {Q : β → Lo → AH → Prop} (h : W C A L t ρ H (fun a => Q (f a))) : W C A L (f <$> t) ρ H Q := fun s hs => wpAny_map (h s hs)
theorem W.holding {vs : List Value} {t : Sem α} {Q : α → Lo → AH → Prop} (h : W C A L t ρ H Q) : W C A L (PySem.holding vs t) ρ H Q := fun s hs => wpAny_holding (h s hs)
theorem W.standAt {p : Pos} {Q : Unit → Lo → AH → Prop} (h : Q () ρ H) : W C A L (PySem.standAt p) ρ H Q := fun s hs => wpAny_standAt ⟨ρ, H, hs, .refl .., h⟩
theorem W.rule {tag : String} {Q : Unit → Lo → AH → Prop} (h : Q () ρ H) : W C A L (PySem.rule tag) ρ H Q := fun s hs => wpAny_rule ⟨ρ, H, hs, .refl .., h⟩
theorem W.ite {c : Prop} [Decidable c] {a b : Sem α} {Q : α → Lo → AH → Prop} (h1 : c → W C A L a ρ H Q) (h2 : ¬ c → W C A L b ρ H Q) : W C A L (if c then a else b) ρ H Q := by
  split
  · exact h1 ‹_›
  · exact h2 ‹_›

/-- continue behind a step of a library rule -/
theorem W.at {t : Sem α} {Q : α → Lo → AH → Prop} {s s' : Shared} {ρ' : Lo} {H' : AH} (h : W C A L t ρ' H' Q) (hs : St C L ρ' H' s'.heap) (hst : Step L H H' s s') :
    wpAny C.M A t (Post C L H s Q) False2 s' :=
  wpAny_mono (h s' hs) (fun a s'' ⟨ρ'', H'', x', y', z'⟩ => ⟨ρ'', H'', x', hst.trans y' (fun _ _ => x'.nl), z'⟩) fun _ _ e => e
theorem W.at2 {t : Sem α} {f : α → Sem β} {Q : β → Lo → AH → Prop} {s s' : Shared} {ρ' : Lo} {H' : AH} (h : W C A L t ρ' H' (fun a ρ2 H2 => W C A L (f a) ρ2 H2 Q)) (hs : St C L ρ' H' s'.heap) (hst : Step L H H' s s') :
    wpAny C.M A t (fun a s2 => wpAny C.M A (f a) (Post C L H s Q) False2 s2) False2 s' :=
  wpAny_mono (h s' hs) (fun a s'' ⟨ρ'', H'', x', y', z'⟩ => z'.at x' (hst.trans y' (fun _ _ => x'.nl))) fun _ _ e => e
theorem W.at3 {γ : Type} {t : Sem α} {f : α → Sem β} {g : α → β → Sem γ} {Q : γ → Lo → AH → Prop} {s s' : Shared} {ρ' : Lo} {H' : AH} (h : W C A L t ρ' H' (fun a ρ2 H2 => W C A L (f a) ρ2 H2 (fun b ρ3 H3 => W C A L (g a b) ρ3 H3 Q))) (hs : St C L ρ' H' s'.heap) (hst : Step L H H' s s') :
    wpAny C.M A t (fun a s2 => wpAny C.M A (f a) (fun b s3 => wpAny C.M A (g a b) (Post C L H s Q) False2 s3) False2 s2) False2 s' :=
  wpAny_mono (h s' hs) (fun a s'' ⟨ρ'', H'', x', y', z'⟩ => z'.at2 x' (hst.trans y' (fun _ _ => x'.nl))) fun _ _ e => e

/-- only tokens, or new untracked objects -/
theorem St.ext {h h' : Heap} (x : St C L ρ H h) (k : ∀ b o, h.get? b = some o → h'.get? b = some o) : St C L ρ H h' where
  keep := fun b o e => k _ _ (x.keep b o e)
  rep := fun a o e => let ⟨c, e1, e2⟩ := x.rep a o e; ⟨c, k _ _ e1, e2⟩
  own := x.own
  loc := let ⟨m, e1, e2⟩ := x.loc; ⟨m, e1.keeps k, e2⟩
  nl := x.nl
  bl := x.bl
theorem Step.ext {s : Shared} {h' : Heap} {tk : Nat} (k : ∀ b o, s.heap.get? b = some o → h'.get? b = some o) : Step L H H s { s with heap := h', toks := tk } :=
  ⟨⟨_, _, rfl⟩, fun b o e _ _ => k b o e, fun _ _ _ e => e, fun b o e => ⟨o, k b o e⟩⟩
theorem Step.toks {s : Shared} {tk : Nat} : Step L H H s { s with toks := tk } := ⟨⟨s.heap, tk, rfl⟩, fun _ _ e _ _ => e, fun _ _ _ e => e, fun _ o e => ⟨o, e⟩⟩

/-- an address that is not tracked, not the base's and not the locals' may change -/
theorem St.off {h h' : Heap} {I : Addr} (x : St C L ρ H h) (hI : H I = none) (hB : C.base.get? I = none) (hL : I ≠ L) (k : ∀ b o, b ≠ I → h.get? b = some o → h'.get? b = some o) : St C L ρ H h' where
  keep := fun b o e => k _ _ (fun q => by rw [q, hB] at e; cases e) (x.keep b o e)
  rep := fun a o e => let ⟨c, e1, e2⟩ := x.rep a o e; ⟨c, k _ _ (fun q => by rw [q, hI] at e; cases e) e1, e2⟩
  own := x.own
  loc := let ⟨m, e1, e2⟩ := x.loc; ⟨m, e1.extBut (b := I) (fun b o hb e => k b o hb e) (Ne.symm hL), e2⟩
  nl := x.nl
  bl := x.bl

theorem St.fresh {h : Heap} (x : St C L ρ H h) {a : Addr} (ha : h.get? a = none) : H a = none ∧ C.base.get? a = none ∧ a ≠ L := by
  refine ⟨?_, ?_, ?_⟩
  · cases e : H a with
    | none => rfl
    | some o => obtain ⟨c, e1, _⟩ := x.rep a o e; rw [ha] at e1; cases e1
  · cases e : C.base.get? a with
    | none => rfl
    | some o => have := x.keep a o e; rw [ha] at this; cases this
  · rintro rfl
    obtain ⟨m, ⟨o, _, _, ho, _⟩, _⟩ := x.loc
    rw [ha] at ho; cases ho

theorem get?_size_none (h : Heap) : h.get? h.objs.size = none := by
  cases e : h.get? h.objs.size with
  | none => rfl
  | some o => exact absurd (Heap.lt_size e) (Nat.lt_irrefl _)

/-- a new tracked object -/
theorem St.alloc {h h' : Heap} {a : Addr} {c : Obj} {o : O} (x : St C L ρ H h) (ha : h.get? a = none) (hc : h'.get? a = some c) (hr : Rep o c) (k : ∀ b o, h.get? b = some o → h'.get? b = some o) : St C L ρ (H.set a o) h' where
  keep := fun b o e => k _ _ (x.keep b o e)
  rep := fun b o' e => by
    by_cases q : b = a
    · subst q; rw [AH.set_same] at e; cases e; exact ⟨c, hc, hr⟩
    · rw [AH.set_ne _ _ q] at e; obtain ⟨c, e1, e2⟩ := x.rep b o' e; exact ⟨c, k _ _ e1, e2⟩
  own := fun b o' e hm => by
    by_cases q : b = a
    · subst q; exact (x.fresh ha).2.1
    · rw [AH.set_ne _ _ q] at e; exact x.own b o' e hm
  loc := let ⟨m, e1, e2⟩ := x.loc; ⟨m, e1.keeps k, e2⟩
  nl := by rw [AH.set_ne _ _ (Ne.symm (x.fresh ha).2.2)]; exact x.nl
  bl := x.bl
theorem Step.alloc {s : Shared} {h' : Heap} {tk : Nat} {a : Addr} {o : O} (ha : s.heap.get? a = none) (k : ∀ b o, s.heap.get? b = some o → h'.get? b = some o) : Step L H (H.set a o) s { s with heap := h', toks := tk } :=
  ⟨⟨_, _, rfl⟩, fun b o e _ _ => k b o e, fun b o e hb => by rw [AH.set_ne _ _ (fun q => by rw [q, ha] at e; cases e)]; exact hb, fun b o e => ⟨o, k b o e⟩⟩

/-- a tracked object changed -/
theorem St.upd {h h' : Heap} {a : Addr} {c : Obj} {o₀ o : O} (x : St C L ρ H h) (hH : H a = some o₀) (hm : o₀.mut = true) (hc : h'.get? a = some c) (hr : Rep o c) (k : ∀ b o, b ≠ a → h.get? b = some o → h'.get? b = some o) : St C L ρ (H.set a o) h' where
  keep := fun b o e => k _ _ (fun q => by rw [q, x.own a o₀ hH hm] at e; cases e) (x.keep b o e)
  rep := fun b o' e => by
    by_cases q : b = a
    · subst q; rw [AH.set_same] at e; cases e; exact ⟨c, hc, hr⟩
    · rw [AH.set_ne _ _ q] at e; obtain ⟨c, e1, e2⟩ := x.rep b o' e; exact ⟨c, k _ _ q e1, e2⟩
  own := fun b o' e hm' => by
    by_cases q : b = a
    · subst q; exact x.own _ _ hH hm
    · rw [AH.set_ne _ _ q] at e; exact x.own b o' e hm'
  loc := let ⟨m, e1, e2⟩ := x.loc; ⟨m, e1.extBut (b := a) (fun b o hb e => k b o hb e) (fun q => by rw [← q, x.nl] at hH; cases hH), e2⟩
  nl := by rw [AH.set_ne _ _ (fun q => by rw [← q, x.nl] at hH; cases hH)]; exact x.nl
  bl := x.bl
theorem Step.upd {s : Shared} {h' : Heap} {tk : Nat} {a : Addr} {c : Obj} {o₀ o : O} (hH : H a = some o₀) (hc : h'.get? a = some c) (k : ∀ b o, b ≠ a → s.heap.get? b = some o → h'.get? b = some o) : Step L H (H.set a o) s { s with heap := h', toks := tk } :=
  ⟨⟨_, _, rfl⟩, fun b o e hb _ => k b o (fun q => by rw [q, hH] at hb; cases hb) e, fun b o e hb => by rw [AH.set_ne _ _ (fun q => by rw [q, hH] at hb; cases hb)]; exact hb, fun b o e => by
    by_cases q : b = a
    · subst q; exact ⟨c, hc⟩
    · exact ⟨o, k b o q e⟩⟩

/-- a local stored -/
theorem St.store {h h' : Heap} {x : Str} {v : Value} {m : Str → Option Value} (X : St C L ρ H h) (hm : ∀ x, (m x).map ab = ρ x) (hn : h'.Ns L (fun y => if y = x then some v else m y)) (hs : Heap.SameBut L h h') : St C L (ρ.set x (ab v)) H h' where
  keep := fun b o e => hs.extBut b o (fun q => by rw [q, X.bl] at e; cases e) (X.keep b o e)
  rep := fun a o e => let ⟨c, e1, e2⟩ := X.rep a o e; ⟨c, hs.extBut _ _ (fun q => by rw [q, X.nl] at e; cases e) e1, e2⟩
  own := X.own
  loc := ⟨_, hn, fun y => by
    unfold Lo.set
    by_cases q : y = x
    · simp [q]
    · simp [q, hm]⟩
  nl := X.nl
  bl := X.bl
theorem Step.store {s : Shared} {h' : Heap} {tk : Nat} {m : Str → Option Value} (hn : h'.Ns L m) (hs : Heap.SameBut L s.heap h') : Step L H H s { s with heap := h', toks := tk } :=
  ⟨⟨_, _, rfl⟩, fun b o e _ hb => hs.extBut b o hb e, fun _ _ _ e => e, fun b o e => by
    by_cases q : b = L
    · subst q; obtain ⟨o', _, _, ho, _⟩ := hn; exact ⟨o', ho⟩
    · exact ⟨o, hs.extBut b o q e⟩⟩

/-- a library rule that changes nothing but tokens -/
theorem W.of_toks {t : Sem α} {R : α → Prop} {Q : α → Lo → AH → Prop}
    (h : ∀ (s : Shared), St C L ρ H s.heap → ∀ Q' : α → Shared → Prop, (∀ a tk, R a → Q' a { s with toks := tk }) → wpAny C.M A t Q' False2 s)
    (hq : ∀ a, R a → Q a ρ H) : W C A L t ρ H Q := fun s hs => h s hs _ fun a tk r => ⟨ρ, H, hs, .toks, hq a r⟩
/-- a library rule that makes untracked objects -/
theorem W.of_ext {t : Sem α} {R : α → Prop} {Q : α → Lo → AH → Prop}
    (h : ∀ (s : Shared), St C L ρ H s.heap → ∀ Q' : α → Shared → Prop, (∀ a h' tk, (∀ b o, s.heap.get? b = some o → h'.get? b = some o) → R a → Q' a { s with heap := h', toks := tk }) → wpAny C.M A t Q' False2 s)
    (hq : ∀ a, R a → Q a ρ H) : W C A L t ρ H Q := fun s hs => h s hs _ fun a _ _ k r => ⟨ρ, H, hs.ext k, .ext k, hq a r⟩
end
end Mine

namespace Mine
open PySem PySem.W PyProof.Rows

/-! ## facts of tracked objects -/
def lst : O → Option (List V)
  | .list vs => some vs
  | .scr vs => some vs
  | _ => none

section
variable {C : Cx} {A : Around} {L : Addr} {ρ : Lo} {H : AH} {h : Heap} {a : Addr} {vs : List V}

theorem St.list (x : St C L ρ H h) {o : O} (e : H a = some o) (hl : lst o = some vs) : ∃ xs : Array Value, h.IsList a xs ∧ xs.toList.map ab = vs ∧ vs.length ≤ sizeLine := by
  obtain ⟨c, hc, r⟩ := x.rep a o e
  cases o <;> simp only [lst] at hl <;> try cases hl
  · obtain ⟨xs, n, rfl, e2, e3⟩ := r; exact ⟨xs, ⟨_, hc, rfl, n, rfl⟩, e2, e3⟩
  · obtain ⟨e1, xs, n, ed, e2, e3⟩ := r; exact ⟨xs, ⟨_, hc, e1, n, ed⟩, e2, e3⟩
theorem St.plist (x : St C L ρ H h) (e : H a = some (.list vs)) : ∃ xs : Array Value, h.PlainList a xs ∧ xs.toList.map ab = vs ∧ vs.length ≤ sizeLine := by
  obtain ⟨c, hc, xs, n, rfl, e2, e3⟩ := x.rep a _ e
  exact ⟨xs, ⟨n, hc⟩, e2, e3⟩
theorem St.tup (x : St C L ρ H h) (e : H a = some (.tup vs)) : ∃ xs : Array Value, IsTup h a xs ∧ xs.toList.map ab = vs ∧ vs.length ≤ sizeLine := by
  obtain ⟨c, hc, xs, n, rfl, e2, e3⟩ := x.rep a _ e
  exact ⟨xs, ⟨_, hc, rfl, n, rfl⟩, e2, e3⟩
theorem St.cell (x : St C L ρ H h) {v : Option V} (e : H a = some (.cell v)) : ∃ u, h.IsCell a u ∧ u.map ab = v := by
  obtain ⟨c, hc, u, e1, e2⟩ := x.rep a _ e
  exact ⟨u, ⟨c, hc, e1⟩, e2⟩
theorem St.func (x : St C L ρ H h) {fd : FuncData} (e : H a = some (.fn fd)) : h.get? a = some { cls := .type "function", data := .func fd } := by
  obtain ⟨c, hc, e1⟩ := x.rep a _ e
  rw [hc, e1]

theorem arr_get {xs : Array Value} {i : Nat} {v : V} (e : xs.toList.map ab = vs) (hi : vs[i]? = some v) : ∃ x, xs[i]? = some x ∧ ab x = v := by
  subst e
  rw [List.getElem?_map] at hi
  cases hx : xs.toList[i]? with
  | none => rw [hx] at hi; cases hi
  | some x => rw [hx] at hi; exact ⟨x, by rw [← Array.getElem?_toList]; exact hx, by simpa using hi⟩
theorem arr_size {xs : Array Value} (e : xs.toList.map ab = vs) : xs.size = vs.length := by subst e; simp
end

structure Fx (C : Cx) (A : Around) (env : Env) : Prop where
  kind : env.scope.kind = .function
  gl : env.globals = mainGlobals
  bu : env.builtins = builtinsNs
  hh : A.handled = none

section
variable {C : Cx} {A : Around} {env : Env} {ρ : Lo} {H : AH}

theorem W.operate {L : Addr} {ops : List Value} {t : Sem Value} {Q : Value → Lo → AH → Prop} (h : W C A L t ρ H Q) : W C A L (PySem.operate ops t) ρ H Q := by
  refine W.bind (W.holding (W.mono h fun v ρ' H' q => ?_))
  refine W.bind (fun s hs => wpAny_release ⟨ρ', H', hs, .refl .., ?_⟩)
  exact W.pure q

theorem W.BinOp {l r : Expr} {op : Operator} {pos : Pos} {Q : Value → Lo → AH → Prop} {L : Addr}
    (h : W C A L (eval l env) ρ H (fun a ρ1 H1 => W C A L (eval r env) ρ1 H1 (fun b ρ2 H2 => W C A L (binaryOp op a b) ρ2 H2 Q))) :
    W C A L (eval (.BinOp l op r pos) env) ρ H Q := fun s hs => wpAny_BinOp (h.at3 hs (.refl ..))
theorem W.Compare1 {l r : Expr} {op : CmpOp} {pos : Pos} {Q : Value → Lo → AH → Prop} {L : Addr} (hm : behindInMarks op r = false)
    (h : W C A L (eval l env) ρ H (fun a ρ1 H1 => W C A L (eval r env) ρ1 H1 (fun b ρ2 H2 => W C A L (compareOp op a b) ρ2 H2 Q))) :
    W C A L (eval (.Compare l [op] [r] pos) env) ρ H Q := fun s hs => wpAny_Compare1 (h.at3 hs (.refl ..)) hm
theorem W.UnaryOp {x : Expr} {op : UnaryOp} {pos : Pos} {Q : Value → Lo → AH → Prop} {L : Addr}
    (h : W C A L (eval x env) ρ H (fun a ρ1 H1 => W C A L (unaryOp op a) ρ1 H1 Q)) :
    W C A L (eval (.UnaryOp op x pos) env) ρ H Q := fun s hs => wpAny_UnaryOp (h.at2 hs (.refl ..))
theorem W.Subscript {o i : Expr} {pos : Pos} {Q : Value → Lo → AH → Prop} {L : Addr}
    (h : W C A L (eval o env) ρ H (fun a ρ1 H1 => W C A L (eval i env) ρ1 H1 (fun b ρ2 H2 => W C A L (subscriptTail o i a b) ρ2 H2 Q))) :
    W C A L (eval (.Subscript o i pos) env) ρ H Q := fun s hs => Subscript_ (h.at3 hs (.refl ..))

/-! ## pure evaluation -/
def Ev (C : Cx) (A : Around) (env : Env) (ρ : Lo) (H : AH) (e : Expr) (v : V) : Prop :=
  W C A env.locals (eval e env) ρ H (fun x ρ' H' => ρ' = ρ ∧ H' = H ∧ ab x = v)
def EvT (C : Cx) (A : Around) (env : Env) (ρ : Lo) (H : AH) (e : Expr) (b : Bool) : Prop :=
  W C A env.locals (isTrue e env (eval e env)) ρ H (fun x ρ' H' => ρ' = ρ ∧ H' = H ∧ x = b)

theorem Ev.then {e : Expr} {v : V} {f : Value → Sem β} {Q : β → Lo → AH → Prop} (h : Ev C A env ρ H e v) (k : ∀ x, ab x = v → W C A env.locals (f x) ρ H Q) :
    W C A env.locals (eval e env) ρ H (fun x ρ1 H1 => W C A env.locals (f x) ρ1 H1 Q) :=
  W.mono h (by rintro x _ _ ⟨rfl, rfl, e⟩; exact k x e)

theorem Ev.local {x : Str} {pos : Pos} {v : V} (F : Fx C A env) (hl : env.kindOf x = some .local) (hv : ρ x = some v) (hd : (x == ("__debug__" : Str)) = false := by decide) : Ev C A env ρ H (.Name x pos) v := fun s hs => by
  obtain ⟨m, hn, hm⟩ := hs.loc
  have := hm x
  rw [hv] at this
  cases hx : m x with
  | none => rw [hx] at this; cases this
  | some y =>
    rw [hx] at this
    exact wpAny_Name (wpAny_loadName_local F.kind hl hn hx ⟨ρ, H, hs, .refl .., rfl, rfl, by simpa using this⟩) hd
theorem Ev.cell {x : Str} {pos : Pos} {v : V} {c : Addr} (F : Fx C A env) (hl : env.kindOf x = some .cell) (hc : env.cells.lookup x = some c) (hv : H c = some (.cell (some v))) (hd : (x == ("__debug__" : Str)) = false := by decide) : Ev C A env ρ H (.Name x pos) v := fun s hs => by
  obtain ⟨u, h1, h2⟩ := hs.cell hv
  cases u with
  | none => cases h2
  | some y => exact wpAny_Name (wpAny_loadName_cell F.kind hl hc h1 ⟨ρ, H, hs, .refl .., rfl, rfl, by simpa using h2⟩) hd
theorem Ev.free {x : Str} {pos : Pos} {v : V} {c : Addr} (F : Fx C A env) (hl : env.kindOf x = some .free) (hc : env.cells.lookup x = some c) (hv : H c = some (.cell (some v))) (hd : (x == ("__debug__" : Str)) = false := by decide) (hn : (x == ("__classdict__" : Str)) = false := by decide) : Ev C A env ρ H (.Name x pos) v := fun s hs => by
  obtain ⟨u, h1, h2⟩ := hs.cell hv
  cases u with
  | none => cases h2
  | some y => exact wpAny_Name (wpAny_loadName_free F.kind hl hc h1 ⟨ρ, H, hs, .refl .., rfl, rfl, by simpa using h2⟩ hn) hd
theorem Ev.glob {x : Str} {pos : Pos} {v : Value} (F : Fx C A env) (hl : env.kindOf x = some .globalImplicit) (hv : C.gl x = some v) (hd : (x == ("__debug__" : Str)) = false := by decide) : Ev C A env ρ H (.Name x pos) (ab v) := fun s hs => by
  refine wpAny_Name ?_ hd
  rw [loadName_read F.kind hl]
  unfold loadGlobal
  unfold Cx.gl at hv
  refine wpAny_bind (wpAny_nsGet (by rw [F.gl]; exact C.hg.keeps hs.keep) ?_)
  cases hm : C.mg x with
  | some y =>
    rw [hm] at hv; cases hv
    exact wpAny_pure ⟨ρ, H, hs, .refl .., rfl, rfl, rfl⟩
  | none =>
    rw [hm] at hv
    dsimp only
    refine wpAny_bind (wpAny_nsGet (by rw [F.bu]; exact C.hb.keeps hs.keep) ?_)
    dsimp only at hv
    rw [hv]
    exact wpAny_pure ⟨ρ, H, hs, .refl .., rfl, rfl, rfl⟩

theorem Ev.int {i : Int} {k : Nat} {pos : Pos} : Ev C A env ρ H (.Constant (.int i) k pos) (.int i) := fun s hs => wpAny_Constant_int ⟨ρ, H, hs, .toks, rfl, rfl, rfl⟩
theorem Ev.str {x : Str} {k : Nat} {pos : Pos} : Ev C A env ρ H (.Constant (.str x) k pos) (.str x) := fun s hs => wpAny_Constant_str ⟨ρ, H, hs, .toks, rfl, rfl, rfl⟩
theorem Ev.none {k : Nat} {pos : Pos} : Ev C A env ρ H (.Constant .none k pos) .none := fun s hs => wpAny_Constant_none ⟨ρ, H, hs, .refl .., rfl, rfl, rfl⟩
theorem Ev.bool {b : Bool} {k : Nat} {pos : Pos} : Ev C A env ρ H (.Constant (.bool b) k pos) (.bool b) := fun s hs => wpAny_Constant_bool ⟨ρ, H, hs, .refl .., rfl, rfl, rfl⟩

theorem Ev.bin {l r : Expr} {op : Operator} {pos : Pos} {a b v : V} (h1 : Ev C A env ρ H l a) (h2 : Ev C A env ρ H r b)
    (h : ∀ x y, ab x = a → ab y = b → W C A env.locals (binaryOp op x y) ρ H (fun z ρ' H' => ρ' = ρ ∧ H' = H ∧ ab z = v)) : Ev C A env ρ H (.BinOp l op r pos) v :=
  W.BinOp (W.mono h1 (by rintro x _ _ ⟨rfl, rfl, e⟩; exact h2.then fun y e' => h x y e e'))
theorem Ev.add {l r : Expr} {pos : Pos} {a b : Int} (h1 : Ev C A env ρ H l (.int a)) (h2 : Ev C A env ρ H r (.int b)) : Ev C A env ρ H (.BinOp l .Add r pos) (.int (a + b)) :=
  Ev.bin h1 h2 fun x y e e' => by
    obtain ⟨t, rfl⟩ := ab_int e; obtain ⟨u, rfl⟩ := ab_int e'
    exact fun s hs => add_int ⟨ρ, H, hs, .toks, rfl, rfl, rfl⟩
theorem Ev.sub {l r : Expr} {pos : Pos} {a b : Int} (h1 : Ev C A env ρ H l (.int a)) (h2 : Ev C A env ρ H r (.int b)) : Ev C A env ρ H (.BinOp l .Sub r pos) (.int (a - b)) :=
  Ev.bin h1 h2 fun x y e e' => by
    obtain ⟨t, rfl⟩ := ab_int e; obtain ⟨u, rfl⟩ := ab_int e'
    exact fun s hs => sub_int' ⟨ρ, H, hs, .toks, rfl, rfl, rfl⟩
theorem Ev.mul {l r : Expr} {pos : Pos} {a b : Int} (h1 : Ev C A env ρ H l (.int a)) (h2 : Ev C A env ρ H r (.int b)) (hm : IntMulOk a b) : Ev C A env ρ H (.BinOp l .Mult r pos) (.int (a * b)) :=
  Ev.bin h1 h2 fun x y e e' => by
    obtain ⟨t, rfl⟩ := ab_int e; obtain ⟨u, rfl⟩ := ab_int e'
    exact fun s hs => mul_int ⟨ρ, H, hs, .toks, rfl, rfl, rfl⟩ hm
theorem Ev.mod {l r : Expr} {pos : Pos} {a b : Int} (h1 : Ev C A env ρ H l (.int a)) (h2 : Ev C A env ρ H r (.int b)) (hb : b ≠ 0) : Ev C A env ρ H (.BinOp l .Mod r pos) (.int (a.fmod b)) :=
  Ev.bin h1 h2 fun x y e e' => by
    obtain ⟨t, rfl⟩ := ab_int e; obtain ⟨u, rfl⟩ := ab_int e'
    exact fun s hs => mod_int' hb ⟨ρ, H, hs, .toks, rfl, rfl, rfl⟩
theorem Ev.fdiv {l r : Expr} {pos : Pos} {a b : Int} (h1 : Ev C A env ρ H l (.int a)) (h2 : Ev C A env ρ H r (.int b)) (hb : 0 < b) (hb' : b < 1000000) : Ev C A env ρ H (.BinOp l .FloorDiv r pos) (.int (a.fdiv b)) :=
  Ev.bin h1 h2 fun x y e e' => by
    obtain ⟨t, rfl⟩ := ab_int e; obtain ⟨u, rfl⟩ := ab_int e'
    exact fun s hs => floordiv_int (by omega) ⟨ρ, H, hs, .toks, rfl, rfl, rfl⟩ (Or.inl (PyProof.noPylong_small (by omega)))
theorem Ev.neg {x : Expr} {pos : Pos} {a : Int} (h1 : Ev C A env ρ H x (.int a)) : Ev C A env ρ H (.UnaryOp .USub x pos) (.int (-a)) :=
  W.UnaryOp (h1.then fun y e => by
    obtain ⟨t, rfl⟩ := ab_int e
    exact fun s hs => neg_int ⟨ρ, H, hs, .toks, rfl, rfl, rfl⟩)

/-! comparisons of ints -/
def icmp : CmpOp → Int → Int → Option Bool
  | .Lt, a, b => some (decide (a < b))
  | .LtE, a, b => some (decide (a ≤ b))
  | .Gt, a, b => some (decide (b < a))
  | .GtE, a, b => some (decide (b ≤ a))
  | .Eq, a, b => some (a == b)
  | .NotEq, a, b => some (a != b)
  | _, _, _ => none

theorem W.icmp {L : Addr} {op : CmpOp} {a b : Int} {c : Bool} {x y : Value} {Q : Value → Lo → AH → Prop} (hx : ab x = .int a) (hy : ab y = .int b) (hc : icmp op a b = some c) (h : Q (.bool c) ρ H) : W C A L (compareOp op x y) ρ H Q := by
  obtain ⟨t, rfl⟩ := ab_int hx; obtain ⟨u, rfl⟩ := ab_int hy
  intro s hs
  have k : Post C L H s Q (Value.bool c) s := ⟨ρ, H, hs, .refl .., h⟩
  cases op <;> simp only [Mine.icmp] at hc <;> cases hc
  · exact eq_int k
  · exact ne_int k
  · exact lt_int k
  · exact le_int k
  · exact gt_int k
  · exact ge_int k
theorem Ev.icmp {l r : Expr} {op : CmpOp} {pos : Pos} {a b : Int} {c : Bool} (h1 : Ev C A env ρ H l (.int a)) (h2 : Ev C A env ρ H r (.int b)) (hc : Mine.icmp op a b = some c) (hm : behindInMarks op r = false := by with_unfolding_all rfl) :
    Ev C A env ρ H (.Compare l [op] [r] pos) (.bool c) :=
  W.Compare1 hm (W.mono h1 (by rintro x _ _ ⟨rfl, rfl, e⟩; exact h2.then fun y e' => W.icmp e e' hc ⟨rfl, rfl, rfl⟩))

theorem W.isTrue_Compare1 {l r : Expr} {op : CmpOp} {pos : Pos} {whole : Sem Value} {Q : Bool → Lo → AH → Prop} {L : Addr} (hm : behindInMarks op r = false)
    (h : W C A L (eval l env) ρ H (fun a ρ1 H1 => W C A L (eval r env) ρ1 H1 (fun b ρ2 H2 => W C A L (compareOp op a b) ρ2 H2 (fun c ρ3 H3 => W C A L (truthy c) ρ3 H3 Q)))) :
    W C A L (isTrue (.Compare l [op] [r] pos) env whole) ρ H Q := fun s hs => by
  refine wpAny_isTrue_Compare1 ?_ hm
  exact wpAny_mono (h s hs) (fun a s1 ⟨ρ1, H1, x1, y1, z1⟩ => z1.at3 x1 y1) fun _ _ e => e
theorem W.truthy_bool {L : Addr} {b : Bool} {Q : Bool → Lo → AH → Prop} (h : Q b ρ H) : W C A L (truthy (.bool b)) ρ H Q := fun s hs => wpAny_truthy_bool ⟨ρ, H, hs, .refl .., h⟩
theorem EvT.icmp {l r : Expr} {op : CmpOp} {pos : Pos} {a b : Int} {c : Bool} (h1 : Ev C A env ρ H l (.int a)) (h2 : Ev C A env ρ H r (.int b)) (hc : Mine.icmp op a b = some c) (hm : behindInMarks op r = false := by with_unfolding_all rfl) :
    EvT C A env ρ H (.Compare l [op] [r] pos) c :=
  W.isTrue_Compare1 hm (W.mono h1 (by rintro x _ _ ⟨rfl, rfl, e⟩; exact h2.then fun y e' => W.icmp e e' hc (W.truthy_bool ⟨rfl, rfl, rfl⟩)))

/-! is None -/
theorem beq_none {x : Value} {a : V} (h : ab x = a) : (x == Value.none) = decide (a = .none) := by
  subst h
  cases x <;> simp [ab]
theorem EvT.isNone {l : Expr} {k : Nat} {p pos : Pos} {a : V} (h1 : Ev C A env ρ H l a) : EvT C A env ρ H (.Compare l [.Is] [.Constant .none k p] pos) (decide (a = .none)) :=
  W.isTrue_Compare1 rfl (W.mono h1 (by
    rintro x _ _ ⟨rfl, rfl, e⟩
    refine Ev.none.then fun y e' => ?_
    rw [ab_none e']
    intro s hs
    refine is_none_gen ⟨_, _, hs, .refl .., ?_⟩
    rw [beq_none e]
    exact W.truthy_bool ⟨rfl, rfl, rfl⟩))
theorem EvT.isNotNone {l : Expr} {k : Nat} {p pos : Pos} {a : V} (h1 : Ev C A env ρ H l a) : EvT C A env ρ H (.Compare l [.IsNot] [.Constant .none k p] pos) (!decide (a = .none)) :=
  W.isTrue_Compare1 rfl (W.mono h1 (by
    rintro x _ _ ⟨rfl, rfl, e⟩
    refine Ev.none.then fun y e' => ?_
    rw [ab_none e']
    intro s hs
    refine isNot_none ⟨_, _, hs, .refl .., ?_⟩
    rw [beq_none e]
    exact W.truthy_bool ⟨rfl, rfl, rfl⟩))

/-! truth -/
def truth (H : AH) : V → Option Bool
  | .none => some false
  | .bool b => some b
  | .int i => some (i != 0)
  | .str x => some (decide (x.length ≠ 0))
  | .ref a => match H a with
    | some (.list vs) => some (!vs.isEmpty)
    | some (.scr vs) => some (!vs.isEmpty)
    | some (.tup vs) => some (!vs.isEmpty)
    | _ => none
  | _ => none

theorem W.truthy {L : Addr} {x : Value} {b : Bool} {Q : Bool → Lo → AH → Prop} (hb : truth H (ab x) = some b) (hx : ∀ y t, x = .str y t → y.length ≤ sizeLine) (h : Q b ρ H) : W C A L (PySem.truthy x) ρ H Q := fun s hs => by
  have hsl : (sizeLine : Int) < 2 ^ 63 := by decide
  cases x with
  | none => cases hb; exact truthy_none ⟨ρ, H, hs, .refl .., h⟩
  | bool c => cases hb; exact wpAny_truthy_bool ⟨ρ, H, hs, .refl .., h⟩
  | int i t => cases hb; exact truthy_int ⟨ρ, H, hs, .refl .., h⟩
  | str y t =>
    cases hb
    have := hx y t rfl
    refine P.truthy_str (by omega) ⟨ρ, H, hs, .toks, ?_⟩
    have e : ((y.length : Int) != 0) = decide (y.length ≠ 0) := by
      by_cases q : y.length = 0 <;> simp [q]
    rw [e]; exact h
  | ref a =>
    simp only [ab, truth] at hb
    split at hb
    · rename_i vs e; cases hb
      obtain ⟨xs, h1, h2, h3⟩ := hs.list e (vs := vs) rfl
      refine wpAny_truthy_list h1 (by rw [arr_size h2]; omega) ⟨ρ, H, hs, .toks, ?_⟩
      have e : xs.isEmpty = vs.isEmpty := by subst h2; obtain ⟨l⟩ := xs; cases l <;> simp
      rw [e]; exact h
    · rename_i vs e; cases hb
      obtain ⟨xs, h1, h2, h3⟩ := hs.list e (vs := vs) rfl
      refine wpAny_truthy_list h1 (by rw [arr_size h2]; omega) ⟨ρ, H, hs, .toks, ?_⟩
      have e : xs.isEmpty = vs.isEmpty := by subst h2; obtain ⟨l⟩ := xs; cases l <;> simp
      rw [e]; exact h
    · rename_i vs e; cases hb
      obtain ⟨xs, h1, h2, h3⟩ := hs.tup e
      refine truthy_tuple h1 (by rw [arr_size h2]; omega) ⟨ρ, H, hs, .toks, ?_⟩
      have e : xs.isEmpty = vs.isEmpty := by subst h2; obtain ⟨l⟩ := xs; cases l <;> simp
      rw [e]; exact h
    · cases hb
  | _ => cases hb

theorem EvT.of {e : Expr} {v : V} {b : Bool} (h : Ev C A env ρ H e v) (hb : truth H v = some b) (hs : ∀ x, v = .str x → x.length ≤ sizeLine)
    (he : isTrue e env (eval e env) = (do let v ← eval e env; standAt e.pos; holding [v] (PySem.truthy v)) := by rfl) : EvT C A env ρ H e b := by
  unfold EvT
  rw [he]
  exact W.bind (h.then fun x ex => W.bind (W.standAt (W.holding (W.truthy (by rw [ex]; exact hb) (fun y t ey => hs y (by rw [← ex, ey]; rfl)) ⟨rfl, rfl, rfl⟩))))
theorem EvT.not {x : Expr} {pos : Pos} {b : Bool} (h : EvT C A env ρ H x b) : EvT C A env ρ H (.UnaryOp .Not x pos) (!b) := fun s hs =>
  wpAny_isTrue_Not (wpAny_mono (h s hs) (fun c s' ⟨ρ', H', x', y', e1, e2, e3⟩ => ⟨ρ', H', x', y', e1, e2, by rw [e3]⟩) fun _ _ e => e)
theorem Ev.not {x : Expr} {pos : Pos} {v : V} {b : Bool} (h : Ev C A env ρ H x v) (hb : truth H v = some b) (hs : ∀ x, v = .str x → x.length ≤ sizeLine) : Ev C A env ρ H (.UnaryOp .Not x pos) (.bool (!b)) :=
  W.UnaryOp (h.then fun y e s hs' => not_of (wpAny_mono (W.truthy (by rw [e]; exact hb) (fun z t ez => hs z (by rw [← e, ez]; rfl)) (Q := fun c ρ' H' => ρ' = ρ ∧ H' = H ∧ c = b) ⟨rfl, rfl, rfl⟩ s hs')
    (fun c s' ⟨ρ', H', x', y', e1, e2, e3⟩ => ⟨ρ', H', x', y', e1, e2, by rw [e3]; rfl⟩) fun _ _ e => e))

def AllT (C : Cx) (A : Around) (env : Env) (ρ : Lo) (H : AH) (op : BoolOp) (es : List Expr) (b : Bool) : Prop :=
  W C A env.locals (allTrue op es env) ρ H (fun x ρ' H' => ρ' = ρ ∧ H' = H ∧ x = b)
theorem EvT.boolop {op : BoolOp} {es : List Expr} {pos : Pos} {b : Bool} (h : AllT C A env ρ H op es b) : EvT C A env ρ H (.BoolOp op es pos) b := fun s hs => wpAny_isTrue_BoolOp (h s hs)
theorem AllT.and_nil : AllT C A env ρ H .And [] true := fun s hs => wpAny_allTrue_And_nil ⟨ρ, H, hs, .refl .., rfl, rfl, rfl⟩
theorem AllT.or_nil : AllT C A env ρ H .Or [] false := fun s hs => wpAny_allTrue_Or_nil ⟨ρ, H, hs, .refl .., rfl, rfl, rfl⟩
theorem AllT.and_cons {e : Expr} {es : List Expr} {b c : Bool} (h : EvT C A env ρ H e b) (h2 : b = true → AllT C A env ρ H .And es c) : AllT C A env ρ H .And (e :: es) (b && c) := fun s hs =>
  wpAny_allTrue_And_cons (wpAny_mono (h s hs) (fun x s1 ⟨ρ1, H1, x1, y1, e1, e2, e3⟩ => by
    subst e1 e2 e3
    cases x with
    | true => exact (h2 rfl).at x1 y1
    | false => exact ⟨_, _, x1, y1, rfl, rfl, rfl⟩) fun _ _ e => e)
theorem AllT.or_cons {e : Expr} {es : List Expr} {b c : Bool} (h : EvT C A env ρ H e b) (h2 : b = false → AllT C A env ρ H .Or es c) : AllT C A env ρ H .Or (e :: es) (b || c) := fun s hs =>
  wpAny_allTrue_Or_cons (wpAny_mono (h s hs) (fun x s1 ⟨ρ1, H1, x1, y1, e1, e2, e3⟩ => by
    subst e1 e2 e3
    cases x with
    | false => exact (h2 rfl).at x1 y1
    | true => exact ⟨_, _, x1, y1, rfl, rfl, rfl⟩) fun _ _ e => e)

theorem Ev.ifexp {t b o : Expr} {pos : Pos} {c : Bool} {v : V} (h : EvT C A env ρ H t c) (h1 : c = true → Ev C A env ρ H b v) (h2 : c = false → Ev C A env ρ H o v) : Ev C A env ρ H (.IfExp t b o pos) v := fun s hs =>
  wpAny_IfExp (wpAny_mono (h s hs) (fun x s1 ⟨ρ1, H1, x1, y1, e1, e2, e3⟩ => by
    subst e1 e2 e3
    cases x with
    | true => exact (h1 rfl).at x1 y1
    | false => exact (h2 rfl).at x1 y1) fun _ _ e => e)

/-! items -/
theorem Ev.item {o i : Expr} {pos : Pos} {a : Addr} {ob : O} {vs : List V} {k : Int} {v : V} (h1 : Ev C A env ρ H o (.ref a)) (h2 : Ev C A env ρ H i (.int k)) (hH : H a = some ob) (hl : lst ob = some vs) (h0 : 0 ≤ k) (hx : vs[k.toNat]? = some v)
    (hs : ∀ t, subscripted i false (.ref a) (.int k t) = operate [.ref a, .int k t] (getItem (.ref a) (.int k t)) := by intro _; with_unfolding_all rfl) : Ev C A env ρ H (.Subscript o i pos) v :=
  W.Subscript (W.mono h1 (by
    rintro x _ _ ⟨rfl, rfl, e⟩
    refine h2.then fun y e' => ?_
    cases ab_ref e
    obtain ⟨t, rfl⟩ := ab_int e'
    intro s hst
    obtain ⟨xs, q1, q2, q3⟩ := hst.list hH hl
    obtain ⟨y, y1, y2⟩ := arr_get q2 hx
    have hlt : k.toNat < vs.length := (List.getElem?_eq_some_iff.mp hx).1
    have hsl : (sizeLine : Int) < 2 ^ 63 := by decide
    exact tail_any q1.typeIs slot_list_getitem.lookup (wpAny_getItem_list q1 h0 (by omega) y1 ⟨_, _, hst, .refl .., rfl, rfl, y2⟩) (hs t)))
theorem Ev.titem {o i : Expr} {pos : Pos} {a : Addr} {vs : List V} {k : Int} {v : V} (h1 : Ev C A env ρ H o (.ref a)) (h2 : Ev C A env ρ H i (.int k)) (hH : H a = some (.tup vs)) (h0 : 0 ≤ k) (hx : vs[k.toNat]? = some v)
    (hs : ∀ t, subscripted i false (.ref a) (.int k t) = operate [.ref a, .int k t] (getItem (.ref a) (.int k t)) := by intro _; with_unfolding_all rfl) : Ev C A env ρ H (.Subscript o i pos) v :=
  W.Subscript (W.mono h1 (by
    rintro x _ _ ⟨rfl, rfl, e⟩
    refine h2.then fun y e' => ?_
    cases ab_ref e
    obtain ⟨t, rfl⟩ := ab_int e'
    intro s hst
    obtain ⟨xs, q1, q2, q3⟩ := hst.tup hH
    obtain ⟨y, y1, y2⟩ := arr_get q2 hx
    have hlt : k.toNat < vs.length := (List.getElem?_eq_some_iff.mp hx).1
    have hsl : (sizeLine : Int) < 2 ^ 63 := by decide
    refine item_tupleT (l := xs.toList) (by simpa using q1) (by omega) (by omega) (j := k.toNat) ?_ (by rw [Array.getElem?_toList]; exact y1) ⟨_, _, hst, .refl .., rfl, rfl, y2⟩ (hs t)
    have : xs.toList.length = vs.length := by rw [← q2]; simp
    unfold seqIndex?
    have h0' : ¬ k < 0 := by omega
    simp only [h0', if_false, this]
    rw [if_pos (by simp; omega)]))
end
end Mine

namespace Mine
open PySem PySem.W PyProof.Rows

inductive Fl where
  | next | brk | cont | ret (v : V)
def abF : Flow → Fl
  | .next => .next
  | .brk => .brk
  | .cont => .cont
  | .ret v => .ret (ab v)

def WE (C : Cx) (A : Around) (env : Env) (e : Expr) (ρ : Lo) (H : AH) (Q : V → AH → Prop) : Prop :=
  W C A env.locals (eval e env) ρ H (fun v ρ' H' => ρ' = ρ ∧ Q (ab v) H')
def WT (C : Cx) (A : Around) (env : Env) (e : Expr) (ρ : Lo) (H : AH) (Q : Bool → AH → Prop) : Prop :=
  W C A env.locals (isTrue e env (eval e env)) ρ H (fun b ρ' H' => ρ' = ρ ∧ Q b H')
def WS (C : Cx) (A : Around) (env : Env) (ss : List Stmt) (ρ : Lo) (H : AH) (Q : Fl → Lo → AH → Prop) : Prop :=
  W C A env.locals (execs ss env) ρ H (fun f ρ' H' => Q (abF f) ρ' H')
def W1 (C : Cx) (A : Around) (env : Env) (st : Stmt) (ρ : Lo) (H : AH) (Q : Fl → Lo → AH → Prop) : Prop :=
  W C A env.locals (exec st env) ρ H (fun f ρ' H' => Q (abF f) ρ' H')
def WCall (C : Cx) (A : Around) (f : V) (args : List V) (kw : List (Str × V)) (H : AH) (Q : V → AH → Prop) : Prop :=
  ∀ L ρ (fv : Value) (vals : List Value) (kvs : List (Str × Value)), ab fv = f → vals.map ab = args → kvs.map (fun p => (p.1, ab p.2)) = kw →
    W C A L (call fv vals kvs) ρ H (fun v ρ' H' => ρ' = ρ ∧ Q (ab v) H')
theorem WCall.mono {C : Cx} {A : Around} {f : V} {args : List V} {kw : List (Str × V)} {H : AH} {Q Q' : V → AH → Prop} (h : WCall C A f args kw H Q) (hq : ∀ v H', Q v H' → Q' v H') : WCall C A f args kw H Q' :=
  fun L ρ fv vals kvs a b c => W.mono (h L ρ fv vals kvs a b c) fun _ _ _ q => ⟨q.1, hq _ _ q.2⟩

section
variable {C : Cx} {A : Around} {env : Env} {ρ : Lo} {H : AH}

theorem WE.of {e : Expr} {v : V} {Q : V → AH → Prop} (h : Ev C A env ρ H e v) (q : Q v H) : WE C A env e ρ H Q := W.mono h (by rintro x _ _ ⟨rfl, rfl, rfl⟩; exact ⟨rfl, q⟩)
theorem WE.mono {e : Expr} {Q Q' : V → AH → Prop} (h : WE C A env e ρ H Q) (hq : ∀ v H', Q v H' → Q' v H') : WE C A env e ρ H Q' := W.mono h fun _ _ _ q => ⟨q.1, hq _ _ q.2⟩
theorem WE.ev {e : Expr} {v : V} (h : WE C A env e ρ H (fun v' H' => v' = v ∧ H' = H)) : Ev C A env ρ H e v := W.mono h (by rintro x _ _ ⟨rfl, rfl, rfl⟩; exact ⟨rfl, rfl, rfl⟩)
theorem WT.of {e : Expr} {b : Bool} {Q : Bool → AH → Prop} (h : EvT C A env ρ H e b) (q : Q b H) : WT C A env e ρ H Q := W.mono h (by rintro x _ _ ⟨rfl, rfl, rfl⟩; exact ⟨rfl, q⟩)
theorem WE.then {β : Type} {e : Expr} {f : Value → Sem β} {Q : β → Lo → AH → Prop} (h : WE C A env e ρ H (fun v H1 => ∀ x, ab x = v → W C A env.locals (f x) ρ H1 Q)) :
    W C A env.locals (eval e env) ρ H (fun x ρ1 H1 => W C A env.locals (f x) ρ1 H1 Q) := W.mono h (by rintro x _ _ ⟨rfl, q⟩; exact q x rfl)
theorem WS.mono {ss : List Stmt} {Q Q' : Fl → Lo → AH → Prop} (h : WS C A env ss ρ H Q) (hq : ∀ f ρ' H', Q f ρ' H' → Q' f ρ' H') : WS C A env ss ρ H Q' := W.mono h fun _ _ _ q => hq _ _ _ q
theorem W1.mono {ss : Stmt} {Q Q' : Fl → Lo → AH → Prop} (h : W1 C A env ss ρ H Q) (hq : ∀ f ρ' H', Q f ρ' H' → Q' f ρ' H') : W1 C A env ss ρ H Q' := W.mono h fun _ _ _ q => hq _ _ _ q

theorem WS.nil {Q : Fl → Lo → AH → Prop} (h : Q .next ρ H) : WS C A env [] ρ H Q := fun s hs => wpAny_execs_nil ⟨ρ, H, hs, .refl .., h⟩
theorem WS.cons {st : Stmt} {rest : List Stmt} {Q : Fl → Lo → AH → Prop} (h : W1 C A env st ρ H (fun f ρ1 H1 => match f with | .next => WS C A env rest ρ1 H1 Q | f => Q f ρ1 H1)) : WS C A env (st :: rest) ρ H Q := fun s hs =>
  wpAny_execs_cons (wpAny_mono (h s hs) (fun f s' ⟨ρ', H', x, y, z⟩ => by
    cases f with
    | next => exact W.at z x y
    | brk => exact ⟨ρ', H', x, y, z⟩
    | cont => exact ⟨ρ', H', x, y, z⟩
    | ret v => exact ⟨ρ', H', x, y, z⟩) fun _ _ e => e)
/-- a statement that goes on -/
theorem WS.seq {st : Stmt} {rest : List Stmt} {Q : Fl → Lo → AH → Prop} (h : W1 C A env st ρ H (fun f ρ1 H1 => f = .next ∧ WS C A env rest ρ1 H1 Q)) : WS C A env (st :: rest) ρ H Q :=
  WS.cons (W1.mono h fun f ρ' H' q => by obtain ⟨rfl, q⟩ := q; exact q)

theorem W1.ret {e : Expr} {pos : Pos} {Q : Fl → Lo → AH → Prop} (h : WE C A env e ρ H (fun v H1 => Q (.ret v) ρ H1)) : W1 C A env (.Return (some e) pos) ρ H Q := fun s hs =>
  wpAny_Return_some (wpAny_mono (h s hs) (fun v s' ⟨ρ', H', x, y, z⟩ => ⟨ρ', H', x, y, by rw [z.1]; exact z.2⟩) fun _ _ e => e)
theorem W1.if {t : Expr} {b o : List Stmt} {pos : Pos} {Q : Fl → Lo → AH → Prop} (h : WT C A env t ρ H (fun c H1 => (c = true → WS C A env b ρ H1 Q) ∧ (c = false → WS C A env o ρ H1 Q))) : W1 C A env (.If t b o pos) ρ H Q := fun s hs =>
  wpAny_If (wpAny_mono (h s hs) (fun c s' ⟨ρ', H', x, y, z1, z2⟩ => by
    subst z1
    cases c with
    | true => exact W.at (z2.1 rfl) x y
    | false => exact W.at (z2.2 rfl) x y) fun _ _ e => e)
theorem W1.pass {pos : Pos} {Q : Fl → Lo → AH → Prop} (h : Q .next ρ H) : W1 C A env (.Pass pos) ρ H Q := fun s hs => wpAny_Pass ⟨ρ, H, hs, .refl .., h⟩
theorem W1.break {pos : Pos} {Q : Fl → Lo → AH → Prop} (h : Q .brk ρ H) : W1 C A env (.Break pos) ρ H Q := fun s hs => wpAny_Break ⟨ρ, H, hs, .refl .., h⟩

/-! ## stores -/
theorem W.storeLocal {x : Str} {v : Value} {Q : Unit → Lo → AH → Prop} (F : Fx C A env) (hl : env.kindOf x = some .local) (h : Q () (ρ.set x (ab v)) H) : W C A env.locals (storeName env x v) ρ H Q := fun s hs => by
  obtain ⟨m, hn, hm⟩ := hs.loc
  exact wpAny_storeName_local hl hn (fun h' hn' hsb => ⟨_, H, hs.store hm hn' hsb, .store hn' hsb, h⟩) (by simp [F.kind])
theorem W.storeCell {x : Str} {v : Value} {c : Addr} {o : Option V} {Q : Unit → Lo → AH → Prop} (F : Fx C A env) (hl : env.kindOf x = some .cell) (hc : env.cells.lookup x = some c) (hH : H c = some (.cell o)) (h : Q () ρ (H.set c (.cell (some (ab v))))) :
    W C A env.locals (storeName env x v) ρ H Q := fun s hs => by
  obtain ⟨u, h1, h2⟩ := hs.cell hH
  exact wpAny_storeName_cell F.kind hl hc h1 (fun h' hc' hsb => by
    obtain ⟨oc, e1, e2⟩ := hc'
    exact ⟨_, _, hs.upd (o := .cell (some (ab v))) hH rfl e1 ⟨some v, e2, rfl⟩ (fun b o hb e => hsb.extBut b o hb e), .upd hH e1 (fun b o hb e => hsb.extBut b o hb e), h⟩)

/-- what is drawn: a value, or a tuple of values -/
inductive Dv where
  | one (v : V) | tup (vs : List V)
def Dv.Is (h : Heap) : Dv → Value → Prop
  | .one v, x => ab x = v
  | .tup vs, x => ∃ T xs, x = .ref T ∧ IsTup h T xs ∧ xs.toList.map ab = vs

def Asg (C : Cx) (A : Around) (env : Env) (tgt : Expr) (d : Dv) (ρ : Lo) (H : AH) (Q : Lo → AH → Prop) : Prop :=
  ∀ s x, St C env.locals ρ H s.heap → d.Is s.heap x → wpAny C.M A (assign tgt env x) (Post C env.locals H s (fun _ => Q)) False2 s
def AsgL (C : Cx) (A : Around) (env : Env) (ts : List Expr) (vs : List V) (ρ : Lo) (H : AH) (Q : Lo → AH → Prop) : Prop :=
  match ts, vs with
  | [], [] => Q ρ H
  | t :: ts, v :: vs => Asg C A env t (.one v) ρ H (fun ρ1 H1 => AsgL C A env ts vs ρ1 H1 Q)
  | _, _ => False

theorem Asg.mono {tgt : Expr} {d : Dv} {Q Q' : Lo → AH → Prop} (h : Asg C A env tgt d ρ H Q) (hq : ∀ ρ' H', Q ρ' H' → Q' ρ' H') : Asg C A env tgt d ρ H Q' := fun s x hs hd =>
  wpAny_mono (h s x hs hd) (fun _ s' ⟨ρ', H', x, y, z⟩ => ⟨ρ', H', x, y, hq _ _ z⟩) fun _ _ e => e
theorem Asg.local {x : Str} {pos : Pos} {v : V} {Q : Lo → AH → Prop} (F : Fx C A env) (hl : env.kindOf x = some .local) (h : Q (ρ.set x v) H) : Asg C A env (.Name x pos) (.one v) ρ H Q := fun s y hs hd => by
  have e : ab y = v := hd
  subst e
  exact wpAny_assign_Name (W.storeLocal F hl h s hs)
theorem Asg.cell {x : Str} {pos : Pos} {v : V} {c : Addr} {o : Option V} {Q : Lo → AH → Prop} (F : Fx C A env) (hl : env.kindOf x = some .cell) (hc : env.cells.lookup x = some c) (hH : H c = some (.cell o)) (h : Q ρ (H.set c (.cell (some v)))) : Asg C A env (.Name x pos) (.one v) ρ H Q := fun s y hs hd => by
  have e : ab y = v := hd
  subst e
  exact wpAny_assign_Name (W.storeCell F hl hc hH h s hs)
theorem Asg.of_tup {tgt : Expr} {T : Addr} {ws : List V} {Q : Lo → AH → Prop} (hT : H T = some (.tup ws)) (h : Asg C A env tgt (.tup ws) ρ H Q) : Asg C A env tgt (.one (.ref T)) ρ H Q := fun s y hs hd => by
  refine h s y hs ?_
  obtain ⟨xs, h1, h2, _⟩ := hs.tup hT
  exact ⟨T, xs, ab_ref hd, h1, h2⟩
def noStar : List Expr → Bool
  | [] => true
  | .Starred _ _ :: _ => false
  | _ :: r => noStar r
theorem assignEach_plain : ∀ {ts : List Expr}, noStar ts = true → assignEach ts env = ts.map (fun t => (false, assign t env))
  | [], _ => rfl
  | t :: r, h => by
    have hr : noStar r = true := by
      unfold noStar at h; split at h <;> simp_all
    have e : assignEach (t :: r) env = (false, assign t env) :: assignEach r env := by
      cases t <;> first | rfl | (simp [noStar] at h)
    rw [e, assignEach_plain hr]; rfl
theorem Asg.inOrder : ∀ {ts : List Expr} {vs : List V} {ρ : Lo} {H : AH} {Q : Lo → AH → Prop} (xs : List Value), xs.map ab = vs → AsgL C A env ts vs ρ H Q →
    W C A env.locals (assignInOrder (ts.map fun t => assign t env) xs) ρ H (fun _ => Q)
  | [], [], _, _, _, [], _, h => W.pure h
  | [], _ :: _, _, _, _, _, _, h => h.elim
  | _ :: _, [], _, _, _, _, _, h => h.elim
  | t :: ts, v :: vs, ρ, H, Q, x :: xs, e, h => by
    simp only [List.map_cons, List.cons.injEq] at e
    show W C A env.locals (holding xs (assign t env x) >>= fun _ => assignInOrder (ts.map fun t => assign t env) xs) ρ H _
    refine W.bind (W.holding (fun s hs => ?_))
    exact wpAny_mono (h s x hs e.1) (fun _ s' ⟨ρ', H', a, b, c⟩ => ⟨ρ', H', a, b, Asg.inOrder xs e.2 c⟩) fun _ _ e => e
theorem Asg.tuple {ts : List Expr} {k : Nat} {pos : Pos} {vs : List V} {Q : Lo → AH → Prop} (F : Fx C A env) (hst : noStar ts = true) (hlen : ts.length = vs.length) (h : AsgL C A env ts vs ρ H Q) : Asg C A env (.Tuple ts k pos) (.tup vs) ρ H Q := fun s x hs hd => by
  obtain ⟨T, xs, rfl, hT, e⟩ := hd
  have hsz : xs.size = vs.length := by rw [← e]; simp
  refine assign_Tuple_tuple F.hh hT (by rw [assignEach_plain hst, List.length_map, hlen, hsz]) (by rw [assignEach_plain hst]; simp) fun h' hx => ?_
  have k : ∀ b o, s.heap.get? b = some o → h'.get? b = some o := fun b o eb => hx b o (Nat.ne_of_lt (Heap.lt_size eb)) eb
  have := Asg.inOrder (C := C) (A := A) (env := env) xs.toList e h
  rw [assignEach_plain hst, List.map_map]
  exact this.at (hs.ext k) (.ext k)
end
end Mine

namespace Mine
open PySem PySem.W PyProof.Rows

section
variable {C : Cx} {A : Around} {env : Env} {ρ : Lo} {H : AH}

theorem Heap.keeps_trans {h h' h'' : Heap} (a : ∀ b o, h.get? b = some o → h'.get? b = some o) (b : ∀ b o, h'.get? b = some o → h''.get? b = some o) : ∀ b o, h.get? b = some o → h''.get? b = some o := fun x o e => b x o (a x o e)

/-- forget tracked objects -/
theorem W.weaken {α : Type} {L : Addr} {t : Sem α} {H₀ : AH} {Q : α → Lo → AH → Prop} (hsub : ∀ a o, H₀ a = some o → H a = some o) (h : W C A L t ρ H₀ Q) : W C A L t ρ H Q := fun s hs => by
  have none_of : ∀ b, H b = none → H₀ b = none := fun b e => by
    cases q : H₀ b with
    | none => rfl
    | some o => rw [hsub b o q] at e; cases e
  refine wpAny_mono (h s ⟨hs.keep, fun a o e => hs.rep a o (hsub a o e), fun a o e m => hs.own a o (hsub a o e) m, hs.loc, none_of _ hs.nl, hs.bl⟩) (fun a s' ⟨ρ', H', x, y, z⟩ => ⟨ρ', H', x, ⟨y.same, fun b o e eb eL => y.kept b o e (none_of b eb) eL, fun b o e eb => y.new b o e (none_of b eb), y.live⟩, z⟩) fun _ _ e => e

/-! ## assignment statements -/
theorem W1.asg {tgt e : Expr} {pos : Pos} {Q : Fl → Lo → AH → Prop} (h : WE C A env e ρ H (fun v H1 => Asg C A env tgt (.one v) ρ H1 (fun ρ2 H2 => Q .next ρ2 H2)))
    (hs : swapsWithSole [tgt] e pos.line env = pure false := by rfl) (hw : swappedStores [tgt] e env = pure none := by rfl) (hn : noStar [tgt] = true := by rfl) : W1 C A env (.Assign [tgt] e pos) ρ H Q := by
  show W C A env.locals (standAt pos >>= fun _ => swapsWithSole [tgt] e pos.line env >>= fun b => if b then (evalThenUse e env (fun v => assignAll v ((assignEach [tgt] env).map (·.2))) >>= fun _ => pure .next) else
    (eval e env >>= fun v => swappedStores [tgt] e env >>= fun sw => assignStores env v sw ((assignEach [tgt] env).map (·.2)))) ρ H _
  refine W.bind (W.standAt ?_)
  rw [hs]
  refine W.bind (W.pure ?_)
  rw [if_neg Bool.false_ne_true]
  refine W.bind (WE.then (WE.mono h fun v H1 k x ex => ?_))
  rw [hw, assignEach_plain hn]
  refine W.bind (W.pure ?_)
  show W C A env.locals (assign tgt env x >>= fun _ => pure Flow.next) ρ H1 _
  refine W.bind (fun s hs => wpAny_mono (k s x hs ex) (fun _ s' ⟨ρ', H', a, b, c⟩ => ⟨ρ', H', a, b, W.pure c⟩) fun _ _ e => e)

theorem W1.asgLocal {x : Str} {p pos : Pos} {e : Expr} {Q : Fl → Lo → AH → Prop} (F : Fx C A env) (hl : env.kindOf x = some .local) (h : WE C A env e ρ H (fun v H1 => Q .next (ρ.set x v) H1))
    (hs : swapsWithSole [.Name x p] e pos.line env = pure false := by rfl) (hw : swappedStores [.Name x p] e env = pure none := by rfl) : W1 C A env (.Assign [.Name x p] e pos) ρ H Q :=
  W1.asg (WE.mono h fun v H1 q => Asg.local F hl q) hs hw rfl

theorem W1.asg2 {t₁ t₂ e : Expr} {pos : Pos} {Q : Fl → Lo → AH → Prop} (h : WE C A env e ρ H (fun v H1 => Asg C A env t₁ (.one v) ρ H1 (fun ρ2 H2 => Asg C A env t₂ (.one v) ρ2 H2 (fun ρ3 H3 => Q .next ρ3 H3))))
    (he : (assignEach [t₁, t₂] env).map (·.2) = [assign t₁ env, assign t₂ env] := by rfl) (hw : swappedStores [t₁, t₂] e env = pure none := by rfl) : W1 C A env (.Assign [t₁, t₂] e pos) ρ H Q := fun s hs => by
  refine wpAny_Assign_two ?_ he hw
  refine wpAny_mono (h s hs) (fun v s1 ⟨ρ1, H1, a1, b1, c1, d1⟩ => ?_) fun _ _ e => e
  subst c1
  refine wpAny_mono (d1 s1 v a1 rfl) (fun _ s2 ⟨ρ2, H2, a2, b2, c2⟩ => ?_) fun _ _ e => e
  exact wpAny_mono (c2 s2 v a2 rfl) (fun _ s3 ⟨ρ3, H3, a3, b3, c3⟩ => ⟨ρ3, H3, a3, (b1.trans b2 (fun _ _ => a2.nl)).trans b3 (fun _ _ => a3.nl), c3⟩) fun _ _ e => e

/-! ## argument lists, displays -/
def WEs (C : Cx) (A : Around) (env : Env) : List Expr → Lo → AH → (List V → AH → Prop) → Prop
  | [], _, H, Q => Q [] H
  | e :: es, ρ, H, Q => WE C A env e ρ H (fun v H1 => WEs C A env es ρ H1 (fun vs H2 => Q (v :: vs) H2))
theorem starEach_plain : ∀ {es : List Expr}, noStar es = true → starEach es env = es.map fun e => (false, eval e env)
  | [], _ => rfl
  | t :: r, h => by
    have hr : noStar r = true := by
      unfold noStar at h; split at h <;> simp_all
    have e : starEach (t :: r) env = (false, eval t env) :: starEach r env := by
      cases t <;> first | rfl | (simp [noStar] at h)
    rw [e, starEach_plain hr]; rfl
theorem backTo_plain {pos : Pos} {es : List Expr} (h : noStar es = true) : backTo pos (starEach es env) = es.map fun e => (false, eval e env) := by
  rw [starEach_plain h]
  unfold backTo
  rw [List.map_map]
  rfl
theorem WEs.run : ∀ {es : List Expr} {ρ : Lo} {H : AH} {Q : List V → AH → Prop}, WEs C A env es ρ H Q → W C A env.locals (spliced (es.map fun e => (false, eval e env))) ρ H (fun vs ρ' H' => ρ' = ρ ∧ Q (vs.map ab) H')
  | [], ρ, H, Q, h => W.pure ⟨rfl, h⟩
  | e :: es, ρ, H, Q, h => fun s hs => PySem.Calls.spliced_cons (wpAny_mono (h s hs) (fun v s1 ⟨ρ1, H1, a1, b1, c1, d1⟩ => by
      subst c1
      exact wpAny_mono (WEs.run d1 s1 a1) (fun vs s2 ⟨ρ2, H2, a2, b2, c2, d2⟩ => ⟨ρ2, H2, a2, b1.trans b2 (fun _ _ => a2.nl), c2, d2⟩) fun _ _ e => e) fun _ _ e => e)
theorem WEs.mono : ∀ {es : List Expr} {ρ : Lo} {H : AH} {Q Q' : List V → AH → Prop}, WEs C A env es ρ H Q → (∀ vs H', Q vs H' → Q' vs H') → WEs C A env es ρ H Q'
  | [], _, _, _, _, h, k => k _ _ h
  | _ :: es, _, _, _, _, h, k => WE.mono h fun _ _ q => WEs.mono q fun _ _ r => k _ _ r
/-- all pure -/
inductive Evs (C : Cx) (A : Around) (env : Env) (ρ : Lo) (H : AH) : List Expr → List V → Prop
  | nil : Evs C A env ρ H [] []
  | cons {e : Expr} {es : List Expr} {v : V} {vs : List V} : Ev C A env ρ H e v → Evs C A env ρ H es vs → Evs C A env ρ H (e :: es) (v :: vs)
theorem WEs.of {es : List Expr} {vs : List V} {Q : List V → AH → Prop} (h : Evs C A env ρ H es vs) (q : Q vs H) : WEs C A env es ρ H Q := by
  induction h generalizing Q with
  | nil => exact q
  | cons h1 _ ih => exact WE.of h1 (ih q)

theorem WE.list {es : List Expr} {pos : Pos} {Q : V → AH → Prop} (hn : noStar es = true) (hlen : es.length ≤ 1000) (h : WEs C A env es ρ H (fun vs H1 => ∀ a, H1 a = none → Q (.ref a) (H1.set a (.list vs)))) : WE C A env (.List es pos) ρ H Q := fun s hs => by
  refine wpAny_List ?_
  rw [backTo_plain hn]
  have hl : ∀ {es : List Expr} {ρ : Lo} {H : AH} {Q : List V → AH → Prop}, WEs C A env es ρ H Q → WEs C A env es ρ H (fun vs H' => vs.length = es.length ∧ Q vs H') := by
    intro es
    induction es with
    | nil => intro ρ H Q h; exact ⟨rfl, h⟩
    | cons e es ih => intro ρ H Q h; exact WE.mono h fun v H1 q => WEs.mono (ih q) fun vs H2 r => ⟨by simp [r.1], r.2⟩
  refine wpAny_mono (WEs.run (hl h) s hs) (fun vs s1 ⟨ρ1, H1, a1, b1, c1, d1⟩ => ?_) fun _ _ e => e
  subst c1
  obtain ⟨d0, d1⟩ := d1
  rw [List.length_map] at d0
  have hz : vs.length ≤ sizeLine := by rw [d0]; exact Nat.le_trans hlen (by decide)
  have ha := get?_size_none s1.heap
  refine ⟨hz, _, _, a1.alloc (o := .list (vs.map ab)) ha (Heap.get?_push_size _ rfl) ⟨vs.toArray, 0, rfl, rfl, by simpa using hz⟩ (fun b o e => Heap.get?_push_of_some _ e), ?_, rfl, d1 _ (a1.fresh ha).1⟩
  exact b1.trans (Step.alloc (tk := s1.toks) ha (fun b o e => Heap.get?_push_of_some _ e)) (fun _ _ => by rw [AH.set_ne _ _ (Ne.symm (a1.fresh ha).2.2)]; exact a1.nl)

theorem WE.tuple {es : List Expr} {k : Nat} {pos : Pos} {Q : V → AH → Prop} (hn : noStar es = true) (hlen : es.length ≤ 1000) (h : WEs C A env es ρ H (fun vs H1 => ∀ a, H1 a = none → Q (.ref a) (H1.set a (.tup vs)))) : WE C A env (.Tuple es k pos) ρ H Q := fun s hs => by
  refine wpAny_Tuple ?_
  rw [backTo_plain hn]
  have hl : ∀ {es : List Expr} {ρ : Lo} {H : AH} {Q : List V → AH → Prop}, WEs C A env es ρ H Q → WEs C A env es ρ H (fun vs H' => vs.length = es.length ∧ Q vs H') := by
    intro es
    induction es with
    | nil => intro ρ H Q h; exact ⟨rfl, h⟩
    | cons e es ih => intro ρ H Q h; exact WE.mono h fun v H1 q => WEs.mono (ih q) fun vs H2 r => ⟨by simp [r.1], r.2⟩
  refine wpAny_mono (WEs.run (hl h) s hs) (fun vs s1 ⟨ρ1, H1, a1, b1, c1, d1⟩ => ?_) fun _ _ e => e
  subst c1
  obtain ⟨d0, d1⟩ := d1
  rw [List.length_map] at d0
  have hz : vs.length ≤ sizeLine := by rw [d0]; exact Nat.le_trans hlen (by decide)
  have ha := get?_size_none s1.heap
  refine ⟨hz, _, _, a1.alloc (o := .tup (vs.map ab)) ha (Heap.get?_push_size _ rfl) ⟨vs.toArray, 0, rfl, rfl, by simpa using hz⟩ (fun b o e => Heap.get?_push_of_some _ e), ?_, rfl, d1 _ (a1.fresh ha).1⟩
  exact b1.trans (Step.alloc (tk := s1.toks) ha (fun b o e => Heap.get?_push_of_some _ e)) (fun _ _ => by rw [AH.set_ne _ _ (Ne.symm (a1.fresh ha).2.2)]; exact a1.nl)

/-! a tuple display unpacked at once: the tuple is not tracked -/
theorem WEs.hidden {es : List Expr} {k : Nat} {pos : Pos} {s : Shared} {R : List V → AH → Prop} (hn : noStar es = true) (hlen : es.length ≤ 1000) (hs : St C env.locals ρ H s.heap) (h : WEs C A env es ρ H R) {Q : Value → Shared → Prop}
    (hq : ∀ T (xs : Array Value) s1 H1, IsTup s1.heap T xs → St C env.locals ρ H1 s1.heap → Step env.locals H H1 s s1 → xs.size = es.length → R (xs.toList.map ab) H1 → Q (.ref T) s1) :
    wpAny C.M A (eval (.Tuple es k pos) env) Q False2 s := by
  refine wpAny_Tuple ?_
  rw [backTo_plain hn]
  have hl : ∀ {es : List Expr} {ρ : Lo} {H : AH} {Q : List V → AH → Prop}, WEs C A env es ρ H Q → WEs C A env es ρ H (fun vs H' => vs.length = es.length ∧ Q vs H') := by
    intro es
    induction es with
    | nil => intro ρ H Q h; exact ⟨rfl, h⟩
    | cons e es ih => intro ρ H Q h; exact WE.mono h fun v H1 q => WEs.mono (ih q) fun vs H2 r => ⟨by simp [r.1], r.2⟩
  refine wpAny_mono (WEs.run (hl h) s hs) (fun vs s1 ⟨ρ1, H1, a1, b1, c1, d1⟩ => ?_) fun _ _ e => e
  subst c1
  obtain ⟨d0, d1⟩ := d1
  rw [List.length_map] at d0
  have hz : vs.length ≤ sizeLine := by rw [d0]; exact Nat.le_trans hlen (by decide)
  have k' : ∀ b o, s1.heap.get? b = some o → (s1.heap.push { cls := .type "tuple", data := .seq vs.toArray }).get? b = some o := fun b o e => Heap.get?_push_of_some _ e
  refine ⟨hz, hq _ vs.toArray _ H1 ⟨_, Heap.get?_push_size _ rfl, rfl, _, rfl⟩ (a1.ext k') (b1.trans (Step.ext (tk := s1.toks) k') (fun _ _ => a1.nl)) (by simp [d0]) d1⟩

theorem W1.asgTup {ts es : List Expr} {k k' : Nat} {p p' pos : Pos} {Q : Fl → Lo → AH → Prop} (F : Fx C A env) (h : WEs C A env es ρ H (fun vs H1 => AsgL C A env ts vs ρ H1 (fun ρ2 H2 => Q .next ρ2 H2)))
    (hs : swapsWithSole [.Tuple ts k p] (.Tuple es k' p') pos.line env = pure false := by rfl) (hw : swappedStores [.Tuple ts k p] (.Tuple es k' p') env = pure none := by rfl) (hn : noStar es = true := by rfl) (hnt : noStar ts = true := by rfl) (hlen : es.length = ts.length := by rfl) (hl : es.length ≤ 1000 := by decide) :
    W1 C A env (.Assign [.Tuple ts k p] (.Tuple es k' p') pos) ρ H Q := fun s hs' => by
  refine Assign_Tuple ?_ hs hw
  refine WEs.hidden hn hl hs' h fun T xs s1 H1 hT a1 b1 hz r => ?_
  refine wpAny_mono (Asg.tuple F hnt (by simp [← hlen, ← hz]) r s1 (.ref T) a1 ⟨T, xs, rfl, hT, rfl⟩) (fun _ s2 ⟨ρ2, H2, a2, b2, c2⟩ => ⟨ρ2, H2, a2, b1.trans b2 (fun _ _ => a2.nl), c2⟩) fun _ _ e => e

theorem bindName_run {x : Str} {v : Value} {Q : Unit → Lo → AH → Prop} {L : Addr} (h : W C A L (storeName env x v) ρ H Q) : W C A L (bindName env x v) ρ H Q := by
  unfold bindName
  refine W.bind (W.holding (fun s hs => wpAny_point ⟨ρ, H, hs, .refl .., ?_⟩))
  refine W.bind (W.mono h fun _ ρ' H' q => fun s hs => wpAny_point ⟨ρ', H', hs, .refl .., q⟩)
/-- names stored in exchanged order -/
def StL (ns : List Str) (vs : List V) (ρ : Lo) : Lo := match ns, vs with
  | n :: ns, v :: vs => StL ns vs (ρ.set n v)
  | _, _ => ρ
theorem StL.run : ∀ {ns : List Str} {xs : List Value} {ρ : Lo} {Q : Lo → AH → Prop}, ns.length = xs.length → Fx C A env → (∀ n ∈ ns, env.kindOf n = some .local) → Q (StL ns (xs.map ab) ρ) H →
    W C A env.locals (assignInOrder (ns.map fun n => bindName env n) xs) ρ H (fun _ => Q)
  | [], [], ρ, Q, _, _, _, h => W.pure h
  | n :: ns, x :: xs, ρ, Q, hl, F, hk, h => by
    show W C A env.locals (holding xs (bindName env n x) >>= fun _ => assignInOrder (ns.map fun n => bindName env n) xs) ρ H _
    refine W.bind (W.holding (bindName_run (W.storeLocal F (hk n (List.mem_cons_self ..)) ?_)))
    exact StL.run (by simpa using hl) F (fun m hm => hk m (List.mem_cons_of_mem _ hm)) h
theorem W1.asgSwap {ts es : List Expr} {k k' : Nat} {p p' pos : Pos} {names : List Str} {Q : Fl → Lo → AH → Prop} (F : Fx C A env) (h : WEs C A env es ρ H (fun vs H1 => Q .next (StL names.reverse vs.reverse ρ) H1))
    (hw : swappedStores [.Tuple ts k p] (.Tuple es k' p') env = pure (some names)) (hk : ∀ n ∈ names, env.kindOf n = some .local) (hlen : es.length = names.length := by rfl)
    (hs : swapsWithSole [.Tuple ts k p] (.Tuple es k' p') pos.line env = pure false := by rfl) (hn : noStar es = true := by rfl) (hl : es.length ≤ 1000 := by decide) :
    W1 C A env (.Assign [.Tuple ts k p] (.Tuple es k' p') pos) ρ H Q := fun s hs' => by
  refine Assign_Tuple_swapped ?_ hs hw
  refine WEs.hidden hn hl hs' h fun T xs s1 H1 hT a1 b1 hz r => ?_
  rw [← hlen, ← hz]
  refine wpAny_unpackItems_tuple F.hh hT fun h' hx => ?_
  have k : ∀ b o, s1.heap.get? b = some o → h'.get? b = some o := fun b o eb => hx b o (Nat.ne_of_lt (Heap.lt_size eb)) eb
  have := StL.run (C := C) (A := A) (env := env) (H := H1) (ns := names.reverse) (xs := xs.toList.reverse) (ρ := ρ) (Q := fun ρ2 H2 => Q .next ρ2 H2) (by simp [← hlen, hz]) F (fun n hm => hk n (List.mem_reverse.mp hm)) (by rw [List.map_reverse]; exact r)
  exact W.at this (a1.ext k) (b1.trans (Step.ext k) (fun _ _ => a1.nl))

/-! ## expression statements -/
theorem W1.expr {e : Expr} {pos : Pos} {Q : Fl → Lo → AH → Prop} (F : Fx C A env) (h : WE C A env e ρ H (fun v H1 => (∀ a, v ≠ .ref a) ∧ Q .next ρ H1)) (hs : swapsWith e none pos.line env = pure false := by rfl) : W1 C A env (.Expr e pos) ρ H Q := fun s hs' => by
  refine wpAny_Expr (wpAny_mono (h s hs') (fun v s1 ⟨ρ1, H1, a1, b1, c1, d1, d2⟩ => ?_) fun _ _ e => e) (by simp [interactive, F.kind]) hs
  subst c1
  cases v <;> first | exact ⟨ρ1, H1, a1, b1, d2⟩ | exact absurd rfl (d1 _)
end
end Mine

namespace Mine
open PySem PySem.W PyProof.Rows

section
variable {C : Cx} {A : Around} {env : Env} {ρ : Lo} {H : AH}

/-! ## calls by a name -/
def FnAt (C : Cx) (H : AH) (a : Addr) (o : Obj) (fd : FuncData) : Prop := o.data = .func fd ∧ (C.base.get? a = some o ∨ (H a = some (.fn fd) ∧ o = { cls := .type "function", data := .func fd }))
theorem FnAt.obj {a : Addr} {o : Obj} {fd : FuncData} {L : Addr} {h : Heap} (f : FnAt C H a o fd) (hs : St C L ρ H h) : h.get? a = some o ∧ o.data = .func fd := by
  obtain ⟨e, e1 | ⟨e1, rfl⟩⟩ := f
  · exact ⟨hs.keep _ _ e1, e⟩
  · exact ⟨hs.func e1, e⟩

def kwOf (ks : List Keyword) : List Expr := ks.map (·.value)
def kwNames (ks : List Keyword) : List (Option Str) := ks.map (·.arg)
def WKs (C : Cx) (A : Around) (env : Env) : List Keyword → Lo → AH → (List (Str × V) → AH → Prop) → Prop
  | [], _, H, Q => Q [] H
  | ⟨some n, e, _⟩ :: ks, ρ, H, Q => WE C A env e ρ H (fun v H1 => WKs C A env ks ρ H1 (fun vs H2 => Q ((n, v) :: vs) H2))
  | ⟨none, _, _⟩ :: _, _, _, _ => False
theorem WKs.nil {Q : List (Str × V) → AH → Prop} (h : Q [] H) : WKs C A env [] ρ H Q := h
theorem WKs.run {pos : Pos} : ∀ {ks : List Keyword} {ρ : Lo} {H : AH} {Q : List (Str × V) → AH → Prop}, WKs C A env ks ρ H Q →
    W C A env.locals (evalAll ((backToKw pos (keywordEach ks env)).map (·.2))) ρ H (fun vs ρ' H' => ρ' = ρ ∧ Q ((((backToKw pos (keywordEach ks env)).filterMap (·.1)).zip vs).map fun p => (p.1, ab p.2)) H')
  | [], ρ, H, Q, h => W.pure ⟨rfl, h⟩
  | ⟨none, e, p⟩ :: ks, ρ, H, Q, h => h.elim
  | ⟨some n, e, p⟩ :: ks, ρ, H, Q, h => fun s hs => by
    show wpAny C.M A (evalAll ((do let v ← eval e env; standAt pos; pure v) :: (backToKw pos (keywordEach ks env)).map (·.2))) _ _ s
    refine wpAny_evalAll_cons (wpAny_bind (wpAny_mono (h s hs) (fun v s1 ⟨ρ1, H1, a1, b1, c1, d1⟩ => ?_) fun _ _ e => e))
    subst c1
    refine wpAny_bind (wpAny_standAt (wpAny_pure ?_))
    exact wpAny_mono (WKs.run (pos := pos) d1 s1 a1) (fun vs s2 ⟨ρ2, H2, a2, b2, c2, d2⟩ => ⟨ρ2, H2, a2, b1.trans b2 (fun _ _ => a2.nl), c2, d2⟩) fun _ _ e => e
theorem WKs.all {pos : Pos} : ∀ {ks : List Keyword} {ρ : Lo} {H : AH} {Q : List (Str × V) → AH → Prop}, ks.all (·.arg.isSome) = true → (backToKw pos (keywordEach ks env)).all (·.1.isSome) = true
  | [], _, _, _, _ => rfl
  | ⟨none, e, p⟩ :: ks, _, _, _, h => by simp at h
  | ⟨some n, e, p⟩ :: ks, ρ, H, Q, h => by
    have := WKs.all (pos := pos) (ks := ks) (ρ := ρ) (H := H) (Q := Q) (by simpa using h)
    simpa [backToKw, keywordEach] using this

theorem evalArgs_run {f : Value} {pos : Pos} {es : List Expr} {ks : List Keyword} {Q : List V → List (Str × V) → AH → Prop} (hn : noStar es = true) (hk : ks.all (·.arg.isSome) = true) (h : WEs C A env es ρ H (fun vs H1 => WKs C A env ks ρ H1 (fun kv H2 => Q vs kv H2))) :
    W C A env.locals (evalArgs f true (backTo pos (starEach es env)) (backToKw pos (keywordEach ks env))) ρ H (fun a ρ' H' => ρ' = ρ ∧ Q (a.pos.map ab) (a.kw.map fun p => (p.1, ab p.2)) H') := fun s hs => by
  have hall := WKs.all (env := env) (pos := pos) (ks := ks) (ρ := ρ) (H := H) (Q := fun _ _ => True) hk
  rw [backTo_plain hn]
  cases es with
  | nil =>
    refine evalArgs_kw_nil hall ?_
    exact wpAny_mono (WKs.run (pos := pos) h s hs) (fun vs s2 ⟨ρ2, H2, a2, b2, c2, d2⟩ => ⟨ρ2, H2, a2, b2, c2, d2⟩) fun _ _ e => e
  | cons e es =>
    refine evalArgs_kw hall ?_
    refine wpAny_mono (WEs.run h s hs) (fun vs s1 ⟨ρ1, H1, a1, b1, c1, d1⟩ => ?_) fun _ _ e => e
    subst c1
    exact wpAny_mono (WKs.run (pos := pos) d1 s1 a1) (fun vs s2 ⟨ρ2, H2, a2, b2, c2, d2⟩ => ⟨ρ2, H2, a2, b1.trans b2 (fun _ _ => a2.nl), c2, d2⟩) fun _ _ e => e

theorem WE.callFn {id : Str} {p pos : Pos} {a : Addr} {o : Obj} {fd : FuncData} {es : List Expr} {ks : List Keyword} {Q : V → AH → Prop} (hf : Ev C A env ρ H (.Name id p) (.ref a))
    (h : WEs C A env es ρ H (fun vs H1 => WKs C A env ks ρ H1 (fun kv H2 => FnAt C H2 a o fd ∧ WCall C A (.ref a) vs kv H2 Q))) (hn : noStar es = true := by rfl) (hk : ks.all (·.arg.isSome) = true := by rfl) :
    WE C A env (.Call (.Name id p) es ks pos) ρ H Q := fun s hs => by
  refine wpAny_Call_Name_kw ?_
  refine wpAny_mono (hf s hs) (fun f s1 ⟨ρ1, H1, a1, b1, c1, c2, c3⟩ => ?_) fun _ _ e => e
  subst c1 c2
  cases ab_ref c3
  refine callWith_function_kw (o := o) (fd := fd) ?_
  refine wpAny_mono (evalArgs_run hn hk h s1 a1) (fun x s2 ⟨ρ2, H2, a2, b2, c2, hfn, d2⟩ => ⟨hfn.obj a2, ?_⟩) fun _ _ e => e
  subst c2
  exact wpAny_mono (d2 env.locals ρ2 (.ref a) x.pos x.kw rfl rfl rfl s2 a2) (fun v s3 ⟨ρ3, H3, a3, b3, c3, d3⟩ => ⟨ρ3, H3, a3, (b1.trans b2 (fun _ _ => a2.nl)).trans b3 (fun _ _ => a3.nl), c3, d3⟩) fun _ _ e => e

theorem backTo_any {pos : Pos} {es : List Expr} (h : noStar es = true) : (backTo pos (starEach es env)).any (·.1) = false := by
  rw [backTo_plain h]; induction es with
  | nil => rfl
  | cons e es ih =>
    have : noStar es = true := by unfold noStar at h; split at h <;> simp_all
    simp
theorem WE.callBi {id : Str} {p pos : Pos} {b : String} {es : List Expr} {ks : List Keyword} {Q : V → AH → Prop} (hf : Ev C A env ρ H (.Name id p) (.bi b))
    (h : WEs C A env es ρ H (fun vs H1 => WKs C A env ks ρ H1 (fun kv H2 => WCall C A (.bi b) vs kv H2 Q))) (hn : noStar es = true := by rfl) (hk : ks.all (·.arg.isSome) = true := by rfl) :
    WE C A env (.Call (.Name id p) es ks pos) ρ H Q := fun s hs => by
  refine wpAny_Call_Name_kw ?_
  refine wpAny_mono (hf s hs) (fun f s1 ⟨ρ1, H1, a1, b1, c1, c2, c3⟩ => ?_) fun _ _ e => e
  subst c1 c2
  cases ab_bi c3
  have hall := WKs.all (env := env) (pos := pos) (ks := ks) (ρ := ρ1) (H := H1) (Q := fun _ _ => True) hk
  refine callWith_builtin_kwB (backTo_any hn) ?_ ?_
  · rw [List.any_eq_false]
    intro x hx
    have := List.all_eq_true.mp hall x hx
    cases hx1 : x.1 <;> simp_all
  refine wpAny_mono (evalArgs_run hn hk h s1 a1) (fun x s2 ⟨ρ2, H2, a2, b2, c2, d2⟩ => ?_) fun _ _ e => e
  subst c2
  exact wpAny_mono (d2 env.locals ρ2 (.builtin b) x.pos x.kw rfl rfl rfl s2 a2) (fun v s3 ⟨ρ3, H3, a3, b3, c3, d3⟩ => ⟨ρ3, H3, a3, (b1.trans b2 (fun _ _ => a2.nl)).trans b3 (fun _ _ => a3.nl), c3, d3⟩) fun _ _ e => e
theorem WE.callTy {id : Str} {p pos : Pos} {b : String} {es : List Expr} {Q : V → AH → Prop} (hf : Ev C A env ρ H (.Name id p) (.ty b))
    (h : WEs C A env es ρ H (fun vs H1 => WCall C A (.ty b) vs [] H1 Q)) (hn : noStar es = true := by rfl) :
    WE C A env (.Call (.Name id p) es [] pos) ρ H Q := fun s hs => by
  refine wpAny_Call_Name_kw ?_
  refine wpAny_mono (hf s hs) (fun f s1 ⟨ρ1, H1, a1, b1, c1, c2, c3⟩ => ?_) fun _ _ e => e
  subst c1 c2
  cases ab_ty c3
  refine PySem.callWith_type (backTo_any hn) ?_
  refine wpAny_mono (evalArgs_run (ks := []) (Q := fun vs kv H2 => kv = [] ∧ WCall C A (.ty b) vs [] H2 Q) hn rfl (WEs.mono h fun vs H1 q => ⟨rfl, q⟩) s1 a1) (fun x s2 ⟨ρ2, H2, a2, b2, c2, d1, d2⟩ => ?_) fun _ _ e => e
  subst c2
  have hkw : x.kw = [] := by simpa using d1
  rw [hkw]
  exact wpAny_mono (d2 env.locals ρ2 (.type b) x.pos [] rfl rfl rfl s2 a2) (fun v s3 ⟨ρ3, H3, a3, b3, c3, d3⟩ => ⟨ρ3, H3, a3, (b1.trans b2 (fun _ _ => a2.nl)).trans b3 (fun _ _ => a3.nl), c3, d3⟩) fun _ _ e => e

theorem vals1 {vals : List Value} {a : V} (e : vals.map ab = [a]) : ∃ x, vals = [x] ∧ ab x = a := by
  cases vals with
  | nil => simp at e
  | cons x r => cases r with
    | nil => simp at e; exact ⟨x, rfl, e⟩
    | cons => simp at e
theorem vals2 {vals : List Value} {a b : V} (e : vals.map ab = [a, b]) : ∃ x y, vals = [x, y] ∧ ab x = a ∧ ab y = b := by
  cases vals with
  | nil => simp at e
  | cons x r =>
    simp only [List.map_cons, List.cons.injEq] at e
    obtain ⟨y, rfl, h⟩ := vals1 e.2
    exact ⟨x, y, rfl, e.1, h⟩
theorem vals3 {vals : List Value} {a b c : V} (e : vals.map ab = [a, b, c]) : ∃ x y z, vals = [x, y, z] ∧ ab x = a ∧ ab y = b ∧ ab z = c := by
  cases vals with
  | nil => simp at e
  | cons x r =>
    simp only [List.map_cons, List.cons.injEq] at e
    obtain ⟨y, z, rfl, h⟩ := vals2 e.2
    exact ⟨x, y, z, rfl, e.1, h⟩

/-! ## methods of lists -/
theorem WE.listMeth {o : Expr} {name : Str} {id : String} {apos pos : Pos} {es : List Expr} {Q : V → AH → Prop} (slot : Slot "list" name id) (hty : typeOf (.builtin id) = pure (.type "method_descriptor"))
    (h : WE C A env o ρ H (fun v H1 => ∃ a vs, v = .ref a ∧ H1 a = some (.list vs) ∧ WEs C A env es ρ H1 (fun ws H2 => WCall C A (.bi id) (.ref a :: ws) [] H2 Q)))
    (hbase : attributeBase o name env (eval o env) = eval o env := by rfl) (hfew : ((backTo pos (starEach es env)).all (fun x => !x.1) && (backToKw pos (keywordEach [] env)).all (fun x => x.1.isSome) && decide (es.length + ([] : List Keyword).length + (if ([] : List Keyword).isEmpty then 0 else 1) < 30)) = true := by rfl)
    (hline : (apos.endLine == pos.line) = true := by rfl) (hn : noStar es = true := by rfl) : WE C A env (.Call (.Attribute o name apos) es [] pos) ρ H Q := fun s hs => by
  refine wpAny_Call_method hbase hfew hline PySem.F.plainAttrs_list slot hty ?_
  refine wpAny_mono (h s hs) (fun v s1 ⟨ρ1, H1, a1, b1, c1, a, vs, d1, d2, d3⟩ => ?_) fun _ _ e => e
  subst c1
  cases ab_ref d1
  obtain ⟨xs, ⟨n, e1⟩, e2, e3⟩ := a1.plist d2
  refine ⟨⟨_, e1, rfl⟩, fun b hb => ⟨_, by cases hb; exact e1, rfl⟩, ?_⟩
  refine PySem.Calls.callWith_builtin (backTo_any hn) ?_
  refine wpAny_mono (evalArgs_run (ks := []) (Q := fun ws kv H2 => kv = [] ∧ WCall C A (.bi id) (.ref a :: ws) [] H2 Q) hn rfl (WEs.mono d3 fun vs H1 q => ⟨rfl, q⟩) s1 a1) (fun x s2 ⟨ρ2, H2, a2, b2, c2, d1, d2⟩ => ?_) fun _ _ e => e
  subst c2
  have hkw : x.kw = [] := by simpa using d1
  rw [hkw]
  exact wpAny_mono (d2 env.locals ρ2 (.builtin id) (.ref a :: x.pos) [] rfl rfl rfl s2 a2) (fun v s3 ⟨ρ3, H3, a3, b3, c3, d3⟩ => ⟨ρ3, H3, a3, (b1.trans b2 (fun _ _ => a2.nl)).trans b3 (fun _ _ => a3.nl), c3, d3⟩) fun _ _ e => e

theorem WCall.append {a : Addr} {vs : List V} {v : V} {Q : V → AH → Prop} (hH : H a = some (.list vs)) (hz : vs.length < sizeLine) (h : Q .none (H.set a (.list (vs ++ [v])))) : WCall C A (.bi "list.append") [.ref a, v] [] H Q := by
  intro L ρ fv vals kvs e1 e2 e3
  cases ab_bi e1
  obtain ⟨x, y, rfl, ex, ey⟩ := vals2 e2
  cases ab_ref ex
  have : kvs = [] := by simpa using e3
  subst this
  intro s hs
  obtain ⟨xs, h1, h2, h3⟩ := hs.plist hH
  refine wpAny_list_append_plain h1 (fun h' ⟨n, hp⟩ hsb => ?_) (by rw [arr_size h2]; omega)
  refine ⟨_, _, hs.upd hH rfl hp (o := .list (vs ++ [v])) ⟨_, n, rfl, by simp [h2, ey], by simp; omega⟩ (fun b o hb e => hsb.extBut b o hb e), .upd hH hp (fun b o hb e => hsb.extBut b o hb e), rfl, h⟩

/-! ## built-in functions -/
theorem WCall.len {a : Addr} {o : O} {vs : List V} {Q : V → AH → Prop} (hH : H a = some o) (hl : lst o = some vs) (h : Q (.int vs.length) H) : WCall C A (.bi "len") [.ref a] [] H Q := by
  intro L ρ fv vals kvs e1 e2 e3
  cases ab_bi e1
  obtain ⟨x, rfl, ex⟩ := vals1 e2
  cases ab_ref ex
  have : kvs = [] := by simpa using e3
  subst this
  intro s hs
  obtain ⟨xs, h1, h2, h3⟩ := hs.list hH hl
  have hsl : (sizeLine : Int) < 2 ^ 63 := by decide
  refine len_list h1 (by rw [arr_size h2]; omega) ⟨ρ, H, hs, .toks, rfl, ?_⟩
  show Q (.int xs.size) H
  rw [arr_size h2]; exact h
theorem WCall.lenTup {a : Addr} {vs : List V} {Q : V → AH → Prop} (hH : H a = some (.tup vs)) (h : Q (.int vs.length) H) : WCall C A (.bi "len") [.ref a] [] H Q := by
  intro L ρ fv vals kvs e1 e2 e3
  cases ab_bi e1
  obtain ⟨x, rfl, ex⟩ := vals1 e2
  cases ab_ref ex
  have : kvs = [] := by simpa using e3
  subst this
  intro s hs
  obtain ⟨xs, h1, h2, h3⟩ := hs.tup hH
  have hsl : (sizeLine : Int) < 2 ^ 63 := by decide
  refine len_tuple h1 (by rw [arr_size h2]; omega) ⟨ρ, H, hs, .toks, rfl, ?_⟩
  show Q (.int xs.size) H
  rw [arr_size h2]; exact h
theorem WCall.lenStr {x : Str} {Q : V → AH → Prop} (hz : x.length ≤ sizeLine) (h : Q (.int x.length) H) : WCall C A (.bi "len") [.str x] [] H Q := by
  intro L ρ fv vals kvs e1 e2 e3
  cases ab_bi e1
  obtain ⟨y, rfl, ex⟩ := vals1 e2
  obtain ⟨t, rfl⟩ := ab_str ex
  have : kvs = [] := by simpa using e3
  subst this
  intro s hs
  have hsl : (sizeLine : Int) < 2 ^ 63 := by decide
  exact len_str (by omega) ⟨ρ, H, hs, .toks, rfl, h⟩
/-- len(e) as a pure expression -/
theorem Ev.len {e : Expr} {p pos : Pos} {a : Addr} {o : O} {vs : List V} {id : Str} (hf : Ev C A env ρ H (.Name id p) (.bi "len")) (h : Ev C A env ρ H e (.ref a)) (hH : H a = some o) (hl : lst o = some vs) (hn : noStar [e] = true := by rfl) : Ev C A env ρ H (.Call (.Name id p) [e] [] pos) (.int vs.length) :=
  WE.ev (WE.callBi hf (WEs.of (.cons h .nil) (WKs.nil (WCall.len hH hl ⟨rfl, rfl⟩))) hn)
theorem Ev.lenStr {e : Expr} {p pos : Pos} {x : Str} {id : Str} (hf : Ev C A env ρ H (.Name id p) (.bi "len")) (h : Ev C A env ρ H e (.str x)) (hz : x.length ≤ sizeLine) (hn : noStar [e] = true := by rfl) : Ev C A env ρ H (.Call (.Name id p) [e] [] pos) (.int x.length) :=
  WE.ev (WE.callBi hf (WEs.of (.cons h .nil) (WKs.nil (WCall.lenStr hz ⟨rfl, rfl⟩))) hn)
end
end Mine

namespace Mine
open PySem PySem.W PyProof.Rows

section
variable {C : Cx} {A : Around} {env : Env} {ρ : Lo} {H : AH}

/-! ## a def called -/
def retv : Fl → V
  | .ret v => v
  | _ => .none
theorem retv_ab (f : Flow) : ab (match f with | .ret v => v | _ => .none) = retv (abF f) := by cases f <;> rfl
def Keep (C : Cx) (s : Shared) : Prop := ∀ b o, C.base.get? b = some o → s.heap.get? b = some o
theorem lookup_ab (x : Str) (l : List (Str × Value)) : (l.lookup x).map ab = (l.map fun p => (p.1, ab p.2)).lookup x := by
  induction l with
  | nil => rfl
  | cons p r ih =>
    obtain ⟨n, v⟩ := p
    rw [List.map_cons, List.lookup_cons, List.lookup_cons]
    cases x == n
    · exact ih
    · rfl
/-- the frame left -/
theorem St.back {L L' : Addr} {s s1 s' : Shared} {ρ' : Lo} {H1 H' : AH} (hs : St C L ρ H s.heap) (hk : ∀ b o, s.heap.get? b = some o → s1.heap.get? b = some o) (hL' : s.heap.get? L' = none) (h1 : ∀ b o, s.heap.get? b = some o → H b = none → H1 b = none) (x : St C L' ρ' H' s'.heap) (y : Step L' H1 H' s1 s') :
    St C L ρ H' s'.heap ∧ (∀ b o, s.heap.get? b = some o → H b = none → s'.heap.get? b = some o) ∧ (∀ b o, s.heap.get? b = some o → H b = none → H' b = none) ∧ (∀ b o, s.heap.get? b = some o → ∃ o', s'.heap.get? b = some o') := by
  obtain ⟨m, ⟨o, es, ep, ho, r⟩, hm⟩ := hs.loc
  have ne : ∀ b o, s.heap.get? b = some o → b ≠ L' := fun b o e q => by rw [q, hL'] at e; cases e
  have kept : ∀ b o, s.heap.get? b = some o → H b = none → s'.heap.get? b = some o := fun b o e eb => y.kept b o (hk b o e) (h1 b o e eb) (ne b o e)
  have new : ∀ b o, s.heap.get? b = some o → H b = none → H' b = none := fun b o e eb => y.new b o (hk b o e) (h1 b o e eb)
  exact ⟨⟨x.keep, x.rep, x.own, ⟨m, ⟨o, es, ep, kept L o ho hs.nl, r⟩, hm⟩, new L o ho hs.nl, hs.bl⟩, kept, new, fun b o e => y.live b o (hk b o e)⟩

theorem WCall.def {a : Addr} {o : Obj} {fd : FuncData} {body : List Stmt} {args : List V} {kw bs : List (Str × V)} {Q : V → AH → Prop} (hfn : FnAt C H a o fd) (hdep : A.depth < recursionLimit)
    (hb : fd.body = .stmts body) (hcell : ∀ x ∈ fd.scope.names, x.2 ≠ .cell) (hcd : ∀ h : Heap, (∀ b o, C.base.get? b = some o → h.get? b = some o) → h.CodeRec fd.code fd.qualname)
    (hbind : ∀ vals kvs, vals.map ab = args → kvs.map (fun p => (p.1, ab p.2)) = kw → ∃ binds, (∀ s, Keep C s → BindsTo s fd ⟨vals, kvs⟩ binds) ∧ binds.map (fun p => (p.1, ab p.2)) = bs)
    (hloc : ∀ x ∈ bs, fd.scope.names.lookup x.1 = some .local)
    (h : ∀ L, H L = none → WS C (A.deeper (callEnv fd L a)) (callEnv fd L a) body (fun y => bs.reverse.lookup y) H (fun f _ H' => Q (retv f) H'))
    (hco : fd.scope.isCoroutine = false := by rfl) (hgen : fd.scope.isGenerator = false := by rfl) (hk : fd.scope.kind = .function := by rfl) : WCall C A (.ref a) args kw H Q := by
  intro L ρ fv vals kvs e1 e2 e3
  cases ab_ref e1
  obtain ⟨binds, hbt, hbs⟩ := hbind vals kvs e2 e3
  intro s hs
  obtain ⟨ho, hd⟩ := hfn.obj hs
  have hnone := get?_size_none s.heap
  refine wpAny_call (codeAny_call_def hdep ho hd (C.lim.keeps hs.keep) (hcd _ hs.keep) hb (hbt s hs.keep) hcell (fun x hx => hloc (x.1, ab x.2) (by rw [← hbs]; exact List.mem_map.mpr ⟨x, hx, rfl⟩)) (fun h₀ hn hk0 => ?_) hco hgen hk)
  have hst : St C s.heap.objs.size (fun y => bs.reverse.lookup y) H h₀ := by
    refine ⟨fun b o e => hk0 _ _ (hs.keep b o e), fun a o e => let ⟨c, e1, e2⟩ := hs.rep a o e; ⟨c, hk0 _ _ e1, e2⟩, hs.own, ⟨_, hn, fun x => ?_⟩, (hs.fresh hnone).1, (hs.fresh hnone).2.1⟩
    rw [← hbs, ← List.map_reverse]
    exact lookup_ab x binds.reverse
  have henv : (callEnv fd s.heap.objs.size a).locals = s.heap.objs.size := rfl
  refine wpAny_mono (h s.heap.objs.size (hs.fresh hnone).1 { s with heap := h₀, toks := s.toks + binds.length } hst) (fun f s' ⟨ρ', H', x, y, z⟩ => ?_) fun _ _ e => e.elim
  obtain ⟨q1, q2, q3, q4⟩ := hs.back (s1 := { s with heap := h₀, toks := s.toks + binds.length }) (L' := s.heap.objs.size) hk0 hnone (fun _ _ _ e => e) x y
  refine ⟨ρ, H', q1, ⟨?_, fun b o e eb _ => q2 b o e eb, q3, q4⟩, rfl, by cases f <;> exact z⟩
  obtain ⟨h', tk', e⟩ := y.same
  exact ⟨h', tk', by rw [e]⟩

/-! with cells -/
def cellH (cm : Str → Option V) : List (Str × Addr) → AH → AH
  | [], H => H
  | (n, c) :: r, H => (cellH cm r H).set c (.cell (cm n))
theorem cellH_get {cm : Str → Option V} : ∀ {cs : List (Str × Addr)} {H : AH} {b : Addr}, (∀ p ∈ cs, p.2 ≠ b) → cellH cm cs H b = H b
  | [], _, _, _ => rfl
  | (n, c) :: r, H, b, h => by
    rw [cellH, AH.set_ne _ _ (Ne.symm (h (n, c) (List.mem_cons_self ..)))]
    exact cellH_get fun p hp => h p (List.mem_cons_of_mem _ hp)
theorem cellH_some {cm : Str → Option V} : ∀ {cs : List (Str × Addr)} {H : AH} {b : Addr} {o : O}, cellH cm cs H b = some o → (∃ n, (n, b) ∈ cs ∧ o = .cell (cm n)) ∨ H b = some o
  | [], _, _, _, h => .inr h
  | (n, c) :: r, H, b, o, h => by
    rw [cellH] at h
    by_cases q : b = c
    · subst q; rw [AH.set_same] at h; cases h; exact .inl ⟨n, List.mem_cons_self .., rfl⟩
    · rw [AH.set_ne _ _ q] at h
      rcases cellH_some h with ⟨m, hm, e⟩ | e
      · exact .inl ⟨m, List.mem_cons_of_mem _ hm, e⟩
      · exact .inr e

theorem WCall.defC {a : Addr} {o : Obj} {fd : FuncData} {body : List Stmt} {args : List V} {bs : List (Str × V)} {Q : V → AH → Prop} (hfn : FnAt C H a o fd) (hdep : A.depth < recursionLimit)
    (hb : fd.body = .stmts body) (hclo : fd.closure = []) (hcd : ∀ h : Heap, (∀ b o, C.base.get? b = some o → h.get? b = some o) → h.CodeRec fd.code fd.qualname)
    (hbind : ∀ vals, vals.map ab = args → ∃ binds, bindArgs fd ⟨vals, []⟩ = pure binds ∧ binds.map (fun p => (p.1, ab p.2)) = bs)
    (hkind : (bs.all fun y => fd.scope.names.lookup y.1 == some .local || fd.scope.names.lookup y.1 == some .cell) = true)
    (hnd : ((cellsFrom 0 fd.scope.names []).map (·.1)).Nodup)
    (lm cm : Str → Option V) (hlm : ∀ L binds, binds.map (fun p => (p.1, ab p.2)) = bs → ∀ x, (bindL (callEnvC fd L a).kindOf binds (fun _ => none) x).map ab = lm x) (hcm : ∀ L binds, binds.map (fun p => (p.1, ab p.2)) = bs → ∀ x, (bindC (callEnvC fd L a).kindOf binds (fun _ => none) x).map ab = cm x)
    (h : ∀ L, H L = none → (∀ p ∈ cellsFrom (L + 1) fd.scope.names [], H p.2 = none ∧ p.2 ≠ L) → WS C (A.deeper (callEnvC fd L a)) (callEnvC fd L a) body lm (cellH cm (cellsFrom (L + 1) fd.scope.names []) H) (fun f _ H' => Q (retv f) H'))
    (hco : fd.scope.isCoroutine = false := by rfl) (hgen : fd.scope.isGenerator = false := by rfl) (hk : fd.scope.kind = .function := by rfl) : WCall C A (.ref a) args [] H Q := by
  intro L ρ fv vals kvs e1 e2 e3
  cases ab_ref e1
  have : kvs = [] := by simpa using e3
  subst this
  obtain ⟨binds, hbt, hbs⟩ := hbind vals e2
  intro s hs
  obtain ⟨ho, hd⟩ := hfn.obj hs
  have hnone := get?_size_none s.heap
  have hkind' : ∀ n, ∀ x ∈ binds, fd.scope.names.lookup x.1 = some .local ∨ (fd.scope.names.lookup x.1 = some .cell ∧ ((cellsFrom n fd.scope.names []).lookup x.1).isSome = true) := fun n x hx => by
    have hm : (x.1, ab x.2) ∈ bs := by rw [← hbs]; exact List.mem_map.mpr ⟨x, hx, rfl⟩
    have := kindsX (scope := fd.scope) (binds := binds) (by
      rw [List.all_eq_true]; intro y hy
      exact List.all_eq_true.mp hkind (y.1, ab y.2) (by rw [← hbs]; exact List.mem_map.mpr ⟨y, hy, rfl⟩)) n x hx
    exact this
  refine wpAny_call (codeAny_call_cells hdep ho hd (C.lim.keeps hs.keep) (hcd _ hs.keep) hb hbt hclo (hkind' _) (fun s₁ X => ?_) hco hgen hk)
  have hnames : ∀ (n : Nat) (names : List (Str × NameKind)) (acc : List (Str × Addr)) (p : Str × Addr), p ∈ cellsFrom n names acc → p ∈ acc ∨ n ≤ p.2 := by
    intro n names
    induction names generalizing n with
    | nil => intro acc p hp; exact .inl hp
    | cons x r ih =>
      intro acc p hp
      obtain ⟨nm, k⟩ := x
      unfold cellsFrom at hp
      split at hp
      · rcases ih (n + 1) _ p hp with q | q
        · rcases List.mem_cons.mp q with rfl | q
          · exact .inr (Nat.le_refl _)
          · exact .inl q
        · exact .inr (by omega)
      · exact ih n acc p hp
  have habove : ∀ p ∈ cellsFrom (s.heap.objs.size + 1) fd.scope.names [], s.heap.objs.size < p.2 := fun p hp => by
    rcases hnames _ _ _ p hp with q | q
    · cases q
    · omega
  have hfresh : ∀ p ∈ cellsFrom (s.heap.objs.size + 1) fd.scope.names [], s.heap.get? p.2 = none := fun p hp => by
    cases e : s.heap.get? p.2 with
    | none => rfl
    | some o => exact absurd (Heap.lt_size e) (Nat.lt_asymm (habove p hp))
  have same_names : ∀ (n n' : Nat) (names : List (Str × NameKind)) (acc acc' : List (Str × Addr)), acc.map (·.1) = acc'.map (·.1) → (cellsFrom n names acc).map (·.1) = (cellsFrom n' names acc').map (·.1) := by
    intro n n' names
    induction names generalizing n n' with
    | nil => intro acc acc' e; exact e
    | cons x r ih =>
      intro acc acc' e
      obtain ⟨nm, k⟩ := x
      unfold cellsFrom
      split
      · exact ih _ _ _ _ (by simp [e])
      · exact ih _ _ _ _ e
  have hnd' : ((cellsFrom (s.heap.objs.size + 1) fd.scope.names []).map (·.1)).Nodup := by rw [same_names _ 0 _ _ [] rfl]; exact hnd
  have lookup_mem : ∀ {cs : List (Str × Addr)}, (cs.map (·.1)).Nodup → ∀ n c, (n, c) ∈ cs → cs.lookup n = some c := by
    intro cs
    induction cs with
    | nil => intro _ n c hm; cases hm
    | cons p r ih =>
      intro hn n c hm
      obtain ⟨pn, pc⟩ := p
      simp only [List.map_cons, List.nodup_cons] at hn
      rcases List.mem_cons.mp hm with e | hm
      · cases e; simp [List.lookup_cons]
      · have hne : n ≠ pn := fun q => hn.1 (q ▸ List.mem_map.mpr ⟨(n, c), hm, rfl⟩)
        rw [List.lookup_cons, beq_false_of_ne hne]; exact ih hn.2 n c hm
  obtain ⟨⟨⟨h1, tk1, rfl⟩, hns, hkeep, hab⟩, hcell, hap, hgt⟩ := X
  have hst : St C s.heap.objs.size lm (cellH cm (cellsFrom (s.heap.objs.size + 1) fd.scope.names []) H) h1 := by
    refine ⟨fun b o e => hkeep _ _ (hs.keep b o e), fun b o e => ?_, fun b o e hm => ?_, ⟨_, hns, fun x => hlm _ binds hbs x⟩, ?_, (hs.fresh hnone).2.1⟩
    · rcases cellH_some e with ⟨n, hm, rfl⟩ | e
      · obtain ⟨oc, ho, hd⟩ := hcell n b (lookup_mem hnd' n b hm)
        exact ⟨oc, ho, _, hd, hcm _ binds hbs n⟩
      · obtain ⟨c, e1, e2⟩ := hs.rep b o e; exact ⟨c, hkeep _ _ e1, e2⟩
    · rcases cellH_some e with ⟨n, hm', rfl⟩ | e
      · exact (hs.fresh (hfresh _ hm')).2.1
      · exact hs.own b o e hm
    · rw [cellH_get (fun p hp q => Nat.ne_of_gt (habove p hp) q)]; exact (hs.fresh hnone).1
  refine wpAny_mono (h s.heap.objs.size (hs.fresh hnone).1 (fun p hp => ⟨(hs.fresh (hfresh p hp)).1, Nat.ne_of_gt (habove p hp)⟩) { s with heap := h1, toks := tk1 } hst) (fun f s' ⟨ρ', H', x, y, z⟩ => ?_) fun _ _ e => e.elim
  obtain ⟨q1, q2, q3, q4⟩ := hs.back (s1 := { s with heap := h1, toks := tk1 }) (L' := s.heap.objs.size) hkeep hnone (fun b o e eb => by rw [cellH_get (fun p hp q => by have := hfresh p hp; rw [q, e] at this; cases this)]; exact eb) x y
  refine ⟨ρ, H', q1, ⟨?_, fun b o e eb _ => q2 b o e eb, q3, q4⟩, rfl, by cases f <;> exact z⟩
  obtain ⟨h', tk', e⟩ := y.same
  exact ⟨h', tk', by rw [e]⟩

/-! ## while -/
theorem W1.while {t : Expr} {body : List Stmt} {pos : Pos} {Q : Fl → Lo → AH → Prop} (F : Fx C A env) (I : Nat → Lo → AH → Prop) (n : Nat) (h0 : I n ρ H)
    (turn : ∀ n ρ1 H1, I n ρ1 H1 → WT C A env t ρ1 H1 (fun c H2 => (c = true → WS C A env body ρ1 H2 (fun f ρ3 H3 => match f with | .next => ∃ m, m < n ∧ I m ρ3 H3 | .cont => ∃ m, m < n ∧ I m ρ3 H3 | .brk => Q .next ρ3 H3 | .ret v => Q (.ret v) ρ3 H3)) ∧ (c = false → Q .next ρ1 H2))) :
    W1 C A env (.While t body [] pos) ρ H Q := fun s hs => by
  refine wpAny_While ?_
  refine codeAny_whileLoop (fun k s' => ∃ ρ1 H1, St C env.locals ρ1 H1 s'.heap ∧ Step env.locals H H1 s s' ∧ I k ρ1 H1) ?_ n ⟨ρ, H, hs, .refl .., h0⟩
  rintro k s1 ⟨ρ1, H1, a1, b1, c1⟩
  refine wpAny_mono (turn k ρ1 H1 c1 s1 a1) (fun c s2 ⟨ρ2, H2, a2, b2, c2, d2⟩ => ?_) fun _ _ e => e.elim
  subst c2
  have b12 := b1.trans b2 (fun _ _ => a2.nl)
  cases c with
  | true =>
    refine wpAny_mono (d2.1 rfl s2 a2) (fun f s3 ⟨ρ3, H3, a3, b3, c3⟩ => ?_) fun _ _ e => e.elim
    have b13 := b12.trans b3 (fun _ _ => a3.nl)
    cases f with
    | next => obtain ⟨m, hm, hI⟩ := c3; exact ⟨m, hm, ρ3, H3, a3, b13, hI⟩
    | cont => obtain ⟨m, hm, hI⟩ := c3; exact ⟨m, hm, ρ3, H3, a3, b13, hI⟩
    | brk => exact ⟨ρ3, H3, a3, b13, c3⟩
    | ret v => exact ⟨ρ3, H3, a3, b13, c3⟩
  | false => exact wpAny_execs_nil ⟨ρ2, H2, a2, b12, d2.2 rfl⟩
end
end Mine

namespace Mine
open PySem PySem.W PyProof.Rows

/-! ## iterators (their own objects are not tracked) -/
def Drawn (C : Cx) (A : Around) (tgt : Expr) (I : Addr) (Q : Option Value → Shared → Prop) (r : Option Value) (s₁ : Shared) : Prop :=
  match r with
  | none => Q none s₁
  | some v => wpAny C.M A (letOwnedTupleGo tgt (.ref I) v) (fun _ s₂ => Q (some v) s₂) False2 s₁

def Off (C : Cx) (L : Addr) (H : AH) (wr : List Addr) : Prop := ∀ b ∈ wr, H b = none ∧ C.base.get? b = none ∧ b ≠ L

structure Itr (C : Cx) (A : Around) (I : Addr) (wr : List Addr) (tgt : Expr) (n : Nat) (Rr : Nat → Heap → Prop) (Ok : Nat → AH → Prop) (P : Nat → AH → Dv → Prop) : Prop where
  live : ∀ i h, Rr i h → ∀ b ∈ wr, ∃ o, h.get? b = some o
  frame : ∀ i h h', Rr i h → (∀ b ∈ wr, ∀ o, h.get? b = some o → h'.get? b = some o) → Rr i h'
  item : ∀ i (s : Shared) L ρ H (Q : Option Value → Shared → Prop), i < n → Rr i s.heap → St C L ρ H s.heap → Off C L H wr → Ok i H →
    (∀ v d h' tk, P i H d → d.Is h' v → St C L ρ H h' → Rr (i + 1) h' → (∀ b o, b ∉ wr → s.heap.get? b = some o → h'.get? b = some o) → Q (some v) { s with heap := h', toks := tk }) →
    wpAny C.M A (pyNext (.ref I)) (Drawn C A tgt I Q) False2 s
  done : ∀ (s : Shared) L ρ H (Q : Option Value → Shared → Prop), Rr n s.heap → St C L ρ H s.heap → Off C L H wr → Ok n H →
    (∀ h' tk, St C L ρ H h' → (∀ b o, b ∉ wr → s.heap.get? b = some o → h'.get? b = some o) → Q none { s with heap := h', toks := tk }) →
    wpAny C.M A (pyNext (.ref I)) (Drawn C A tgt I Q) False2 s
  self : ∀ i (s : Shared) (Q : Value → Shared → Prop), Rr i s.heap → Q (.ref I) s → wpAny C.M A (pyIter (.ref I)) Q False2 s

def WIt (C : Cx) (A : Around) (env : Env) (e tgt : Expr) (ρ : Lo) (H : AH) (K : AH → Nat → (Nat → AH → Prop) → (Nat → AH → Dv → Prop) → Prop) : Prop :=
  ∀ s : Shared, St C env.locals ρ H s.heap → ∀ Q : Value → Shared → Prop,
    (∀ H1 n Ok P I wr Rr s', K H1 n Ok P → Itr C A I wr tgt n Rr Ok P → Rr 0 s'.heap → St C env.locals ρ H1 s'.heap → Step env.locals H H1 s s' → (∀ b ∈ wr, s.heap.get? b = none ∧ H1 b = none) → Q (.ref I) s') →
    wpAny C.M A (eval e env) (fun x s₁ => wpAny C.M A (pyIter x) Q False2 s₁) False2 s

section
variable {C : Cx} {A : Around} {env : Env} {ρ : Lo} {H : AH}

theorem St.offL {L : Addr} {h h' : Heap} {wr : List Addr} (x : St C L ρ H h) (hw : Off C L H wr) (k : ∀ b o, b ∉ wr → h.get? b = some o → h'.get? b = some o) : St C L ρ H h' where
  keep := fun b o e => k _ _ (fun q => by rw [(hw b q).2.1] at e; cases e) (x.keep b o e)
  rep := fun a o e => let ⟨c, e1, e2⟩ := x.rep a o e; ⟨c, k _ _ (fun q => by rw [(hw a q).1] at e; cases e) e1, e2⟩
  own := x.own
  loc := let ⟨m, ⟨o, es, ep, e1, r⟩, e2⟩ := x.loc; ⟨m, ⟨o, es, ep, k L o (fun q => (hw L q).2.2 rfl) e1, r⟩, e2⟩
  nl := x.nl
  bl := x.bl

theorem Step.offL {L : Addr} {H H' : AH} {s s2 : Shared} {h' : Heap} {tk : Nat} {wr : List Addr} (x : Step L H H' s s2) (hw : ∀ b ∈ wr, s.heap.get? b = none) (k : ∀ b o, b ∉ wr → s2.heap.get? b = some o → h'.get? b = some o) : Step L H H' s { s2 with heap := h', toks := tk } := by
  obtain ⟨⟨h, t, rfl⟩, k1, n1, l1⟩ := x
  exact ⟨⟨h', tk, rfl⟩, fun b o e eb eL => k b o (fun q => by rw [hw b q] at e; cases e) (k1 b o e eb eL), n1, fun b o e => let ⟨o', e'⟩ := l1 b o e; ⟨o', k b o' (fun q => by rw [hw b q] at e; cases e) e'⟩⟩
/-! the loop itself -/
theorem forLoop_run {tgt : Expr} {it : Addr} {body : List Stmt} {R : Result → Shared → Prop} {s : Shared} (I : Nat → Shared → Prop)
    (turn : ∀ n s, I n s → wpAny C.M A (pyNext (.ref it)) (Drawn C A tgt it (fun r s₁ => match r with
      | none => R (.ok .next) s₁
      | some v => wpAny C.M A (PySem.assign tgt env v) (fun _ s₂ => wpAny C.M A (execs body env) (fun f s₃ => match f with
          | .next | .cont => ∃ m, m < n ∧ I m s₃
          | .brk => R (.ok .next) s₃
          | .ret v => R (.ok (.ret v)) s₃) False2 s₂) False2 s₁)) False2 s)
    (n : Nat) (h : I n s) : codeAny C.M A (.forLoop tgt (.ref it) body [] env) R s := by
  refine codeAny_loop' rfl I (fun n s hI => ?_) n h
  show wpAny _ _ ((forTurn tgt (.ref it) body [] env).onRaise (fun x => do noteFrame x env; theTreesLotGoes x)) _ _ s
  refine wpAny_noted ?_
  simp only [forTurn]
  refine wpAny_bind (wpAny_standAt (wpAny_bind (wpAny_onRaise (wpAny_mono (turn n s hI) (fun r s₁ h₁ => ?_) fun _ _ e => e.elim))))
  cases r with
  | none => exact wpAny_pure (.inr ⟨rfl, codeAny_block (wpAny_execs_nil h₁)⟩)
  | some v =>
    refine wpAny_bind (wpAny_mono h₁ (fun _ s₁' h₁' => ?_) fun _ _ e => e.elim)
    refine wpAny_bind (wpAny_mono h₁' (fun _ s₂ h₂ => wpAny_bind (wpAny_mono h₂ (fun f s₃ h₃ => ?_) fun _ _ e => e.elim)) fun _ _ e => e.elim)
    cases f with
    | next => exact wpAny_pure (.inl ⟨rfl, h₃⟩)
    | cont => exact wpAny_pure (.inl ⟨rfl, h₃⟩)
    | brk => exact wpAny_pure h₃
    | ret v => exact wpAny_pure h₃

theorem Off.step {L : Addr} {H H' : AH} {wr : List Addr} {s s' : Shared} (x : Off C L H wr) (hl : ∀ b ∈ wr, ∃ o, s.heap.get? b = some o) (y : Step L H H' s s') : Off C L H' wr := fun b hb =>
  ⟨let ⟨o, e⟩ := hl b hb; y.new b o e (x b hb).1, (x b hb).2⟩

theorem W1.for {tgt iter : Expr} {body : List Stmt} {pos : Pos} {Q : Fl → Lo → AH → Prop}
    (h : WIt C A env iter tgt ρ H (fun H1 n Ok P => ∃ Inv : Nat → Lo → AH → Prop, Inv 0 ρ H1 ∧
      (∀ i ρ1 H2, i < n → Inv i ρ1 H2 → Ok i H2 ∧ ∀ d, P i H2 d → Asg C A env tgt d ρ1 H2 (fun ρ2 H3 => WS C A env body ρ2 H3 (fun f ρ3 H4 => match f with
        | .next => Inv (i + 1) ρ3 H4
        | .cont => Inv (i + 1) ρ3 H4
        | .brk => Q .next ρ3 H4
        | .ret v => Q (.ret v) ρ3 H4))) ∧
      (∀ ρ1 H2, Inv n ρ1 H2 → Ok n H2 ∧ Q .next ρ1 H2)))
    (hs : ∀ x, foldedSetIterable iter env x = pure x := by intro _; rfl) : W1 C A env (.For tgt iter body [] pos) ρ H Q := fun s hst => by
  refine wpAny_For ?_ hs
  refine h s hst _ (fun H1 n Ok P I wr Rr s' ⟨Inv, h0, turn, fin⟩ it r0 a1 b1 hw => ?_)
  have hoff : Off C env.locals H1 wr := fun b hb => ⟨(hw b hb).2, (hst.fresh (hw b hb).1).2⟩
  refine forLoop_run (fun k s2 => ∃ i ρ2 H2, i ≤ n ∧ k = n - i ∧ St C env.locals ρ2 H2 s2.heap ∧ Step env.locals H H2 s s2 ∧ Rr i s2.heap ∧ Off C env.locals H2 wr ∧ Inv i ρ2 H2) ?_ n ⟨0, ρ, H1, Nat.zero_le _, rfl, a1, b1, r0, hoff, h0⟩
  rintro k s2 ⟨i, ρ2, H2, hi, rfl, a2, b2, r2, o2, i2⟩
  by_cases hlt : i < n
  · obtain ⟨ok, t⟩ := turn i ρ2 H2 hlt i2
    refine it.item i s2 env.locals ρ2 H2 _ hlt r2 a2 o2 ok fun v d h' tk hP hd a3 r3 k3 => ?_
    have b3 : Step env.locals H H2 s { s2 with heap := h', toks := tk } := b2.offL (fun b hb => (hw b hb).1) k3
    refine wpAny_mono (t d hP { s2 with heap := h', toks := tk } v a3 hd) (fun _ s4 ⟨ρ4, H4, a4, b4, c4⟩ => ?_) fun _ _ e => e
    have b14 := b3.trans b4 (fun _ _ => a4.nl)
    have r4 : Rr (i + 1) s4.heap := it.frame _ _ _ r3 fun b hb o e => b4.kept b o e (o2 b hb).1 (o2 b hb).2.2
    have o4 : Off C env.locals H4 wr := o2.step (it.live _ _ r3) b4
    refine wpAny_mono (c4 s4 a4) (fun f s5 ⟨ρ5, H5, a5, b5, c5⟩ => ?_) fun _ _ e => e
    have b15 := b14.trans b5 (fun _ _ => a5.nl)
    have r5 : Rr (i + 1) s5.heap := it.frame _ _ _ r4 fun b hb o e => b5.kept b o e (o4 b hb).1 (o4 b hb).2.2
    have o5 : Off C env.locals H5 wr := o4.step (it.live _ _ r4) b5
    cases f with
    | next => exact ⟨n - (i + 1), by omega, i + 1, ρ5, H5, hlt, rfl, a5, b15, r5, o5, c5⟩
    | cont => exact ⟨n - (i + 1), by omega, i + 1, ρ5, H5, hlt, rfl, a5, b15, r5, o5, c5⟩
    | brk => exact ⟨ρ5, H5, a5, b15, c5⟩
    | ret v => exact ⟨ρ5, H5, a5, b15, c5⟩
  · have hin : i = n := by omega
    subst hin
    obtain ⟨ok, q⟩ := fin ρ2 H2 i2
    exact it.done s2 env.locals ρ2 H2 _ r2 a2 o2 ok fun h' tk a3 k3 => ⟨ρ2, H2, a3, b2.offL (fun b hb => (hw b hb).1) k3, q⟩

/-! ## lists, ranges -/
theorem letOwned_list {tgt : Expr} {I l : Addr} {i : Nat} {v : Value} {s : Shared} {Q : Unit → Shared → Prop} (h : s.heap.IsListIter I l i) (q : Q () s) : wpAny C.M A (letOwnedTupleGo tgt (.ref I) v) Q False2 s := by
  obtain ⟨o, ho, hc, hd⟩ := h
  cases tgt <;> first | exact wpAny_pure q | skip
  all_goals
    cases v <;> first | exact wpAny_pure q | skip
    refine wpAny_bind (wpAny_load ho ?_)
    rw [hc, hd]
    show wpAny _ _ (if _ then _ else _) _ _ _
    rw [if_neg (by simp)]
    exact wpAny_pure q

theorem Itr.list {I l : Addr} {tgt : Expr} {ob : O} {vs : List V} (hh : A.handled = none) (hne : l ≠ I) (hl : lst ob = some vs) :
    Itr C A I [I] tgt vs.length (fun i h => h.IsListIter I l i) (fun _ H => H l = some ob) (fun i H d => ∃ v, vs[i]? = some v ∧ d = .one v) where
  live := fun i h ⟨o, ho, _⟩ b hb => by rw [List.mem_singleton.mp hb]; exact ⟨o, ho⟩
  frame := fun i h h' ⟨o, ho, r⟩ k => ⟨o, k I (List.mem_singleton.mpr rfl) o ho, r⟩
  item := fun i s L ρ H Q hi hr hs hw hok hq => by
    obtain ⟨xs, h1, h2, h3⟩ := hs.list hok hl
    obtain ⟨x, x1, x2⟩ := arr_get (i := i) (v := vs[i]) h2 (by simp [hi])
    refine wpAny_pyNext_list_item hr h1 x1 fun h' hit' hs' => ?_
    refine letOwned_list hit' ?_
    have k : ∀ b o, b ∉ [I] → s.heap.get? b = some o → h'.get? b = some o := fun b o hb e => hs'.extBut b o (fun q => hb (by simp [q])) e
    exact hq x (.one vs[i]) h' s.toks ⟨_, by simp [hi], rfl⟩ x2 (hs.offL hw k) hit' k
  done := fun s L ρ H Q hr hs hw hok hq => by
    obtain ⟨xs, h1, h2, h3⟩ := hs.list hok hl
    refine wpAny_pyNext_list_end hh hr h1 (by rw [← arr_size h2]; simp) fun h' he' => ?_
    have k : ∀ b o, b ∉ [I] → s.heap.get? b = some o → h'.get? b = some o := fun b o hb e => he' b o (fun q => hb (by simp [q])) e
    exact hq h' s.toks (hs.offL hw k) k
  self := fun i s Q hr hq => wpAny_pyIter_listiter hr hq

theorem WIt.list {e tgt : Expr} {K : AH → Nat → (Nat → AH → Prop) → (Nat → AH → Dv → Prop) → Prop} (F : Fx C A env)
    (h : WE C A env e ρ H (fun v H1 => ∃ l ob vs, v = .ref l ∧ H1 l = some ob ∧ lst ob = some vs ∧ K H1 vs.length (fun _ H2 => H2 l = some ob) (fun i _ d => ∃ v, vs[i]? = some v ∧ d = .one v))) : WIt C A env e tgt ρ H K := fun s hs Q hq => by
  refine wpAny_mono (h s hs) (fun x s1 ⟨ρ1, H1, a1, b1, c1, l, ob, vs, d1, d2, d3, d4⟩ => ?_) fun _ _ e => e
  subst c1
  cases ab_ref d1
  obtain ⟨xs, h1, h2, h3⟩ := a1.list d2 d3
  refine wpAny_pyIter_list h1 ?_
  have hn := get?_size_none s1.heap
  have hne : l ≠ s1.heap.objs.size := fun q => by obtain ⟨o, ho, _⟩ := h1; rw [q, hn] at ho; cases ho
  have k : ∀ b o, s1.heap.get? b = some o → (s1.heap.push { cls := .type "list_iterator", data := .fields #[.ref l, .int 0 0] }).get? b = some o := fun b o e => Heap.get?_push_of_some _ e
  refine hq H1 _ _ _ s1.heap.objs.size [s1.heap.objs.size] _ _ d4 (Itr.list F.hh hne d3) ⟨_, Heap.get?_push_size _ rfl, rfl, rfl⟩ (a1.ext k) (b1.trans (Step.ext (tk := s1.toks) k) (fun _ _ => a1.nl)) fun b hb => ?_
  rw [List.mem_singleton.mp hb]
  refine ⟨?_, (a1.fresh hn).1⟩
  cases e : s.heap.get? s1.heap.objs.size with
  | none => rfl
  | some o =>
    obtain ⟨o', e'⟩ := b1.live _ o e
    rw [hn] at e'; cases e'
end
end Mine

namespace Mine
open PySem PySem.W PyProof.Rows

section
variable {C : Cx} {A : Around} {env : Env} {ρ : Lo} {H : AH}

theorem letOwned_range {tgt : Expr} {I : Addr} {x left step : Int} {i : Int} {t : Tok} {s : Shared} {Q : Unit → Shared → Prop} (q : Q () s) : wpAny C.M A (letOwnedTupleGo tgt (.ref I) (.int i t)) Q False2 s := by
  cases tgt <;> exact wpAny_pure q

theorem Itr.range {I : Addr} {tgt : Expr} {a c : Int} {n : Nat} (hh : A.handled = none) :
    Itr C A I [I] tgt n (fun i h => IsRangeIter h I (a + (i : Nat) * c) ((n : Int) - (i : Nat)) c) (fun _ _ => True) (fun i H d => d = .one (.int (a + (i : Nat) * c))) where
  live := fun i h ho b hb => by rw [List.mem_singleton.mp hb]; exact ⟨_, ho⟩
  frame := fun i h h' ho k => k I (List.mem_singleton.mpr rfl) _ ho
  item := fun i s L ρ H Q hi hr hs hw hok hq => by
    refine wpAny_pyNext_range_item hr (by omega) fun h' hit' hs' => ?_
    refine letOwned_range (x := 0) (left := 0) (step := 0) ?_
    have k : ∀ b o, b ∉ [I] → s.heap.get? b = some o → h'.get? b = some o := fun b o hb e => hs'.extBut b o (fun q => hb (by simp [q])) e
    refine hq (.int (a + (i : Nat) * c) s.toks) _ h' (s.toks + 1) rfl rfl (hs.offL hw k) ?_ k
    have e1 : a + ((i + 1 : Nat) : Int) * c = a + (i : Int) * c + c := by push_cast; rw [Int.add_mul, Int.one_mul, Int.add_assoc]
    have e2 : (n : Int) - ((i + 1 : Nat) : Int) = (n : Int) - (i : Int) - 1 := by push_cast; omega
    rw [e1, e2]; exact hit'
  done := fun s L ρ H Q hr hs hw hok hq => by
    refine wpAny_pyNext_range_end hh hr (by omega) fun h' he' => ?_
    have k : ∀ b o, b ∉ [I] → s.heap.get? b = some o → h'.get? b = some o := fun b o hb e => he' b o (fun q => hb (by simp [q])) e
    exact hq h' s.toks (hs.offL hw k) k
  self := fun i s Q hr hq => wpAny_pyIter_rangeiter hr hq

/-- behind the call of range -/
theorem WIt.range_core {r : Addr} {tgt : Expr} {a b c : Int} {t u v : Tok} {n : Nat} {s s1 : Shared} {H1 : AH} {K : AH → Nat → (Nat → AH → Prop) → (Nat → AH → Dv → Prop) → Prop} (hh : A.handled = none)
    (hr : IsRange s1.heap r a b c t u v) (hsm : Builtin.Range.small a b c = true) (hn : Builtin.Range.rangeSize a b c = (n : Int)) (a1 : St C env.locals ρ H1 s1.heap) (b1 : Step env.locals H H1 s s1)
    (hK : K H1 n (fun _ _ => True) (fun i H d => d = .one (.int (a + (i : Nat) * c)))) {Q : Value → Shared → Prop}
    (hq : ∀ H1 n Ok P I wr Rr s', K H1 n Ok P → Itr C A I wr tgt n Rr Ok P → Rr 0 s'.heap → St C env.locals ρ H1 s'.heap → Step env.locals H H1 s s' → (∀ b ∈ wr, s.heap.get? b = none ∧ H1 b = none) → Q (.ref I) s') :
    wpAny C.M A (pyIter (.ref r)) Q False2 s1 := by
  refine wpAny_pyIter_range hr hsm ?_
  have hnn := get?_size_none s1.heap
  have k : ∀ b' o, s1.heap.get? b' = some o → (s1.heap.push { cls := .type "range_iterator", data := .fields #[rawInt a, rawInt (Builtin.Range.rangeSize a b c), rawInt c] }).get? b' = some o := fun b' o e => Heap.get?_push_of_some _ e
  refine hq H1 n _ _ s1.heap.objs.size [s1.heap.objs.size] _ _ hK (Itr.range (a := a) (c := c) hh) ?_ (a1.ext k) (b1.trans (Step.ext (tk := s1.toks) k) (fun _ _ => a1.nl)) fun b hb => ?_
  · have := Heap.get?_push_size s1.heap (o := { cls := .type "range_iterator", data := .fields #[rawInt a, rawInt (Builtin.Range.rangeSize a b c), rawInt c] }) rfl
    rw [hn] at this
    have e : a + ((0 : Nat) : Int) * c = a := by simp
    have e' : (n : Int) - ((0 : Nat) : Int) = n := by simp
    show IsRangeIter _ _ (a + ((0 : Nat) : Int) * c) ((n : Int) - ((0 : Nat) : Int)) c
    rw [e, e', hn]; exact this
  · rw [List.mem_singleton.mp hb]
    refine ⟨?_, (a1.fresh hnn).1⟩
    cases e : s.heap.get? s1.heap.objs.size with
    | none => rfl
    | some o =>
      obtain ⟨o', e'⟩ := b1.live _ o e
      rw [hnn] at e'; cases e'

theorem WIt.range1 {e tgt : Expr} {id : Str} {p pos : Pos} {b : Int} {K : AH → Nat → (Nat → AH → Prop) → (Nat → AH → Dv → Prop) → Prop} (F : Fx C A env) (hf : Ev C A env ρ H (.Name id p) (.ty "range")) (he : Ev C A env ρ H e (.int b)) (hb : -(2 ^ 62) ≤ b) (hb' : b < 2 ^ 62)
    (hK : K H b.toNat (fun _ _ => True) (fun i _ d => d = .one (.int i))) (hn : noStar [e] = true := by rfl) : WIt C A env (.Call (.Name id p) [e] [] pos) tgt ρ H K := fun s hs Q hq => by
  refine wpAny_Call_Name_kw (wpAny_mono (hf s hs) (fun f s1 ⟨ρ1, H1, a1, b1, c1, c2, c3⟩ => ?_) fun _ _ e => e)
  subst c1 c2
  cases ab_ty c3
  refine PySem.callWith_type (backTo_any hn) (wpAny_mono (evalArgs_run (ks := []) (Q := fun vs kv H2 => vs = [.int b] ∧ kv = [] ∧ H2 = H1) hn rfl (WEs.of (.cons he .nil) ⟨rfl, rfl, rfl⟩) s1 a1) (fun x s2 ⟨ρ2, H2, a2, b2, c2, d1, d2, d3⟩ => ?_) fun _ _ e => e)
  subst c2 d3
  have hkw : x.kw = [] := by simpa using d2
  obtain ⟨y, ey, ey'⟩ := vals1 d1
  obtain ⟨t, rfl⟩ := ab_int ey'
  rw [hkw, ey]
  have k : ∀ b' o, s2.heap.get? b' = some o → (s2.heap.push { cls := .type "range", data := .fields #[.int 0 s2.toks, .int b t, .int 1 (s2.toks + 1)] }).get? b' = some o := fun b' o e => Heap.get?_push_of_some _ e
  refine call_range_1 (WIt.range_core (n := b.toNat) F.hh (IsRange.new _ _ _ _ _ _ _) (small_one (by decide) (by decide) hb hb') (by rw [rangeSize_nat]; simp) (a2.ext k) ((b1.trans b2 (fun _ _ => a2.nl)).trans (Step.ext (tk := s2.toks + 1 + 1) k) (fun _ _ => a2.nl)) ?_ hq)
  have e : (fun (i : Nat) (H : AH) (d : Dv) => d = Dv.one (V.int (0 + (i : Int) * 1))) = fun i _ d => d = .one (.int i) := by funext i _ d; simp
  rw [e]; exact hK
theorem WIt.range2 {e1 e2 tgt : Expr} {id : Str} {p pos : Pos} {a b : Int} {K : AH → Nat → (Nat → AH → Prop) → (Nat → AH → Dv → Prop) → Prop} (F : Fx C A env) (hf : Ev C A env ρ H (.Name id p) (.ty "range")) (he1 : Ev C A env ρ H e1 (.int a)) (he2 : Ev C A env ρ H e2 (.int b)) (ha : -(2 ^ 62) ≤ a) (ha' : a < 2 ^ 62) (hb : -(2 ^ 62) ≤ b) (hb' : b < 2 ^ 62)
    (hK : K H (b - a).toNat (fun _ _ => True) (fun i _ d => d = .one (.int (a + i)))) (hn : noStar [e1, e2] = true := by rfl) : WIt C A env (.Call (.Name id p) [e1, e2] [] pos) tgt ρ H K := fun s hs Q hq => by
  refine wpAny_Call_Name_kw (wpAny_mono (hf s hs) (fun f s1 ⟨ρ1, H1, a1, b1, c1, c2, c3⟩ => ?_) fun _ _ e => e)
  subst c1 c2
  cases ab_ty c3
  refine PySem.callWith_type (backTo_any hn) (wpAny_mono (evalArgs_run (ks := []) (Q := fun vs kv H2 => vs = [.int a, .int b] ∧ kv = [] ∧ H2 = H1) hn rfl (WEs.of (.cons he1 (.cons he2 .nil)) ⟨rfl, rfl, rfl⟩) s1 a1) (fun x s2 ⟨ρ2, H2, a2, b2, c2, d1, d2, d3⟩ => ?_) fun _ _ e => e)
  subst c2 d3
  have hkw : x.kw = [] := by simpa using d2
  obtain ⟨y, z, ey, ey', ez'⟩ := vals2 d1
  obtain ⟨t, rfl⟩ := ab_int ey'
  obtain ⟨u, rfl⟩ := ab_int ez'
  rw [hkw, ey]
  have k : ∀ b' o, s2.heap.get? b' = some o → (s2.heap.push { cls := .type "range", data := .fields #[.int a t, .int b u, .int 1 s2.toks] }).get? b' = some o := fun b' o e => Heap.get?_push_of_some _ e
  refine call_range_2 (WIt.range_core (n := (b - a).toNat) F.hh (IsRange.new _ _ _ _ _ _ _) (small_one ha ha' hb hb') (by rw [rangeSize_nat]) (a2.ext k) ((b1.trans b2 (fun _ _ => a2.nl)).trans (Step.ext (tk := s2.toks + 1) k) (fun _ _ => a2.nl)) ?_ hq)
  have e : (fun (i : Nat) (H : AH) (d : Dv) => d = Dv.one (V.int (a + (i : Int) * 1))) = fun i _ d => d = .one (.int (a + i)) := by funext i _ d; simp
  rw [e]; exact hK
theorem WIt.range3 {e1 e2 e3 tgt : Expr} {id : Str} {p pos : Pos} {a b c : Int} {n : Nat} {K : AH → Nat → (Nat → AH → Prop) → (Nat → AH → Dv → Prop) → Prop} (F : Fx C A env) (hf : Ev C A env ρ H (.Name id p) (.ty "range")) (he1 : Ev C A env ρ H e1 (.int a)) (he2 : Ev C A env ρ H e2 (.int b)) (he3 : Ev C A env ρ H e3 (.int c)) (hc : c ≠ 0) (hc' : c.natAbs < 1000)
    (hsm : Builtin.Range.small a b c = true) (hsz : Builtin.Range.rangeSize a b c = (n : Int))
    (hK : K H n (fun _ _ => True) (fun i _ d => d = .one (.int (a + (i : Nat) * c)))) (hn : noStar [e1, e2, e3] = true := by rfl) : WIt C A env (.Call (.Name id p) [e1, e2, e3] [] pos) tgt ρ H K := fun s hs Q hq => by
  refine wpAny_Call_Name_kw (wpAny_mono (hf s hs) (fun f s1 ⟨ρ1, H1, a1, b1, c1, c2, c3⟩ => ?_) fun _ _ e => e)
  subst c1 c2
  cases ab_ty c3
  refine PySem.callWith_type (backTo_any hn) (wpAny_mono (evalArgs_run (ks := []) (Q := fun vs kv H2 => vs = [.int a, .int b, .int c] ∧ kv = [] ∧ H2 = H1) hn rfl (WEs.of (.cons he1 (.cons he2 (.cons he3 .nil))) ⟨rfl, rfl, rfl⟩) s1 a1) (fun x s2 ⟨ρ2, H2, a2, b2, c2, d1, d2, d3⟩ => ?_) fun _ _ e => e)
  subst c2 d3
  have hkw : x.kw = [] := by simpa using d2
  obtain ⟨y, z, w, ey, ey', ez', ew'⟩ := vals3 d1
  obtain ⟨t, rfl⟩ := ab_int ey'
  obtain ⟨u, rfl⟩ := ab_int ez'
  obtain ⟨v, rfl⟩ := ab_int ew'
  rw [hkw, ey]
  have k : ∀ b' o, s2.heap.get? b' = some o → (s2.heap.push { cls := .type "range", data := .fields #[.int a t, .int b u, .int c v] }).get? b' = some o := fun b' o e => Heap.get?_push_of_some _ e
  exact call_range_3 hc (WIt.range_core (n := n) F.hh (IsRange.new _ _ _ _ _ _ _) hsm hsz (a2.ext k) ((b1.trans b2 (fun _ _ => a2.nl)).trans (Step.ext (tk := s2.toks) k) (fun _ _ => a2.nl)) hK hq) (Or.inl (PyProof.noPylong_small (by omega)))
end
end Mine

namespace Mine
open PySem PySem.W PyProof.Rows

section
variable {C : Cx} {A : Around} {env : Env} {ρ : Lo} {H : AH}

/-! ## tests of a clause -/
def WIf (C : Cx) (A : Around) (env : Env) : List Expr → Lo → AH → (Bool → AH → Prop) → Prop
  | [], _, H, Q => Q true H
  | c :: cs, ρ, H, Q => WT C A env c ρ H (fun b H1 => (b = true → WIf C A env cs ρ H1 Q) ∧ (b = false → Q false H1))
theorem ifs_false {env : Env} : ∀ (ifs : List Expr), (forIn ifs false fun c r => if r = true then do let ok ← isTrue c env (eval c env); pure (ForInStep.yield ok) else pure (ForInStep.yield r) : Sem Bool) = pure false
  | [] => rfl
  | c :: cs => by
    rw [List.forIn_cons]
    show (if false = true then _ else pure (ForInStep.yield false) : Sem (ForInStep Bool)) >>= _ = _
    rw [if_neg Bool.false_ne_true]
    exact ifs_false cs
theorem WIf.run : ∀ {ifs : List Expr} {ρ : Lo} {H : AH} {Q : Bool → AH → Prop}, WIf C A env ifs ρ H Q →
    W C A env.locals (forIn ifs true fun c r => if r = true then do let ok ← isTrue c env (eval c env); pure (ForInStep.yield ok) else pure (ForInStep.yield r)) ρ H (fun b ρ' H' => ρ' = ρ ∧ Q b H')
  | [], ρ, H, Q, h => W.pure ⟨rfl, h⟩
  | c :: cs, ρ, H, Q, h => by
    rw [List.forIn_cons]
    refine W.bind (W.bind (W.mono h ?_))
    rintro b ρ1 H1 ⟨rfl, h1, h2⟩
    refine W.pure ?_
    cases b with
    | true => exact WIf.run (h1 rfl)
    | false =>
      show W C A env.locals (forIn cs false _) ρ1 H1 _
      rw [ifs_false]
      exact W.pure ⟨rfl, h2 rfl⟩

/-! ## comprehensions -/
structure StepX (ex : List Addr) (L : Addr) (H H' : AH) (s s' : Shared) : Prop where
  same : ∃ h tk, s' = { s with heap := h, toks := tk }
  kept : ∀ b o, b ∉ ex → s.heap.get? b = some o → H b = none → b ≠ L → s'.heap.get? b = some o
  new : ∀ b o, b ∉ ex → s.heap.get? b = some o → H b = none → H' b = none
  live : ∀ b o, b ∉ ex → s.heap.get? b = some o → ∃ o', s'.heap.get? b = some o'
theorem Step.toX {ex : List Addr} {L : Addr} {H H' : AH} {s s' : Shared} (x : Step L H H' s s') : StepX ex L H H' s s' := ⟨x.same, fun b o _ e eb eL => x.kept b o e eb eL, fun b o _ => x.new b o, fun b o _ => x.live b o⟩
theorem StepX.trans {ex : List Addr} {L : Addr} {H H' H'' : AH} {s s' s'' : Shared} (x : StepX ex L H H' s s') (y : StepX ex L H' H'' s' s'') : StepX ex L H H'' s s'' := by
  obtain ⟨⟨h, tk, rfl⟩, k1, n1, l1⟩ := x
  obtain ⟨⟨h', tk', rfl⟩, k2, n2, l2⟩ := y
  exact ⟨⟨h', tk', rfl⟩, fun b o hb e eH eL => k2 b o hb (k1 b o hb e eH eL) (n1 b o hb e eH) eL, fun b o hb e eH => let ⟨o', e'⟩ := l1 b o hb e; n2 b o' hb e' (n1 b o hb e eH), fun b o hb e => let ⟨o', e'⟩ := l1 b o hb e; l2 b o' hb e'⟩
/-- changes at untracked places -/
theorem StepX.off {ex : List Addr} {L : Addr} {H : AH} {s : Shared} {h' : Heap} {tk : Nat} (k : ∀ b o, b ∉ ex → s.heap.get? b = some o → h'.get? b = some o) : StepX ex L H H s { s with heap := h', toks := tk } :=
  ⟨⟨_, _, rfl⟩, fun b o hb e _ _ => k b o hb e, fun _ _ _ _ e => e, fun b o hb e => ⟨o, k b o hb e⟩⟩
theorem StepX.mono {ex ex' : List Addr} {L : Addr} {H H' : AH} {s s' : Shared} (x : StepX ex L H H' s s') (h : ∀ b ∈ ex, ∀ o, s.heap.get? b = some o → b ∈ ex') : StepX ex' L H H' s s' :=
  ⟨x.same, fun b o hb e eb eL => x.kept b o (fun q => hb (h b q o e)) e eb eL, fun b o hb e => x.new b o (fun q => hb (h b q o e)) e, fun b o hb e => x.live b o (fun q => hb (h b q o e)) e⟩

/-- the accumulator, not tracked -/
structure Acc (C : Cx) (L : Addr) (D : Addr) (H : AH) (ys : List V) (h : Heap) : Prop where
  off : H D = none ∧ C.base.get? D = none ∧ D ≠ L
  arr : ∃ xs : Array Value, h.PlainList D xs ∧ xs.toList.map ab = ys
  sz : ys.length ≤ sizeLine
theorem Acc.step {L D : Addr} {H H' : AH} {ys : List V} {s s' : Shared} (x : Acc C L D H ys s.heap) (y : Step L H H' s s') : Acc C L D H' ys s'.heap := by
  obtain ⟨o, ⟨xs, ⟨n, hp⟩, e⟩, z⟩ := x
  exact ⟨⟨y.new _ _ hp o.1, o.2⟩, ⟨xs, ⟨n, y.kept _ _ hp o.1 o.2.2⟩, e⟩, z⟩

def CompR (C : Cx) (L D : Addr) (ex : List Addr) (H : AH) (s : Shared) (Q : Lo → AH → List V → Prop) (r : Result) (s' : Shared) : Prop :=
  match r with
  | .ok .next => ∃ ρ' H' zs, St C L ρ' H' s'.heap ∧ Acc C L D H' zs s'.heap ∧ StepX ex L H H' s s' ∧ Q ρ' H' zs
  | _ => False

/-- what is done for each item of the clauses behind -/
def CompI (C : Cx) (A : Around) (env : Env) (elt : Expr) : List Comprehension → Lo → AH → List V → (Lo → AH → List V → Prop) → Prop
  | [], ρ, H, ys, Q => WE C A env elt ρ H (fun v H1 => ys.length < sizeLine ∧ Q ρ H1 (ys ++ [v]))
  | ⟨tgt, iter, ifs, _⟩ :: gs, ρ, H, ys, Q => WIt C A env iter tgt ρ H (fun H1 n Ok P => ∃ Inv : Nat → Lo → AH → List V → Prop, Inv 0 ρ H1 ys ∧
      (∀ i ρ1 H2 zs, i < n → Inv i ρ1 H2 zs → Ok i H2 ∧ ∀ d, P i H2 d → Asg C A env tgt d ρ1 H2 (fun ρ2 H3 => WIf C A env ifs ρ2 H3 (fun b H4 => (b = true → CompI C A env elt gs ρ2 H4 zs (fun ρ5 H5 us => Inv (i + 1) ρ5 H5 us)) ∧ (b = false → Inv (i + 1) ρ2 H4 zs)))) ∧
      (∀ ρ1 H2 zs, Inv n ρ1 H2 zs → Ok n H2 ∧ Q ρ1 H2 zs))

/-- the loop of one clause, given what is done inside -/
def LoopOk (C : Cx) (A : Around) (env : Env) (elt tgt : Expr) (ifs : List Expr) (gs : List Comprehension) (H1 : AH) (n : Nat) (Ok : Nat → AH → Prop) (P : Nat → AH → Dv → Prop) (ρ : Lo) (ys : List V) (Q : Lo → AH → List V → Prop) : Prop :=
  ∃ Inv : Nat → Lo → AH → List V → Prop, Inv 0 ρ H1 ys ∧
      (∀ i ρ1 H2 zs, i < n → Inv i ρ1 H2 zs → Ok i H2 ∧ ∀ d, P i H2 d → Asg C A env tgt d ρ1 H2 (fun ρ2 H3 => WIf C A env ifs ρ2 H3 (fun b H4 => (b = true → CompI C A env elt gs ρ2 H4 zs (fun ρ5 H5 us => Inv (i + 1) ρ5 H5 us)) ∧ (b = false → Inv (i + 1) ρ2 H4 zs)))) ∧
      (∀ ρ1 H2 zs, Inv n ρ1 H2 zs → Ok n H2 ∧ Q ρ1 H2 zs)

theorem compTurn_last (elt : Expr) (gens : List Comprehension) (scope : Scope) (pos : Pos) (d : Nat) (tgt iter : Expr) (ifs : List Expr) (it acc : Value) (cenv : Env) (hd : gens[d]? = some ⟨tgt, iter, ifs, 0⟩) (hl : gens[d + 1]? = none) :
    compTurn (.ListComp elt gens scope pos) d it acc cenv = (standAt iter.pos >>= fun _ => pyNext it >>= fun r => match r with
      | none => pure (.done .next)
      | some v => letOwnedTupleGo tgt it v >>= fun _ => PySem.assign tgt cenv v >>= fun _ =>
          (forIn ifs true fun c r => if r = true then do let ok ← isTrue c cenv (eval c cenv); pure (ForInStep.yield ok) else pure (ForInStep.yield r)) >>= fun ok =>
            if ok = true then ((eval elt cenv >>= fun x => call (.builtin "list.append") [acc, x] >>= fun _ => pure PUnit.unit) >>= fun _ => again (.compLoop (.ListComp elt gens scope pos) d it acc cenv)) else again (.compLoop (.ListComp elt gens scope pos) d it acc cenv)) := by
  unfold compTurn
  simp only [hd, hl]
  rfl
theorem compTurn_more (elt : Expr) (gens : List Comprehension) (scope : Scope) (pos : Pos) (d : Nat) (tgt iter tgt' iter' : Expr) (ifs ifs' : List Expr) (it acc : Value) (cenv : Env) (hd : gens[d]? = some ⟨tgt, iter, ifs, 0⟩) (hl : gens[d + 1]? = some ⟨tgt', iter', ifs', 0⟩) :
    compTurn (.ListComp elt gens scope pos) d it acc cenv = (standAt iter.pos >>= fun _ => pyNext it >>= fun r => match r with
      | none => pure (.done .next)
      | some v => letOwnedTupleGo tgt it v >>= fun _ => PySem.assign tgt cenv v >>= fun _ =>
          (forIn ifs true fun c r => if r = true then do let ok ← isTrue c cenv (eval c cenv); pure (ForInStep.yield ok) else pure (ForInStep.yield r)) >>= fun ok =>
            if ok = true then (eval iter' cenv >>= fun x => standAt iter'.pos >>= fun _ => foldedSetIterable iter' cenv x >>= fun x => holding [x] (pyIter x) >>= fun it' => runOwn (.compStart (.ListComp elt gens scope pos) (d + 1) it' acc cenv) cenv >>= fun _ => again (.compLoop (.ListComp elt gens scope pos) d it acc cenv)) else again (.compLoop (.ListComp elt gens scope pos) d it acc cenv)) := by
  unfold compTurn
  simp only [hd, hl]
  rfl

theorem Acc.stepX {L D : Addr} {H H' : AH} {ys : List V} {ex : List Addr} {s s' : Shared} (x : Acc C L D H ys s.heap) (y : StepX ex L H H' s s') (hD : D ∉ ex) : Acc C L D H' ys s'.heap := by
  obtain ⟨o, ⟨xs, ⟨n, hp⟩, e⟩, z⟩ := x
  exact ⟨⟨y.new _ _ hD hp o.1, o.2⟩, ⟨xs, ⟨n, y.kept _ _ hD hp o.1 o.2.2⟩, e⟩, z⟩
theorem Off.stepX {L : Addr} {H H' : AH} {wr ex : List Addr} {s s' : Shared} (x : Off C L H wr) (hl : ∀ b ∈ wr, ∃ o, s.heap.get? b = some o) (y : StepX ex L H H' s s') (hex : ∀ b ∈ wr, b ∉ ex) : Off C L H' wr := fun b hb =>
  ⟨let ⟨o, e⟩ := hl b hb; y.new b o (hex b hb) e (x b hb).1, (x b hb).2⟩

abbrev ifsT (ifs : List Expr) (env : Env) : Sem Bool := forIn ifs true fun c r => if r = true then do let ok ← isTrue c env (eval c env); pure (ForInStep.yield ok) else pure (ForInStep.yield r)
def TurnP (C : Cx) (A : Around) (env : Env) (tgt : Expr) (ifs : List Expr) (I : Addr) (fin : Shared → Prop) (Inn : Shared → Prop) (K : Shared → Prop) : Option Value → Shared → Prop :=
  Drawn C A tgt I (fun r s₁ => match r with
    | none => fin s₁
    | some v => wpAny C.M A (PySem.assign tgt env v) (fun _ s₂ => wpAny C.M A (ifsT ifs env) (fun ok s₃ => (ok = true → Inn s₃) ∧ (ok = false → K s₃)) False2 s₂) False2 s₁)
def InnLast (C : Cx) (A : Around) (env : Env) (elt : Expr) (D : Addr) (K : Shared → Prop) (s : Shared) : Prop :=
  wpAny C.M A (eval elt env) (fun x s₄ => wpAny C.M A (call (.builtin "list.append") [.ref D, x]) (fun _ s₅ => K s₅) False2 s₄) False2 s
def InnMore (C : Cx) (A : Around) (env : Env) (e iter : Expr) (d : Nat) (D : Addr) (K : Shared → Prop) (s : Shared) : Prop :=
  wpAny C.M A (eval iter env) (fun x s₄ => wpAny C.M A (pyIter x) (fun it s₅ => codeAny C.M A (.compStart e d it (.ref D) env) (fun r s₆ => match r with | .ok _ => K s₆ | .error _ => False) s₅) False2 s₄) False2 s

theorem compLoop_last {elt : Expr} {gens : List Comprehension} {scope : Scope} {pos : Pos} {d : Nat} {tgt iter : Expr} {ifs : List Expr} {it D : Addr} {R : Result → Shared → Prop} {s : Shared} (hd : gens[d]? = some ⟨tgt, iter, ifs, 0⟩) (hl : gens[d + 1]? = none) (I : Nat → Shared → Prop)
    (turn : ∀ n s, I n s → wpAny C.M A (pyNext (.ref it)) (TurnP C A env tgt ifs it (R (.ok .next)) (InnLast C A env elt D (fun s' => ∃ m, m < n ∧ I m s')) (fun s' => ∃ m, m < n ∧ I m s')) False2 s) (n : Nat) (h : I n s) :
    codeAny C.M A (.compLoop (.ListComp elt gens scope pos) d (.ref it) (.ref D) env) R s := by
  refine codeAny_loop rfl I (fun n s hI => ?_) n h
  show wpAny _ A ((compTurn (.ListComp elt gens scope pos) d (.ref it) (.ref D) env).onRaise (fun x => do noteFrame x env; theTreesLotGoes x)) _ _ s
  refine wpAny_noted ?_
  rw [compTurn_last elt gens scope pos d tgt iter ifs _ _ _ hd hl]
  refine wpAny_bind (wpAny_standAt (wpAny_bind (wpAny_mono (turn n s hI) (fun r s₁ h₁ => ?_) fun _ _ e => e.elim)))
  cases r with
  | none => exact wpAny_pure h₁
  | some v =>
    refine wpAny_bind (wpAny_mono h₁ (fun _ s₂ h₂ => ?_) fun _ _ e => e.elim)
    refine wpAny_bind (wpAny_mono h₂ (fun _ s₃ h₃ => ?_) fun _ _ e => e.elim)
    refine wpAny_bind (wpAny_mono h₃ (fun ok s₄ h₄ => ?_) fun _ _ e => e.elim)
    cases ok with
    | false => exact wpAny_pure ⟨rfl, h₄.2 rfl⟩
    | true => exact wpAny_bind (wpAny_bind (wpAny_mono (h₄.1 rfl) (fun x s₅ h₅ => wpAny_bind (wpAny_mono h₅ (fun _ s₆ h₆ => wpAny_pure (wpAny_pure ⟨rfl, h₆⟩)) fun _ _ e => e.elim)) fun _ _ e => e.elim))
theorem compLoop_more {elt : Expr} {gens : List Comprehension} {scope : Scope} {pos : Pos} {d : Nat} {tgt iter tgt' iter' : Expr} {ifs ifs' : List Expr} {it D : Addr} {R : Result → Shared → Prop} {s : Shared} (hd : gens[d]? = some ⟨tgt, iter, ifs, 0⟩) (hl : gens[d + 1]? = some ⟨tgt', iter', ifs', 0⟩) (hs : ∀ x, foldedSetIterable iter' env x = pure x) (I : Nat → Shared → Prop)
    (turn : ∀ n s, I n s → wpAny C.M A (pyNext (.ref it)) (TurnP C A env tgt ifs it (R (.ok .next)) (InnMore C A env (.ListComp elt gens scope pos) iter' (d + 1) D (fun s' => ∃ m, m < n ∧ I m s')) (fun s' => ∃ m, m < n ∧ I m s')) False2 s) (n : Nat) (h : I n s) :
    codeAny C.M A (.compLoop (.ListComp elt gens scope pos) d (.ref it) (.ref D) env) R s := by
  refine codeAny_loop rfl I (fun n s hI => ?_) n h
  show wpAny _ A ((compTurn (.ListComp elt gens scope pos) d (.ref it) (.ref D) env).onRaise (fun x => do noteFrame x env; theTreesLotGoes x)) _ _ s
  refine wpAny_noted ?_
  rw [compTurn_more elt gens scope pos d tgt iter tgt' iter' ifs ifs' _ _ _ hd hl]
  refine wpAny_bind (wpAny_standAt (wpAny_bind (wpAny_mono (turn n s hI) (fun r s₁ h₁ => ?_) fun _ _ e => e.elim)))
  cases r with
  | none => exact wpAny_pure h₁
  | some v =>
    refine wpAny_bind (wpAny_mono h₁ (fun _ s₂ h₂ => ?_) fun _ _ e => e.elim)
    refine wpAny_bind (wpAny_mono h₂ (fun _ s₃ h₃ => ?_) fun _ _ e => e.elim)
    refine wpAny_bind (wpAny_mono h₃ (fun ok s₄ h₄ => ?_) fun _ _ e => e.elim)
    cases ok with
    | false => exact wpAny_pure ⟨rfl, h₄.2 rfl⟩
    | true =>
      refine wpAny_bind (wpAny_mono (h₄.1 rfl) (fun x s₅ h₅ => wpAny_bind (wpAny_standAt ?_)) fun _ _ e => e.elim)
      rw [hs]
      refine wpAny_bind (wpAny_pure (wpAny_bind (wpAny_holding (wpAny_mono h₅ (fun it' s₆ h₆ => ?_) fun _ _ e => e.elim))))
      refine wpAny_bind ?_
      unfold runOwn
      refine wpAny_onRaise (wpAny_run (codeAny_mono h₆ fun r s' hr => ?_))
      cases r with
      | ok f => exact wpAny_pure ⟨rfl, hr⟩
      | error e => exact hr.elim

theorem compStart_run {elt : Expr} {gens : List Comprehension} {scope : Scope} {pos : Pos} {d : Nat} {tgt iter : Expr} {ifs : List Expr} {it acc : Value} {R : Result → Shared → Prop} {s : Shared} (hd : gens[d]? = some ⟨tgt, iter, ifs, 0⟩)
    (h0 : codeAny C.M A (.compLoop (.ListComp elt gens scope pos) d it acc env) R s)
    (h : wpAny C.M A (pyIter it) (fun it' s' => codeAny C.M A (.compLoop (.ListComp elt gens scope pos) d it' acc env) R s') False2 s) :
    codeAny C.M A (.compStart (.ListComp elt gens scope pos) d it acc env) R s := by
  refine codeAny_of_tree ?_
  show wpAny _ _ ((compStart (.ListComp elt gens scope pos) d it acc env).onRaise (fun x => do noteFrame x env; standAt theWindowsPlace)) _ _ s
  refine wpAny_notedAt ?_
  unfold compStart
  have hcl : (clausesOf (.ListComp elt gens scope pos))[d]? = some ⟨tgt, iter, ifs, 0⟩ := hd
  rw [hcl]
  show wpAny _ _ (ask >>= _) _ _ s
  refine wpAny_bind (wpAny_askSetting (wpAny_ite ?_))
  split
  · exact wpAny_pure (And.intro rfl h0)
  · exact wpAny_bind (wpAny_rule (wpAny_bind (wpAny_standAt (wpAny_bind (wpAny_mono h (fun it' s' h' => wpAny_pure (And.intro rfl h')) fun _ _ x => x.elim)))))

section
variable {elt tgt : Expr} {ifs : List Expr} {gs : List Comprehension} {I D : Addr} {wr : List Addr} {n : Nat} {Rr : Nat → Heap → Prop} {Ok : Nat → AH → Prop} {P : Nat → AH → Dv → Prop} {Inv : Nat → Lo → AH → List V → Prop} {s : Shared} {Q : Lo → AH → List V → Prop}
def CSt (C : Cx) (env : Env) (D : Addr) (wr : List Addr) (n : Nat) (Rr : Nat → Heap → Prop) (Inv : Nat → Lo → AH → List V → Prop) (H : AH) (s : Shared) (k : Nat) (s2 : Shared) : Prop :=
  ∃ i ρ2 H2 zs, i ≤ n ∧ k = n - i ∧ St C env.locals ρ2 H2 s2.heap ∧ StepX (D :: wr) env.locals H H2 s s2 ∧ Rr i s2.heap ∧ Off C env.locals H2 wr ∧ Acc C env.locals D H2 zs s2.heap ∧ Inv i ρ2 H2 zs
theorem comp_turns (Inn : (Shared → Prop) → Shared → Prop)
    (hInn : ∀ {ρ H zs Qi} {K : Shared → Prop} {s : Shared}, CompI C A env elt gs ρ H zs Qi → St C env.locals ρ H s.heap → Acc C env.locals D H zs s.heap →
      (∀ ρ5 H5 us s5, St C env.locals ρ5 H5 s5.heap → Acc C env.locals D H5 us s5.heap → StepX [D] env.locals H H5 s s5 → Qi ρ5 H5 us → K s5) → Inn K s)
    (it : Itr C A I wr tgt n Rr Ok P) (hDw : D ∉ wr)
    (turn : ∀ i ρ1 H2 zs, i < n → Inv i ρ1 H2 zs → Ok i H2 ∧ ∀ d, P i H2 d → Asg C A env tgt d ρ1 H2 (fun ρ2 H3 => WIf C A env ifs ρ2 H3 (fun b H4 => (b = true → CompI C A env elt gs ρ2 H4 zs (fun ρ5 H5 us => Inv (i + 1) ρ5 H5 us)) ∧ (b = false → Inv (i + 1) ρ2 H4 zs))))
    (fin : ∀ ρ1 H2 zs, Inv n ρ1 H2 zs → Ok n H2 ∧ Q ρ1 H2 zs) (k : Nat) (s2 : Shared) (hI : CSt C env D wr n Rr Inv H s k s2) :
    wpAny C.M A (pyNext (.ref I)) (TurnP C A env tgt ifs I (CompR C env.locals D (D :: wr) H s Q (.ok .next)) (Inn (fun s' => ∃ m, m < k ∧ CSt C env D wr n Rr Inv H s m s')) (fun s' => ∃ m, m < k ∧ CSt C env D wr n Rr Inv H s m s')) False2 s2 := by
  obtain ⟨i, ρ2, H2, zs, hi, rfl, a2, b2, r2, o2, acc2, i2⟩ := hI
  by_cases hlt : i < n
  · obtain ⟨ok, t⟩ := turn i ρ2 H2 zs hlt i2
    refine it.item i s2 env.locals ρ2 H2 _ hlt r2 a2 o2 ok fun v dd h' tk hP hdd a3 r3 k3 => ?_
    have b3 : StepX (D :: wr) env.locals H2 H2 s2 { s2 with heap := h', toks := tk } := StepX.off (fun b o hb e => k3 b o (fun q => hb (List.mem_cons_of_mem _ q)) e)
    have hDn : ∀ b ∈ wr, b ∉ [D] := fun b hb q => hDw (by rw [← List.mem_singleton.mp q]; exact hb)
    have acc3 : Acc C env.locals D H2 zs h' := by
      obtain ⟨oo, ⟨xs, ⟨nn, hp⟩, e⟩, z⟩ := acc2
      exact ⟨oo, ⟨xs, ⟨nn, k3 D _ hDw hp⟩, e⟩, z⟩
    refine wpAny_mono (t dd hP { s2 with heap := h', toks := tk } v a3 hdd) (fun _ s4 ⟨ρ4, H4, a4, b4, c4⟩ => ?_) fun _ _ e => e.elim
    have acc4 := acc3.step b4
    have r4 : Rr (i + 1) s4.heap := it.frame _ _ _ r3 fun b hb o e => b4.kept b o e (o2 b hb).1 (o2 b hb).2.2
    have o4 : Off C env.locals H4 wr := o2.step (it.live _ _ r3) b4
    refine wpAny_mono (WIf.run c4 s4 a4) (fun bb s5 ⟨ρ5, H5, a5, b5, c5, d5, d5'⟩ => ?_) fun _ _ e => e.elim
    subst c5
    have acc5 := acc4.step b5
    have r5 : Rr (i + 1) s5.heap := it.frame _ _ _ r4 fun b hb o e => b5.kept b o e (o4 b hb).1 (o4 b hb).2.2
    have o5 : Off C env.locals H5 wr := o4.step (it.live _ _ r4) b5
    have b25 := ((b2.trans b3).trans b4.toX).trans b5.toX
    refine ⟨fun e => ?_, fun e => ⟨n - (i + 1), by omega, i + 1, ρ5, H5, zs, hlt, rfl, a5, b25, r5, o5, acc5, d5' e⟩⟩
    refine hInn (d5 e) a5 acc5 fun ρ6 H6 us s6 a6 acc6 b6 i6 => ?_
    refine ⟨n - (i + 1), by omega, i + 1, ρ6, H6, us, hlt, rfl, a6, b25.trans (b6.mono fun b hb _ _ => by rw [List.mem_singleton.mp hb]; exact List.mem_cons_self ..), ?_, o5.stepX (it.live _ _ r5) b6 hDn, acc6, i6⟩
    exact it.frame _ _ _ r5 fun b hb o e => b6.kept b o (hDn b hb) e (o5 b hb).1 (o5 b hb).2.2
  · have hin : i = n := by omega
    subst hin
    obtain ⟨ok, q⟩ := fin ρ2 H2 zs i2
    refine it.done s2 env.locals ρ2 H2 _ r2 a2 o2 ok fun h' tk a3 k3 => ?_
    refine ⟨ρ2, H2, zs, a3, ?_, ?_, q⟩
    · obtain ⟨oo, ⟨xs, ⟨nn, hp⟩, e⟩, z⟩ := acc2
      exact ⟨oo, ⟨xs, ⟨nn, k3 D _ hDw hp⟩, e⟩, z⟩
    · exact b2.trans (StepX.off fun b o hb e => k3 b o (fun q => hb (List.mem_cons_of_mem _ q)) e)
end

theorem comp_run {elt : Expr} {gens : List Comprehension} {scope : Scope} {pos : Pos} {D : Addr} : ∀ (gs : List Comprehension) (d : Nat) (tgt iter : Expr) (ifs : List Expr), gens.drop d = ⟨tgt, iter, ifs, 0⟩ :: gs → (∀ g ∈ gs, g.is_async = 0 ∧ ∀ x, foldedSetIterable g.iter env x = pure x) →
    ∀ {I : Addr} {wr : List Addr} {n : Nat} {Rr : Nat → Heap → Prop} {Ok : Nat → AH → Prop} {P : Nat → AH → Dv → Prop} {ρ : Lo} {H : AH} {ys : List V} {Q : Lo → AH → List V → Prop} {s : Shared},
      LoopOk C A env elt tgt ifs gs H n Ok P ρ ys Q → Itr C A I wr tgt n Rr Ok P → Rr 0 s.heap → St C env.locals ρ H s.heap → Off C env.locals H wr → D ∉ wr → Acc C env.locals D H ys s.heap →
      codeAny C.M A (.compStart (.ListComp elt gens scope pos) d (.ref I) (.ref D) env) (CompR C env.locals D (D :: wr) H s Q) s := by
  intro gs
  induction gs with
  | nil =>
    intro d tgt iter ifs hdrop hasync I wr n Rr Ok P ρ H ys Q s ⟨Inv, h0, turn, fin⟩ it r0 a0 o0 hDw acc0
    have hd : gens[d]? = some ⟨tgt, iter, ifs, 0⟩ := by rw [← List.head?_drop, hdrop]; rfl
    have hl : gens[d + 1]? = none := by
      have : gens.drop (d + 1) = [] := by rw [← List.drop_drop, hdrop]; rfl
      rw [← List.head?_drop, this]; rfl
    have key : codeAny C.M A (.compLoop (.ListComp elt gens scope pos) d (.ref I) (.ref D) env) (CompR C env.locals D (D :: wr) H s Q) s := by
      refine compLoop_last hd hl (CSt C env D wr n Rr Inv H s) (fun k s2 hI => comp_turns (InnLast C A env elt D) ?_ it hDw turn fin k s2 hI) n ⟨0, ρ, H, ys, Nat.zero_le _, rfl, a0, (Step.refl ..).toX, r0, o0, acc0, h0⟩
      intro ρ5 H5 zs Qi K s5 hc a5 acc5 hK
      refine wpAny_mono (hc s5 a5) (fun y s6 ⟨ρ6, H6, a6, b6, c6, d6, d6'⟩ => ?_) fun _ _ e => e.elim
      subst c6
      obtain ⟨oo, ⟨xs, hp, e⟩, z6⟩ := acc5.step b6
      have hxs : xs.size = zs.length := by rw [← e]; simp
      refine wpAny_list_append_plain hp (fun h7 hp7 hs7 => ?_) (by rw [hxs]; exact Nat.le_of_lt d6)
      have k7 : ∀ b o, b ∉ [D] → s6.heap.get? b = some o → h7.get? b = some o := fun b o hb e => hs7.extBut b o (fun q => hb (by simp [q])) e
      exact hK ρ6 H6 (zs ++ [ab y]) _ (a6.offL (fun b hb => by rw [List.mem_singleton.mp hb]; exact oo) k7) ⟨oo, ⟨xs.push y, hp7, by simp [e]⟩, by simp; omega⟩ (b6.toX.trans (StepX.off k7)) d6'
    exact compStart_run hd key (it.self 0 s _ r0 key)
  | cons g gs ih =>
    intro d tgt iter ifs hdrop hasync I wr n Rr Ok P ρ H ys Q s ⟨Inv, h0, turn, fin⟩ it r0 a0 o0 hDw acc0
    obtain ⟨tgt', iter', ifs', as'⟩ := g
    have has : as' = 0 := (hasync _ (List.mem_cons_self ..)).1
    subst has
    have hfs : ∀ x, foldedSetIterable iter' env x = pure x := (hasync _ (List.mem_cons_self ..)).2
    have hd : gens[d]? = some ⟨tgt, iter, ifs, 0⟩ := by rw [← List.head?_drop, hdrop]; rfl
    have hdrop' : gens.drop (d + 1) = ⟨tgt', iter', ifs', 0⟩ :: gs := by rw [← List.drop_drop, hdrop]; rfl
    have hl : gens[d + 1]? = some ⟨tgt', iter', ifs', 0⟩ := by rw [← List.head?_drop, hdrop']; rfl
    have key : codeAny C.M A (.compLoop (.ListComp elt gens scope pos) d (.ref I) (.ref D) env) (CompR C env.locals D (D :: wr) H s Q) s := by
      refine compLoop_more hd hl hfs (CSt C env D wr n Rr Inv H s) (fun k s2 hI => comp_turns (InnMore C A env (.ListComp elt gens scope pos) iter' (d + 1) D) ?_ it hDw turn fin k s2 hI) n ⟨0, ρ, H, ys, Nat.zero_le _, rfl, a0, (Step.refl ..).toX, r0, o0, acc0, h0⟩
      intro ρ5 H5 zs Qi K s5 hc a5 acc5 hK
      refine hc s5 a5 _ (fun H6 n6 Ok6 P6 I6 wr6 Rr6 s6 hL6 it6 r6 a6 b6 hw6 => ?_)
      have acc6 := acc5.step b6
      have hD6 : D ∉ wr6 := fun q => by
        obtain ⟨_, ⟨xs, ⟨nn, hp⟩, _⟩, _⟩ := acc5
        rw [(hw6 D q).1] at hp; cases hp
      refine codeAny_mono (ih (d + 1) tgt' iter' ifs' hdrop' (fun g hg => hasync g (List.mem_cons_of_mem _ hg)) hL6 it6 r6 a6 (fun b hb => ⟨(hw6 b hb).2, (a5.fresh (hw6 b hb).1).2⟩) hD6 acc6) (fun r s7 h7 => ?_)
      cases r with
      | error e => exact h7
      | ok f =>
        cases f with
        | next =>
          obtain ⟨ρ7, H7, us, a7, acc7, b7, q7⟩ := h7
          refine hK ρ7 H7 us s7 a7 acc7 ?_ q7
          have b67 := (b6.toX (ex := D :: wr6)).trans b7
          refine b67.mono fun b hb o e => ?_
          rcases List.mem_cons.mp hb with rfl | hb
          · exact List.mem_singleton.mpr rfl
          · rw [(hw6 b hb).1] at e; cases e
        | brk => exact h7.elim
        | cont => exact h7.elim
        | ret v => exact h7.elim
    exact compStart_run hd key (it.self 0 s _ r0 key)

/-! the whole comprehension -/
theorem compEnv_eq {scope : Scope} {Cn : Addr} {cl : List (Str × Addr)} : ({ newEnv scope Cn env.globals cl env.qual none .none (some env) builtinsNs with scope := relabel scope env } : Env) = compEnvC scope cl Cn env := rfl

def CompOk (C : Cx) (A : Around) (env : Env) (elt : Expr) (g : Comprehension) (gs : List Comprehension) (scope : Scope) (cl : List (Str × Addr)) (ρ : Lo) (H : AH) (Q : AH → List V → Prop) : Prop :=
  WIt C A env g.iter g.target ρ H (fun H1 n Ok P => ∀ Cn, H1 Cn = none → LoopOk C A (compEnvC scope cl Cn env) elt g.target g.ifs gs H1 n Ok P (fun _ => none) [] (fun _ H2 zs => Q H2 zs))

theorem comp_whole {elt tgt iter : Expr} {ifs : List Expr} {gs : List Comprehension} {scope : Scope} {pos : Pos} {cl : List (Str × Addr)} {use : Option (Value → Sem Unit)} {s : Shared} {Q : AH → List V → Prop} {QQ : Value → Shared → Prop}
    (hclos : closureFor scope env = pure cl) (hcell : ∀ y ∈ scope.names, y.2 ≠ .cell) (hkind : scope.kind = .function) (hnames : ∀ x ∈ scope.names, x.2 = .local → scope.names.lookup x.1 = some .local)
    (hfs : ∀ x, foldedSetIterable iter env x = pure x) (hgs : ∀ g ∈ gs, g.is_async = 0 ∧ ∀ Cn, ∀ x, foldedSetIterable g.iter (compEnvC scope cl Cn env) x = pure x)
    (hs : St C env.locals ρ H s.heap) (h : CompOk C A env elt ⟨tgt, iter, ifs, 0⟩ gs scope cl ρ H Q)
    (hq : ∀ D Cn H2 zs s', Q H2 zs → H2 D = none → St C env.locals ρ (H2.set D (.list zs)) s'.heap → Step env.locals H (H2.set D (.list zs)) s s' → s.heap.get? Cn = none → Cn ≠ D → H2 Cn = none → (∃ m, s'.heap.Ns Cn m) → compPost C.M A False2 use QQ (.ref D) Cn (.ok .next) s') :
    wpAny C.M A (comprehension (.ListComp elt (⟨tgt, iter, ifs, 0⟩ :: gs) scope pos) scope env (firstIterPos (⟨tgt, iter, ifs, 0⟩ :: gs) pos) (newList []) false (eval iter env) use) QQ False2 s := by
  refine wpAny_comprehension_free (g := ⟨tgt, iter, ifs, 0⟩) (gs := gs) rfl hfs hclos hkind hnames ?_
  refine h s hs _ (fun H1 n Ok P I wr Rr s1 hL it r1 a1 b1 hw => ?_)
  refine wpAny_newObj_type (wpAny_newFunctionEnv hcell (by intro y hy; simp at hy) (fun h2 hns2 hsb2 => ?_) hkind)
  dsimp only at hns2 hsb2 ⊢
  generalize hH2 : s1.heap.push { cls := .type "list", dict := none, data := .seq ([] : List Value).toArray } = HH at hns2 hsb2 ⊢
  have hsz : HH.objs.size = s1.heap.objs.size + 1 := by rw [← hH2, Heap.size_push]
  have hDn : s1.heap.get? s1.heap.objs.size = none := get?_size_none _
  have hCn : HH.get? HH.objs.size = none := get?_size_none _
  have up1 : ∀ b o, s1.heap.get? b = some o → HH.get? b = some o := fun b o e => by rw [← hH2]; exact Heap.get?_push_of_some _ e
  have up2 : ∀ b o, HH.get? b = some o → h2.get? b = some o := fun b o e => hsb2.extBut b o (fun q => by rw [q, hCn] at e; cases e) (Heap.get?_push_of_some _ e)
  have hDC : s1.heap.objs.size ≠ HH.objs.size := by rw [hsz]; exact Nat.ne_of_lt (Nat.lt_succ_self _)
  have hC1 : s1.heap.get? HH.objs.size = none := by
    cases e : s1.heap.get? HH.objs.size with
    | none => rfl
    | some o => rw [up1 _ _ e] at hCn; cases hCn
  have fD := a1.fresh hDn
  have fC := a1.fresh hC1
  have a2 : St C HH.objs.size (fun _ => none) H1 h2 := ⟨fun b o e => up2 _ _ (up1 _ _ (a1.keep b o e)), fun a o e => let ⟨c, e1, e2⟩ := a1.rep a o e; ⟨c, up2 _ _ (up1 _ _ e1), e2⟩, a1.own, ⟨_, hns2, fun x => rfl⟩, fC.1, fC.2.1⟩
  have hDp : h2.PlainList s1.heap.objs.size #[] := ⟨0, up2 _ _ (by rw [← hH2]; exact Heap.get?_push_size _ rfl)⟩
  have accD : Acc C HH.objs.size s1.heap.objs.size H1 [] h2 := ⟨⟨fD.1, fD.2.1, hDC⟩, ⟨#[], hDp, rfl⟩, Nat.zero_le _⟩
  have live1 := it.live 0 s1.heap r1
  have hwne : ∀ b ∈ wr, b ≠ s1.heap.objs.size ∧ b ≠ HH.objs.size := fun b hb => by
    obtain ⟨o, e⟩ := live1 b hb
    exact ⟨fun q => (by rw [q, hDn] at e; cases e), fun q => (by rw [q, hC1] at e; cases e)⟩
  have r2 : Rr 0 h2 := it.frame _ _ _ r1 fun b hb o e => up2 _ _ (up1 _ _ e)
  have o2 : Off C HH.objs.size H1 wr := fun b hb => ⟨(hw b hb).2, (hs.fresh (hw b hb).1).2.1, (hwne b hb).2⟩
  have key := comp_run (C := C) (A := A) (env := compEnvC scope cl HH.objs.size env) (elt := elt) (gens := ⟨tgt, iter, ifs, 0⟩ :: gs) (scope := scope) (pos := pos) (D := s1.heap.objs.size) gs 0 tgt iter ifs rfl (fun g hg => ⟨(hgs g hg).1, (hgs g hg).2 _⟩) (s := { s1 with heap := h2, toks := s1.toks + ([] : List (Str × Value)).length }) (hL HH.objs.size fC.1) it r2 a2 o2 (fun q => (hwne _ q).1 rfl) accD
  refine codeAny_mono key fun r s3 h3 => ?_
  cases r with
  | error e => exact h3.elim
  | ok f =>
    cases f with
    | brk => exact h3.elim
    | cont => exact h3.elim
    | ret v => exact h3.elim
    | next =>
      obtain ⟨ρ3, H3, zs, a3, ⟨oD, ⟨xs, ⟨nn, hp⟩, e⟩, hzs⟩, b3, q3⟩ := h3
      have s13 : ∀ b o, s.heap.get? b = some o → b ∉ s1.heap.objs.size :: wr := fun b o eb q => by
        rcases List.mem_cons.mp q with rfl | q
        · obtain ⟨o', e'⟩ := b1.live _ o eb; rw [hDn] at e'; cases e'
        · rw [(hw b q).1] at eb; cases eb
      have neC : ∀ b o, s.heap.get? b = some o → b ≠ HH.objs.size := fun b o eb q => by obtain ⟨o', e'⟩ := b1.live _ o eb; rw [q, hC1] at e'; cases e'
      have alive2 : ∀ b o, s.heap.get? b = some o → ∃ o', h2.get? b = some o' := fun b o eb => let ⟨o', e'⟩ := b1.live _ o eb; ⟨o', up2 _ _ (up1 _ _ e')⟩
      have kept : ∀ b o, s.heap.get? b = some o → H b = none → b ≠ env.locals → s3.heap.get? b = some o := fun b o eb eH eL =>
        b3.kept b o (s13 b o eb) (up2 _ _ (up1 _ _ (b1.kept b o eb eH eL))) (b1.new b o eb eH) (neC b o eb)
      have new3 : ∀ b o, s.heap.get? b = some o → H b = none → H3 b = none := fun b o eb eH => by
        obtain ⟨o', e'⟩ := alive2 b o eb
        exact b3.new b o' (s13 b o eb) e' (b1.new b o eb eH)
      obtain ⟨m1, ⟨oL, esL, epL, hoL, rL⟩, hm1⟩ := a1.loc
      have hLD : env.locals ≠ s1.heap.objs.size := fun q => by rw [q, hDn] at hoL; cases hoL
      have hLC : env.locals ≠ HH.objs.size := fun q => by rw [q, hC1] at hoL; cases hoL
      have hLx : env.locals ∉ s1.heap.objs.size :: wr := fun q => by
        rcases List.mem_cons.mp q with q | q
        · exact hLD q
        · exact (hs.fresh (hw _ q).1).2.2 rfl
      have hL3 : s3.heap.get? env.locals = some oL := b3.kept _ _ hLx (up2 _ _ (up1 _ _ hoL)) a1.nl hLC
      have nL3 : H3 env.locals = none := b3.new _ _ hLx (up2 _ _ (up1 _ _ hoL)) a1.nl
      have St3 : St C env.locals ρ (H3.set s1.heap.objs.size (.list zs)) s3.heap := by
        refine ⟨a3.keep, fun b o eb => ?_, fun b o eb hm => ?_, ⟨m1, ⟨oL, esL, epL, hL3, rL⟩, hm1⟩, ?_, a1.bl⟩
        · by_cases q : b = s1.heap.objs.size
          · subst q; rw [AH.set_same] at eb; cases eb; exact ⟨_, hp, xs, nn, rfl, e, hzs⟩
          · rw [AH.set_ne _ _ q] at eb; exact a3.rep b o eb
        · by_cases q : b = s1.heap.objs.size
          · subst q; exact fD.2.1
          · rw [AH.set_ne _ _ q] at eb; exact a3.own b o eb hm
        · rw [AH.set_ne _ _ hLD]; exact nL3
      refine hq s1.heap.objs.size HH.objs.size H3 zs s3 q3 oD.1 St3 ⟨?_, kept, fun b o eb eH => ?_, fun b o eb => ?_⟩ ?_ (Ne.symm hDC) a3.nl (let ⟨m, hm, _⟩ := a3.loc; ⟨m, hm⟩)
      · obtain ⟨h', tk', e'⟩ := b1.same
        obtain ⟨h'', tk'', e''⟩ := b3.same
        exact ⟨h'', tk'', by rw [e'', e']⟩
      · rw [AH.set_ne _ _ (fun q => by obtain ⟨o', e'⟩ := b1.live _ o eb; rw [q, hDn] at e'; cases e')]; exact new3 b o eb eH
      · obtain ⟨o', e'⟩ := alive2 b o eb
        exact b3.live b o' (s13 b o eb) e'
      · cases ec : s.heap.get? HH.objs.size with
        | none => rfl
        | some o => exact absurd rfl (neC _ o ec)

theorem Step.letgo {L Cn D : Addr} {H H2 : AH} {s s' : Shared} {h' : Heap} {zs : List V} (x : Step L H H2 s s') (hc : s.heap.get? Cn = none) (hs : Heap.SameBut Cn s'.heap h') : Step L H H2 s { s' with heap := h' } := by
  obtain ⟨⟨h, tk, rfl⟩, k, n, l⟩ := x
  have ne : ∀ b o, s.heap.get? b = some o → b ≠ Cn := fun b o e q => by rw [q, hc] at e; cases e
  exact ⟨⟨h', tk, rfl⟩, fun b o e eb eL => hs.extBut b o (ne b o e) (k b o e eb eL), n, fun b o e => let ⟨o', e'⟩ := l b o e; ⟨o', hs.extBut b o' (ne b o e) e'⟩⟩

theorem WE.listComp {elt tgt iter : Expr} {ifs : List Expr} {gs : List Comprehension} {scope : Scope} {pos : Pos} {cl : List (Str × Addr)} {Q : V → AH → Prop}
    (hclos : closureFor scope env = pure cl) (h : CompOk C A env elt ⟨tgt, iter, ifs, 0⟩ gs scope cl ρ H (fun H2 zs => ∀ D, H2 D = none → Q (.ref D) (H2.set D (.list zs))))
    (hcell : ∀ y ∈ scope.names, y.2 ≠ .cell := by decide) (hkind : scope.kind = .function := by rfl) (hnames : ∀ x ∈ scope.names, x.2 = .local → scope.names.lookup x.1 = some .local := by decide)
    (hfs : ∀ x, foldedSetIterable iter env x = pure x := by intro _; rfl) (hgs : ∀ g ∈ gs, g.is_async = 0 ∧ ∀ Cn, ∀ x, foldedSetIterable g.iter (compEnvC scope cl Cn env) x = pure x := by simp) :
    WE C A env (.ListComp elt (⟨tgt, iter, ifs, 0⟩ :: gs) scope pos) ρ H Q := fun s hs => by
  refine comp_whole (use := none) hclos hcell hkind hnames hfs hgs hs h fun D Cn H2 zs s' q hD a b hCs hCD hC2 hns => ?_
  obtain ⟨m, hm⟩ := hns
  refine ⟨m, hm, fun h' hsb => ⟨ρ, _, ?_, b.letgo (D := D) (zs := zs) hCs hsb, rfl, q D hD⟩⟩
  refine a.off (I := Cn) ?_ ?_ ?_ (fun b o hb e => hsb.extBut b o hb e)
  · rw [AH.set_ne _ _ hCD]; exact hC2
  · exact (hs.fresh hCs).2.1
  · exact (hs.fresh hCs).2.2

theorem W1.asgComp {elt tgt iter : Expr} {ifs : List Expr} {gs : List Comprehension} {scope : Scope} {pos spos p : Pos} {x : Str} {cl : List (Str × Addr)} {Q : Fl → Lo → AH → Prop} (F : Fx C A env) (hl : env.kindOf x = some .local)
    (hclos : closureFor scope env = pure cl) (h : CompOk C A env elt ⟨tgt, iter, ifs, 0⟩ gs scope cl ρ H (fun H2 zs => ∀ D, H2 D = none → Q .next (ρ.set x (.ref D)) (H2.set D (.list zs))))
    (hsw : swapsWith (.ListComp elt (⟨tgt, iter, ifs, 0⟩ :: gs) scope pos) (some (.Name x p)) spos.line env = pure true)
    (hcell : ∀ y ∈ scope.names, y.2 ≠ .cell := by decide) (hkind : scope.kind = .function := by rfl) (hnames : ∀ x ∈ scope.names, x.2 = .local → scope.names.lookup x.1 = some .local := by decide)
    (hfs : ∀ x, foldedSetIterable iter env x = pure x := by intro _; rfl) (hgs : ∀ g ∈ gs, g.is_async = 0 ∧ ∀ Cn, ∀ x, foldedSetIterable g.iter (compEnvC scope cl Cn env) x = pure x := by simp) :
    W1 C A env (.Assign [.Name x p] (.ListComp elt (⟨tgt, iter, ifs, 0⟩ :: gs) scope pos) spos) ρ H Q := fun s hs => by
  rw [exec_Assign_Name_used x p _ spos hsw]
  refine wpAny_bind (wpAny_standAt (wpAny_bind (m := evalThenUse (.ListComp elt (⟨tgt, iter, ifs, 0⟩ :: gs) scope pos) env (PySem.assign (.Name x p) env)) ?_))
  show wpAny C.M A (comprehension (.ListComp elt (⟨tgt, iter, ifs, 0⟩ :: gs) scope pos) scope env (firstIterPos (⟨tgt, iter, ifs, 0⟩ :: gs) pos) (newList []) false (eval iter env) (some (PySem.assign (.Name x p) env)) >>= fun _ => pure PUnit.unit) _ _ s
  refine wpAny_bind ?_
  refine comp_whole (use := some (PySem.assign (.Name x p) env)) hclos hcell hkind hnames hfs hgs hs h fun D Cn H2 zs s' q hD a b hCs hCD hC2 hns => ?_
  obtain ⟨m, hm⟩ := hns
  have hCo : (H2.set D (.list zs)) Cn = none := by rw [AH.set_ne _ _ hCD]; exact hC2
  have hCL : Cn ≠ env.locals := (hs.fresh hCs).2.2
  refine wpAny_mono (Asg.local (pos := p) F hl (Q := fun ρ2 H3 => ρ2 = ρ.set x (.ref D) ∧ H3 = H2.set D (.list zs)) ⟨rfl, rfl⟩ s' (.ref D) a rfl) (fun _ s'' ⟨ρ2, H3, a2, b2, c2, c3⟩ => ?_) fun _ _ e => e
  subst c2 c3
  have hm2 : s''.heap.Ns Cn m := by
    obtain ⟨o, es, ep, ho, r⟩ := hm
    exact ⟨o, es, ep, b2.kept _ _ ho hCo hCL, r⟩
  refine ⟨m, hm2, fun h' hsb => wpAny_pure (wpAny_pure ⟨_, _, ?_, (b.trans b2 (fun _ _ => a2.nl)).letgo (D := D) (zs := zs) hCs hsb, q D hD⟩)⟩
  exact a2.off (I := Cn) hCo (hs.fresh hCs).2.1 hCL (fun b o hb e => hsb.extBut b o hb e)
end
end Mine

namespace Mine
open PySem PySem.W PyProof.Rows

section
variable {C : Cx} {A : Around} {env : Env} {ρ : Lo} {H : AH}

/-! ## the library's frames and ledgers over my states -/
def noHeap : Heap := ⟨#[], {}⟩
theorem noHeap_get (b : Addr) : noHeap.get? b = none := by simp [noHeap, Heap.get?]
def allNews (h : Heap) (L : Addr) : List (Addr × Obj) := (List.range h.objs.size).filterMap fun b => if b = L then none else (h.get? b).map fun o => (b, o)
theorem mem_allNews {h : Heap} {L b : Addr} {o : Obj} (e : h.get? b = some o) (hb : b ≠ L) : (b, o) ∈ allNews h L :=
  List.mem_filterMap.mpr ⟨b, List.mem_range.mpr (Heap.lt_size e), by simp [hb, e]⟩
theorem news_all (h : Heap) (L : Addr) : News noHeap L h (allNews h L) := fun p hp => by
  obtain ⟨b, _, e⟩ := List.mem_filterMap.mp hp
  by_cases hb : b = L
  · simp [hb] at e
  · rw [if_neg hb] at e
    cases hg : h.get? b with
    | none => rw [hg] at e; cases e
    | some o => rw [hg] at e; cases e; exact ⟨hg, hb, noHeap_get _⟩
theorem St.fr {L : Addr} {h : Heap} (hs : St C L ρ H h) : ∃ m, Fr noHeap L h m ∧ ∀ x, (m x).map ab = ρ x := by
  obtain ⟨m, hn, hm⟩ := hs.loc
  exact ⟨m, ⟨hn, fun b o e => (by rw [noHeap_get] at e; cases e), Nat.zero_le _⟩, hm⟩
theorem News.kept {L : Addr} {h h' : Heap} {news : List (Addr × Obj)} (N : News noHeap L h' news) (hsub : ∀ p ∈ allNews h L, p ∈ news) : ∀ b o, b ≠ L → h.get? b = some o → h'.get? b = some o := fun b o hb e => (N _ (hsub _ (mem_allNews e hb))).1
theorem St.of_fr {L : Addr} {h h' : Heap} {m : Str → Option Value} (hs : St C L ρ H h) (F : Fr noHeap L h' m) (hm : ∀ x, (m x).map ab = ρ x) (k : ∀ b o, b ≠ L → h.get? b = some o → h'.get? b = some o) : St C L ρ H h' where
  keep := fun b o e => k b o (fun q => by rw [q, hs.bl] at e; cases e) (hs.keep b o e)
  rep := fun a o e => let ⟨c, e1, e2⟩ := hs.rep a o e; ⟨c, k a c (fun q => by rw [q, hs.nl] at e; cases e) e1, e2⟩
  own := hs.own
  loc := ⟨m, F.ns, hm⟩
  nl := hs.nl
  bl := hs.bl
theorem Step.of_fr {L : Addr} {s : Shared} {h' : Heap} {tk : Nat} {m : Str → Option Value} (F : Fr noHeap L h' m) (k : ∀ b o, b ≠ L → s.heap.get? b = some o → h'.get? b = some o) : Step L H H s { s with heap := h', toks := tk } :=
  ⟨⟨_, _, rfl⟩, fun b o e _ hb => k b o hb e, fun _ _ _ e => e, fun b o e => by
    by_cases q : b = L
    · subst q; obtain ⟨o', _, _, ho, _⟩ := F.ns; exact ⟨o', ho⟩
    · exact ⟨o, k b o q e⟩⟩
/-- a new object, given by its ledger row -/
theorem St.alloc_fr {L a : Addr} {h h' : Heap} {c : Obj} {o : O} {m : Str → Option Value} (hs : St C L ρ H h) (F : Fr noHeap L h' m) (hm : ∀ x, (m x).map ab = ρ x) (ha : h.get? a = none) (hc : h'.get? a = some c) (hr : Rep o c) (k : ∀ b o, b ≠ L → h.get? b = some o → h'.get? b = some o) : St C L ρ (H.set a o) h' := by
  have f := hs.fresh ha
  exact St.alloc' (hs.of_fr F hm k) f.1 f.2.1 f.2.2 hc hr
where
  St.alloc' {h' : Heap} {a : Addr} {c : Obj} {o : O} {L : Addr} {ρ : Lo} {H : AH} (x : St C L ρ H h') (hH : H a = none) (hB : C.base.get? a = none) (hL : a ≠ L) (hc : h'.get? a = some c) (hr : Rep o c) : St C L ρ (H.set a o) h' :=
    ⟨x.keep, fun b o' e => by
      by_cases q : b = a
      · subst q; rw [AH.set_same] at e; cases e; exact ⟨c, hc, hr⟩
      · rw [AH.set_ne _ _ q] at e; exact x.rep b o' e, fun b o' e m => by
      by_cases q : b = a
      · subst q; exact hB
      · rw [AH.set_ne _ _ q] at e; exact x.own b o' e m, x.loc, by rw [AH.set_ne _ _ (Ne.symm hL)]; exact x.nl, x.bl⟩
theorem Step.alloc_fr {L a : Addr} {s : Shared} {h' : Heap} {tk : Nat} {o : O} {m : Str → Option Value} (F : Fr noHeap L h' m) (ha : s.heap.get? a = none) (k : ∀ b o, b ≠ L → s.heap.get? b = some o → h'.get? b = some o) : Step L H (H.set a o) s { s with heap := h', toks := tk } :=
  let x : Step L H H s { s with heap := h', toks := tk } := Step.of_fr F k
  ⟨x.same, x.kept, fun b o e eb => by rw [AH.set_ne _ _ (fun q => by rw [q, ha] at e; cases e)]; exact eb, x.live⟩

/-! ## lists: +, slices -/
def vadd (xs ys : List V) : List V := xs ++ ys
theorem WE.addList {l r : Expr} {pos : Pos} {Q : V → AH → Prop}
    (h : WE C A env l ρ H (fun v H1 => WE C A env r ρ H1 (fun w H2 => ∃ a b oa ob xs ys, v = .ref a ∧ w = .ref b ∧ H2 a = some oa ∧ H2 b = some ob ∧ lst oa = some xs ∧ lst ob = some ys ∧ xs.length + ys.length ≤ sizeLine ∧ ∀ c, H2 c = none → Q (.ref c) (H2.set c (.list (xs ++ ys)))))) :
    WE C A env (.BinOp l .Add r pos) ρ H Q := by
  refine W.BinOp (W.mono h ?_)
  rintro x _ H1 ⟨rfl, h1⟩
  refine W.mono h1 ?_
  rintro y _ H2 ⟨rfl, a, b, oa, ob, xs, ys, ex, ey, ha, hb, la, lb, hsz, hq⟩
  cases ab_ref ex
  cases ab_ref ey
  intro s hs
  obtain ⟨ax, a1, a2, a3⟩ := hs.list ha la
  obtain ⟨bx, b1, b2, b3⟩ := hs.list hb lb
  obtain ⟨m, F, hm⟩ := hs.fr
  have hn := get?_size_none s.heap
  refine add_arrays F (news_all s.heap env.locals) a1 b1 (fun h' F' N' => ?_) (by rw [arr_size a2, arr_size b2]; exact hsz)
  have k := News.kept N' fun p hp => List.mem_cons_of_mem _ hp
  exact ⟨_, _, hs.alloc_fr (o := .list (xs ++ ys)) F' hm hn (N' _ (List.mem_cons_self ..)).1 ⟨_, _, rfl, by simp [a2, b2], by simpa using hsz⟩ k, .alloc_fr F' hn k, rfl, hq _ (hs.fresh hn).1⟩

def slc (lo hi : Option Int) (vs : List V) : List V := (vs.drop (lo.elim 0 (clipAt vs.length))).take (hi.elim vs.length (clipAt vs.length) - lo.elim 0 (clipAt vs.length))
theorem slc_pick {xs : Array Value} {vs : List V} {lo hi : Option Int} (e : xs.toList.map ab = vs) : (slicePick xs lo hi none).toList.map ab = slc lo hi vs := by
  rw [slicePick_plain]
  unfold slc
  rw [show vs.length = xs.size from (arr_size e).symm]
  simp [List.map_take, List.map_drop, ← e]
theorem slc_len (lo hi : Option Int) (vs : List V) : (slc lo hi vs).length ≤ vs.length := by
  unfold slc; simp; omega

/-- a part of a slice -/
inductive EvP (C : Cx) (A : Around) (env : Env) (ρ : Lo) (H : AH) : Option Expr → Option Int → Prop
  | none : EvP C A env ρ H none none
  | some {e : Expr} {i : Int} : Ev C A env ρ H e (.int i) → EvP C A env ρ H (some e) (some i)
theorem EvP.run {e : Option Expr} {k : Option Int} (h : EvP C A env ρ H e k) : W C A env.locals (evalPart e env) ρ H (fun x ρ' H' => ρ' = ρ ∧ H' = H ∧ IsPart x k) := by
  cases h with
  | none => exact W.pure ⟨rfl, rfl, .none⟩
  | some h => exact W.mono h (by rintro x _ _ ⟨rfl, rfl, e⟩; obtain ⟨t, rfl⟩ := ab_int e; exact ⟨rfl, rfl, .int _ t⟩)

theorem WE.slice {o : Expr} {lower upper : Option Expr} {p pos : Pos} {lo hi : Option Int} {Q : V → AH → Prop}
    (h : WE C A env o ρ H (fun v H1 => ∃ l ob vs, v = .ref l ∧ H1 l = some ob ∧ lst ob = some vs ∧ EvP C A env ρ H1 lower lo ∧ EvP C A env ρ H1 upper hi ∧ ∀ c, H1 c = none → Q (.ref c) (H1.set c (.list (slc lo hi vs))))) :
    WE C A env (.Subscript o (.Slice lower upper none p) pos) ρ H Q := fun s hs => by
  refine Subscript_ (wpAny_mono (h s hs) (fun x s1 ⟨ρ1, H1, a1, b1, c1, l, ob, vs, d1, d2, d3, d4, d5, d6⟩ => ?_) fun _ _ e => e)
  subst c1
  cases ab_ref d1
  refine wpAny_Slice (wpAny_mono (d4.run s1 a1) (fun vl s2 ⟨ρ2, H2, a2, b2, c2, c3, pl⟩ => ?_) fun _ _ e => e)
  subst c2 c3
  refine wpAny_mono (d5.run s2 a2) (fun vu s3 ⟨ρ3, H3, a3, b3, c3, c4, pu⟩ => ?_) fun _ _ e => e
  subst c3 c4
  rw [evalPart_none]
  refine wpAny_pure ?_
  obtain ⟨xs, x1, x2, x3⟩ := a3.list d2 d3
  have k1 : ∀ b o, s3.heap.get? b = some o → (s3.heap.push { cls := .type "slice", data := .fields #[vl, vu, .none] }).get? b = some o := fun b o e => Heap.get?_push_of_some _ e
  have a4 := a3.ext k1
  have x1' := x1.push { cls := .type "slice", data := .fields #[vl, vu, .none] }
  have hn := get?_size_none (s3.heap.push { cls := .type "slice", data := .fields #[vl, vu, .none] })
  refine tail_any (ops := [.ref s3.heap.objs.size, .ref l]) x1'.typeIs slot_list_getitem.lookup (wpAny_getItem_list_slice x1' (Heap.IsSliceOf.new ..) pl pu .none (by simp) ?_ (by rw [arr_size x2]; exact x3)) rfl
  have k2 : ∀ b o, (s3.heap.push { cls := .type "slice", data := .fields #[vl, vu, .none] }).get? b = some o → ((s3.heap.push { cls := .type "slice", data := .fields #[vl, vu, .none] }).push { cls := .type "list", data := .seq (slicePick xs lo hi none) }).get? b = some o := fun b o e => Heap.get?_push_of_some _ e
  refine ⟨_, _, a4.alloc (o := .list (slc lo hi vs)) hn (Heap.get?_push_size _ rfl) ⟨_, 0, rfl, slc_pick x2, Nat.le_trans (slc_len ..) x3⟩ k2, ?_, rfl, d6 _ (a4.fresh hn).1⟩
  have b13 := (b1.trans b2 (fun _ _ => a2.nl)).trans b3 (fun _ _ => a3.nl)
  exact (b13.trans (Step.ext (tk := s3.toks) k1) (fun _ _ => a3.nl)).trans (Step.alloc (tk := s3.toks) hn k2) (fun _ _ => by rw [AH.set_ne _ _ (Ne.symm (a4.fresh hn).2.2)]; exact a4.nl)

/-! ## vints of a list -/
def vints (ns : List Int) : List V := ns.map V.int
theorem intsAre_of : ∀ {xs : List Value} {ns : List Int}, xs.map ab = vints ns → IntsAre xs ns
  | [], [], _ => .nil
  | [], _ :: _, h => by simp [vints] at h
  | _ :: _, [], h => by simp [vints] at h
  | x :: xs, n :: ns, h => by
    simp only [vints, List.map_cons, List.cons.injEq] at h
    obtain ⟨t, rfl⟩ := ab_int h.1
    exact .cons n t (intsAre_of h.2)
@[simp] theorem ints_length (ns : List Int) : (vints ns).length = ns.length := by simp [vints]
theorem ints_get {ns : List Int} {i : Nat} {n : Int} (h : ns[i]? = some n) : (vints ns)[i]? = some (.int n) := by simp [vints, h]

theorem WCall.sum {a : Addr} {o : O} {ns : List Int} {Q : V → AH → Prop} (hh : A.handled = none) (hH : H a = some o) (hl : lst o = some (vints ns)) (h : Q (.int ns.sum) H) : WCall C A (.bi "sum") [.ref a] [] H Q := by
  intro L ρ fv vals kvs e1 e2 e3
  cases ab_bi e1
  obtain ⟨x, rfl, ex⟩ := vals1 e2
  cases ab_ref ex
  have : kvs = [] := by simpa using e3
  subst this
  intro s hs
  obtain ⟨xs, h1, h2, h3⟩ := hs.list hH hl
  obtain ⟨m, F, hm⟩ := hs.fr
  refine PyProof.Rows.LSm.sum_ints (vs := xs.toList) F (news_all s.heap L) hh (by simpa using h1) (intsAre_of h2) (fun h' tk t' F' N' => ?_)
  have k := News.kept N' fun p hp => hp
  exact ⟨ρ, H, hs.of_fr F' hm k, .of_fr F' k, rfl, h⟩
theorem WCall.divmod {a b : Int} {Q : V → AH → Prop} (hb : 0 < b) (hb' : b < 1000000) (h : ∀ c, H c = none → Q (.ref c) (H.set c (.tup [.int (a.fdiv b), .int (a.fmod b)]))) : WCall C A (.bi "divmod") [.int a, .int b] [] H Q := by
  intro L ρ fv vals kvs e1 e2 e3
  cases ab_bi e1
  obtain ⟨x, y, rfl, ex, ey⟩ := vals2 e2
  obtain ⟨t, rfl⟩ := ab_int ex
  obtain ⟨u, rfl⟩ := ab_int ey
  have : kvs = [] := by simpa using e3
  subst this
  intro s hs
  have hn := get?_size_none s.heap
  refine divmod_int (by omega) ?_ (Or.inl (PyProof.noPylong_small (by omega)))
  have k : ∀ b' o, s.heap.get? b' = some o → (s.heap.push { cls := .type "tuple", data := .seq #[.int (a.fdiv b) s.toks, .int (a.fmod b) (s.toks + 1)] }).get? b' = some o := fun b' o e => Heap.get?_push_of_some _ e
  exact ⟨ρ, _, hs.alloc (o := .tup [.int (a.fdiv b), .int (a.fmod b)]) hn (Heap.get?_push_size _ rfl) ⟨_, 0, rfl, rfl, (by simp : [V.int (a.fdiv b), V.int (a.fmod b)].length = 2) ▸ (by decide)⟩ k, .alloc hn k, rfl, h _ (hs.fresh hn).1⟩
theorem WCall.abs {a : Int} {Q : V → AH → Prop} (h : Q (.int (if a < 0 then -a else a)) H) : WCall C A (.bi "abs") [.int a] [] H Q := by
  intro L ρ fv vals kvs e1 e2 e3
  cases ab_bi e1
  obtain ⟨x, rfl, ex⟩ := vals1 e2
  obtain ⟨t, rfl⟩ := ab_int ex
  have : kvs = [] := by simpa using e3
  subst this
  intro s hs
  exact call_abs_int fun u tk => ⟨ρ, H, hs, .toks, rfl, h⟩
theorem WCall.count {a : Addr} {ns : List Int} {k : Int} {Q : V → AH → Prop} (hH : H a = some (.list (vints ns))) (h : Q (.int (ns.count k : Nat)) H) : WCall C A (.bi "list.count") [.ref a, .int k] [] H Q := by
  intro L ρ fv vals kvs e1 e2 e3
  cases ab_bi e1
  obtain ⟨x, y, rfl, ex, ey⟩ := vals2 e2
  cases ab_ref ex
  obtain ⟨u, rfl⟩ := ab_int ey
  have : kvs = [] := by simpa using e3
  subst this
  intro s hs
  obtain ⟨xs, h1, h2, h3⟩ := hs.list hH rfl
  exact count_list_ints (vs := xs.toList) (by simpa using h1) (intsAre_of h2) ⟨ρ, H, hs, .toks, rfl, h⟩
end
end Mine

namespace Mine
open PySem PySem.W PyProof.Rows

/-! ## forgetting tracked objects at the end -/
def AH.le (H H' : AH) : Prop := ∀ a o, H a = some o → H' a = some o
theorem AH.le_refl (H : AH) : H.le H := fun _ _ e => e
theorem AH.le_trans {H H' H'' : AH} (x : H.le H') (y : H'.le H'') : H.le H'' := fun a o e => y a o (x a o e)
theorem AH.none_of_le {H H' : AH} (x : H.le H') {a : Addr} (e : H' a = none) : H a = none := by
  cases q : H a with
  | none => rfl
  | some o => have := x a o q; rw [e] at this; cases this
theorem AH.le_set {H H' : AH} (x : H.le H') {a : Addr} {o : O} (e : H a = none) : H.le (H'.set a o) := fun b o' eb => by
  by_cases q : b = a
  · subst q; rw [e] at eb; cases eb
  · rw [AH.set_ne _ _ q]; exact x b o' eb
theorem AH.set_le_set {H H' : AH} (x : H.le H') {a : Addr} {o : O} : (H.set a o).le (H'.set a o) := fun b o' eb => by
  by_cases q : b = a
  · subst q; rw [AH.set_same] at eb ⊢; exact eb
  · rw [AH.set_ne _ _ q] at eb ⊢; exact x b o' eb
theorem AH.get_of_set {H : AH} {a b : Addr} {o o' : O} (e : H b = some o') (ha : H a = none) : (H.set a o) b = some o' := by
  rw [AH.set_ne _ _ (fun q => by rw [q, ha] at e; cases e)]; exact e
theorem AH.none_of_set {H : AH} {a b : Addr} {o : O} (e : (H.set a o) b = none) : H b = none ∧ b ≠ a := by
  by_cases q : b = a
  · subst q; rw [AH.set_same] at e; cases e
  · rw [AH.set_ne _ _ q] at e; exact ⟨e, q⟩

section
variable {C : Cx} {A : Around} {env : Env} {ρ : Lo} {H : AH}
theorem St.le {L : Addr} {H H' : AH} {h : Heap} (x : H.le H') (y : St C L ρ H' h) : St C L ρ H h :=
  ⟨y.keep, fun a o e => y.rep a o (x a o e), fun a o e => y.own a o (x a o e), y.loc, AH.none_of_le x y.nl, y.bl⟩
theorem Post.drop {α : Type} {L : Addr} {s s' : Shared} {Q : α → Lo → AH → Prop} {a : α} (h : Post C L H s (fun a ρ' H' => ∃ H0, AH.le H0 H' ∧ Q a ρ' H0) a s') : Post C L H s Q a s' := by
  obtain ⟨ρ', H', x, y, H0, le, q⟩ := h
  exact ⟨ρ', H0, x.le le, ⟨y.same, y.kept, fun b o e eb => AH.none_of_le le (y.new b o e eb), y.live⟩, q⟩
theorem W.drop {α : Type} {L : Addr} {t : Sem α} {Q : α → Lo → AH → Prop} (h : W C A L t ρ H (fun a ρ' H' => ∃ H0, AH.le H0 H' ∧ Q a ρ' H0)) : W C A L t ρ H Q := fun s hs =>
  wpAny_mono (h s hs) (fun _ _ q => q.drop) fun _ _ e => e
theorem WE.drop {e : Expr} {Q : V → AH → Prop} (h : WE C A env e ρ H (fun v H' => ∃ H0, AH.le H0 H' ∧ Q v H0)) : WE C A env e ρ H Q :=
  W.drop (W.mono h fun _ _ _ ⟨a, H0, b, c⟩ => ⟨H0, b, a, c⟩)
theorem WT.drop {e : Expr} {Q : Bool → AH → Prop} (h : WT C A env e ρ H (fun v H' => ∃ H0, AH.le H0 H' ∧ Q v H0)) : WT C A env e ρ H Q :=
  W.drop (W.mono h fun _ _ _ ⟨a, H0, b, c⟩ => ⟨H0, b, a, c⟩)
theorem WS.drop {e : List Stmt} {Q : Fl → Lo → AH → Prop} (h : WS C A env e ρ H (fun v ρ' H' => ∃ H0, AH.le H0 H' ∧ Q v ρ' H0)) : WS C A env e ρ H Q := W.drop h
theorem W1.drop {e : Stmt} {Q : Fl → Lo → AH → Prop} (h : W1 C A env e ρ H (fun v ρ' H' => ∃ H0, AH.le H0 H' ∧ Q v ρ' H0)) : W1 C A env e ρ H Q := W.drop h
theorem WCall.drop {f : V} {args : List V} {kw : List (Str × V)} {Q : V → AH → Prop} (h : WCall C A f args kw H (fun v H' => ∃ H0, AH.le H0 H' ∧ Q v H0)) : WCall C A f args kw H Q := fun L ρ fv vals kvs e1 e2 e3 =>
  W.drop (W.mono (h L ρ fv vals kvs e1 e2 e3) fun _ _ _ ⟨a, H0, b, c⟩ => ⟨H0, b, a, c⟩)
theorem WS.less {e : List Stmt} {Q : Fl → Lo → AH → Prop} {H₀ : AH} (x : H₀.le H) (h : WS C A env e ρ H₀ Q) : WS C A env e ρ H Q := W.weaken x h
theorem WE.less {e : Expr} {Q : V → AH → Prop} {H₀ : AH} (x : H₀.le H) (h : WE C A env e ρ H₀ Q) : WE C A env e ρ H Q := W.weaken x h
theorem WCall.less {f : V} {args : List V} {kw : List (Str × V)} {Q : V → AH → Prop} {H₀ : AH} (x : H₀.le H) (h : WCall C A f args kw H₀ Q) : WCall C A f args kw H Q := fun L ρ fv vals kvs e1 e2 e3 => W.weaken x (h L ρ fv vals kvs e1 e2 e3)

theorem WEs.nil {Q : List V → AH → Prop} (h : Q [] H) : WEs C A env [] ρ H Q := h
theorem WEs.cons {e : Expr} {es : List Expr} {Q : List V → AH → Prop} (h : WE C A env e ρ H (fun v H1 => WEs C A env es ρ H1 (fun vs H2 => Q (v :: vs) H2))) : WEs C A env (e :: es) ρ H Q := h

/-! ## the call from the top -/
theorem top_call {a : Addr} {o : Obj} {fd : FuncData} {body : List Stmt} {vals : List Value} {bs : List (Str × V)} {Q : V → AH → Prop} {s : Shared} (hbase : C.base = s.heap) (hrep : ∀ a o, H a = some o → ∃ c, s.heap.get? a = some c ∧ Rep o c) (hown : ∀ a o, H a = some o → o.mut = false)
    (ho : s.heap.get? a = some o) (hd : o.data = .func fd) (hdep : A.depth < recursionLimit)
    (hb : fd.body = .stmts body) (hclo : fd.closure = []) (hcd : s.heap.CodeRec fd.code fd.qualname)
    {binds : List (Str × Value)} (hbt : bindArgs fd ⟨vals, []⟩ = pure binds) (hbs : binds.map (fun p => (p.1, ab p.2)) = bs)
    (hkind : (bs.all fun y => fd.scope.names.lookup y.1 == some .local || fd.scope.names.lookup y.1 == some .cell) = true)
    (hnd : ((cellsFrom 0 fd.scope.names []).map (·.1)).Nodup)
    (lm cm : Str → Option V) (hlm : ∀ L x, (bindL (callEnvC fd L a).kindOf binds (fun _ => none) x).map ab = lm x) (hcm : ∀ L x, (bindC (callEnvC fd L a).kindOf binds (fun _ => none) x).map ab = cm x)
    (h : ∀ L, H L = none → (∀ p ∈ cellsFrom (L + 1) fd.scope.names [], H p.2 = none ∧ p.2 ≠ L) → WS C (A.deeper (callEnvC fd L a)) (callEnvC fd L a) body lm (cellH cm (cellsFrom (L + 1) fd.scope.names []) H) (fun f _ H' => Q (retv f) H'))
    (hco : fd.scope.isCoroutine = false := by rfl) (hgen : fd.scope.isGenerator = false := by rfl) (hk : fd.scope.kind = .function := by rfl) :
    wpAny C.M A (call (.ref a) vals []) (fun v s' => (∃ H', Q (ab v) H') ∧ (∀ b o, s.heap.get? b = some o → s'.heap.get? b = some o) ∧ s'.gens = s.gens ∧ s'.os = s.os) False2 s := by
  have hnone := get?_size_none s.heap
  have hHn : ∀ b, s.heap.get? b = none → H b = none := fun b e => by
    cases q : H b with
    | none => rfl
    | some o => obtain ⟨c, e1, _⟩ := hrep b o q; rw [e] at e1; cases e1
  have hkind' : ∀ n, ∀ x ∈ binds, fd.scope.names.lookup x.1 = some .local ∨ (fd.scope.names.lookup x.1 = some .cell ∧ ((cellsFrom n fd.scope.names []).lookup x.1).isSome = true) := fun n x hx => by
    have := kindsX (scope := fd.scope) (binds := binds) (by
      rw [List.all_eq_true]; intro y hy
      exact List.all_eq_true.mp hkind (y.1, ab y.2) (by rw [← hbs]; exact List.mem_map.mpr ⟨y, hy, rfl⟩)) n x hx
    exact this
  refine wpAny_call (codeAny_call_cells hdep ho hd (by have := C.lim; rw [hbase] at this; exact this) hcd hb hbt hclo (hkind' _) (fun s₁ X => ?_) hco hgen hk)
  have hnames : ∀ (n : Nat) (names : List (Str × NameKind)) (acc : List (Str × Addr)) (p : Str × Addr), p ∈ cellsFrom n names acc → p ∈ acc ∨ n ≤ p.2 := by
    intro n names
    induction names generalizing n with
    | nil => intro acc p hp; exact .inl hp
    | cons x r ih =>
      intro acc p hp
      obtain ⟨nm, k⟩ := x
      unfold cellsFrom at hp
      split at hp
      · rcases ih (n + 1) _ p hp with q | q
        · rcases List.mem_cons.mp q with rfl | q
          · exact .inr (Nat.le_refl _)
          · exact .inl q
        · exact .inr (by omega)
      · exact ih n acc p hp
  have habove : ∀ p ∈ cellsFrom (s.heap.objs.size + 1) fd.scope.names [], s.heap.objs.size < p.2 := fun p hp => by
    rcases hnames _ _ _ p hp with q | q
    · cases q
    · omega
  have hfresh : ∀ p ∈ cellsFrom (s.heap.objs.size + 1) fd.scope.names [], s.heap.get? p.2 = none := fun p hp => by
    cases e : s.heap.get? p.2 with
    | none => rfl
    | some o => exact absurd (Heap.lt_size e) (Nat.lt_asymm (habove p hp))
  have same_names : ∀ (n n' : Nat) (names : List (Str × NameKind)) (acc acc' : List (Str × Addr)), acc.map (·.1) = acc'.map (·.1) → (cellsFrom n names acc).map (·.1) = (cellsFrom n' names acc').map (·.1) := by
    intro n n' names
    induction names generalizing n n' with
    | nil => intro acc acc' e; exact e
    | cons x r ih =>
      intro acc acc' e
      obtain ⟨nm, k⟩ := x
      unfold cellsFrom
      split
      · exact ih _ _ _ _ (by simp [e])
      · exact ih _ _ _ _ e
  have hnd' : ((cellsFrom (s.heap.objs.size + 1) fd.scope.names []).map (·.1)).Nodup := by rw [same_names _ 0 _ _ [] rfl]; exact hnd
  have lookup_mem : ∀ {cs : List (Str × Addr)}, (cs.map (·.1)).Nodup → ∀ n c, (n, c) ∈ cs → cs.lookup n = some c := by
    intro cs
    induction cs with
    | nil => intro _ n c hm; cases hm
    | cons p r ih =>
      intro hn n c hm
      obtain ⟨pn, pc⟩ := p
      simp only [List.map_cons, List.nodup_cons] at hn
      rcases List.mem_cons.mp hm with e | hm
      · cases e; simp [List.lookup_cons]
      · have hne : n ≠ pn := fun q => hn.1 (q ▸ List.mem_map.mpr ⟨(n, c), hm, rfl⟩)
        rw [List.lookup_cons, beq_false_of_ne hne]; exact ih hn.2 n c hm
  obtain ⟨⟨⟨h1, tk1, rfl⟩, hns, hkeep, hab⟩, hcell, hap, hgt⟩ := X
  have hst : St C s.heap.objs.size lm (cellH cm (cellsFrom (s.heap.objs.size + 1) fd.scope.names []) H) h1 := by
    refine ⟨fun b o e => hkeep _ _ (by rw [hbase] at e; exact e), fun b o e => ?_, fun b o e hm => ?_, ⟨_, hns, fun x => hlm _ x⟩, ?_, by rw [hbase]; exact hnone⟩
    · rcases cellH_some e with ⟨n, hm, rfl⟩ | e
      · obtain ⟨oc, ho, hd⟩ := hcell n b (lookup_mem hnd' n b hm)
        exact ⟨oc, ho, _, hd, hcm _ n⟩
      · obtain ⟨c, e1, e2⟩ := hrep b o e; exact ⟨c, hkeep _ _ e1, e2⟩
    · rcases cellH_some e with ⟨n, hm', rfl⟩ | e
      · rw [hbase]; exact hfresh _ hm'
      · have := hown b o e; rw [hm] at this; cases this
    · rw [cellH_get (fun p hp q => Nat.ne_of_gt (habove p hp) q)]; exact hHn _ hnone
  refine wpAny_mono (h s.heap.objs.size (hHn _ hnone) (fun p hp => ⟨hHn _ (hfresh p hp), Nat.ne_of_gt (habove p hp)⟩) { s with heap := h1, toks := tk1 } hst) (fun f s' ⟨ρ', H', x, y, z⟩ => ?_) fun _ _ e => e.elim
  obtain ⟨h', tk', e⟩ := y.same
  have e1 : (∃ H', Q (ab (match f with | .ret v => v | _ => .none)) H') := ⟨H', by cases f <;> exact z⟩
  have e2 : ∀ b o, s.heap.get? b = some o → s'.heap.get? b = some o := fun b o e => x.keep b o (by rw [hbase]; exact e)
  have e3 : s'.gens = s.gens ∧ s'.os = s.os := by rw [e]; exact ⟨rfl, rfl⟩
  exact ⟨by cases f <;> exact e1, e2, e3.1, e3.2⟩
end
end Mine

namespace Mine
open PySem PySem.W PyProof.Rows

def aL (k : Str → Option NameKind) : List (Str × V) → Lo → Lo
  | [], m => m
  | (n, v) :: r, m => aL k r (if k n = some .local then fun y => if y = n then some v else m y else m)
def aC (k : Str → Option NameKind) : List (Str × V) → Lo → Lo
  | [], m => m
  | (n, v) :: r, m => aC k r (if k n = some .local then m else fun y => if y = n then some v else m y)
theorem bindL_ab {k : Str → Option NameKind} : ∀ {binds : List (Str × Value)} {m : Str → Option Value} {m' : Lo}, (∀ x, (m x).map ab = m' x) → ∀ x, (bindL k binds m x).map ab = aL k (binds.map fun p => (p.1, ab p.2)) m' x
  | [], _, _, h, x => h x
  | (n, v) :: r, m, m', h, x => by
    rw [List.map_cons, bindL, aL]
    refine bindL_ab (fun y => ?_) x
    split
    · show Option.map ab (if y = n then some v else m y) = if y = n then some (ab v) else m' y
      split
      · rfl
      · exact h y
    · exact h y
theorem bindC_ab {k : Str → Option NameKind} : ∀ {binds : List (Str × Value)} {m : Str → Option Value} {m' : Lo}, (∀ x, (m x).map ab = m' x) → ∀ x, (bindC k binds m x).map ab = aC k (binds.map fun p => (p.1, ab p.2)) m' x
  | [], _, _, h, x => h x
  | (n, v) :: r, m, m', h, x => by
    rw [List.map_cons, bindC, aC]
    refine bindC_ab (fun y => ?_) x
    split
    · exact h y
    · show Option.map ab (if y = n then some v else m y) = if y = n then some (ab v) else m' y
      split
      · rfl
      · exact h y

section
variable {C : Cx} {A : Around} {env : Env} {ρ : Lo} {H : AH}
def kinds (fd : FuncData) (x : Str) : Option NameKind := fd.scope.names.lookup x
theorem WCall.fn {a : Addr} {o : Obj} {fd : FuncData} {body : List Stmt} {args : List V} {bs : List (Str × V)} {Q : V → AH → Prop} (hfn : FnAt C H a o fd) (hdep : A.depth < recursionLimit)
    (hb : fd.body = .stmts body) (hclo : fd.closure = []) (hcd : ∀ h : Heap, (∀ b o, C.base.get? b = some o → h.get? b = some o) → h.CodeRec fd.code fd.qualname)
    (hbind : ∀ vals, vals.map ab = args → ∃ binds, bindArgs fd ⟨vals, []⟩ = pure binds ∧ binds.map (fun p => (p.1, ab p.2)) = bs)
    (hkind : (bs.all fun y => fd.scope.names.lookup y.1 == some .local || fd.scope.names.lookup y.1 == some .cell) = true)
    (hnd : ((cellsFrom 0 fd.scope.names []).map (·.1)).Nodup)
    (h : ∀ L, H L = none → (∀ p ∈ cellsFrom (L + 1) fd.scope.names [], H p.2 = none ∧ p.2 ≠ L) → WS C (A.deeper (callEnvC fd L a)) (callEnvC fd L a) body (aL (kinds fd) bs fun _ => none) (cellH (aC (kinds fd) bs fun _ => none) (cellsFrom (L + 1) fd.scope.names []) H) (fun f _ H' => Q (retv f) H'))
    (hco : fd.scope.isCoroutine = false := by rfl) (hgen : fd.scope.isGenerator = false := by rfl) (hk : fd.scope.kind = .function := by rfl) : WCall C A (.ref a) args [] H Q :=
  WCall.defC hfn hdep hb hclo hcd hbind hkind hnd (aL (kinds fd) bs fun _ => none) (aC (kinds fd) bs fun _ => none) (fun L binds e x => by rw [← e]; exact bindL_ab (fun _ => rfl) x) (fun L binds e x => by rw [← e]; exact bindC_ab (fun _ => rfl) x) h hco hgen hk
theorem top_fn {a : Addr} {o : Obj} {fd : FuncData} {body : List Stmt} {vals : List Value} {bs : List (Str × V)} {Q : V → AH → Prop} {s : Shared} (hbase : C.base = s.heap) (hrep : ∀ a o, H a = some o → ∃ c, s.heap.get? a = some c ∧ Rep o c) (hown : ∀ a o, H a = some o → o.mut = false)
    (ho : s.heap.get? a = some o) (hd : o.data = .func fd) (hdep : A.depth < recursionLimit)
    (hb : fd.body = .stmts body) (hclo : fd.closure = []) (hcd : s.heap.CodeRec fd.code fd.qualname)
    {binds : List (Str × Value)} (hbt : bindArgs fd ⟨vals, []⟩ = pure binds) (hbs : binds.map (fun p => (p.1, ab p.2)) = bs)
    (hkind : (bs.all fun y => fd.scope.names.lookup y.1 == some .local || fd.scope.names.lookup y.1 == some .cell) = true)
    (hnd : ((cellsFrom 0 fd.scope.names []).map (·.1)).Nodup)
    (h : ∀ L, H L = none → (∀ p ∈ cellsFrom (L + 1) fd.scope.names [], H p.2 = none ∧ p.2 ≠ L) → WS C (A.deeper (callEnvC fd L a)) (callEnvC fd L a) body (aL (kinds fd) bs fun _ => none) (cellH (aC (kinds fd) bs fun _ => none) (cellsFrom (L + 1) fd.scope.names []) H) (fun f _ H' => Q (retv f) H'))
    (hco : fd.scope.isCoroutine = false := by rfl) (hgen : fd.scope.isGenerator = false := by rfl) (hk : fd.scope.kind = .function := by rfl) :
    wpAny C.M A (call (.ref a) vals []) (fun v s' => (∃ H', Q (ab v) H') ∧ (∀ b o, s.heap.get? b = some o → s'.heap.get? b = some o) ∧ s'.gens = s.gens ∧ s'.os = s.os) False2 s :=
  top_call hbase hrep hown ho hd hdep hb hclo hcd hbt hbs hkind hnd (aL (kinds fd) bs fun _ => none) (aC (kinds fd) bs fun _ => none) (fun L x => by rw [← hbs]; exact bindL_ab (fun _ => rfl) x) (fun L x => by rw [← hbs]; exact bindC_ab (fun _ => rfl) x) h hco hgen hk

/-! sums, counts, shorter -/
theorem slc_take (vs : List V) (k : Nat) (h : k ≤ vs.length) : slc none (some (k : Int)) vs = vs.take k := by
  unfold slc
  simp [clipAt]
  omega
theorem slc_drop (vs : List V) (k : Nat) : slc (some (k : Int)) none vs = vs.drop k := by
  unfold slc
  rcases Nat.lt_or_ge vs.length k with h | h
  · have e : ((clipAt vs.length (k : Int)) : Nat) = vs.length := by simp [clipAt]; omega
    rw [show (some (k : Int)).elim 0 (clipAt vs.length) = vs.length from e, List.drop_of_length_le (Nat.le_refl _), List.drop_of_length_le (Nat.le_of_lt h)]; simp
  · have e : ((clipAt vs.length (k : Int)) : Nat) = k := by simp [clipAt]; omega
    rw [show (some (k : Int)).elim 0 (clipAt vs.length) = k from e]
    exact List.take_of_length_le (by simp)
theorem slc_dropLast (vs : List V) : slc none (some (-1)) vs = vs.dropLast := by
  unfold slc
  have e : ((clipAt vs.length (-1)) : Nat) = vs.length - 1 := by simp [clipAt]; omega
  rw [show (some (-1 : Int)).elim vs.length (clipAt vs.length) = vs.length - 1 from e]; simp [List.dropLast_eq_take]
theorem Ev.sum {e : Expr} {p pos : Pos} {a : Addr} {o : O} {ns : List Int} {id : Str} (F : Fx C A env) (hf : Ev C A env ρ H (.Name id p) (.bi "sum")) (h : Ev C A env ρ H e (.ref a)) (hH : H a = some o) (hl : lst o = some (vints ns)) (hn : noStar [e] = true := by rfl) : Ev C A env ρ H (.Call (.Name id p) [e] [] pos) (.int ns.sum) :=
  WE.ev (WE.callBi hf (WEs.of (.cons h .nil) (WKs.nil (WCall.sum F.hh hH hl ⟨rfl, rfl⟩))) hn)
theorem Ev.sumTake {e k : Expr} {p pos p1 p2 : Pos} {a : Addr} {o : O} {ns : List Int} {n : Nat} {id : Str} (F : Fx C A env) (hf : Ev C A env ρ H (.Name id p) (.bi "sum")) (h : Ev C A env ρ H e (.ref a)) (hk : Ev C A env ρ H k (.int n)) (hH : H a = some o) (hl : lst o = some (vints ns)) (hn : n ≤ ns.length) :
    Ev C A env ρ H (.Call (.Name id p) [.Subscript e (.Slice Option.none (some k) Option.none p1) p2] [] pos) (.int (ns.take n).sum) := by
  refine WE.ev (WE.drop (WE.callBi hf (WEs.cons (WE.slice (lo := Option.none) (hi := some (n : Int)) (WE.of h ⟨a, o, vints ns, rfl, hH, hl, .none, .some hk, fun c hc => WEs.nil (WKs.nil (WCall.sum F.hh (AH.set_same ..) (ns := ns.take n) ?_ ⟨H, AH.le_set (AH.le_refl _) hc, rfl, rfl⟩))⟩)))))
  show some _ = some _
  rw [slc_take _ _ (by simpa [vints] using hn)]
  simp [vints]
theorem WE.callB {id : Str} {p pos : Pos} {a : Addr} {o : Obj} {fd : FuncData} {es : List Expr} {ks : List Keyword} {Q : V → AH → Prop} (hfn : ∀ H, FnAt C H a o fd) (hf : Ev C A env ρ H (.Name id p) (.ref a))
    (h : WEs C A env es ρ H (fun vs H1 => WKs C A env ks ρ H1 (fun kv H2 => WCall C A (.ref a) vs kv H2 Q))) (hn : noStar es = true := by rfl) (hk : ks.all (·.arg.isSome) = true := by rfl) :
    WE C A env (.Call (.Name id p) es ks pos) ρ H Q := WE.callFn (o := o) (fd := fd) hf (WEs.mono h fun vs H1 q => by
      have : ∀ {ks : List Keyword} {H1 : AH} {Q Q' : List (Str × V) → AH → Prop}, (∀ kv H2, Q kv H2 → Q' kv H2) → WKs C A env ks ρ H1 Q → WKs C A env ks ρ H1 Q' := by
        intro ks
        induction ks with
        | nil => intro H1 Q Q' hq h; exact hq _ _ h
        | cons k ks ih =>
          intro H1 Q Q' hq h
          obtain ⟨arg, value⟩ := k
          cases arg with
          | none => exact h
          | some n => exact WE.mono h fun v H2 h => ih (fun kv H3 q => hq _ _ q) h
      exact this (fun kv H2 q => ⟨hfn H2, q⟩) q) hn hk
theorem Ev.as {e : Expr} {v v' : V} (h : Ev C A env ρ H e v) (hv : v = v') : Ev C A env ρ H e v' := hv ▸ h
theorem Fx.comp {scope : Scope} {cl : List (Str × Addr)} {Cn : Addr} (F : Fx C A env) (h : scope.kind = .function) : Fx C A (compEnvC scope cl Cn env) := ⟨h, F.gl, F.bu, F.hh⟩
/-- a list that is made of numbers in turn -/
theorem comp_range {n : Nat} {f : Nat → V} {elt : Expr} {x : Str} {pos : Pos} {Ok : Nat → AH → Prop} {P : Nat → AH → Dv → Prop} {g : Nat → V} {Q : AH → List V → Prop} (F : Fx C A env) (hx : env.kindOf x = some .local)
    (hOk : ∀ i, Ok i H) (hP : ∀ i d, P i H d → d = .one (g i)) (hn : n ≤ sizeLine) (he : ∀ i (ρ : Lo), i < n → ρ x = some (g i) → Ev C A env ρ H elt (f i)) (hQ : Q H ((List.range n).map f)) :
    LoopOk C A env elt (.Name x pos) [] [] H n Ok P (fun _ => none) [] (fun _ H2 zs => Q H2 zs) := by
  refine ⟨fun i ρ1 H1 zs => H1 = H ∧ zs = (List.range i).map f, ⟨rfl, rfl⟩, ?_, ?_⟩
  · rintro i ρ1 H1 zs hi ⟨rfl, rfl⟩
    refine ⟨hOk i, fun d hd => ?_⟩
    rw [hP i d hd]
    refine Asg.local F hx ⟨fun _ => ?_, fun e => by cases e⟩
    exact WE.of (he i _ hi (Lo.set_same ..)) ⟨by simp; omega, rfl, by rw [List.range_succ]; simp⟩
  · rintro ρ1 H1 zs ⟨rfl, rfl⟩
    exact ⟨hOk n, hQ⟩
end
end Mine

namespace Mine
open PySem PySem.W PyProof.Rows

/-! ## the top -/
theorem gl_own {C : Cx} {K : Frag} {x : Str} {v : Value} (hK : K.In C.base) (e : nsIn K mainGlobals x = some (some v)) : C.gl x = some v := by
  unfold Cx.gl; rw [mg_of hK C.hg e]
theorem gl_boot {C : Cx} {K : Frag} {x : Str} {v : Value} (hK : K.In C.base) (e : nsIn K mainGlobals x = some none) (hb : C.mb x = some v) : C.gl x = some v := by
  unfold Cx.gl; rw [ns_none_of hK C.hg e]; exact hb
theorem ints_of : ∀ {vs : List Value} {ns : List Int}, IntsAre vs ns → vs.map ab = vints ns
  | _, _, .nil => rfl
  | _, _, .cons _ _ h => by
    rw [List.map_cons, ints_of h]; rfl
theorem law_end {r : RowW} {cl : Str → Option Addr} {mean : ExcName → Option Value} {args : List WData} {s₁ s' : Shared} (hr : r.raises = []) (hp : r.claim.post args (.bool true) args = true)
    (hk : ∀ b o, s₁.heap.get? b = some o → s'.heap.get? b = some o) (hg : s'.gens = #[]) (hos : s'.os = s₁.os) : GoodWG r.claim cl mean args s₁ (.ok (.ret (.bool true))) s' :=
  GoodW.toG ⟨.inl ⟨.bool true, .bool true, [], rfl, raisesW_false (by rw [hr]; exact allW_false_nil), .bool true, hp, unshared_nil⟩, hk, hos, hg⟩
theorem addr_ne (L i j : Nat) (h : (i == j) = false) : L + i ≠ L + j := by
  have : i ≠ j := by simpa using h
  omega
def bodyOf (fd : FuncData) : List Stmt := match fd.body with
  | .stmts b => b
  | _ => []
def fdOf (K : Frag) (a : Addr) : FuncData := match K.lookup a with
  | some ⟨_, _, .func fd, _⟩ => fd
  | _ => default
theorem noCell {l : List (Str × NameKind)} (h : l.all (fun x => x.2 != .cell) = true) : ∀ x ∈ l, x.2 ≠ .cell := fun x hx q => by
  have := List.all_eq_true.mp h x hx
  rw [q] at this
  exact absurd this (by decide)
theorem allLocal {l : List (Str × NameKind)} {bs : List (Str × V)} (h : bs.all (fun x => l.lookup x.1 == some .local) = true) : ∀ x ∈ bs, l.lookup x.1 = some .local := fun x hx => by
  simpa using List.all_eq_true.mp h x hx
theorem fn_in {C : Cx} {H : AH} {K : Frag} (hK : K.In C.base) (a : Addr) (h : K.lookup a = some ⟨.type "function", none, .func (fdOf K a), #[]⟩) : FnAt C H a ⟨.type "function", none, .func (fdOf K a), #[]⟩ (fdOf K a) := ⟨rfl, .inl (hK a _ h)⟩
end Mine

namespace Mine
open PySem PySem.W PyProof.Rows

section
variable {C : Cx} {A : Around} {env : Env} {ρ : Lo} {H : AH}

/-! ## a list changed, given by the ledger -/
theorem upd_map {D : Addr} {o o' : Obj} : ∀ {l : List (Addr × Obj)}, l.Pairwise (fun p q => p.1 ≠ q.1) → (D, o) ∈ l → Upd D o o' l (l.map fun p => if p.1 = D then (D, o') else p)
  | [], _, h => by cases h
  | p :: r, hp, h => by
    obtain ⟨h1, h2⟩ := List.pairwise_cons.mp hp
    rw [List.map_cons]
    by_cases q : p.1 = D
    · have hp : p = (D, o) := by
        rcases List.mem_cons.mp h with e | e
        · exact e.symm
        · exact absurd q (h1 _ e)
      subst hp
      have hr : ∀ x ∈ r, x.1 ≠ D := fun x hx => Ne.symm (h1 x hx)
      rw [if_pos rfl]
      have : (r.map fun p => if p.1 = D then (D, o') else p) = r := by
        conv => rhs; rw [← List.map_id r]
        exact List.map_congr_left fun x hx => by rw [if_neg (hr x hx)]; rfl
      rw [this]
      exact .head hr
    · rw [if_neg q]
      have : (D, o) ∈ r := by
        rcases List.mem_cons.mp h with e | e
        · rw [← e] at q; exact absurd rfl q
        · exact e
      exact .tail q (upd_map h2 this)
theorem allNews_keys (h : Heap) (L : Addr) : (allNews h L).Pairwise (fun p q => p.1 ≠ q.1) := by
  unfold allNews
  refine List.Pairwise.filterMap _ ?_ (List.nodup_range (n := h.objs.size))
  intro a a' hne b hb b' hb'
  have key : ∀ {a : Addr} {b : Addr × Obj}, (if a = L then none else (h.get? a).map fun o => (a, o)) = some b → b.1 = a := by
    intro a b e
    split at e
    · cases e
    · cases hg : h.get? a with
      | none => rw [hg] at e; cases e
      | some o => rw [hg] at e; cases e; rfl
  rw [key hb, key hb']; exact hne
/-- what the ledger says behind a change -/
theorem upd_all {L D : Addr} {h : Heap} {o o' : Obj} (hD : D ≠ L) (ho : h.get? D = some o) : ∃ news', Upd D o o' (allNews h L) news' ∧ ∀ h', News noHeap L h' news' → h'.get? D = some o' ∧ ∀ b ob, b ≠ L → b ≠ D → h.get? b = some ob → h'.get? b = some ob := by
  refine ⟨_, upd_map (allNews_keys h L) (mem_allNews ho hD), fun h' N => ⟨?_, fun b ob hb hbD e => ?_⟩⟩
  · exact (N (D, o') (List.mem_map.mpr ⟨(D, o), mem_allNews ho hD, by simp⟩)).1
  · exact (N (b, ob) (List.mem_map.mpr ⟨(b, ob), mem_allNews e hb, by simp [hbD]⟩)).1
theorem St.upd_fr {L a : Addr} {h h' : Heap} {c : Obj} {o₀ o : O} {m : Str → Option Value} (x : St C L ρ H h) (F : Fr noHeap L h' m) (hm : ∀ x, (m x).map ab = ρ x) (hH : H a = some o₀) (hmut : o₀.mut = true) (hc : h'.get? a = some c) (hr : Rep o c) (k : ∀ b o, b ≠ L → b ≠ a → h.get? b = some o → h'.get? b = some o) : St C L ρ (H.set a o) h' where
  keep := fun b o e => k _ _ (fun q => by rw [q, x.bl] at e; cases e) (fun q => by rw [q, x.own a o₀ hH hmut] at e; cases e) (x.keep b o e)
  rep := fun b o' e => by
    by_cases q : b = a
    · subst q; rw [AH.set_same] at e; cases e; exact ⟨c, hc, hr⟩
    · rw [AH.set_ne _ _ q] at e; obtain ⟨c, e1, e2⟩ := x.rep b o' e; exact ⟨c, k _ _ (fun q => by rw [q, x.nl] at e; cases e) q e1, e2⟩
  own := fun b o' e hm' => by
    by_cases q : b = a
    · subst q; exact x.own _ _ hH hmut
    · rw [AH.set_ne _ _ q] at e; exact x.own b o' e hm'
  loc := ⟨m, F.ns, hm⟩
  nl := by rw [AH.set_ne _ _ (fun q => by rw [← q, x.nl] at hH; cases hH)]; exact x.nl
  bl := x.bl
theorem Step.upd_fr {L a : Addr} {s : Shared} {h' : Heap} {tk : Nat} {c : Obj} {o₀ o : O} {m : Str → Option Value} (F : Fr noHeap L h' m) (hH : H a = some o₀) (hc : h'.get? a = some c) (k : ∀ b o, b ≠ L → b ≠ a → s.heap.get? b = some o → h'.get? b = some o) : Step L H (H.set a o) s { s with heap := h', toks := tk } :=
  ⟨⟨_, _, rfl⟩, fun b o e hb hL => k b o hL (fun q => by rw [q, hH] at hb; cases hb) e, fun b o e hb => by rw [AH.set_ne _ _ (fun q => by rw [q, hH] at hb; cases hb)]; exact hb, fun b o e => by
    by_cases q : b = a
    · subst q; exact ⟨c, hc⟩
    · by_cases ql : b = L
      · subst ql; obtain ⟨o', _, _, ho, _⟩ := F.ns; exact ⟨o', ho⟩
      · exact ⟨o, k b o ql q e⟩⟩
theorem St.at {L D : Addr} {h : Heap} {vs : List V} (hs : St C L ρ H h) (hH : H D = some (.list vs)) : ∃ its n, h.get? D = some (listOf its n) ∧ its.toList.map ab = vs ∧ vs.length ≤ sizeLine ∧ D ≠ L := by
  obtain ⟨c, e1, xs, n, rfl, e2, e3⟩ := hs.rep _ _ hH
  exact ⟨xs, n, e1, e2, e3, fun q => by rw [q, hs.nl] at hH; cases hH⟩

/-! ## methods -/
theorem ab_nil {kvs : List (Str × Value)} (h : kvs.map (fun p => (p.1, ab p.2)) = []) : kvs = [] := by simpa using h
theorem WCall.insert {a : Addr} {vs : List V} {k : Nat} {v : V} {Q : V → AH → Prop} (hH : H a = some (.list vs)) (hk : k ≤ vs.length) (hz : vs.length < sizeLine) (h : Q .none (H.set a (.list (vs.take k ++ v :: vs.drop k)))) :
    WCall C A (.bi "list.insert") [.ref a, .int k, v] [] H Q := by
  intro L ρ fv vals kvs e1 e2 e3
  cases ab_bi e1
  obtain ⟨x, y, z, rfl, ex, ey, ez⟩ := vals3 e2
  cases ab_ref ex
  obtain ⟨t, rfl⟩ := ab_int ey
  cases ab_nil e3
  intro s hs
  obtain ⟨its, n, ho, hi, hsz, hL⟩ := hs.at hH
  obtain ⟨m, F, hm⟩ := hs.fr
  have hlen : its.toList.length = vs.length := by rw [← hi]; simp
  have hsl : (sizeLine : Int) < 2 ^ 62 := by decide
  obtain ⟨news', U, hU⟩ := upd_all (o' := listOf (its.toList.take k ++ z :: its.toList.drop k).toArray (n + 1)) hL ho
  refine kl_insert F (news_all _ _) (l := its.toList.take k ++ z :: its.toList.drop k) ?_ ?_ U (by rw [hlen]; exact hsz) (fun h' F' N' => ?_)
  · unfold Builtin.List.listFitsIndex; simp; omega
  · unfold kl_ins
    rw [if_neg (by omega), hlen, Int.toNat_natCast, Nat.min_eq_left hk]
  · obtain ⟨k1, k2⟩ := hU h' N'
    refine ⟨_, _, hs.upd_fr F' hm hH rfl k1 (o := .list (vs.take k ++ v :: vs.drop k)) ⟨_, _, rfl, ?_, ?_⟩ k2, .upd_fr F' hH k1 k2, rfl, h⟩
    · rw [List.toList_toArray]; simp [← hi, ez]
    · simp; omega
theorem WCall.extend {a b : Addr} {vs ws : List V} {Q : V → AH → Prop} (hH : H a = some (.list vs)) (hb : H b = some (.list ws)) (hne : ws ≠ []) (hz : vs.length + ws.length ≤ 1000000) (h : Q .none (H.set a (.list (vs ++ ws)))) :
    WCall C A (.bi "list.extend") [.ref a, .ref b] [] H Q := by
  intro L ρ fv vals kvs e1 e2 e3
  cases ab_bi e1
  obtain ⟨x, y, rfl, ex, ey⟩ := vals2 e2
  cases ab_ref ex
  cases ab_ref ey
  cases ab_nil e3
  intro s hs
  obtain ⟨its, n, ho, hi, hsz, hL⟩ := hs.at hH
  obtain ⟨its2, n2, ho2, hi2, hsz2, hL2⟩ := hs.at hb
  obtain ⟨m, F, hm⟩ := hs.fr
  have hlen : its.toList.length = vs.length := by rw [← hi]; simp
  have hlen2 : its2.toList.length = ws.length := by rw [← hi2]; simp
  have hsl : 1000000 ≤ sizeLine := by decide
  rw [Array.length_toList] at hlen hlen2
  obtain ⟨news', U, hU⟩ := upd_all (o' := listOf (its.toList ++ its2.toList).toArray (n + 1)) hL ho
  refine kl_extend F (news_all _ _) (mem_allNews ho2 hL2) (l := its.toList ++ its2.toList) rfl ?_ U ?_ (by rw [Array.length_toList, hlen]; exact hsz) (by omega) (fun h' F' N' => ?_)
  · rw [Array.length_toList, hlen2]
    intro q; exact hne (List.eq_nil_of_length_eq_zero q)
  · simp only [Bool.and_eq_true, not_and]
    intro _
    unfold Builtin.List.listTooLong
    simp
    omega
  · obtain ⟨k1, k2⟩ := hU h' N'
    refine ⟨_, _, hs.upd_fr F' hm hH rfl k1 (o := .list (vs ++ ws)) ⟨_, _, rfl, ?_, ?_⟩ k2, .upd_fr F' hH k1 k2, rfl, h⟩
    · simp [hi, hi2]
    · simp; omega
theorem kl_last_some : ∀ {l : List Value}, l ≠ [] → ∃ y, kl_last l = some (l.dropLast, y) ∧ l.getLast? = some y
  | [], h => absurd rfl h
  | [x], _ => ⟨x, rfl, rfl⟩
  | x :: y :: r, _ => by
    obtain ⟨z, e1, e2⟩ := kl_last_some (l := y :: r) (by simp)
    refine ⟨z, ?_, ?_⟩
    · rw [kl_last, e1]; rfl
    · rw [List.getLast?_cons_cons]; exact e2
theorem WCall.pop {a : Addr} {vs : List V} {v : V} {Q : V → AH → Prop} (hH : H a = some (.list (vs ++ [v]))) (h : Q v (H.set a (.list vs))) : WCall C A (.bi "list.pop") [.ref a] [] H Q := by
  intro L ρ fv vals kvs e1 e2 e3
  cases ab_bi e1
  obtain ⟨x, rfl, ex⟩ := vals1 e2
  cases ab_ref ex
  cases ab_nil e3
  intro s hs
  obtain ⟨its, n, ho, hi, hsz, hL⟩ := hs.at hH
  obtain ⟨m, F, hm⟩ := hs.fr
  have hlen : its.toList.length = (vs ++ [v]).length := by rw [← hi]; simp
  obtain ⟨y, ey, ey'⟩ := kl_last_some (l := its.toList) (by intro q; rw [q] at hlen; simp at hlen)
  obtain ⟨news', U, hU⟩ := upd_all (o' := listOf its.toList.dropLast.toArray (n + 1)) hL ho
  have hvy : ab y = v := by
    have := congrArg List.getLast? hi
    rw [List.getLast?_map, ey'] at this
    simpa using this
  refine kl_pop F (news_all _ _) ey U (by rw [hlen]; exact hsz) (fun h' F' N' => ?_)
  obtain ⟨k1, k2⟩ := hU h' N'
  refine ⟨_, _, hs.upd_fr F' hm hH rfl k1 (o := .list vs) ⟨_, _, rfl, ?_, ?_⟩ k2, .upd_fr F' hH k1 k2, rfl, by rw [hvy]; exact h⟩
  · rw [List.toList_toArray, List.map_dropLast, hi]; simp
  · simp at hsz; omega
end
end Mine

namespace Mine
open PySem PySem.W PyProof.Rows
open PySem.SeqAt (shaped compareEq_shaped compareNe_shaped in_list_reads notIn_list_reads canLay_of_shaped depth_of_shaped)

/-! ## deep data -/
mutual
def Rd (H : AH) (v : V) : PyData → Prop
  | .none => v = .none
  | .bool b => v = .bool b
  | .int i => v = .int i
  | .str x => v = .str x
  | .list ds => ∃ a ob vs, v = .ref a ∧ H a = some ob ∧ lst ob = some vs ∧ RdL H vs ds
  | .tuple ds => ∃ a vs, v = .ref a ∧ H a = some (.tup vs) ∧ RdL H vs ds
  | .dict _ => False
def RdL (H : AH) (vs : List V) : List PyData → Prop
  | [] => vs = []
  | d :: ds => ∃ v r, vs = v :: r ∧ Rd H v d ∧ RdL H r ds
end

section
variable {C : Cx} {A : Around} {env : Env} {ρ : Lo} {H : AH}
mutual
theorem Rd.reads {L : Addr} {h : Heap} (hs : St C L ρ H h) : ∀ (d : PyData) (x : Value), Rd H (ab x) d → ∃ as, Reads h x d as
  | .none, x, r => by rw [Rd] at r; cases ab_none r; exact ⟨_, .none⟩
  | .bool b, x, r => by rw [Rd] at r; cases ab_bool r; exact ⟨_, .bool b⟩
  | .int i, x, r => by rw [Rd] at r; obtain ⟨t, rfl⟩ := ab_int r; exact ⟨_, .int i t⟩
  | .str y, x, r => by rw [Rd] at r; obtain ⟨t, rfl⟩ := ab_str r; exact ⟨_, .str y t⟩
  | .list ds, x, r => by
    rw [Rd] at r
    obtain ⟨a, ob, vs, e, hH, hl, hr⟩ := r
    cases ab_ref e
    obtain ⟨xs, ⟨o, ho, hc, n, hd⟩, h2, _⟩ := hs.list hH hl
    obtain ⟨as, R⟩ := RdL.reads hs ds xs.toList (by rw [h2]; exact hr)
    exact ⟨_, .list ho hc hd R⟩
  | .tuple ds, x, r => by
    rw [Rd] at r
    obtain ⟨a, vs, e, hH, hr⟩ := r
    cases ab_ref e
    obtain ⟨xs, ⟨o, ho, hc, n, hd⟩, h2, _⟩ := hs.tup hH
    obtain ⟨as, R⟩ := RdL.reads hs ds xs.toList (by rw [h2]; exact hr)
    exact ⟨_, .tuple ho hc hd R⟩
  | .dict _, x, r => by rw [Rd] at r; exact r.elim
theorem RdL.reads {L : Addr} {h : Heap} (hs : St C L ρ H h) : ∀ (ds : List PyData) (xs : List Value), RdL H (xs.map ab) ds → ∃ as, ReadsAll h xs ds as
  | [], xs, r => by
    rw [RdL] at r
    have : xs = [] := by simpa using r
    subst this; exact ⟨_, .nil⟩
  | d :: ds, xs, r => by
    rw [RdL] at r
    obtain ⟨v, q, e, r1, r2⟩ := r
    cases xs with
    | nil => simp at e
    | cons x xs =>
      rw [List.map_cons] at e
      cases e
      obtain ⟨as, R⟩ := Rd.reads hs d x r1
      obtain ⟨bs, R'⟩ := RdL.reads hs ds xs r2
      exact ⟨_, .cons R R'⟩
end
theorem RdL_ints {H : AH} : ∀ (ns : List Int), RdL H (vints ns) (ns.map .int)
  | [] => by rw [List.map_nil, RdL]; rfl
  | n :: ns => by rw [List.map_cons, RdL]; exact ⟨.int n, vints ns, rfl, by rw [Rd], RdL_ints ns⟩
def dints (ns : List Int) : PyData := .list (ns.map .int)
theorem Rd_ints {H : AH} {a : Addr} {ob : O} {ns : List Int} (h : H a = some ob) (hl : lst ob = some (vints ns)) : Rd H (.ref a) (dints ns) := by
  unfold dints; rw [Rd]; exact ⟨a, ob, _, rfl, h, hl, RdL_ints ns⟩
theorem shaped_ints (ns : List Int) : shaped (dints ns) = true := by
  have h1 : PyData.canLayAll0 (ns.map .int) = true := by
    induction ns with
    | nil => rfl
    | cons n ns ih => rw [List.map_cons, PyData.canLayAll0, ih]; rfl
  have h2 : PyData.depthAll (ns.map .int) = 0 := by
    induction ns with
    | nil => rfl
    | cons n ns ih =>
      rw [List.map_cons, PyData.depthAll, ih (by rw [List.map_cons, PyData.canLayAll0] at h1; exact (Bool.and_eq_true_iff.mp h1).2)]; rfl
  unfold shaped dints
  rw [PyData.canLay0, PyData.depth, h1, h2]; rfl
theorem eqvAll_map {α : Type} [DecidableEq α] {enc : α → PyData} (he : ∀ a b, PyData.eqv (enc a) (enc b) = decide (a = b)) : ∀ (xs ys : List α), PyData.eqvAll (xs.map enc) (ys.map enc) = decide (xs = ys)
  | [], [] => by simp [PyData.eqvAll]
  | [], _ :: _ => by simp [PyData.eqvAll]
  | _ :: _, [] => by simp [PyData.eqvAll]
  | x :: xs, y :: ys => by
    rw [List.map_cons, List.map_cons, PyData.eqvAll, he, eqvAll_map he]
    simp
theorem eqv_list_map {α : Type} [DecidableEq α] {enc : α → PyData} (he : ∀ a b, PyData.eqv (enc a) (enc b) = decide (a = b)) (xs ys : List α) : PyData.eqv (.list (xs.map enc)) (.list (ys.map enc)) = decide (xs = ys) := by
  rw [PyData.eqv]; exact eqvAll_map he xs ys
theorem eqv_int (a b : Int) : PyData.eqv (.int a) (.int b) = decide (a = b) := by
  rw [PyData.eqv]; rfl
theorem eqv_ints (xs ys : List Int) : PyData.eqv (dints xs) (dints ys) = decide (xs = ys) := eqv_list_map eqv_int xs ys

theorem W.eqData {L : Addr} {x y : Value} {d e : PyData} {Q : Value → Lo → AH → Prop} (hx : Rd H (ab x) d) (hy : Rd H (ab y) e) (hd : shaped d = true) (he : shaped e = true) (hu : A.units + 64 < cLine) (h : Q (.bool (PyData.eqv d e)) ρ H) : W C A L (compareOp .Eq x y) ρ H Q := fun s hs => by
  obtain ⟨as, R⟩ := Rd.reads hs d x hx
  obtain ⟨bs, R'⟩ := Rd.reads hs e y hy
  exact compareEq_shaped R R' hd he hu ⟨ρ, H, hs, .refl .., h⟩
theorem W.neData {L : Addr} {x y : Value} {d e : PyData} {Q : Value → Lo → AH → Prop} (hx : Rd H (ab x) d) (hy : Rd H (ab y) e) (hd : shaped d = true) (he : shaped e = true) (hu : A.units + 64 < cLine) (h : Q (.bool (!PyData.eqv d e)) ρ H) : W C A L (compareOp .NotEq x y) ρ H Q := fun s hs => by
  obtain ⟨as, R⟩ := Rd.reads hs d x hx
  obtain ⟨bs, R'⟩ := Rd.reads hs e y hy
  exact compareNe_shaped R R' hd he hu ⟨ρ, H, hs, .refl .., h⟩

/-- a comparison whose sides may make things, as a value and as a test -/
theorem WE.cmp {l r : Expr} {op : CmpOp} {pos : Pos} {Q : V → AH → Prop} (h : WE C A env l ρ H (fun v H1 => WE C A env r ρ H1 (fun w H2 => ∀ x y, ab x = v → ab y = w → W C A env.locals (compareOp op x y) ρ H2 (fun z ρ' H' => ρ' = ρ ∧ Q (ab z) H'))))
    (hm : behindInMarks op r = false := by with_unfolding_all rfl) : WE C A env (.Compare l [op] [r] pos) ρ H Q :=
  W.Compare1 hm (W.mono h (by rintro x _ H1 ⟨rfl, h1⟩; exact W.mono h1 (by rintro y _ H2 ⟨rfl, h2⟩; exact h2 x y rfl rfl)))
theorem WT.cmp {l r : Expr} {op : CmpOp} {pos : Pos} {Q : Bool → AH → Prop} (h : WE C A env l ρ H (fun v H1 => WE C A env r ρ H1 (fun w H2 => ∀ x y, ab x = v → ab y = w → W C A env.locals (compareOp op x y) ρ H2 (fun z ρ' H' => ρ' = ρ ∧ ∃ b, z = .bool b ∧ Q b H'))))
    (hm : behindInMarks op r = false := by with_unfolding_all rfl) : WT C A env (.Compare l [op] [r] pos) ρ H Q :=
  W.isTrue_Compare1 hm (W.mono h (by rintro x _ H1 ⟨rfl, h1⟩; exact W.mono h1 (by rintro y _ H2 ⟨rfl, h2⟩; exact W.mono (h2 x y rfl rfl) (by rintro z _ H3 ⟨rfl, b, rfl, q⟩; exact W.truthy_bool ⟨rfl, q⟩))))
theorem WT.eqD {l r : Expr} {pos : Pos} {Q : Bool → AH → Prop} (hu : A.units + 64 < cLine) (h : WE C A env l ρ H (fun v H1 => WE C A env r ρ H1 (fun w H2 => ∃ d e, Rd H2 v d ∧ Rd H2 w e ∧ shaped d = true ∧ shaped e = true ∧ Q (PyData.eqv d e) H2)))
    (hm : behindInMarks .Eq r = false := by with_unfolding_all rfl) : WT C A env (.Compare l [.Eq] [r] pos) ρ H Q :=
  WT.cmp (WE.mono h fun v H1 q => WE.mono q fun w H2 ⟨d, e, r1, r2, s1, s2, q⟩ x y ex ey => W.eqData (ex ▸ r1) (ey ▸ r2) s1 s2 hu ⟨rfl, _, rfl, q⟩) hm
theorem WT.neD {l r : Expr} {pos : Pos} {Q : Bool → AH → Prop} (hu : A.units + 64 < cLine) (h : WE C A env l ρ H (fun v H1 => WE C A env r ρ H1 (fun w H2 => ∃ d e, Rd H2 v d ∧ Rd H2 w e ∧ shaped d = true ∧ shaped e = true ∧ Q (!PyData.eqv d e) H2)))
    (hm : behindInMarks .NotEq r = false := by with_unfolding_all rfl) : WT C A env (.Compare l [.NotEq] [r] pos) ρ H Q :=
  WT.cmp (WE.mono h fun v H1 q => WE.mono q fun w H2 ⟨d, e, r1, r2, s1, s2, q⟩ x y ex ey => W.neData (ex ▸ r1) (ey ▸ r2) s1 s2 hu ⟨rfl, _, rfl, q⟩) hm
theorem WE.eqD {l r : Expr} {pos : Pos} {Q : V → AH → Prop} (hu : A.units + 64 < cLine) (h : WE C A env l ρ H (fun v H1 => WE C A env r ρ H1 (fun w H2 => ∃ d e, Rd H2 v d ∧ Rd H2 w e ∧ shaped d = true ∧ shaped e = true ∧ Q (.bool (PyData.eqv d e)) H2)))
    (hm : behindInMarks .Eq r = false := by with_unfolding_all rfl) : WE C A env (.Compare l [.Eq] [r] pos) ρ H Q :=
  WE.cmp (WE.mono h fun v H1 q => WE.mono q fun w H2 ⟨d, e, r1, r2, s1, s2, q⟩ x y ex ey => W.eqData (ex ▸ r1) (ey ▸ r2) s1 s2 hu ⟨rfl, q⟩) hm
/-- pure tests out of tests that make things -/
theorem WT.ev {e : Expr} {b : Bool} (h : WT C A env e ρ H (fun b' H' => b' = b ∧ H' = H)) : EvT C A env ρ H e b := W.mono h (by rintro x _ _ ⟨rfl, rfl, rfl⟩; exact ⟨rfl, rfl, rfl⟩)

/-! ## in -/
theorem W.inData {L : Addr} {x y : Value} {d : PyData} {es : List PyData} {Q : Value → Lo → AH → Prop} (hx : Rd H (ab x) d) (hy : Rd H (ab y) (.list es)) (hd : shaped d = true) (he : shaped (.list es) = true) (hu : A.units + 66 < cLine) (h : Q (.bool (es.any fun y => PyData.eqv y d)) ρ H) : W C A L (compareOp .In x y) ρ H Q := fun s hs => by
  obtain ⟨as, R⟩ := Rd.reads hs d x hx
  obtain ⟨bs, R'⟩ := Rd.reads hs (.list es) y hy
  exact in_list_reads R' R (canLay_of_shaped he) (canLay_of_shaped hd) (by have := depth_of_shaped hd; omega) ⟨ρ, H, hs, .refl .., h⟩
theorem W.notInData {L : Addr} {x y : Value} {d : PyData} {es : List PyData} {Q : Value → Lo → AH → Prop} (hx : Rd H (ab x) d) (hy : Rd H (ab y) (.list es)) (hd : shaped d = true) (he : shaped (.list es) = true) (hu : A.units + 66 < cLine) (h : Q (.bool (!es.any fun y => PyData.eqv y d)) ρ H) : W C A L (compareOp .NotIn x y) ρ H Q := fun s hs => by
  obtain ⟨as, R⟩ := Rd.reads hs d x hx
  obtain ⟨bs, R'⟩ := Rd.reads hs (.list es) y hy
  exact notIn_list_reads R' R (canLay_of_shaped he) (canLay_of_shaped hd) (by have := depth_of_shaped hd; omega) ⟨ρ, H, hs, .refl .., h⟩
theorem shaped_int (i : Int) : shaped (.int i) = true := by unfold shaped; rw [PyData.canLay0, PyData.depth]; rfl
theorem any_ints (ns : List Int) (k : Int) : ((ns.map PyData.int).any fun y => PyData.eqv y (.int k)) = decide (k ∈ ns) := by
  induction ns with
  | nil => simp
  | cons n ns ih =>
    rw [List.map_cons, List.any_cons, ih, eqv_int]
    by_cases q : n = k
    · simp [q]
    · have : ¬ k = n := fun e => q e.symm
      simp [q, this]
theorem EvT.inInts {l r : Expr} {pos : Pos} {k : Int} {a : Addr} {ob : O} {ns : List Int} (hu : A.units + 66 < cLine) (h1 : Ev C A env ρ H l (.int k)) (h2 : Ev C A env ρ H r (.ref a)) (hH : H a = some ob) (hl : lst ob = some (vints ns)) (hm : behindInMarks .In r = false := by with_unfolding_all rfl) :
    EvT C A env ρ H (.Compare l [.In] [r] pos) (decide (k ∈ ns)) :=
  WT.ev (WT.cmp (WE.of h1 (WE.of h2 fun x y ex ey => W.inData (d := .int k) (es := ns.map .int) (by rw [ex, Rd]) (by rw [ey]; exact Rd_ints hH hl) (shaped_int k) (shaped_ints ns) hu ⟨rfl, _, rfl, any_ints ns k, rfl⟩)) hm)
theorem EvT.notInInts {l r : Expr} {pos : Pos} {k : Int} {a : Addr} {ob : O} {ns : List Int} (hu : A.units + 66 < cLine) (h1 : Ev C A env ρ H l (.int k)) (h2 : Ev C A env ρ H r (.ref a)) (hH : H a = some ob) (hl : lst ob = some (vints ns)) (hm : behindInMarks .NotIn r = false := by with_unfolding_all rfl) :
    EvT C A env ρ H (.Compare l [.NotIn] [r] pos) (!decide (k ∈ ns)) :=
  WT.ev (WT.cmp (WE.of h1 (WE.of h2 fun x y ex ey => W.notInData (d := .int k) (es := ns.map .int) (by rw [ex, Rd]) (by rw [ey]; exact Rd_ints hH hl) (shaped_int k) (shaped_ints ns) hu ⟨rfl, _, rfl, by rw [any_ints], rfl⟩)) hm)

/-! ## negative places, stores, repeats, powers, the greatest -/
theorem Ev.itemNeg {o i : Expr} {pos : Pos} {a : Addr} {ob : O} {vs : List V} {k : Int} {v : V} (h1 : Ev C A env ρ H o (.ref a)) (h2 : Ev C A env ρ H i (.int k)) (hH : H a = some ob) (hl : lst ob = some vs) (h0 : k < 0) (hk : -(vs.length : Int) ≤ k) (hx : vs[(k + vs.length).toNat]? = some v)
    (hs : ∀ t, subscripted i false (.ref a) (.int k t) = operate [.ref a, .int k t] (getItem (.ref a) (.int k t)) := by intro _; with_unfolding_all rfl) : Ev C A env ρ H (.Subscript o i pos) v :=
  W.Subscript (W.mono h1 (by
    rintro x _ _ ⟨rfl, rfl, e⟩
    refine h2.then fun y e' => ?_
    cases ab_ref e
    obtain ⟨t, rfl⟩ := ab_int e'
    intro s hst
    obtain ⟨xs, x1, x2, x3⟩ := hst.list hH hl
    obtain ⟨z, z1, z2⟩ := arr_get x2 hx
    have hsl : (sizeLine : Int) < 2 ^ 62 := by decide
    have hsz := arr_size x2
    refine tail_any (ops := [.ref a, .int k t]) x1.typeIs slot_list_getitem.lookup (wpAny_getItem_list_neg x1 h0 (by rw [hsz]; exact hk) (by omega) (by rw [hsz]; exact z1) ⟨_, _, hst, .refl .., rfl, rfl, z2⟩) (hs t)))
end
end Mine

namespace Mine
open PySem PySem.W PyProof.Rows

section
variable {C : Cx} {A : Around} {env : Env} {ρ : Lo} {H : AH}

theorem kf_at_ints : ∀ {xs : List Value} {ns : List Int} {k : Int} {j : Nat}, xs.map ab = vints ns → ns.idxOf? k = some j → kf_at k xs = some j
  | [], [], k, j, _, h => by simp at h
  | [], _ :: _, _, _, h, _ => by simp [vints] at h
  | _ :: _, [], _, _, h, _ => by simp [vints] at h
  | x :: xs, n :: ns, k, j, h, hk => by
    simp only [vints, List.map_cons, List.cons.injEq] at h
    obtain ⟨t, rfl⟩ := ab_int h.1
    rw [List.idxOf?_cons] at hk
    unfold kf_at
    by_cases q : n = k
    · have : (n == k) = true := by simp [q]
      rw [if_pos this] at hk; cases hk
      have : isInt k (.int n t) = true := by simp [isInt, q]
      rw [this]; rfl
    · have : ¬ (n == k) = true := by simp [q]
      rw [if_neg this] at hk
      have e : isInt k (.int n t) = false := by simp [isInt, q]
      rw [e]
      cases hj : ns.idxOf? k with
      | none => rw [hj] at hk; cases hk
      | some i =>
        rw [hj] at hk; cases hk
        rw [kf_at_ints h.2 hj]; rfl
theorem kf_ints_of : ∀ {xs : List Value} {ns : List Int}, xs.map ab = vints ns → kf_ints xs = true
  | [], _, _ => rfl
  | _ :: _, [], h => by simp [vints] at h
  | x :: xs, n :: ns, h => by
    simp only [vints, List.map_cons, List.cons.injEq] at h
    obtain ⟨t, rfl⟩ := ab_int h.1
    show kf_ints xs = true
    exact kf_ints_of (ns := ns) h.2
theorem WCall.index {a : Addr} {ns : List Int} {k : Int} {j : Nat} {Q : V → AH → Prop} (hH : H a = some (.list (vints ns))) (hj : ns.idxOf? k = some j) (h : Q (.int j) H) : WCall C A (.bi "list.index") [.ref a, .int k] [] H Q := by
  intro L ρ fv vals kvs e1 e2 e3
  cases ab_bi e1
  obtain ⟨x, y, rfl, ex, ey⟩ := vals2 e2
  cases ab_ref ex
  obtain ⟨t, rfl⟩ := ab_int ey
  cases ab_nil e3
  intro s hs
  obtain ⟨its, n, ho, hi, hsz, hL⟩ := hs.at hH
  have hlen : its.toList.length = (vints ns).length := by rw [← hi]; simp
  exact kf_index (news_all s.heap L) (mem_allNews ho hL) (kf_ints_of hi) (kf_at_ints hi hj) rfl (by rw [hlen]; exact hsz) ⟨ρ, H, hs, .toks, rfl, h⟩

/-! ## stores into lists -/
theorem ki_setL_some : ∀ {l : List Value} {k : Nat} {v : Value}, k < l.length → ki_setL l k v = some (l.set k v)
  | [], k, v, h => by simp at h
  | x :: r, 0, v, _ => rfl
  | x :: r, k + 1, v, h => by
    have := ki_setL_some (l := r) (k := k) (v := v) (by simpa using h)
    unfold ki_setL
    rw [this]; rfl
theorem W.setItem {L a : Addr} {vs : List V} {k : Nat} {x y : Value} {Q : Unit → Lo → AH → Prop} (hH : H a = some (.list vs)) (hx : ab x = .int k) (hk : k < vs.length) (h : Q () ρ (H.set a (.list (vs.set k (ab y))))) : W C A L (PySem.setItem (.ref a) x y) ρ H Q := fun s hs => by
  obtain ⟨t, rfl⟩ := ab_int hx
  obtain ⟨its, n, ho, hi, hsz, hL⟩ := hs.at hH
  obtain ⟨m, F, hm⟩ := hs.fr
  have hlen : its.toList.length = vs.length := by rw [← hi]; simp
  have hsl : (sizeLine : Int) < 2 ^ 62 := by decide
  obtain ⟨news', U, hU⟩ := upd_all (o' := listOf (its.toList.set k y).toArray n) hL ho
  refine ki_set F (news_all _ _) (by omega) (by omega) (q := its.toList.set k y) (by rw [Int.toNat_natCast]; exact ki_setL_some (by omega)) U (fun h' F' N' => ?_)
  obtain ⟨k1, k2⟩ := hU h' N'
  refine ⟨_, _, hs.upd_fr F' hm hH rfl k1 (o := .list (vs.set k (ab y))) ⟨_, _, rfl, ?_, ?_⟩ k2, .upd_fr F' hH k1 k2, h⟩
  · rw [List.toList_toArray, List.map_set, hi]
  · simp; exact hsz
/-- a[i] = v -/
theorem Asg.item {o i : Expr} {pos : Pos} {v : V} {a : Addr} {k : Nat} {vs : List V} {Q : Lo → AH → Prop} (h1 : Ev C A env ρ H o (.ref a)) (h2 : Ev C A env ρ H i (.int k)) (hH : H a = some (.list vs)) (hk : k < vs.length) (h : Q ρ (H.set a (.list (vs.set k v)))) : Asg C A env (.Subscript o i pos) (.one v) ρ H Q := fun s y hs hd => by
  have e : ab y = v := hd
  subst e
  refine kas_sub ?_
  refine wpAny_mono (h1 s hs) (fun ov s1 ⟨ρ1, H1, a1, b1, c1, c2, c3⟩ => ?_) fun _ _ e => e
  subst c1 c2
  cases ab_ref c3
  refine wpAny_mono (h2 s1 a1) (fun iv s2 ⟨ρ2, H2, a2, b2, c1, c2, c3⟩ => ?_) fun _ _ e => e
  subst c1 c2
  exact W.at (W.setItem hH c3 hk h) a2 (b1.trans b2 (fun _ _ => a2.nl))

/-! ## repeats, powers, the greatest -/
theorem WE.mulList {l r : Expr} {pos : Pos} {Q : V → AH → Prop}
    (h : WE C A env l ρ H (fun v H1 => WE C A env r ρ H1 (fun w H2 => ∃ a k v0, v = .ref a ∧ w = .int k ∧ H2 a = some (.list [v0]) ∧ 0 ≤ k ∧ k ≤ 1000000 ∧ ∀ c, H2 c = none → Q (.ref c) (H2.set c (.list (List.replicate k.toNat v0)))))) :
    WE C A env (.BinOp l .Mult r pos) ρ H Q := by
  refine W.BinOp (W.mono h ?_)
  rintro x _ H1 ⟨rfl, h1⟩
  refine W.mono h1 ?_
  rintro y _ H2 ⟨rfl, a, k, v0, ex, ey, ha, k0, k1, hq⟩
  cases ab_ref ex
  obtain ⟨u, rfl⟩ := ab_int ey
  intro s hs
  obtain ⟨its, n, ho, hi, hsz, hL⟩ := hs.at ha
  obtain ⟨m, F, hm⟩ := hs.fr
  have hn := get?_size_none s.heap
  have hlen : its.size = 1 := by rw [← Array.length_toList]; have := congrArg List.length hi; simpa using this
  obtain ⟨y0, hy0, hy0'⟩ : ∃ y0, its.toList = [y0] ∧ ab y0 = v0 := by
    obtain ⟨x, e1, e2⟩ := vals1 hi
    exact ⟨x, e1, e2⟩
  refine mul_list F (news_all s.heap env.locals) ho (by omega) (by omega) (by rw [hlen]; omega) (fun h' F' N' => ?_)
  have kk := News.kept N' fun p hp => List.mem_cons_of_mem _ hp
  have hc := (N' _ (List.mem_cons_self ..)).1
  have hemp : its.isEmpty = false := by simp [Array.isEmpty, hlen]
  have hfold : (List.foldl (fun x1 x2 => x1 ++ x2) (#[] : Array Value) (List.replicate (if its.isEmpty = true then 0 else k.toNat) its)).toList.map ab = List.replicate k.toNat v0 := by
    rw [hemp, if_neg (by simp)]
    have : ∀ (j : Nat) (z : Array Value), (List.foldl (fun x1 x2 => x1 ++ x2) z (List.replicate j its)).toList.map ab = z.toList.map ab ++ List.replicate j v0 := by
      intro j
      induction j with
      | zero => intro z; simp
      | succ j ih => intro z; rw [List.replicate_succ, List.foldl_cons, ih]; simp [hy0, hy0', List.replicate_succ]
    rw [this]; simp
  have hsl : 1000000 ≤ sizeLine := by decide
  exact ⟨_, _, hs.alloc_fr F' hm hn hc (o := .list (List.replicate k.toNat v0)) ⟨_, _, rfl, hfold, by rw [List.length_replicate]; omega⟩ kk, Step.alloc_fr (tk := s.toks) F' hn kk, rfl, hq _ (hs.fresh hn).1⟩
theorem Ev.pow {l r : Expr} {pos : Pos} {a n : Int} (h1 : Ev C A env ρ H l (.int a)) (h2 : Ev C A env ρ H r (.int n)) (h0 : 0 ≤ n) (hsz : (Builtin.Int.intBits a : Int) * n ≤ 2 ^ 27) : Ev C A env ρ H (.BinOp l .Pow r pos) (.int (a ^ n.toNat)) :=
  Ev.bin h1 h2 fun x y e e' => by
    obtain ⟨t, rfl⟩ := ab_int e; obtain ⟨u, rfl⟩ := ab_int e'
    exact fun s hs => pow_int h0 hsz ⟨ρ, H, hs, .toks, rfl, rfl, rfl⟩
theorem WCall.max {a : Addr} {ob : O} {ns : List Int} {M : Int} {Q : V → AH → Prop} (hh : A.handled = none) (hH : H a = some ob) (hl : lst ob = some (vints ns)) (hM : M ∈ ns) (hmax : ∀ n ∈ ns, n ≤ M) (h : Q (.int M) H) : WCall C A (.bi "max") [.ref a] [] H Q := by
  intro L ρ fv vals kvs e1 e2 e3
  cases ab_bi e1
  obtain ⟨x, rfl, ex⟩ := vals1 e2
  cases ab_ref ex
  cases ab_nil e3
  intro s hs
  obtain ⟨xs, x1, x2, x3⟩ := hs.list hH hl
  obtain ⟨m, F, hm⟩ := hs.fr
  have x1' : s.heap.IsList a xs.toList.toArray := by rw [Array.toArray_toList]; exact x1
  refine max_list_N hh F (news_all s.heap L) x1' (intsAre_of x2) (List.length_pos_of_mem hM) (fun h' M' t tk F' N' m1 m2 => ?_)
  have : M' = M := by have := m2 M hM; have := hmax M' m1; omega
  subst this
  have kk := News.kept N' fun p hp => hp
  exact ⟨ρ, H, hs.of_fr F' hm kk, .of_fr F' kk, rfl, h⟩
theorem Ev.max {e : Expr} {p pos : Pos} {a : Addr} {ob : O} {ns : List Int} {M : Int} {id : Str} (F : Fx C A env) (hf : Ev C A env ρ H (.Name id p) (.bi "max")) (h : Ev C A env ρ H e (.ref a)) (hH : H a = some ob) (hl : lst ob = some (vints ns)) (hM : M ∈ ns) (hmax : ∀ n ∈ ns, n ≤ M) (hn : noStar [e] = true := by rfl) : Ev C A env ρ H (.Call (.Name id p) [e] [] pos) (.int M) :=
  WE.ev (WE.callBi hf (WEs.of (.cons h .nil) (WKs.nil (WCall.max F.hh hH hl hM hmax ⟨rfl, rfl⟩))) hn)

/-! ## the place's own changes -/
theorem W.loadLocal {x : Str} {v : V} (F : Fx C A env) (hl : env.kindOf x = some .local) (hv : ρ x = some v) : W C A env.locals (loadName env x) ρ H (fun y ρ' H' => ρ' = ρ ∧ H' = H ∧ ab y = v) := fun s hs => by
  obtain ⟨m, hn, hm⟩ := hs.loc
  have := hm x
  rw [hv] at this
  cases hx : m x with
  | none => rw [hx] at this; cases this
  | some y => rw [hx] at this; exact wpAny_loadName_local F.kind hl hn hx ⟨ρ, H, hs, .refl .., rfl, rfl, by simpa using this⟩
theorem W1.augLocal {x : Str} {p pos : Pos} {op : Operator} {e : Expr} {Q : Fl → Lo → AH → Prop} {u : V} (F : Fx C A env) (hl : env.kindOf x = some .local) (hv : ρ x = some u)
    (h : WE C A env e ρ H (fun v H1 => ∀ y z, ab y = u → ab z = v → W C A env.locals (inplaceOp op y z) ρ H1 (fun r ρ' H' => ρ' = ρ ∧ Q .next (ρ.set x (ab r)) H'))) : W1 C A env (.AugAssign (.Name x p) op e pos) ρ H Q := fun s hs => by
  refine wpAny_AugAssign_Name ?_
  refine wpAny_mono (W.loadLocal F hl hv s hs) (fun old s1 ⟨ρ1, H1, a1, b1, c1, c2, c3⟩ => ?_) fun _ _ e => e
  subst c1 c2
  refine wpAny_mono (h s1 a1) (fun v s2 ⟨ρ2, H2, a2, b2, c1, c4⟩ => ?_) fun _ _ e => e
  subst c1
  refine wpAny_mono (c4 old v c3 rfl s2 a2) (fun r s3 ⟨ρ3, H3, a3, b3, c1, c5⟩ => ?_) fun _ _ e => e
  subst c1
  exact W.at (W.storeLocal F hl c5) a3 ((b1.trans b2 (fun _ _ => a2.nl)).trans b3 (fun _ _ => a3.nl))
theorem W1.augSub {x : Str} {p pos : Pos} {e : Expr} {Q : Fl → Lo → AH → Prop} {a b : Int} (F : Fx C A env) (hl : env.kindOf x = some .local) (hv : ρ x = some (.int a)) (he : Ev C A env ρ H e (.int b)) (h : Q .next (ρ.set x (.int (a - b))) H) : W1 C A env (.AugAssign (.Name x p) .Sub e pos) ρ H Q :=
  W1.augLocal F hl hv (WE.of he fun y z ey ez => by
    obtain ⟨t, rfl⟩ := ab_int ey; obtain ⟨u, rfl⟩ := ab_int ez
    exact fun s hs => PySem.AutoIntOps.isub_0 ⟨ρ, H, hs, .toks, rfl, h⟩)
theorem W1.augAdd {x : Str} {p pos : Pos} {e : Expr} {Q : Fl → Lo → AH → Prop} {a b : Int} (F : Fx C A env) (hl : env.kindOf x = some .local) (hv : ρ x = some (.int a)) (he : Ev C A env ρ H e (.int b)) (h : Q .next (ρ.set x (.int (a + b))) H) : W1 C A env (.AugAssign (.Name x p) .Add e pos) ρ H Q :=
  W1.augLocal F hl hv (WE.of he fun y z ey ez => by
    obtain ⟨t, rfl⟩ := ab_int ey; obtain ⟨u, rfl⟩ := ab_int ez
    exact fun s hs => PySem.AutoIntOps.iadd_0 ⟨ρ, H, hs, .toks, rfl, h⟩)

/-! ## backwards -/
theorem WE.rev {o e : Expr} {p pos : Pos} {Q : V → AH → Prop}
    (h : WE C A env o ρ H (fun v H1 => ∃ l ob vs, v = .ref l ∧ H1 l = some ob ∧ lst ob = some vs ∧ Ev C A env ρ H1 e (.int (-1)) ∧ ∀ c, H1 c = none → Q (.ref c) (H1.set c (.list vs.reverse)))) :
    WE C A env (.Subscript o (.Slice none none (some e) p) pos) ρ H Q := fun s hs => by
  refine Subscript_ (wpAny_mono (h s hs) (fun x s1 ⟨ρ1, H1, a1, b1, c1, l, ob, vs, d1, d2, d3, d4, d6⟩ => ?_) fun _ _ e => e)
  subst c1
  cases ab_ref d1
  refine wpAny_Slice ?_
  rw [evalPart_none]
  refine wpAny_pure (wpAny_pure ?_)
  have hp := (EvP.some d4).run s1 a1
  refine wpAny_mono hp (fun vu s3 ⟨ρ3, H3, a3, b3, c3, c4, pu⟩ => ?_) fun _ _ e => e
  subst c3 c4
  obtain ⟨xs, x1, x2, x3⟩ := a3.list d2 d3
  have k1 : ∀ b o, s3.heap.get? b = some o → (s3.heap.push { cls := .type "slice", data := .fields #[.none, .none, vu] }).get? b = some o := fun b o e => Heap.get?_push_of_some _ e
  have a4 := a3.ext k1
  have x1' := x1.push { cls := .type "slice", data := .fields #[.none, .none, vu] }
  have hn := get?_size_none (s3.heap.push { cls := .type "slice", data := .fields #[.none, .none, vu] })
  refine tail_any (ops := [.ref l, .ref s3.heap.objs.size]) x1'.typeIs slot_list_getitem.lookup (wpAny_getItem_list_slice x1' (Heap.IsSliceOf.new ..) .none .none pu (by simp) ?_ (by rw [arr_size x2]; exact x3)) rfl
  have k2 : ∀ b o, (s3.heap.push { cls := .type "slice", data := .fields #[.none, .none, vu] }).get? b = some o → ((s3.heap.push { cls := .type "slice", data := .fields #[.none, .none, vu] }).push { cls := .type "list", data := .seq (slicePick xs none none (some (-1))) }).get? b = some o := fun b o e => Heap.get?_push_of_some _ e
  refine ⟨_, _, a4.alloc (o := .list vs.reverse) hn (Heap.get?_push_size _ rfl) ⟨_, 0, rfl, ?_, by simpa using x3⟩ k2, ?_, rfl, d6 _ (a4.fresh hn).1⟩
  · rw [krv_pick, List.toList_toArray, List.map_reverse, x2]
  · exact ((b1.trans b3 (fun _ _ => a3.nl)).trans (Step.ext (tk := s3.toks) k1) (fun _ _ => a3.nl)).trans (Step.alloc (tk := s3.toks) hn k2) (fun _ _ => by rw [AH.set_ne _ _ (Ne.symm (a4.fresh hn).2.2)]; exact a4.nl)
end
end Mine

namespace Mine
open PySem PySem.W PyProof.Rows

section
variable {C : Cx} {A : Around} {env : Env} {ρ : Lo} {H : AH}
theorem WE.item {o i : Expr} {pos : Pos} {Q : V → AH → Prop} (h : WE C A env o ρ H (fun v H1 => ∃ a ob vs k u, v = .ref a ∧ H1 a = some ob ∧ lst ob = some vs ∧ Ev C A env ρ H1 i (.int k) ∧ 0 ≤ k ∧ vs[k.toNat]? = some u ∧ Q u H1))
    (hs : ∀ a k t, subscripted i false (.ref a) (.int k t) = operate [.ref a, .int k t] (getItem (.ref a) (.int k t)) := by intro _ _ _; with_unfolding_all rfl) : WE C A env (.Subscript o i pos) ρ H Q :=
  W.Subscript (W.mono h (by
    rintro x _ H1 ⟨rfl, a, ob, vs, k, u, e, hH, hl, h2, h0, hx, q⟩
    refine h2.then fun y e' => ?_
    cases ab_ref e
    obtain ⟨t, rfl⟩ := ab_int e'
    intro s hst
    obtain ⟨xs, q1, q2, q3⟩ := hst.list hH hl
    obtain ⟨y, y1, y2⟩ := arr_get q2 hx
    have hlt : k.toNat < vs.length := (List.getElem?_eq_some_iff.mp hx).1
    have hsl : (sizeLine : Int) < 2 ^ 63 := by decide
    exact tail_any q1.typeIs slot_list_getitem.lookup (wpAny_getItem_list q1 h0 (by omega) y1 ⟨_, _, hst, .refl .., rfl, y2 ▸ q⟩) (hs a k t)))
theorem EvT.neNilInts {l : Expr} {p pos : Pos} {a : Addr} {ob : O} {ns : List Int} (hu : A.units + 64 < cLine) (h : Ev C A env ρ H l (.ref a)) (hH : H a = some ob) (hl : lst ob = some (vints ns)) : EvT C A env ρ H (.Compare l [.NotEq] [.List [] p] pos) (!decide (ns = [])) :=
  WT.ev (WT.drop (WT.neD hu (WE.of h (WE.list rfl (by decide) (WEs.nil fun b hb => ⟨dints ns, dints [], Rd_ints (AH.get_of_set hH hb) hl, Rd_ints (AH.set_same ..) rfl, shaped_ints _, shaped_ints _, H, AH.le_set (AH.le_refl _) hb, by rw [eqv_ints], rfl⟩)))))
/-- a list that is made of another's items -/
theorem comp_list {f : Nat → V} {elt : Expr} {x : Str} {pos : Pos} {Ok : Nat → AH → Prop} {vs : List V} {Q : AH → List V → Prop} (F : Fx C A env) (hx : env.kindOf x = some .local) (hn : vs.length ≤ sizeLine)
    (hOk : ∀ i, Ok i H) (he : ∀ i v (ρ : Lo), vs[i]? = some v → ρ x = some v → Ev C A env ρ H elt (f i)) (hQ : Q H ((List.range vs.length).map f)) :
    LoopOk C A env elt (.Name x pos) [] [] H vs.length Ok (fun i _ d => ∃ v, vs[i]? = some v ∧ d = .one v) (fun _ => none) [] (fun _ H2 zs => Q H2 zs) := by
  refine ⟨fun i ρ1 H1 zs => H1 = H ∧ zs = (List.range i).map f, ⟨rfl, rfl⟩, ?_, ?_⟩
  · rintro i ρ1 H1 zs hi ⟨rfl, rfl⟩
    refine ⟨hOk i, ?_⟩
    rintro d ⟨v, hv, rfl⟩
    refine Asg.local F hx ⟨fun _ => ?_, fun e => by cases e⟩
    exact WE.of (he i v _ hv (Lo.set_same ..)) ⟨by simp; omega, rfl, by rw [List.range_succ]; simp⟩
  · rintro ρ1 H1 zs ⟨rfl, rfl⟩
    exact ⟨hOk _, hQ⟩
/-- a list of which nothing is taken -/
theorem comp_none {n : Nat} {elt c : Expr} {x : Str} {pos : Pos} {Ok : Nat → AH → Prop} {P : Nat → AH → Dv → Prop} {g : Nat → V} {Q : AH → List V → Prop} (F : Fx C A env) (hx : env.kindOf x = some .local)
    (hOk : ∀ i, Ok i H) (hP : ∀ i d, P i H d → d = .one (g i)) (he : ∀ i (ρ : Lo), i < n → ρ x = some (g i) → EvT C A env ρ H c false) (hQ : Q H []) :
    LoopOk C A env elt (.Name x pos) [c] [] H n Ok P (fun _ => none) [] (fun _ H2 zs => Q H2 zs) := by
  refine ⟨fun i ρ1 H1 zs => H1 = H ∧ zs = [], ⟨rfl, rfl⟩, ?_, ?_⟩
  · rintro i ρ1 H1 zs hi ⟨rfl, rfl⟩
    refine ⟨hOk i, fun d hd => ?_⟩
    rw [hP i d hd]
    refine Asg.local F hx (WT.of (he i _ hi (Lo.set_same ..)) ⟨fun e => (by cases e), fun _ => ⟨fun e => (by cases e), fun _ => ⟨rfl, rfl⟩⟩⟩)
  · rintro ρ1 H1 zs ⟨rfl, rfl⟩
    exact ⟨hOk n, hQ⟩
theorem Ev.abs {e : Expr} {p pos : Pos} {a : Int} {id : Str} (hf : Ev C A env ρ H (.Name id p) (.bi "abs")) (h : Ev C A env ρ H e (.int a)) (hn : noStar [e] = true := by rfl) : Ev C A env ρ H (.Call (.Name id p) [e] [] pos) (.int (if a < 0 then -a else a)) :=
  WE.ev (WE.callBi hf (WEs.of (.cons h .nil) (WKs.nil (WCall.abs ⟨rfl, rfl⟩))) hn)
theorem map_range_vints {xs : List Int} (f : Int → Int) : (List.range (vints xs).length).map (fun i => V.int (f (xs.getD i 0))) = vints (xs.map f) := by
  rw [ints_length]
  apply List.ext_getElem?
  intro i
  by_cases q : i < xs.length
  · simp [vints, q]
  · simp [vints, q]
theorem vints_at {xs : List Int} {i : Nat} {v : V} (h : (vints xs)[i]? = some v) : v = .int (xs.getD i 0) ∧ i < xs.length := by
  have hi : i < (vints xs).length := (List.getElem?_eq_some_iff.mp h).1
  rw [ints_length] at hi
  rw [List.getD_eq_getElem?_getD]
  refine ⟨?_, hi⟩
  simp [vints, hi] at h ⊢
  exact h.symm
end
end Mine

namespace Mine
open PySem PySem.W PyProof.Rows

theorem div_of {n q r c : Int} (h : n = q * c + r) (h0 : 0 ≤ r) (h1 : r < c) : n.fdiv c = q ∧ n.fmod c = r := by
  have hc : 0 < c := by omega
  have e1 := Int.mul_fdiv_add_fmod n c
  have e2 := Int.fmod_nonneg_of_pos n hc
  have e3 := Int.fmod_lt_of_pos n hc
  have hq : n.fdiv c = q := by
    have k1 : c * (n.fdiv c) + n.fmod c = c * q + r := by rw [e1, h, Int.mul_comm]
    have k2 : c * (n.fdiv c - q) = r - n.fmod c := by rw [Int.mul_sub]; omega
    rcases Int.lt_trichotomy (n.fdiv c - q) 0 with a | a | a
    · have : c * (n.fdiv c - q) ≤ c * (-1) := Int.mul_le_mul_of_nonneg_left (by omega) (by omega)
      omega
    · omega
    · have : c * 1 ≤ c * (n.fdiv c - q) := Int.mul_le_mul_of_nonneg_left (by omega) (by omega)
      omega
  refine ⟨hq, ?_⟩
  rw [hq, Int.mul_comm] at e1
  omega
theorem div_as (n c : Int) (hc : 0 < c) : n = n.fdiv c * c + n.fmod c ∧ 0 ≤ n.fmod c ∧ n.fmod c < c := by
  have e1 := Int.mul_fdiv_add_fmod n c
  rw [Int.mul_comm] at e1
  exact ⟨e1.symm, Int.fmod_nonneg_of_pos n hc, Int.fmod_lt_of_pos n hc⟩
theorem small_bits {k : Int} (h0 : 0 ≤ k) (h1 : k < 1000000) : Builtin.Int.intBits k ≤ 64 := intBits_le_64 (by omega) (by omega)
end Mine

set_option maxHeartbeats 4000000
namespace Mine
open PySem PySem.W PyProof.Rows
open_top hd for PySem.Challenge.rw_dm0010_05
end Mine

set_option maxHeartbeats 4000000
namespace Mine
open PySem PySem.W PyProof.Rows

/-- the search -/
def bis (f : Nat → Bool) (lo hi : Nat) : Nat :=
  if h : lo < hi then
    if f ((lo + hi) / 2) then bis f lo ((lo + hi) / 2) else bis f ((lo + hi) / 2 + 1) hi
  else lo
termination_by hi - lo
decreasing_by all_goals omega

local macro_rules | `(tactic| walk_at "ev") => `(tactic| first
  | exact Ev.int | exact Ev.none | exact Ev.bool | exact Ev.str
  | (refine Ev.local (by assumption) (by rfl) ?_; first | rfl | assumption)
  | (refine Ev.glob (by assumption) (by rfl) (by assumption))
  | (refine Ev.add ?_ ?_ <;> walk_at "ev")
  | (refine Ev.sub ?_ ?_ <;> walk_at "ev"))

theorem bisect_spec {C : Cx} {A : Around} {H : AH} {P : Params} (hK : (hd.heap_39 P).In C.base) (hlen : C.gl "len" = some (.builtin "len")) (hh : A.handled = none) (hdep : A.depth < recursionLimit)
    {a : Addr} {ob : O} {ns : List Int} {x : Int} (ha : H a = some ob) (hl : lst ob = some (vints ns)) {Q : V → AH → Prop} (hQ : Q (.int (bis (fun i => decide (x < ns.getD i 0)) 0 ns.length)) H) :
    WCall C A (.ref 23) [.ref a, .int x] [] H Q := by
  refine WCall.def (fn_in hK 23 rfl) hdep rfl (noCell rfl) (fun h k => codeRec_of (hK.keeps k) rfl) (bs := [("a", .ref a), ("x", .int x), ("lo", .int 0), ("hi", .none), ("key", .none)]) ?_ (allLocal rfl) ?_
  · intro vals kvs e1 e2
    obtain ⟨y, z, rfl, ey, ez⟩ := vals2 e1
    have : kvs = [] := by simpa using e2
    subst this
    refine ⟨[("a", y), ("x", z), ("lo", .int 0 189), ("hi", .none), ("key", .none)], fun s hs => kp_binds (hK.keeps hs) (fun S => rfl), ?_⟩
    show [(_, ab y), (_, ab z), _, _, _] = _
    rw [ey, ez]; rfl
  · intro L hL
    generalize hA' : A.deeper (callEnv (fdOf (hd.heap_39 P) 23) L 23) = A'
    have F : Fx C A' (callEnv (fdOf (hd.heap_39 P) 23) L 23) := ⟨rfl, rfl, rfl, by rw [← hA']; exact hh⟩
    generalize hρ : (fun y => List.lookup y (([("a", .ref a), ("x", .int x), ("lo", .int 0), ("hi", .none), ("key", .none)] : List (Str × V)).reverse)) = ρ
    have ra : ρ "a" = some (.ref a) := by rw [← hρ]; rfl
    have rx : ρ "x" = some (.int x) := by rw [← hρ]; rfl
    have rlo : ρ "lo" = some (.int 0) := by rw [← hρ]; rfl
    have rhi : ρ "hi" = some .none := by rw [← hρ]; rfl
    have rk : ρ "key" = some .none := by rw [← hρ]; rfl
    refine WS.seq (W1.if (WT.of (EvT.icmp (Ev.local F rfl rlo) Ev.int rfl) ⟨fun e => by simp at e, fun _ => WS.nil ⟨rfl, ?_⟩⟩))
    refine WS.seq (W1.if (WT.of (EvT.isNone (Ev.local F rfl rhi)) ⟨fun _ => ?_, fun e => by simp at e⟩))
    refine WS.seq (W1.asgLocal F rfl (WE.of (Ev.len (Ev.glob F rfl hlen) (Ev.local F rfl ra) ha hl) ?_))
    refine ⟨rfl, WS.nil ⟨rfl, ?_⟩⟩
    refine WS.seq (W1.if (WT.of (EvT.isNone (Ev.local F rfl rk)) ⟨fun _ => ?_, fun e => by simp at e⟩))
    refine WS.seq (W1.while F (fun n ρ1 H1 => ∃ lo hi : Nat, n = hi - lo ∧ lo ≤ hi ∧ hi ≤ ns.length ∧ H1 = H ∧ ρ1 "a" = some (.ref a) ∧ ρ1 "x" = some (.int x) ∧ ρ1 "lo" = some (.int lo) ∧ ρ1 "hi" = some (.int hi) ∧ bis (fun i => decide (x < ns.getD i 0)) lo hi = bis (fun i => decide (x < ns.getD i 0)) 0 ns.length) ns.length ⟨0, ns.length, rfl, Nat.zero_le _, Nat.le_refl _, rfl, ra, rx, rlo, (by rw [ints_length]; rfl), rfl⟩ ?_)
    rintro n ρ1 H1 ⟨lo, hi, rfl, hle, hhi, rfl, ra, rx, rlo, rhi, hb⟩
    refine WT.of (EvT.icmp (Ev.local F rfl rlo) (Ev.local F rfl rhi) rfl) ⟨fun e => ?_, fun e => ?_⟩
    · have hlt : lo < hi := by simpa using e
      have hmid : ((lo : Int) + (hi : Int)).fdiv 2 = ((lo + hi) / 2 : Nat) := by
        rw [Int.fdiv_eq_ediv_of_nonneg _ (by decide)]; omega
      refine WS.seq (W1.asgLocal F rfl (WE.of (Ev.fdiv (Ev.add (Ev.local F rfl rlo) (Ev.local F rfl rhi)) Ev.int (by decide) (by decide)) ?_))
      rw [hmid]
      refine ⟨rfl, ?_⟩
      have hm : (lo + hi) / 2 < ns.length := by omega
      refine WS.seq (W1.if (WT.of (EvT.icmp (Ev.local F rfl rx) (Ev.item (Ev.local F rfl ra) (Ev.local F rfl rfl) ha hl (by omega) (ints_get (n := ns.getD ((lo + hi) / 2) 0) (by rw [Int.toNat_natCast, List.getD_eq_getElem?_getD]; simp [hm]))) rfl) ⟨fun e2 => ?_, fun e2 => ?_⟩))
      · refine WS.seq (W1.asgLocal F rfl (WE.of (Ev.local F rfl rfl) ⟨rfl, WS.nil ⟨rfl, WS.nil ⟨(lo + hi) / 2 - lo, by omega, lo, (lo + hi) / 2, rfl, by omega, by omega, rfl, ra, rx, rlo, rfl, ?_⟩⟩⟩))
        rw [← hb]; conv => rhs; unfold bis
        rw [dif_pos hlt, if_pos e2]
      · refine WS.seq (W1.asgLocal F rfl (WE.of (Ev.add (Ev.local F rfl rfl) Ev.int) ⟨rfl, WS.nil ⟨rfl, WS.nil ⟨hi - ((lo + hi) / 2 + 1), by omega, (lo + hi) / 2 + 1, hi, rfl, by omega, by omega, rfl, ra, rx, rfl, rhi, ?_⟩⟩⟩))
        rw [← hb]; conv => rhs; unfold bis
        rw [dif_pos hlt, if_neg (by simpa using e2)]
    · have hge : ¬ lo < hi := by simpa using e
      have e1 : bis (fun i => decide (x < ns.getD i 0)) lo hi = lo := by unfold bis; rw [dif_neg hge]
      rw [← hb, e1] at hQ
      exact ⟨rfl, WS.nil ⟨rfl, WS.cons (W1.ret (WE.of (Ev.local F rfl rlo) hQ))⟩⟩
end Mine

namespace Mine
open PySem PySem.W PyProof.Rows

theorem bis_eq {f : Nat → Bool} {s : Nat} : ∀ {lo hi : Nat}, lo ≤ s → s ≤ hi → (∀ i, lo ≤ i → i < s → f i = false) → (∀ i, s ≤ i → i < hi → f i = true) → bis f lo hi = s := by
  intro lo hi
  induction hm : hi - lo using Nat.strongRecOn generalizing lo hi with
  | ind n ih =>
    intro h1 h2 h3 h4
    unfold bis
    by_cases h : lo < hi
    · rw [dif_pos h]
      by_cases hf : f ((lo + hi) / 2) = true
      · rw [if_pos hf]
        have : s ≤ (lo + hi) / 2 := by
          rcases Nat.lt_or_ge ((lo + hi) / 2) s with q | q
          · have := h3 _ (by omega) q; rw [hf] at this; cases this
          · exact q
        exact ih _ (by omega) rfl h1 this h3 (fun i a b => h4 i a (by omega))
      · rw [if_neg hf]
        have : (lo + hi) / 2 < s := by
          rcases Nat.lt_or_ge ((lo + hi) / 2) s with q | q
          · exact q
          · exact absurd (h4 _ q (by omega)) hf
        exact ih _ (by omega) rfl this h2 (fun i a b => h3 i (by omega) b) h4
    · rw [dif_neg h]; omega

/-! ## the steps -/
def G : Nat → Nat
  | 0 => 1
  | 1 => 2
  | k + 2 => G (k + 1) + G k
theorem G_add (k : Nat) : G (k + 2) = G (k + 1) + G k := rfl
theorem G_pos : ∀ k, 0 < G k
  | 0 => by decide
  | 1 => by decide
  | k + 2 => by rw [G_add]; have := G_pos k; omega
theorem G_lt (k : Nat) : G k < G (k + 1) := by
  cases k with
  | zero => decide
  | succ k => rw [G_add]; have := G_pos k; omega
theorem G_mono {i j : Nat} (h : i ≤ j) : G i ≤ G j := by
  induction h with
  | refl => exact Nat.le_refl _
  | step _ ih => exact Nat.le_trans ih (Nat.le_of_lt (G_lt _))
theorem G_two : ∀ k, 2 ^ k ≤ G (2 * k)
  | 0 => by decide
  | k + 1 => by
    have h1 := G_two k
    have h2 := G_lt (2 * k)
    rw [show 2 * (k + 1) = 2 * k + 2 by omega, G_add, Nat.pow_succ]; omega
theorem G_big : 10 ^ 100 < G 700 := by
  have := G_two 350
  exact Nat.lt_of_lt_of_le (by decide +kernel) this

/-! ## the greedy choice -/
def zeck : Nat → Nat → List Nat
  | 0, _ => []
  | k + 1, n => if G k ≤ n then k :: zeck k (n - G k) else zeck k n
theorem zeck_less {k m n : Nat} (h : n < G k) (hk : k ≤ m) : zeck m n = zeck k n := by
  induction hk with
  | refl => rfl
  | step hk ih =>
    rename_i m
    show (if G m ≤ n then m :: zeck m (n - G m) else zeck m n) = _
    have := G_mono hk
    rw [if_neg (by omega)]; exact ih
theorem zeck_len : ∀ (m n : Nat), (zeck m n).length ≤ m
  | 0, _ => Nat.le_refl _
  | k + 1, n => by
    unfold zeck
    split
    · have := zeck_len k (n - G k); simp; omega
    · have := zeck_len k n; omega
theorem zeck_zero : ∀ m, zeck m 0 = []
  | 0 => rfl
  | k + 1 => by
    unfold zeck
    rw [if_neg (by have := G_pos k; omega)]; exact zeck_zero k
theorem find_top {n : Nat} (h0 : 0 < n) : ∀ {m : Nat}, n < G m → ∃ k, k < m ∧ G k ≤ n ∧ n < G (k + 1)
  | 0, h => by
    have : G 0 = 1 := rfl
    omega
  | m + 1, h => by
    by_cases q : n < G m
    · obtain ⟨k, h1, h2, h3⟩ := find_top h0 q
      exact ⟨k, by omega, h2, h3⟩
    · exact ⟨m, by omega, by omega, h⟩
theorem rest_less {k n : Nat} (h1 : G k ≤ n) (h2 : n < G (k + 1)) : n - G k < G k := by
  cases k with
  | zero =>
    have e0 : G 0 = 1 := rfl
    have e1 : G (0 + 1) = 2 := rfl
    rw [e0] at *; rw [e1] at h2; omega
  | succ k => rw [G_add] at h2; have := G_lt k; omega
theorem zeck_step {k m n : Nat} (hk : k < m) (h1 : G k ≤ n) (h2 : n < G (k + 1)) : zeck m n = k :: zeck m (n - G k) := by
  rw [zeck_less h2 hk]
  show (if G k ≤ n then k :: zeck k (n - G k) else zeck k n) = _
  rw [if_pos h1, zeck_less (rest_less h1 h2) (Nat.le_of_lt hk)]
theorem zeck_lt : ∀ {m n j : Nat}, j ∈ zeck m n → j < m ∧ G j ≤ n
  | 0, _, _, h => by cases h
  | k + 1, n, j, h => by
    unfold zeck at h
    split at h
    · rcases List.mem_cons.mp h with rfl | h
      · exact ⟨by omega, by assumption⟩
      · have := zeck_lt h; omega
    · have := zeck_lt h; omega
theorem zeck_gaps {m : Nat} : ∀ {n : Nat}, n < G m → ∀ i, i + 1 < (zeck m n).length → (zeck m n).getD (i + 1) 0 + 2 ≤ (zeck m n).getD i 0 := by
  intro n
  induction n using Nat.strongRecOn with
  | ind n ih =>
    intro hn i hi
    by_cases h0 : n = 0
    · subst h0; rw [zeck_zero] at hi; simp at hi
    · obtain ⟨k, hk, h1, h2⟩ := find_top (by omega) hn
      have hs := zeck_step hk h1 h2
      have hp := G_pos k
      rw [hs] at hi ⊢
      cases i with
      | zero =>
        cases hz : zeck m (n - G k) with
        | nil => rw [hz] at hi; simp at hi
        | cons j r =>
          have hj := (zeck_lt (m := m) (n := n - G k) (j := j) (by rw [hz]; exact List.mem_cons_self ..)).2
          show j + 2 ≤ k
          cases k with
          | zero =>
            have e0 : G 0 = 1 := rfl
            have e1 : G (0 + 1) = 2 := rfl
            have := G_pos j
            rw [e0] at *; rw [e1] at h2; omega
          | succ k =>
            rw [G_add] at h2
            have : j < k := by
              rcases Nat.lt_or_ge j k with q | q
              · exact q
              · have := G_mono q; omega
            omega
      | succ i =>
        have := ih (n - G k) (by omega) (by omega) i (by simpa using hi)
        simpa using this

/-! a choice comes back -/
def Gaps : List Nat → Prop
  | [] => True
  | [_] => True
  | a :: b :: r => b + 2 ≤ a ∧ Gaps (b :: r)
theorem choice_sum : ∀ {c : List Nat} {m : Nat}, Gaps c → (∀ a r, c = a :: r → a < m) → (c.map G).sum < G m ∧ zeck m (c.map G).sum = c
  | [], m, _, _ => ⟨by simpa using G_pos m, by simpa using zeck_zero m⟩
  | [k], m, _, h => by
    have hk := h k [] rfl
    have e : ([k].map G).sum = G k := by simp
    have h2 := G_lt k
    rw [e]
    refine ⟨Nat.lt_of_lt_of_le h2 (G_mono hk), ?_⟩
    rw [zeck_step hk (Nat.le_refl _) h2, Nat.sub_self, zeck_zero]
  | k :: j :: r, m, hg, h => by
    have hk := h k _ rfl
    obtain ⟨g1, g2⟩ := hg
    have e : ((k :: j :: r).map G).sum = G k + ((j :: r).map G).sum := by simp
    have ih1 := choice_sum (m := k - 1) g2 (fun a r' e => by cases e; omega)
    have ih2 := choice_sum (m := m) g2 (fun a r' e => by cases e; omega)
    obtain ⟨p, rfl⟩ : ∃ p, k = p + 1 := ⟨k - 1, by omega⟩
    have h2 : G (p + 1) + ((j :: r).map G).sum < G (p + 1 + 1) := by
      rw [G_add]; have := ih1.1; simp at this ⊢; omega
    rw [e]
    refine ⟨Nat.lt_of_lt_of_le h2 (G_mono hk), ?_⟩
    rw [zeck_step hk (by omega) h2, Nat.add_sub_cancel_left, ih2.2]

/-! ## the row with repeats -/
section
variable (μ : Nat → Nat)
def P5 : Nat → Nat
  | 0 => 0
  | k + 1 => P5 k + μ k
def row5 : Nat → List Int
  | 0 => []
  | k + 1 => row5 k ++ List.replicate (μ k) (G k : Int)
theorem row5_len : ∀ k, (row5 μ k).length = P5 μ k
  | 0 => rfl
  | k + 1 => by rw [row5, P5, List.length_append, row5_len k, List.length_replicate]
variable {μ}
theorem P5_mono {i j : Nat} (h : i ≤ j) : P5 μ i ≤ P5 μ j := by
  induction h with
  | refl => exact Nat.le_refl _
  | step _ ih => rw [P5]; omega
theorem P5_lt (hμ : ∀ k, 1 ≤ μ k) {i j : Nat} (h : i < j) : P5 μ i < P5 μ j := by
  have h1 := P5_mono (μ := μ) (show i + 1 ≤ j from h)
  have h2 := hμ i
  rw [P5] at h1; omega
theorem P5_ge (hμ : ∀ k, 1 ≤ μ k) : ∀ k, k ≤ P5 μ k
  | 0 => Nat.zero_le _
  | k + 1 => by have := P5_ge hμ k; have := hμ k; rw [P5]; omega
theorem P5_le (hμ : ∀ k, μ k ≤ 3) : ∀ k, P5 μ k ≤ 3 * k
  | 0 => Nat.zero_le _
  | k + 1 => by have := P5_le hμ k; have := hμ k; rw [P5]; omega
theorem row5_get : ∀ {m i : Nat}, i < P5 μ m → ∃ j, j < m ∧ P5 μ j ≤ i ∧ i < P5 μ (j + 1) ∧ (row5 μ m).getD i 0 = (G j : Int)
  | 0, i, h => by simp [P5] at h
  | m + 1, i, h => by
    by_cases q : i < P5 μ m
    · obtain ⟨j, h1, h2, h3, h4⟩ := row5_get q
      refine ⟨j, by omega, h2, h3, ?_⟩
      rw [row5, List.getD_eq_getElem?_getD, List.getElem?_append_left (by rw [row5_len]; exact q), ← List.getD_eq_getElem?_getD, h4]
    · refine ⟨m, by omega, by omega, h, ?_⟩
      rw [P5] at h
      rw [row5, List.getD_eq_getElem?_getD, List.getElem?_append_right (by rw [row5_len]; omega), row5_len, List.getElem?_replicate, if_pos (by omega)]
      rfl
theorem row5_bis {m k : Nat} {n : Nat} (hk : k ≤ m) (h1 : ∀ j, j < k → G j ≤ n) (h2 : ∀ j, k ≤ j → j < m → n < G j) :
    bis (fun i => decide ((n : Int) < (row5 μ m).getD i 0)) 0 (row5 μ m).length = P5 μ k := by
  rw [row5_len]
  refine bis_eq (Nat.zero_le _) (P5_mono hk) (fun i _ hi => ?_) (fun i hi hi' => ?_)
  · obtain ⟨j, a, b, c, d⟩ := row5_get (μ := μ) (m := m) (i := i) (by have := P5_mono (μ := μ) hk; omega)
    rw [d, decide_eq_false_iff_not]
    have : j < k := by
      rcases Nat.lt_or_ge j k with q | q
      · exact q
      · have := P5_mono (μ := μ) q; omega
    have := h1 j this
    omega
  · obtain ⟨j, a, b, c, d⟩ := row5_get (μ := μ) (m := m) (i := i) hi'
    rw [d, decide_eq_true_iff]
    have : k ≤ j := by
      rcases Nat.lt_or_ge j k with q | q
      · have := P5_mono (μ := μ) (show j + 1 ≤ k from q); omega
      · exact q
    have := h2 j this a
    omega
variable (μ)
def ends5 (m : Nat) : List Int := (List.range m).map fun k => ((P5 μ (k + 1) - 1 : Nat) : Int)
variable {μ}
theorem ends5_idx (hμ : ∀ k, 1 ≤ μ k) {m k : Nat} (hk : k < m) : (ends5 μ m).idxOf? ((P5 μ (k + 1) - 1 : Nat) : Int) = some k := by
  unfold ends5
  rw [List.idxOf?, List.findIdx?_eq_some_iff_getElem]
  refine ⟨by simpa using hk, by simp, fun j hj => ?_⟩
  have h1 := P5_lt (μ := μ) hμ (show j + 1 < k + 1 by omega)
  have h2 := P5_ge (μ := μ) hμ (j + 1)
  simp
  omega
end
end Mine

set_option maxHeartbeats 4000000
namespace Mine
open PySem PySem.W PyProof.Rows

def ofN (l : List Nat) : List Int := l.map fun n : Nat => (n : Int)

theorem found_spec {C : Cx} {A : Around} {H : AH} {P : Params} (hK : (hd.heap_39 P).In C.base) (hlen : C.gl "len" = some (.builtin "len")) (hrange : C.gl "range" = some (.type "range")) (hbis : C.gl "bisect_right" = some (.ref 23)) (hh : A.handled = none) (hdep : A.depth + 1 < recursionLimit) (hu : A.units + 100 < cLine)
    {a b : Addr} {μ : Nat → Nat} {m n : Nat} (hμ1 : ∀ k, 1 ≤ μ k) (hμ3 : ∀ k, μ k ≤ 3) (hm : m ≤ 1000) (hn : n < G m) (ha : H a = some (.list (vints (row5 μ m)))) (hb : H b = some (.list (vints (ends5 μ m))))
    {Q : V → AH → Prop} (hQ : ∀ D, H D = none → Q (.ref D) (H.set D (.list (vints (ofN (zeck m n)))))) :
    WCall C A (.ref 30) [.ref a, .ref b, .int n] [] H Q := by
  refine WCall.def (fn_in hK 30 rfl) (by omega) rfl (noCell rfl) (fun h k => codeRec_of (hK.keeps k) rfl) (bs := [("row", .ref a), ("ends", .ref b), ("number", .int n)]) ?_ (allLocal rfl) ?_
  · intro vals kvs e1 e2
    obtain ⟨x, y, z, rfl, ex, ey, ez⟩ := vals3 e1
    have : kvs = [] := by simpa using e2
    subst this
    refine ⟨[("row", x), ("ends", y), ("number", z)], fun s hs => kp_binds (hK.keeps hs) (fun S => rfl), ?_⟩
    show [(_, ab x), (_, ab y), (_, ab z)] = _
    rw [ex, ey, ez]
  · intro L hL
    generalize hA' : A.deeper (callEnv (fdOf (hd.heap_39 P) 30) L 30) = A'
    have hdep' : A'.depth < recursionLimit := by rw [← hA']; exact hdep
    have hu' : A'.units + 66 < cLine := by
      have : A'.units = A.units + 3 := by rw [← hA']; rfl
      omega
    have F : Fx C A' (callEnv (fdOf (hd.heap_39 P) 30) L 30) := ⟨rfl, rfl, rfl, by rw [← hA']; exact hh⟩
    generalize hρ : (fun y => List.lookup y (([("row", .ref a), ("ends", .ref b), ("number", .int n)] : List (Str × V)).reverse)) = ρ
    have rn : ρ "number" = some (.int n) := by rw [← hρ]; rfl
    have rr : ρ "row" = some (.ref a) := by rw [← hρ]; rfl
    have re : ρ "ends" = some (.ref b) := by rw [← hρ]; rfl
    refine WS.seq (W1.asgLocal F rfl (WE.list rfl (by decide) (WEs.nil fun D hD => ⟨rfl, ?_⟩)))
    have hP := P5_le (μ := μ) hμ3 m
    have hPg := P5_ge (μ := μ) hμ1 m
    have hrl := row5_len μ m
    have haD := AH.get_of_set (o := .list []) ha hD
    refine WS.cons (W1.for (WIt.range1 F (Ev.glob F rfl hrange) (Ev.add (Ev.as (Ev.len (Ev.glob F rfl hlen) (Ev.local F rfl rr) haD rfl) (by rw [ints_length, hrl])) Ev.int) (by omega) (by omega) ?_))
    refine ⟨fun i ρ1 H1 => ∃ pre n', zeck m n = pre ++ zeck m n' ∧ pre.length = i ∧ n' < G m ∧ ρ1 "row" = some (.ref a) ∧ ρ1 "ends" = some (.ref b) ∧ ρ1 "found" = some (.ref D) ∧ ρ1 "number" = some (.int (n' : Nat)) ∧ H1 = H.set D (.list (vints (ofN pre))), ⟨[], n, rfl, rfl, hn, rr, re, rfl, rn, rfl⟩, ?_, ?_⟩
    · rintro i ρ1 H1 hi ⟨pre, n', hz, hp, hn', r1, r2, r3, r4, rfl⟩
      refine ⟨trivial, ?_⟩
      rintro d rfl
      refine Asg.local F rfl ?_
      have haD := AH.get_of_set (o := .list (vints (ofN pre))) ha hD
      have hbD := AH.get_of_set (o := .list (vints (ofN pre))) hb hD
      have hDD : (H.set D (.list (vints (ofN pre)))) D = some (.list (vints (ofN pre))) := AH.set_same ..
      have hpl : pre.length ≤ m := by have := zeck_len m n; rw [hz, List.length_append] at this; omega
      -- where it stands
      by_cases h0 : n' = 0
      · subst h0
        refine WS.seq (W1.asgLocal F rfl (WE.of (v := .int (-1)) (Ev.as (Ev.sub (a := 0) (b := 1) (WE.ev (WE.callB (fun _ => fn_in hK 23 rfl) (Ev.glob F rfl hbis) (WEs.of (.cons (Ev.local F rfl r1) (.cons (Ev.local F rfl r4) .nil)) (WKs.nil (bisect_spec hK hlen F.hh hdep' haD rfl ⟨?_, rfl⟩))))) Ev.int) rfl) ⟨rfl, ?_⟩))
        · rw [row5_bis (μ := μ) (m := m) (k := 0) (n := 0) (Nat.zero_le _) (by omega) (fun j _ _ => G_pos j)]; rfl
        rw [zeck_zero, List.append_nil] at hz
        refine WS.cons (W1.if (WT.of (b := true) (EvT.boolop ?_) ⟨fun _ => WS.cons (W1.ret (WE.of (Ev.local F rfl r3) ?_)), fun e => by simp at e⟩))
        · exact AllT.and_cons (b := true) (c := true) (EvT.icmp (Ev.local F rfl rfl) (Ev.neg Ev.int) rfl) fun _ => AllT.and_cons (b := true) (c := true) (EvT.icmp (Ev.local F rfl r4) Ev.int rfl) fun _ => AllT.and_nil
        · rw [← hz]; exact hQ D hD
      · obtain ⟨k, hk, h1, h2⟩ := find_top (by omega) hn'
        have hPk := P5_ge (μ := μ) hμ1 (k + 1)
        refine WS.seq (W1.asgLocal F rfl (WE.of (v := .int ((P5 μ (k + 1) - 1 : Nat) : Int)) (Ev.as (Ev.sub (a := (P5 μ (k + 1) : Int)) (b := 1) (WE.ev (WE.callB (fun _ => fn_in hK 23 rfl) (Ev.glob F rfl hbis) (WEs.of (.cons (Ev.local F rfl r1) (.cons (Ev.local F rfl r4) .nil)) (WKs.nil (bisect_spec hK hlen F.hh hdep' haD rfl ⟨?_, rfl⟩))))) Ev.int) (by congr 1; omega)) ⟨rfl, ?_⟩))
        · rw [row5_bis (μ := μ) (m := m) (k := k + 1) (n := n') hk (fun j hj => by have := G_mono (show j ≤ k by omega); omega) (fun j hj _ => by have := G_mono hj; omega)]
        generalize hpl' : P5 μ (k + 1) - 1 = pl
        have hidx := ends5_idx (μ := μ) hμ1 hk
        rw [hpl'] at hidx
        have hmem : ((pl : Nat) : Int) ∈ ends5 μ m := by
          unfold ends5; exact List.mem_map.mpr ⟨k, List.mem_range.mpr hk, by rw [hpl']⟩
        refine WS.seq (W1.if (WT.of (b := false) (EvT.boolop ?_) ⟨fun e => by simp at e, fun _ => WS.nil ⟨rfl, ?_⟩⟩))
        · refine AllT.and_cons (b := false) (c := false) (EvT.icmp (Ev.local F rfl rfl) (Ev.neg Ev.int) ?_) fun e => by cases e
          simp [icmp]
        refine WS.seq (W1.if (WT.of (b := !decide ((pl : Int) ∈ ends5 μ m)) (EvT.notInInts hu' (Ev.local F rfl rfl) (Ev.local F rfl r2) hbD rfl) ⟨fun e => by simp [hmem] at e, fun _ => WS.nil ⟨rfl, ?_⟩⟩))
        refine WS.seq (W1.expr F (WE.listMeth PySem.F.slot_list_append rfl (WE.of (Ev.local F rfl r3) ⟨D, _, rfl, hDD, WEs.cons (WE.listMeth PySem.F.slot_list_index rfl (WE.of (Ev.local F rfl r2) ⟨b, _, rfl, hbD, WEs.of (.cons (Ev.local F rfl rfl) .nil) (WCall.index hbD hidx (WEs.nil (WCall.append hDD ?_ ⟨(by intro a e; cases e), rfl, ?_⟩)))⟩))⟩)))
        · rw [ints_length, ofN, List.length_map]; exact Nat.lt_of_le_of_lt (Nat.le_trans hpl hm) (by decide)
        have haD' : ((H.set D (.list (vints (ofN pre)))).set D (.list (vints (ofN pre) ++ [.int k]))) = H.set D (.list (vints (ofN (pre ++ [k])))) := by
          funext x
          by_cases q : x = D
          · subst q; rw [AH.set_same, AH.set_same]; simp [vints, ofN]
          · rw [AH.set_ne _ _ q, AH.set_ne _ _ q, AH.set_ne _ _ q]
        rw [haD']
        have haD2 := AH.get_of_set (o := .list (vints (ofN (pre ++ [k])))) ha hD
        have hget : (vints (row5 μ m))[((pl : Nat) : Int).toNat]? = some (.int (G k)) := by
          refine ints_get ?_
          rw [Int.toNat_natCast]
          have hlt : pl < P5 μ m := by have := P5_mono (μ := μ) (show k + 1 ≤ m from hk); omega
          obtain ⟨j, q1, q2, q3, q4⟩ := row5_get (μ := μ) hlt
          have hjk : j = k := by
            rcases Nat.lt_trichotomy j k with q | q | q
            · have := P5_mono (μ := μ) (show j + 1 ≤ k from q); have := P5_lt (μ := μ) hμ1 (show k < k + 1 by omega); omega
            · exact q
            · have := P5_mono (μ := μ) (show k + 1 ≤ j from q); omega
          subst hjk
          rw [List.getD_eq_getElem?_getD] at q4
          have hl : pl < (row5 μ m).length := by rw [hrl]; exact hlt
          rw [List.getElem?_eq_getElem hl] at q4 ⊢
          simpa using q4
        refine WS.cons (W1.augSub F rfl r4 (Ev.item (Ev.local F rfl r1) (Ev.local F rfl rfl) haD2 rfl (by omega) hget) (WS.nil ⟨pre ++ [k], n' - G k, ?_, by simp [hp], by omega, r1, r2, r3, ?_, rfl⟩))
        · rw [hz, zeck_step hk h1 h2]; simp
        · rw [Lo.set_same]
          have : ((n' : Int) - (G k : Int)) = ((n' - G k : Nat) : Int) := by omega
          rw [this]
    · rintro ρ1 H1 ⟨pre, n', hz, hp, _⟩
      have := zeck_len m n
      rw [hz, List.length_append] at this
      omega
end Mine

set_option maxHeartbeats 4000000
namespace Mine
open PySem PySem.W PyProof.Rows

theorem gaps_snoc : ∀ {c : List Nat} {a : Nat}, Gaps c → (∀ b r, c = b :: r → b + 2 ≤ a) → Gaps (a :: c)
  | [], _, _, _ => trivial
  | b :: r, a, h, k => ⟨k b r rfl, h⟩

theorem gaps_lt : ∀ {r : List Nat} {a : Nat}, Gaps (a :: r) → ∀ x ∈ r, x < a
  | [], _, _, _, h => by cases h
  | b :: r, a, h, x, hx => by
    have h1 := h.1
    rcases List.mem_cons.mp hx with rfl | hx
    · omega
    · have := gaps_lt h.2 x hx; omega
theorem ofN_sum : ∀ (l : List Nat), (ofN l).sum = ((l.sum : Nat) : Int)
  | [] => rfl
  | a :: l => by
    have := ofN_sum l
    show (a : Int) + (ofN l).sum = _
    rw [this]; simp

theorem law_body {C : Cx} {A' : Around} {H : AH} {P : Params} (hK : (hd.heap_39 P).In C.base) (hsum : C.gl "sum" = some (.builtin "sum")) (hmax : C.gl "max" = some (.builtin "max")) (hlen : C.gl "len" = some (.builtin "len")) (habs : C.gl "abs" = some (.builtin "abs")) (hrange : C.gl "range" = some (.type "range")) (hbis : C.gl "bisect_right" = some (.ref 23))
    (hfound : C.gl "_law_found" = some (.ref 30)) {L : Addr} (F : Fx C A' (callEnvC (fdOf (hd.heap_39 P) 35) L 35)) (hdep : A'.depth + 1 < recursionLimit) (hu : A'.units + 200 < cLine)
    {sc : Addr} {ns : List Int} {ρ : Lo} (rs : ρ "script" = some (.ref sc)) (hsc : H sc = some (.scr (vints ns))) (hns : ns.length ≤ 63)
    (c1 : H (L + 1) = some (.cell none)) (c2 : H (L + 2) = some (.cell none)) :
    WS C A' (callEnvC (fdOf (hd.heap_39 P) 35) L 35) (bodyOf (fdOf (hd.heap_39 P) 35)) ρ H (fun f _ _ => retv f = .bool true) := by
  have hsl : (100000 : Nat) < sizeLine := by decide
  refine WS.seq (W1.asgLocal F rfl (WE.list rfl (by decide) (WEs.nil fun D hD => ⟨rfl, ?_⟩)))
  have s1 := AH.get_of_set (o := .list []) hsc hD
  have s2 := AH.get_of_set (o := .list []) c1 hD
  have s3 := AH.get_of_set (o := .list []) c2 hD
  have s4 : (H.set D (.list [])) D = some (.list []) := AH.set_same ..
  generalize H.set D (.list []) = H1 at *
  -- choice
  refine WS.seq (W1.for (WIt.list F (WE.addList (WE.of (Ev.local F rfl rs) (WE.list rfl (by decide) (WEs.of (.cons Ev.int .nil) fun l0 hl0 => ⟨sc, l0, _, _, _, _, rfl, rfl, AH.get_of_set s1 hl0, AH.set_same .., rfl, rfl, ?_, fun l1 hl1 => ⟨l1, _, _, rfl, AH.set_same .., rfl, ?_⟩⟩))))))
  · rw [ints_length]; simp; omega
  have hxs : vints ns ++ [V.int 0] = vints (ns ++ [0]) := by simp [vints]
  have t1 := AH.get_of_set (o := .list (vints ns ++ [V.int 0])) (AH.get_of_set (o := .list [.int 0]) s1 hl0) hl1
  have t2 := AH.get_of_set (o := .list (vints ns ++ [V.int 0])) (AH.get_of_set (o := .list [.int 0]) s2 hl0) hl1
  have t3 := AH.get_of_set (o := .list (vints ns ++ [V.int 0])) (AH.get_of_set (o := .list [.int 0]) s3 hl0) hl1
  have t4 := AH.get_of_set (o := .list (vints ns ++ [V.int 0])) (AH.get_of_set (o := .list [.int 0]) s4 hl0) hl1
  have t5 : ((H1.set l0 (.list [.int 0])).set l1 (.list (vints ns ++ [V.int 0]))) l1 = some (.list (vints ns ++ [V.int 0])) := AH.set_same ..
  have hDl : D ≠ l1 := fun q => by rw [← q, AH.get_of_set s4 hl0] at hl1; cases hl1
  generalize (H1.set l0 (.list [.int 0])).set l1 (.list (vints ns ++ [V.int 0])) = H2 at *
  rw [hxs] at t5 ⊢
  generalize hxx : ns ++ [0] = xs at *
  have hxl : xs.length = ns.length + 1 := by rw [← hxx]; simp
  refine ⟨fun i ρ1 H1 => ∃ c : List Nat, c.length = i ∧ Gaps c.reverse ∧ (∀ b r, c.reverse = b :: r → b ≤ 10 * i) ∧ ρ1 "script" = some (.ref sc) ∧ ρ1 "choice" = some (.ref D) ∧ H1 sc = some (.scr (vints ns)) ∧ H1 (L + 1) = some (.cell none) ∧ H1 (L + 2) = some (.cell none) ∧ H1 l1 = some (.list (vints xs)) ∧ H1 D = some (.list (vints (ofN c))), ⟨[], rfl, trivial, by simp, rs, rfl, t1, t2, t3, t5, t4⟩, ?_, ?_⟩
  · rintro i ρ1 H5 hi ⟨c, hc, hg, hb, r1, r2, g1, g2, g3, g4, g5⟩
    rw [ints_length] at hi
    refine ⟨g4, ?_⟩
    rintro d ⟨v, hv, rfl⟩
    obtain ⟨rfl, _⟩ := vints_at hv
    refine Asg.local F rfl ?_
    generalize xs.getD i 0 = x
    have hx := (div_as x 9 (by decide)).2
    obtain ⟨e, he⟩ : ∃ e : Nat, x.fmod 9 = (e : Int) := ⟨(x.fmod 9).toNat, by omega⟩
    obtain ⟨y, hy, hy1, hy2⟩ : ∃ y : Nat, (y = match c.reverse with | [] => 0 | b :: _ => b + 2) ∧ y ≤ 10 * i + 2 ∧ (∀ b r, c.reverse = b :: r → b + 2 ≤ y) := by
      cases hcr : c.reverse with
      | nil => exact ⟨0, rfl, by omega, fun b r e => by cases e⟩
      | cons b r => exact ⟨b + 2, rfl, by have := hb b r hcr; omega, fun b' r' e => by cases e; omega⟩
    refine WS.cons (W1.expr F (WE.listMeth PySem.F.slot_list_append rfl (WE.of (Ev.local F rfl r2) ⟨D, _, rfl, g5, WEs.of (.cons (Ev.as (Ev.add (a := x.fmod 9) (b := (y : Int)) (Ev.mod (Ev.local F rfl rfl) Ev.int (by decide)) ?_) rfl) .nil) (WCall.append g5 ?_ ⟨(by intro a e; cases e), WS.nil ⟨c ++ [e + y], by simp [hc], ?_, ?_, r1, r2, ?_, ?_, ?_, ?_, ?_⟩⟩)⟩)))
    · refine Ev.ifexp (c := !decide (ofN c = [])) (EvT.neNilInts (by omega) (Ev.local F rfl r2) g5 rfl) (fun q => ?_) (fun q => ?_)
      · have hne : c ≠ [] := by intro z; subst z; simp [ofN] at q
        obtain ⟨b, r, hbr⟩ : ∃ b r, c.reverse = b :: r := by
          cases hcr : c.reverse with
          | nil => exact absurd (by simpa using hcr) hne
          | cons b r => exact ⟨b, r, rfl⟩
        have hcc : c = r.reverse ++ [b] := by rw [← List.reverse_reverse c, hbr]; simp
        rw [hbr] at hy
        refine Ev.as (Ev.add (a := (b : Int)) (b := 2) (Ev.itemNeg (k := -1) (v := .int b) (Ev.local F rfl r2) (Ev.neg Ev.int) g5 rfl (by omega) ?_ ?_) Ev.int) (by rw [hy]; rfl)
        · rw [hcc]; simp [vints, ofN]; omega
        · rw [hcc]; simp [vints, ofN]
          rw [show (-1 + ((r.length : Int) + 1)).toNat = r.length by omega]
          simp
      · have hne : c = [] := by simpa [ofN] using q
        subst hne
        exact Ev.as Ev.int (by rw [hy]; rfl)
    · rw [ints_length, ofN, List.length_map]; omega
    · rw [List.reverse_append]; exact gaps_snoc hg (fun b r e => by have := hy2 b r e; omega)
    · intro b r e'
      rw [List.reverse_append] at e'
      cases e'; omega
    · rw [AH.set_ne _ _ (fun q => by rw [q, g5] at g1; cases g1)]; exact g1
    · rw [AH.set_ne _ _ (fun q => by rw [q, g5] at g2; cases g2)]; exact g2
    · rw [AH.set_ne _ _ (fun q => by rw [q, g5] at g3; cases g3)]; exact g3
    · rw [AH.set_ne _ _ (Ne.symm hDl)]; exact g4
    · rw [AH.set_same, he]; simp [vints, ofN]
  clear s1 s2 s3 s4 t1 t2 t3 t4 t5 hD hl0 hl1 c1 c2 hsc rs
  rintro ρ1 H5 ⟨c, hc, hg, hb, r1, r2, g1, g2, g3, g4, g5⟩
  refine ⟨g4, rfl, ?_⟩
  rw [ints_length] at hc
  clear g4
  -- numbers
  refine WS.seq (W1.asgComp F rfl (cl := []) rfl ?_ rfl)
  refine WIt.list F (WE.addList (WE.of (Ev.local F rfl r1) (WE.list rfl (by decide) (WEs.of (.cons Ev.int .nil) fun m0 hm0 => ⟨sc, m0, _, _, _, _, rfl, rfl, AH.get_of_set g1 hm0, AH.set_same .., rfl, rfl, ?_, fun m1 hm1 => ⟨m1, _, _, rfl, AH.set_same .., rfl, fun Cn hCn => ?_⟩⟩))))
  · rw [ints_length]; simp; omega
  have le1 : H5.le ((H5.set m0 (.list [.int 0])).set m1 (.list (vints ns ++ [V.int 0]))) := AH.le_trans (AH.le_set (AH.le_refl _) hm0) (AH.le_set (AH.le_refl _) hm1)
  have t5 : ((H5.set m0 (.list [.int 0])).set m1 (.list (vints ns ++ [V.int 0]))) m1 = some (.list (vints ns ++ [V.int 0])) := AH.set_same ..
  generalize (H5.set m0 (.list [.int 0])).set m1 (.list (vints ns ++ [V.int 0])) = H6 at *
  rw [hxs] at t5 ⊢
  have hten : ((10 : Int) ^ (100 : Int).toNat) = ((10 ^ 100 : Nat) : Int) := by decide +kernel
  have hten0 : (0 : Int) < ((10 ^ 100 : Nat) : Int) := by decide +kernel
  obtain ⟨gf, hgf⟩ : ∃ gf : Int → Int, gf = fun y : Int => (if y < 0 then -y else y).fmod ((10 ^ 100 : Nat) : Int) := ⟨_, rfl⟩
  refine comp_list (f := fun i => .int (gf (xs.getD i 0))) (F.comp rfl) rfl (by rw [ints_length]; omega) (fun _ => t5) ?_ ?_
  · intro i v ρ2 hv hk
    obtain ⟨rfl, _⟩ := vints_at hv
    rw [hgf]
    exact Ev.mod (Ev.abs (Ev.glob (F.comp rfl) rfl habs) (Ev.local (F.comp rfl) rfl hk)) (Ev.as (Ev.pow Ev.int Ev.int (by decide) (by decide)) (by rw [hten])) (by omega)
  rw [map_range_vints gf]
  obtain ⟨us, hus, hus1⟩ : ∃ us : List Nat, xs.map gf = ofN us ∧ (∀ u ∈ us, u < 10 ^ 100) ∧ us.length = xs.length := by
    subst hgf
    refine ⟨xs.map fun y => ((if y < 0 then -y else y).fmod ((10 ^ 100 : Nat) : Int)).toNat, ?_, ?_, by simp⟩
    · unfold ofN; rw [List.map_map]
      refine List.map_congr_left fun y _ => ?_
      have := (div_as (if y < 0 then -y else y) _ hten0).2.1
      show _ = ((((if y < 0 then -y else y).fmod ((10 ^ 100 : Nat) : Int)).toNat : Nat) : Int)
      exact (Int.toNat_of_nonneg this).symm
    · intro u hu'
      obtain ⟨y, _, rfl⟩ := List.mem_map.mp hu'
      have := (div_as (if y < 0 then -y else y) _ hten0).2
      exact (Int.toNat_lt this.1).mpr this.2
  rw [hus]
  intro N hN
  refine ⟨rfl, ?_⟩
  have f1 := AH.get_of_set (o := .list (vints (ofN us))) (le1 _ _ g1) hN
  have f2 := AH.get_of_set (o := .list (vints (ofN us))) (le1 _ _ g2) hN
  have f3 := AH.get_of_set (o := .list (vints (ofN us))) (le1 _ _ g3) hN
  have f4 := AH.get_of_set (o := .list (vints (ofN us))) (le1 _ _ g5) hN
  have f5 : (H6.set N (.list (vints (ofN us)))) N = some (.list (vints (ofN us))) := AH.set_same ..
  have rN : (ρ1.set "numbers" (.ref N)) "numbers" = some (.ref N) := rfl
  have r1' : (ρ1.set "numbers" (.ref N)) "script" = some (.ref sc) := r1
  have r2' : (ρ1.set "numbers" (.ref N)) "choice" = some (.ref D) := r2
  generalize ρ1.set "numbers" (.ref N) = ρ2 at *
  generalize H6.set N (.list (vints (ofN us))) = H7 at *
  clear g1 g2 g3 g5 t5 le1 hm0 hm1 hCn hN r1 r2
  -- steps
  refine WS.seq (W1.asg (WE.list rfl (by decide) (WEs.of (.cons Ev.int (.cons Ev.int .nil)) fun S hS => Asg.cell F rfl rfl (AH.get_of_set f2 hS) ⟨rfl, ?_⟩)))
  have hSL : S ≠ L + 1 := fun q => by rw [q, f2] at hS; cases hS
  have k1 : ((H7.set S (.list [.int 1, .int 2])).set (L + 1) (.cell (some (.ref S)))) sc = some (.scr (vints ns)) := by
    rw [AH.set_ne _ _ (fun q => by rw [q, f2] at f1; cases f1)]; exact AH.get_of_set f1 hS
  have k2 : ((H7.set S (.list [.int 1, .int 2])).set (L + 1) (.cell (some (.ref S)))) (L + 1) = some (.cell (some (.ref S))) := AH.set_same ..
  have k3 : ((H7.set S (.list [.int 1, .int 2])).set (L + 1) (.cell (some (.ref S)))) (L + 2) = some (.cell none) := by
    rw [AH.set_ne _ _ (addr_ne L 2 1 rfl)]; exact AH.get_of_set f3 hS
  have k4 : ((H7.set S (.list [.int 1, .int 2])).set (L + 1) (.cell (some (.ref S)))) D = some (.list (vints (ofN c))) := by
    rw [AH.set_ne _ _ (fun q => by rw [q, f2] at f4; cases f4)]; exact AH.get_of_set f4 hS
  have k5 : ((H7.set S (.list [.int 1, .int 2])).set (L + 1) (.cell (some (.ref S)))) N = some (.list (vints (ofN us))) := by
    rw [AH.set_ne _ _ (fun q => by rw [q, f2] at f5; cases f5)]; exact AH.get_of_set f5 hS
  have k6 : ((H7.set S (.list [.int 1, .int 2])).set (L + 1) (.cell (some (.ref S)))) S = some (.list (vints (ofN ((List.range 2).map G)))) := by
    rw [AH.set_ne _ _ hSL, AH.set_same]; rfl
  have hDS : D ≠ S := fun q => by rw [← q, f4] at hS; cases hS
  have hNS : N ≠ S := fun q => by rw [← q, f5] at hS; cases hS
  have hscS : sc ≠ S := fun q => by rw [← q, f1] at hS; cases hS
  have hL2S : L + 2 ≠ S := fun q => by rw [← q, f3] at hS; cases hS
  generalize (H7.set S (.list [.int 1, .int 2])).set (L + 1) (.cell (some (.ref S))) = H8 at *
  clear f1 f2 f3 f4 f5 hS
  -- the greatest number, the last of the choice
  obtain ⟨M, hM, hM'⟩ : ∃ M : Nat, M ∈ us ∧ ∀ u ∈ us, u ≤ M := by
    have : ∀ (l : List Nat), l ≠ [] → ∃ M : Nat, M ∈ l ∧ ∀ u ∈ l, u ≤ M := by
      intro l
      induction l with
      | nil => intro h; exact absurd rfl h
      | cons a l ih =>
        intro _
        by_cases q : l = []
        · subst q; exact ⟨a, by simp, by simp⟩
        · obtain ⟨M, h1, h2⟩ := ih q
          by_cases z : M ≤ a
          · exact ⟨a, by simp, fun u hu => by rcases List.mem_cons.mp hu with rfl | hu; exact Nat.le_refl _; exact Nat.le_trans (h2 u hu) z⟩
          · exact ⟨M, by simp [h1], fun u hu => by rcases List.mem_cons.mp hu with rfl | hu; omega; exact h2 u hu⟩
    exact this us (by intro q; have := hus1.2; rw [q] at this; simp at this; omega)
  obtain ⟨l, r0, hl⟩ : ∃ b r, c.reverse = b :: r := by
    cases hcr : c.reverse with
    | nil => have : c = [] := by simpa using hcr
             subst this; simp at hc; omega
    | cons b r => exact ⟨b, r, rfl⟩
  have hl10 := hb l r0 hl
  rw [ints_length] at hl10
  have hcc : c = r0.reverse ++ [l] := by rw [← List.reverse_reverse c, hl]; simp
  have hMten : M < 10 ^ 100 := hus1.1 M hM
  have hMbig : ∀ m, G m ≤ M → m < 700 := by
    intro m hm
    rcases Nat.lt_or_ge m 700 with q | q
    · exact q
    · have h1 := G_mono q
      have h2 := G_big
      exact absurd (Nat.lt_of_lt_of_le h2 h1) (Nat.not_lt.mpr (Nat.le_trans hm (Nat.le_of_lt hMten)))
  refine WS.seq (W1.while F (fun k ρ3 H3 => ∃ m, 2 ≤ m ∧ m ≤ 700 ∧ k = (M + 1 - G m) + (l + 1 - m) ∧ ρ3 "script" = some (.ref sc) ∧ ρ3 "choice" = some (.ref D) ∧ ρ3 "numbers" = some (.ref N) ∧ H3 sc = some (.scr (vints ns)) ∧ H3 (L + 1) = some (.cell (some (.ref S))) ∧ H3 (L + 2) = some (.cell none) ∧ H3 D = some (.list (vints (ofN c))) ∧ H3 N = some (.list (vints (ofN us))) ∧ H3 S = some (.list (vints (ofN ((List.range m).map G))))) _ ⟨2, by omega, by omega, rfl, r1', r2', rN, k1, k2, k3, k4, k5, k6⟩ ?_)
  clear k1 k2 k3 k4 k5 k6 r1' r2' rN
  rintro k ρ3 H9 ⟨m, hm2, hm7, rfl, r1, r2, r3, k1, k2, k3, k4, k5, k6⟩
  have hgl : ((List.range m).map G).length = m := by simp
  have hge : ∀ i, i < m → (vints (ofN ((List.range m).map G)))[i]? = some (.int (G i)) := by
    intro i hi; simp [vints, ofN, hi]
  have ev1 : ∀ {p1 p2 p3 p4 p5 p6 p7 p8 p9 : Pos} {q1 q2 : Nat}, Ev C A' (callEnvC (fdOf (hd.heap_39 P) 35) L 35) ρ3 H9 (.BinOp (.Subscript (.Name "steps" p1) (.UnaryOp .USub (.Constant (.int 1) q1 p2) p3) p4) .Add (.Subscript (.Name "steps" p5) (.UnaryOp .USub (.Constant (.int 2) q2 p6) p7) p8) p9) (.int (G m)) := by
    intros
    refine Ev.as (Ev.add (a := (G (m - 1) : Int)) (b := (G (m - 2) : Int)) (Ev.itemNeg (k := -1) (Ev.cell F rfl rfl k2) (Ev.neg Ev.int) k6 rfl (by omega) (by rw [ints_length, ofN, List.length_map, hgl]; omega) ?_) (Ev.itemNeg (k := -2) (Ev.cell F rfl rfl k2) (Ev.neg Ev.int) k6 rfl (by omega) (by rw [ints_length, ofN, List.length_map, hgl]; omega) ?_)) ?_
    · rw [ints_length, ofN, List.length_map, hgl, show (-1 + (m : Int)).toNat = m - 1 by omega]; exact hge _ (by omega)
    · rw [ints_length, ofN, List.length_map, hgl, show (-2 + (m : Int)).toNat = m - 2 by omega]; exact hge _ (by omega)
    · obtain ⟨q, rfl⟩ : ∃ q, m = q + 2 := ⟨m - 2, by omega⟩
      rw [G_add, show q + 2 - 1 = q + 1 by omega, show q + 2 - 2 = q by omega]; congr 1
  have ev2 : ∀ {p1 p2 p3 p4 : Pos} {q1 : Nat}, Ev C A' (callEnvC (fdOf (hd.heap_39 P) 35) L 35) ρ3 H9 (.Subscript (.Name "choice" p1) (.UnaryOp .USub (.Constant (.int 1) q1 p2) p3) p4) (.int l) := by
    intros
    refine Ev.itemNeg (k := -1) (Ev.local F rfl r2) (Ev.neg Ev.int) k4 rfl (by omega) ?_ ?_
    · rw [hcc]; simp [vints, ofN]; omega
    · rw [hcc]; simp [vints, ofN]
      rw [show (-1 + ((r0.length : Int) + 1)).toNat = r0.length by omega]
      simp
  refine WT.of (b := decide ((G m : Int) ≤ (M : Int)) || (decide ((m : Int) ≤ (l : Int)) || false)) (EvT.boolop (AllT.or_cons (EvT.icmp ev1 (Ev.max (M := (M : Int)) F (Ev.glob F rfl hmax) (Ev.local F rfl r3) k5 rfl (List.mem_map.mpr ⟨M, hM, rfl⟩) (fun n hn => ?_)) rfl) (fun _ => AllT.or_cons (EvT.icmp (Ev.as (Ev.len (Ev.glob F rfl hlen) (Ev.cell F rfl rfl k2) k6 rfl) (by rw [ints_length, ofN, List.length_map, hgl])) ev2 rfl) fun _ => AllT.or_nil))) ⟨fun e => ?_, fun e => ?_⟩
  · obtain ⟨u, hu', rfl⟩ := List.mem_map.mp hn
    have := hM' u hu'; omega
  · have hcond : G m ≤ M ∨ m ≤ l := by simpa using e
    have hm700 : m < 700 := by
      rcases hcond with q | q
      · exact hMbig m q
      · omega
    refine WS.cons (W1.expr F (WE.listMeth PySem.F.slot_list_append rfl (WE.of (Ev.cell F rfl rfl k2) ⟨S, _, rfl, k6, WEs.of (.cons ev1 .nil) (WCall.append k6 ?_ ⟨(by intro a e; cases e), WS.nil ⟨(M + 1 - G (m + 1)) + (l + 1 - (m + 1)), ?_, m + 1, by omega, by omega, rfl, r1, r2, r3, ?_, ?_, ?_, ?_, ?_, ?_⟩⟩)⟩)))
    · rw [ints_length, ofN, List.length_map, hgl]; omega
    · have := G_lt m; omega
    · rw [AH.set_ne _ _ hscS]; exact k1
    · rw [AH.set_ne _ _ (Ne.symm hSL)]; exact k2
    · rw [AH.set_ne _ _ hL2S]; exact k3
    · rw [AH.set_ne _ _ hDS]; exact k4
    · rw [AH.set_ne _ _ hNS]; exact k5
    · rw [AH.set_same, List.range_succ]; simp [vints, ofN]
  have hcond : M < G m ∧ l < m := by simpa using e
  refine ⟨rfl, ?_⟩
  clear e ev1 ev2 hMbig
  -- row, ends
  refine WS.seq (W1.asgSwap (names := ["row", "ends"]) F (WEs.cons (WE.list rfl (by decide) (WEs.nil fun R hR => WEs.cons (WE.list rfl (by decide) (WEs.nil fun E hE => WEs.nil ⟨rfl, ?_⟩))))) rfl (by intro n hn; rcases List.mem_cons.mp hn with rfl | hn; rfl; rw [List.mem_singleton.mp hn]; rfl))
  show WS C A' _ _ ((ρ3.set "ends" (.ref E)).set "row" (.ref R)) _ _
  have a1 := AH.get_of_set (o := .list []) (AH.get_of_set (o := .list []) k1 hR) hE
  have a2 := AH.get_of_set (o := .list []) (AH.get_of_set (o := .list []) k2 hR) hE
  have a3 := AH.get_of_set (o := .list []) (AH.get_of_set (o := .list []) k3 hR) hE
  have a4 := AH.get_of_set (o := .list []) (AH.get_of_set (o := .list []) k4 hR) hE
  have a5 := AH.get_of_set (o := .list []) (AH.get_of_set (o := .list []) k5 hR) hE
  have a6 := AH.get_of_set (o := .list []) (AH.get_of_set (o := .list []) k6 hR) hE
  have a7 : ((H9.set R (.list [])).set E (.list [])) R = some (.list []) := AH.get_of_set (AH.set_same ..) hE
  have a8 : ((H9.set R (.list [])).set E (.list [])) E = some (.list []) := AH.set_same ..
  have hRE : R ≠ E := (AH.none_of_set hE).2.symm
  have hE0 := (AH.none_of_set hE).1
  have ne : ∀ {x : Addr} {o : O}, H9 x = some o → x ≠ R ∧ x ≠ E := fun h => ⟨fun q => (by rw [q, hR] at h; cases h), fun q => (by rw [q, hE0] at h; cases h)⟩
  have n1 := ne k1
  have n2 := ne k2
  have n3 := ne k3
  have n4 := ne k4
  have n5 := ne k5
  have n6 := ne k6
  clear ne
  have rR : ((ρ3.set "ends" (.ref E)).set "row" (.ref R)) "row" = some (.ref R) := rfl
  have rE : ((ρ3.set "ends" (.ref E)).set "row" (.ref R)) "ends" = some (.ref E) := rfl
  have r1' : ((ρ3.set "ends" (.ref E)).set "row" (.ref R)) "script" = some (.ref sc) := r1
  have r2' : ((ρ3.set "ends" (.ref E)).set "row" (.ref R)) "choice" = some (.ref D) := r2
  have r3' : ((ρ3.set "ends" (.ref E)).set "row" (.ref R)) "numbers" = some (.ref N) := r3
  generalize (ρ3.set "ends" (.ref E)).set "row" (.ref R) = ρ4 at *
  generalize (H9.set R (.list [])).set E (.list []) = H10 at *
  clear k1 k2 k3 k4 k5 k6 hR hE hE0 r1 r2 r3
  obtain ⟨μ, hμ⟩ : ∃ μ : Nat → Nat, μ = fun k => 1 + ((xs.getD (k % (ns.length + 1)) 0).fmod 3).toNat := ⟨_, rfl⟩
  have hμ1 : ∀ k, 1 ≤ μ k := by intro k; rw [hμ]; show 1 ≤ 1 + _; omega
  have hμ3 : ∀ k, μ k ≤ 3 := by
    intro k; rw [hμ]
    have := (div_as (xs.getD (k % (ns.length + 1)) 0) 3 (by decide)).2
    show 1 + ((xs.getD (k % (ns.length + 1)) 0).fmod 3).toNat ≤ 3
    omega
  have hgl2 : (vints (ofN ((List.range m).map G))).length = m := by simp [vints, ofN]
  refine WS.seq (W1.for (WIt.range1 F (Ev.glob F rfl hrange) (Ev.as (Ev.len (Ev.glob F rfl hlen) (Ev.cell F rfl rfl a2) a6 rfl) (by rw [hgl2])) (by omega) (by omega) ?_))
  refine ⟨fun i ρ5 H3 => ρ5 "script" = some (.ref sc) ∧ ρ5 "choice" = some (.ref D) ∧ ρ5 "numbers" = some (.ref N) ∧ ρ5 "row" = some (.ref R) ∧ ρ5 "ends" = some (.ref E) ∧ H3 sc = some (.scr (vints ns)) ∧ H3 (L + 1) = some (.cell (some (.ref S))) ∧ H3 (L + 2) = some (.cell none) ∧ H3 D = some (.list (vints (ofN c))) ∧ H3 N = some (.list (vints (ofN us))) ∧ H3 S = some (.list (vints (ofN ((List.range m).map G)))) ∧ H3 R = some (.list (vints (row5 μ i))) ∧ H3 E = some (.list (vints (ends5 μ i))), ⟨r1', r2', r3', rR, rE, a1, a2, a3, a4, a5, a6, a7, a8⟩, ?_, ?_⟩
  · clear r1' r2' r3' rR rE a1 a2 a3 a4 a5 a6 a7 a8
    rintro k ρ5 H3 hk ⟨r1, r2, r3, r4, r5, b1, b2, b3, b4, b5, b6, b7, b8⟩
    refine ⟨trivial, ?_⟩
    rintro d rfl
    refine Asg.local F rfl ?_
    rw [Int.toNat_natCast] at hk
    have hPk := P5_le (μ := μ) hμ3 k
    have hrl := row5_len μ k
    have hmod : ((k : Int).fmod ((ns.length : Int) + 1)) = ((k % (ns.length + 1) : Nat) : Int) := by
      rw [Int.fmod_eq_emod_of_nonneg _ (by omega)]; rfl
    have hkm : k % (ns.length + 1) < xs.length := by rw [hxl]; exact Nat.mod_lt _ (by omega)
    have hx3 := (div_as (xs.getD (k % (ns.length + 1)) 0) 3 (by decide)).2
    have hμk : (1 : Int) + (xs.getD (k % (ns.length + 1)) 0).fmod 3 = ((μ k : Nat) : Int) := by rw [hμ]; show _ = ((1 + ((xs.getD (k % (ns.length + 1)) 0).fmod 3).toNat : Nat) : Int); omega
    have hμk1 := hμ1 k
    have hμk3 := hμ3 k
    refine WS.seq (W1.expr F (WE.listMeth PySem.F.slot_list_extend rfl (WE.of (Ev.local F rfl r4) ⟨R, _, rfl, b7, ?_⟩)))
    refine WEs.cons (WE.mulList (WE.list rfl (by decide) (WEs.of (.cons (Ev.item (v := .int (G k)) (Ev.cell F rfl rfl b2) (Ev.local F rfl rfl) b6 rfl (by omega) (by rw [Int.toNat_natCast]; simp [vints, ofN, hk])) .nil) fun q hq => ?_)))
    refine WE.of (v := .int (μ k : Nat)) (Ev.as (Ev.add (a := 1) (b := (xs.getD (k % (ns.length + 1)) 0).fmod 3) Ev.int (Ev.mod ?_ Ev.int (by decide))) (by rw [hμk])) ⟨q, _, .int (G k), rfl, rfl, AH.set_same .., by omega, by omega, fun q2 hq2 => WEs.nil (WCall.extend (AH.get_of_set (AH.get_of_set b7 hq) hq2) (AH.set_same ..) ?_ ?_ ⟨(by intro a e; cases e), rfl, ?_⟩)⟩
    · refine WE.ev (WE.drop (WE.item (WE.addList (WE.of (Ev.local F rfl r1) (WE.list rfl (by decide) (WEs.of (.cons Ev.int .nil) fun l2 hl2 => ?_))))))
      refine ⟨sc, l2, _, _, _, _, rfl, rfl, AH.get_of_set (AH.get_of_set b1 hq) hl2, AH.set_same .., rfl, rfl, ?_, fun l3 hl3 => ?_⟩
      · rw [ints_length]; simp; omega
      refine ⟨l3, _, vints xs, (k % (ns.length + 1) : Nat), .int (xs.getD (k % (ns.length + 1)) 0), rfl, AH.set_same .., ?_, ?_, by omega, ?_, H3.set q (.list [.int (G k)]), ?_, rfl, rfl⟩
      · rw [hxs]; rfl
      · refine Ev.as (Ev.mod (a := (k : Int)) (b := (ns.length : Int) + 1) (Ev.local F rfl rfl) (Ev.add (Ev.as (Ev.len (Ev.glob F rfl hlen) (Ev.local F rfl r1) (AH.get_of_set (AH.get_of_set (AH.get_of_set b1 hq) hl2) hl3) rfl) (by rw [ints_length])) Ev.int) (by omega)) (by rw [hmod])
      · rw [Int.toNat_natCast]; refine ints_get ?_; rw [List.getD_eq_getElem?_getD, List.getElem?_eq_getElem hkm]; rfl
      · exact AH.le_trans (AH.le_set (AH.le_refl _) hl2) (AH.le_set (AH.le_refl _) hl3)
    · rw [Int.toNat_natCast]; intro z; have := congrArg List.length z; simp at this; omega
    · rw [ints_length, hrl, Int.toNat_natCast, List.length_replicate]; omega
    rw [Int.toNat_natCast]
    have le : H3.le ((H3.set q (.list [.int (G k)])).set q2 (.list (List.replicate (μ k) (.int (G k))))) := AH.le_trans (AH.le_set (AH.le_refl _) hq) (AH.le_set (AH.le_refl _) hq2)
    generalize (H3.set q (.list [.int (G k)])).set q2 (.list (List.replicate (μ k) (.int (G k)))) = H4 at *
    have hrow : vints (row5 μ k) ++ List.replicate (μ k) (V.int (G k)) = vints (row5 μ (k + 1)) := by rw [row5]; simp [vints]
    rw [hrow]
    have d1 : (H4.set R (.list (vints (row5 μ (k + 1))))) sc = some (.scr (vints ns)) := by rw [AH.set_ne _ _ n1.1]; exact le _ _ b1
    have d2 : (H4.set R (.list (vints (row5 μ (k + 1))))) (L + 1) = some (.cell (some (.ref S))) := by rw [AH.set_ne _ _ n2.1]; exact le _ _ b2
    have d3 : (H4.set R (.list (vints (row5 μ (k + 1))))) (L + 2) = some (.cell none) := by rw [AH.set_ne _ _ n3.1]; exact le _ _ b3
    have d4 : (H4.set R (.list (vints (row5 μ (k + 1))))) D = some (.list (vints (ofN c))) := by rw [AH.set_ne _ _ n4.1]; exact le _ _ b4
    have d5 : (H4.set R (.list (vints (row5 μ (k + 1))))) N = some (.list (vints (ofN us))) := by rw [AH.set_ne _ _ n5.1]; exact le _ _ b5
    have d6 : (H4.set R (.list (vints (row5 μ (k + 1))))) S = some (.list (vints (ofN ((List.range m).map G)))) := by rw [AH.set_ne _ _ n6.1]; exact le _ _ b6
    have d7 : (H4.set R (.list (vints (row5 μ (k + 1))))) R = some (.list (vints (row5 μ (k + 1)))) := AH.set_same ..
    have d8 : (H4.set R (.list (vints (row5 μ (k + 1))))) E = some (.list (vints (ends5 μ k))) := by rw [AH.set_ne _ _ hRE.symm]; exact le _ _ b8
    generalize H4.set R (.list (vints (row5 μ (k + 1)))) = H6' at *
    have hrl1 := row5_len μ (k + 1)
    have hPk1 := P5_ge (μ := μ) hμ1 (k + 1)
    refine WS.cons (W1.expr F (WE.listMeth PySem.F.slot_list_append rfl (WE.of (Ev.local F rfl r5) ⟨E, _, rfl, d8, WEs.of (.cons (Ev.as (Ev.sub (a := (P5 μ (k + 1) : Nat)) (b := 1) (Ev.as (Ev.len (Ev.glob F rfl hlen) (Ev.local F rfl r4) d7 rfl) (by rw [ints_length, hrl1])) Ev.int) rfl) .nil) (WCall.append d8 ?_ ⟨(by intro a e; cases e), WS.nil ⟨r1, r2, r3, r4, r5, ?_, ?_, ?_, ?_, ?_, ?_, ?_, ?_⟩⟩)⟩)))
    · rw [ints_length, ends5, List.length_map, List.length_range]; omega
    · rw [AH.set_ne _ _ n1.2]; exact d1
    · rw [AH.set_ne _ _ n2.2]; exact d2
    · rw [AH.set_ne _ _ n3.2]; exact d3
    · rw [AH.set_ne _ _ n4.2]; exact d4
    · rw [AH.set_ne _ _ n5.2]; exact d5
    · rw [AH.set_ne _ _ n6.2]; exact d6
    · rw [AH.set_ne _ _ hRE]; exact d7
    · rw [AH.set_same]
      have : (P5 μ (k + 1) : Int) - 1 = ((P5 μ (k + 1) - 1 : Nat) : Int) := by omega
      rw [this]; unfold ends5; rw [List.range_succ]; simp [vints]
  clear r1' r2' r3' rR rE a1 a2 a3 a4 a5 a6 a7 a8
  rintro ρ5 H3 ⟨r1, r2, r3, r4, r5, b1, b2, b3, b4, b5, b6, b7, b8⟩
  refine ⟨trivial, rfl, ?_⟩
  rw [Int.toNat_natCast] at b7 b8
  -- each number
  refine WS.seq (W1.for (WIt.list F (WE.of (Ev.local F rfl r3) ⟨N, _, _, rfl, b5, rfl, ?_⟩)))
  refine ⟨fun i ρ5 H3 => ρ5 "choice" = some (.ref D) ∧ ρ5 "row" = some (.ref R) ∧ ρ5 "ends" = some (.ref E) ∧ H3 (L + 1) = some (.cell (some (.ref S))) ∧ (∃ v, H3 (L + 2) = some (.cell v)) ∧ H3 D = some (.list (vints (ofN c))) ∧ H3 N = some (.list (vints (ofN us))) ∧ H3 S = some (.list (vints (ofN ((List.range m).map G)))) ∧ H3 R = some (.list (vints (row5 μ m))) ∧ H3 E = some (.list (vints (ends5 μ m))), ⟨r2, r4, r5, b2, ⟨_, b3⟩, b4, b5, b6, b7, b8⟩, ?_, ?_⟩
  · clear r1 r2 r3 r4 r5 b1 b2 b3 b4 b5 b6 b7 b8
    rintro k ρ5 H3 hk ⟨r2, r4, r5, b2, ⟨v0, b3⟩, b4, b5, b6, b7, b8⟩
    refine ⟨b5, ?_⟩
    rintro d ⟨v, hv, rfl⟩
    obtain ⟨rfl, hk'⟩ := vints_at hv
    have hku : k < us.length := by simpa [ofN] using hk'
    have hget : (ofN us).getD k 0 = ((us[k] : Nat) : Int) := by rw [List.getD_eq_getElem?_getD]; simp [ofN, hku]
    rw [hget]
    have hun : us[k] < G m := by have := hM' us[k] (List.getElem_mem hku); omega
    refine Asg.local F rfl ?_
    refine WS.seq (W1.asg (WE.callB (fun _ => fn_in hK 30 rfl) (Ev.glob F rfl hfound) (WEs.of (.cons (Ev.local F rfl r4) (.cons (Ev.local F rfl r5) (.cons (Ev.local F rfl rfl) .nil))) (WKs.nil (found_spec hK hlen hrange hbis F.hh hdep (by omega) hμ1 hμ3 (by omega) hun b7 b8 fun Z hZ => Asg.cell F rfl rfl (AH.get_of_set b3 hZ) ⟨rfl, ?_⟩)))))
    have hgaps := zeck_gaps hun
    generalize hz : zeck m us[k] = z at *
    have up : ∀ {x : Addr} {o : O}, H3 x = some o → x ≠ L + 2 → ((H3.set Z (.list (vints (ofN z)))).set (L + 2) (.cell (some (.ref Z)))) x = some o := fun h q => by rw [AH.set_ne _ _ q]; exact AH.get_of_set h hZ
    have e2 := up b2 (addr_ne L 1 2 rfl)
    have e3 : ((H3.set Z (.list (vints (ofN z)))).set (L + 2) (.cell (some (.ref Z)))) (L + 2) = some (.cell (some (.ref Z))) := AH.set_same ..
    have e4 := up b4 (fun q => by rw [q, b3] at b4; cases b4)
    have e5 := up b5 (fun q => by rw [q, b3] at b5; cases b5)
    have e6 := up b6 (fun q => by rw [q, b3] at b6; cases b6)
    have e7 := up b7 (fun q => by rw [q, b3] at b7; cases b7)
    have e8 := up b8 (fun q => by rw [q, b3] at b8; cases b8)
    have eZ : ((H3.set Z (.list (vints (ofN z)))).set (L + 2) (.cell (some (.ref Z)))) Z = some (.list (vints (ofN z))) := by rw [AH.set_ne _ _ (fun q => by rw [q, b3] at hZ; cases hZ)]; exact AH.set_same ..
    generalize (H3.set Z (.list (vints (ofN z)))).set (L + 2) (.cell (some (.ref Z))) = H4 at *
    have hzl : (vints (ofN z)).length = z.length := by simp [vints, ofN]
    have hzl2 : z.length ≤ m := by rw [← hz]; exact zeck_len m _
    refine WS.cons (W1.if (WT.of (b := false) (EvT.boolop ?_) ⟨fun e => by simp at e, fun _ => WS.nil (WS.nil ⟨r2, r4, r5, e2, ⟨_, e3⟩, e4, e5, e6, e7, e8⟩)⟩))
    refine AllT.or_cons (b := false) (c := false) (EvT.isNone (a := .ref Z) (Ev.cell F rfl rfl e3)) fun _ => AllT.or_cons (b := false) (c := false) ?_ fun _ => AllT.or_nil
    refine WT.ev (WT.drop (WT.neD (by omega) (WE.listComp (cl := [("found", L + 2)]) rfl ?_)))
    refine WIt.range2 F (Ev.glob F rfl hrange) Ev.int (Ev.as (Ev.len (Ev.glob F rfl hlen) (Ev.cell F rfl rfl e3) eZ rfl) (by rw [hzl])) (by omega) (by omega) (by omega) (by omega) fun Cn hCn => ?_
    refine comp_none (g := fun i => .int (1 + (i : Int))) (F.comp rfl) rfl (fun _ => trivial) (fun i d h => h) ?_ ?_
    · intro i ρ6 hi hk6
      have hi' : i + 1 < z.length := by omega
      have hg' := hgaps i hi'
      have g1 : (vints (ofN z))[i]? = some (.int ((z.getD i 0 : Nat) : Int)) := by rw [List.getD_eq_getElem?_getD]; simp [vints, ofN, show i < z.length by omega]
      have g2 : (vints (ofN z))[i + 1]? = some (.int ((z.getD (i + 1) 0 : Nat) : Int)) := by rw [List.getD_eq_getElem?_getD]; simp [vints, ofN, hi']
      refine EvT.icmp (Ev.sub (Ev.item (Ev.cell (F.comp rfl) rfl rfl e3) (Ev.sub (Ev.local (F.comp rfl) rfl hk6) Ev.int) eZ rfl (by omega) (by rw [show (1 + (i : Int) - 1).toNat = i by omega]; exact g1)) (Ev.item (Ev.cell (F.comp rfl) rfl rfl e3) (Ev.local (F.comp rfl) rfl hk6) eZ rfl (by omega) (by rw [show (1 + (i : Int)).toNat = i + 1 by omega]; exact g2))) Ev.int ?_
      show some (decide _) = some false
      rw [decide_eq_false (by omega)]
    intro X1 hX1
    exact WE.list rfl (by decide) (WEs.nil fun X2 hX2 => ⟨dints [], dints [], Rd_ints (AH.get_of_set (AH.set_same ..) hX2) rfl, Rd_ints (AH.set_same ..) rfl, shaped_ints _, shaped_ints _, H4, AH.le_trans (AH.le_set (AH.le_refl _) hX1) (AH.le_set (AH.le_refl _) hX2), by rw [eqv_ints]; rfl, rfl⟩)
  -- the choice
  clear r1 r2 r3 r4 r5 b1 b2 b3 b4 b5 b6 b7 b8
  rintro ρ5 H3 ⟨r2, r4, r5, b2, ⟨v0, b3⟩, b4, b5, b6, b7, b8⟩
  refine ⟨b5, rfl, ?_⟩
  have hch := choice_sum (c := c.reverse) (m := m) hg (fun a r e => by rw [hl] at e; cases e; exact hcond.2)
  have hsum' : (c.reverse.map G).sum = (c.map G).sum := by rw [List.map_reverse]; exact List.sum_reverse _
  rw [hsum'] at hch
  have hcm : ∀ i, i < c.length → c.getD i 0 < m := by
    intro i hi
    have hmem : c.getD i 0 ∈ c.reverse := by
      rw [List.mem_reverse, List.getD_eq_getElem?_getD, List.getElem?_eq_getElem hi]; exact List.getElem_mem hi
    rw [hl] at hmem hg
    rcases List.mem_cons.mp hmem with q | q
    · rw [q]; exact hcond.2
    · have := gaps_lt hg _ q; omega
  have hclen : (vints (ofN c)).length = c.length := by simp [vints, ofN]
  refine WS.cons (W1.ret (WE.eqD (by omega) (WE.callB (fun _ => fn_in hK 30 rfl) (Ev.glob F rfl hfound) ?_)))
  refine WEs.cons (WE.of (Ev.local F rfl r4) (WEs.cons (WE.of (Ev.local F rfl r5) (WEs.cons (WE.of (v := .int ((c.map G).sum : Nat)) ?_ ?_)))))
  · refine WE.ev (WE.drop (WE.callBi (Ev.glob F rfl hsum) (WEs.cons (WE.listComp (cl := [("steps", L + 1)]) rfl (WIt.list F (WE.of (Ev.local F rfl r2) ⟨D, _, _, rfl, b4, rfl, fun Cn hCn => ?_⟩))))))
    refine comp_list (f := fun i => .int ((G (c.getD i 0) : Nat) : Int)) (F.comp rfl) rfl (by rw [hclen]; omega) (fun _ => b4) ?_ ?_
    · intro i v ρ6 hv hk6
      obtain ⟨rfl, hi⟩ := vints_at hv
      have hi' : i < c.length := by simpa [ofN] using hi
      have e : (ofN c).getD i 0 = ((c.getD i 0 : Nat) : Int) := by rw [List.getD_eq_getElem?_getD, List.getD_eq_getElem?_getD]; simp [ofN, hi']
      rw [e] at hk6
      exact Ev.item (Ev.cell (F.comp rfl) rfl rfl b2) (Ev.local (F.comp rfl) rfl hk6) b6 rfl (by omega) (by rw [Int.toNat_natCast]; simp only [vints, ofN, List.getElem?_map, List.getElem?_range (hcm i hi')]; rfl)
    intro X hX
    refine WEs.nil (WKs.nil (WCall.sum F.hh (AH.set_same ..) (ns := ofN (c.map G)) ?_ ⟨H3, AH.le_set (AH.le_refl _) hX, ?_, rfl⟩))
    · show some _ = some _
      rw [hclen]
      congr 1
      apply List.ext_getElem?
      intro i
      by_cases q : i < c.length
      · simp [vints, ofN, q]
      · simp [vints, ofN, q]
    · rw [ofN_sum]
  · refine WEs.nil (WKs.nil (found_spec hK hlen hrange hbis F.hh hdep (by omega) hμ1 hμ3 (by omega) hch.1 b7 b8 fun Z hZ => ?_))
    refine WE.rev (WE.of (Ev.local F rfl r2) ⟨D, _, _, rfl, AH.get_of_set b4 hZ, rfl, Ev.neg Ev.int, fun X hX => ⟨dints (ofN c.reverse), dints (ofN c.reverse), Rd_ints (AH.get_of_set (AH.set_same ..) hX) (by rw [hch.2]; rfl), Rd_ints (AH.set_same ..) (by simp [lst, vints, ofN]), shaped_ints _, shaped_ints _, ?_⟩⟩)
    rw [eqv_ints]; simp [retv]
end Mine

open PySem PySem.W PyProof.Rows Mine in
set_option maxRecDepth 100000 in
set_option maxHeartbeats 8000000 in
theorem PySem.Challenge.cw_dm0010_05_holds : PySem.Challenge.rw_dm0010_05.Holds :=
  Mine.hd (by
  w_strict (
  k_fill
  intro w s₀ s₁ mg mb G Y fa o pm cd doc dV kV ho hd hcd hD hmg hg args vals as hpre hlay hrd hwl hlo
  have KX := kIn_of Y
  refine Ground.open G ?_
  intro T B D TE TW
  clear ho hd hcd hD
  wrow_args hpre hlay hrd hwl hlo
  rename_i ns _ _ _ _ _ _ _ sc vs _ hL _ _ _ hI _ hlen _
  have hfa : fa = 35 := by
    have h1 : mg "law" = some (.ref 35) := mg_of KX T.g rfl
    have h2 : mg "law" = some (.ref fa) := hmg
    rw [h1] at h2; cases h2; rfl
  subst hfa
  let C : Cx := { prog := Challenge.rw_dm0010_05.row.prog, w := w, base := s₁.heap, mg := mg, mb := mb, hg := T.g, hb := T.b, lim := T.nolimit }
  have bt : ∀ x : Str, x ≠ "__name__" → C.mb x = bootBuiltins x := T.builtins
  have hns : ns.length ≤ 63 := by omega
  have hmap : vs.map ab = vints ns := ints_of hI
  have key := top_fn (C := C) (A := callerA) (H := fun b => if b = sc then some (.scr (vints ns)) else none) (Q := fun v _ => v = .bool true) (s := s₁) (a := 35) (fd := fdOf (Mine.hd.heap_39 w.params) 35) (vals := [.ref sc]) (bs := [("script", .ref sc)]) rfl ?_ ?_ (KX 35 ⟨.type "function", none, .func (fdOf (Mine.hd.heap_39 w.params) 35), #[]⟩ rfl) rfl (by decide) rfl rfl (codeRec_of KX rfl) (binds := [("script", .ref sc)]) rfl rfl rfl (show (["found", "steps"] : List Str).Nodup by decide) ?_
  · refine wpAny_mono key (fun v s' ⟨⟨_, hv⟩, hk, hgn, hos⟩ => ?_) fun _ _ e => e.elim
    cases ab_bool hv
    exact law_end rfl (by wrow_post) hk (hgn.trans hg) hos
  · intro b ob hb
    by_cases q : b = sc
    · subst q
      rw [if_pos rfl] at hb; cases hb
      obtain ⟨o, ho, hc, n, hd⟩ := hL
      exact ⟨o, ho, hc, _, n, hd, hmap, by rw [ints_length]; exact Nat.le_trans hns (by decide)⟩
    · rw [if_neg q] at hb; cases hb
  · intro b ob hb
    by_cases q : b = sc
    · subst q
      rw [if_pos rfl] at hb; cases hb; rfl
    · rw [if_neg q] at hb; cases hb
  · intro L hL0 hcs
    have hscL : ∀ p ∈ cellsFrom (L + 1) (fdOf (Mine.hd.heap_39 w.params) 35).scope.names [], sc ≠ p.2 := fun p hp q => by
      have := (hcs p hp).1
      rw [if_pos q.symm] at this; cases this
    have n1 : sc ≠ L + 1 := hscL ("steps", L + 1) (.tail _ (.head _))
    have n2 : sc ≠ L + 2 := hscL ("found", L + 2) (.head _)
    refine law_body (C := C) (sc := sc) (ns := ns) KX (gl_boot KX rfl ((bt _ (by decide)).trans (by decide +kernel))) (gl_boot KX rfl ((bt _ (by decide)).trans (by decide +kernel))) (gl_boot KX rfl ((bt _ (by decide)).trans (by decide +kernel))) (gl_boot KX rfl ((bt _ (by decide)).trans (by decide +kernel))) (gl_boot KX rfl ((bt _ (by decide)).trans (by decide +kernel))) (gl_own KX rfl) (gl_own KX rfl) ⟨rfl, rfl, rfl, rfl⟩ (show callerA.depth + 1 + 1 < recursionLimit by decide) (show callerA.units + 3 + 200 < cLine by decide) rfl ?_ hns ?_ ?_
    · show ((AH.set (AH.set _ (L + 1) (.cell none)) (L + 2) (.cell none)) sc) = _
      rw [AH.set_ne _ _ n2, AH.set_ne _ _ n1]; exact if_pos rfl
    · show ((AH.set (AH.set _ (L + 1) (.cell none)) (L + 2) (.cell none)) (L + 1)) = _
      rw [AH.set_ne _ _ (addr_ne L 1 2 rfl), AH.set_same]
    · show ((AH.set (AH.set _ (L + 1) (.cell none)) (L + 2) (.cell none)) (L + 2)) = _
      rw [AH.set_same]))

