import PyProof.Rows.All
import Wide.All
import OpenK.AllK
import Wide.FinOn
import PySem.Challenge.RW_dm0010_06
set_option Elab.async false
set_option linter.unusedVariables false
set_option maxRecDepth 100000
namespace Mine
open PySem PySem.W PyProof.Rows

/-! ## abstract values, objects, heaps -/
inductive V where
  | none | bool (b : Bool) | int (i : Int) | str (x : Str) | ref (a : Addr) | bi (id : String) | ty (n : String) | oth
  deriving DecidableEq

def ab : Value → V
  | .none => .none
  | .bool b => .bool b
  | .int i _ => .int i
  | .str x _ => .str x
  | .ref a => .ref a
  | .builtin i => .bi i
  | .type n => .ty n
  | _ => .oth

theorem ab_none {v : Value} (h : ab v = .none) : v = .none := by cases v <;> simp_all [ab]
theorem ab_bool {v : Value} {b} (h : ab v = .bool b) : v = .bool b := by cases v <;> simp_all [ab]
theorem ab_int {v : Value} {i} (h : ab v = .int i) : ∃ t, v = .int i t := by cases v <;> simp_all [ab]
theorem ab_str {v : Value} {x} (h : ab v = .str x) : ∃ t, v = .str x t := by cases v <;> simp_all [ab]
theorem ab_ref {v : Value} {a} (h : ab v = .ref a) : v = .ref a := by cases v <;> simp_all [ab]
theorem ab_bi {v : Value} {a} (h : ab v = .bi a) : v = .builtin a := by cases v <;> simp_all [ab]
theorem ab_ty {v : Value} {a} (h : ab v = .ty a) : v = .type a := by cases v <;> simp_all [ab]

inductive O where
  | list (vs : List V)
  | scr (vs : List V)
  | tup (vs : List V)
  | cell (v : Option V)
  | fn (fd : FuncData)
  | rng (a n c : Int)
  | tab (es : List (Nat × Nat × Addr))
  | code (q : Str)
  | raw (c : Obj)

def O.mut : O → Bool
  | .list _ => true
  | .cell _ => true
  | .tab _ => true
  | _ => false

def tabItems (es : List (Nat × Nat × Addr)) : List Value := es.flatMap fun e => [rawInt e.1, rawInt e.2.1, .ref e.2.2]

def Rep : O → Obj → Prop
  | .list vs, c => ∃ xs n, c = { cls := .type "list", data := .seq xs n } ∧ xs.toList.map ab = vs ∧ vs.length ≤ sizeLine
  | .scr vs, c => c.cls = .type "list" ∧ ∃ xs n, c.data = .seq xs n ∧ xs.toList.map ab = vs ∧ vs.length ≤ sizeLine
  | .tup vs, c => ∃ xs n, c = { cls := .type "tuple", data := .seq xs n } ∧ xs.toList.map ab = vs ∧ vs.length ≤ sizeLine
  | .cell v, c => ∃ u, c.data = .cell u ∧ u.map ab = v
  | .fn fd, c => c = { cls := .type "function", data := .func fd }
  | .rng a n d, c => c.cls = .type "range" ∧ c.data = .fields #[.int a 0, .int (a + n * d) 0, .int d 0]
  | .tab es, c => c = { cls := .none, data := .fields (tabItems es).toArray }
  | .code q, c => ∃ vs t, c.data = .fields vs ∧ vs[1]? = some (.str q t)
  | .raw c', c => c = c'

abbrev AH := Addr → Option O
abbrev Lo := Str → Option V

def AH.set (H : AH) (a : Addr) (o : O) : AH := fun b => if b = a then some o else H b
@[simp] theorem AH.set_same (H : AH) (a : Addr) (o : O) : (H.set a o) a = some o := by simp [AH.set]
theorem AH.set_ne (H : AH) {a b : Addr} (o : O) (h : b ≠ a) : (H.set a o) b = H b := by simp [AH.set, h]
def Lo.set (ρ : Lo) (x : Str) (v : V) : Lo := fun y => if y = x then some v else ρ y
@[simp] theorem Lo.set_same (ρ : Lo) (x : Str) (v : V) : (ρ.set x v) x = some v := by simp [Lo.set]

structure Cx where
  prog : Program
  w : World
  base : Heap
  mg : Str → Option Value
  mb : Str → Option Value
  hg : base.Ns mainGlobals mg
  hb : base.Ns builtinsNs mb
  lim : base.NoLimit

def Cx.gl (C : Cx) (x : Str) : Option Value := match C.mg x with | some v => some v | none => C.mb x
abbrev Cx.M (C : Cx) : Model := model C.prog C.w

structure St (C : Cx) (L : Addr) (ρ : Lo) (H : AH) (h : Heap) : Prop where
  keep : ∀ b o, C.base.get? b = some o → h.get? b = some o
  rep : ∀ a o, H a = some o → ∃ c, h.get? a = some c ∧ Rep o c
  own : ∀ a o, H a = some o → o.mut = true → C.base.get? a = none
  loc : ∃ m, h.Ns L m ∧ ∀ x, (m x).map ab = ρ x
  nl : H L = none
  bl : C.base.get? L = none

structure Step (L : Addr) (H H' : AH) (s s' : Shared) : Prop where
  same : s'.gens = s.gens ∧ s'.os = s.os
  kept : ∀ b o, s.heap.get? b = some o → H b = none → b ≠ L → s'.heap.get? b = some o
  new : ∀ b o, s.heap.get? b = some o → H b = none → H' b = none
  live : ∀ b o, s.heap.get? b = some o → ∃ o', s'.heap.get? b = some o'

theorem Step.refl (L : Addr) (H : AH) (s : Shared) : Step L H H s s := ⟨⟨rfl, rfl⟩, fun _ _ e _ _ => e, fun _ _ _ e => e, fun _ o e => ⟨o, e⟩⟩
theorem Step.trans {L : Addr} {H H' H'' : AH} {s s' s'' : Shared} (x : Step L H H' s s') (y : Step L H' H'' s' s'') (hL : H L = none → H' L = none → H'' L = none) : Step L H H'' s s'' := by
  obtain ⟨m1, k1, n1, l1⟩ := x
  obtain ⟨m2, k2, n2, l2⟩ := y
  refine ⟨⟨m2.1.trans m1.1, m2.2.trans m1.2⟩, fun b o e eH eL => k2 b o (k1 b o e eH eL) (n1 b o e eH) eL, fun b o e eH => ?_, fun b o e => let ⟨o', e'⟩ := l1 b o e; l2 b o' e'⟩
  by_cases hb : b = L
  · subst hb; exact hL eH (n1 _ o e eH)
  · exact n2 b o (k1 b o e eH hb) (n1 b o e eH)

abbrev False2 : Value → Shared → Prop := fun _ _ => False

def Post {α : Type} (C : Cx) (L : Addr) (H : AH) (s : Shared) (Q : α → Lo → AH → Prop) (a : α) (s' : Shared) : Prop := ∃ ρ' H', St C L ρ' H' s'.heap ∧ Step L H H' s s' ∧ Q a ρ' H'

def W {α : Type} (C : Cx) (A : Around) (L : Addr) (t : Sem α) (ρ : Lo) (H : AH) (Q : α → Lo → AH → Prop) : Prop :=
  ∀ s : Shared, St C L ρ H s.heap → wpAny C.M A t (Post C L H s Q) False2 s

section
variable {α β : Type} {C : Cx} {A : Around} {L : Addr} {ρ : Lo} {H : AH}

theorem W.pure {a : α} {Q : α → Lo → AH → Prop} (h : Q a ρ H) : W C A L (Pure.pure a) ρ H Q := fun s hs => wpAny_pure ⟨ρ, H, hs, .refl .., h⟩
theorem W.mono {t : Sem α} {Q Q' : α → Lo → AH → Prop} (h : W C A L t ρ H Q) (hq : ∀ a ρ' H', Q a ρ' H' → Q' a ρ' H') : W C A L t ρ H Q' := fun s hs =>
  wpAny_mono (h s hs) (fun a s' ⟨ρ', H', x, y, z⟩ => ⟨ρ', H', x, y, hq _ _ _ z⟩) fun _ _ e => e
theorem W.bind {t : Sem α} {f : α → Sem β} {Q : β → Lo → AH → Prop} (h : W C A L t ρ H (fun a ρ' H' => W C A L (f a) ρ' H' Q)) : W C A L (t >>= f) ρ H Q := fun s hs =>
  wpAny_bind (wpAny_mono (h s hs) (fun a s' ⟨ρ', H', x, y, z⟩ => wpAny_mono (z s' x) (fun b s'' ⟨ρ'', H'', x', y', z'⟩ =>
    ⟨ρ'', H'', x', y.trans y' (fun _ _ => x'.nl), z'⟩) fun _ _ e => e) fun _ _ e => e)
theorem W.holding {vs : List Value} {t : Sem α} {Q : α → Lo → AH → Prop} (h : W C A L t ρ H Q) : W C A L (PySem.holding vs t) ρ H Q := fun s hs => wpAny_holding (h s hs)
theorem W.standAt {p : Pos} {Q : Unit → Lo → AH → Prop} (h : Q () ρ H) : W C A L (PySem.standAt p) ρ H Q := fun s hs => wpAny_standAt ⟨ρ, H, hs, .refl .., h⟩

/-- continue behind a step of a library rule -/
theorem W.at {t : Sem α} {Q : α → Lo → AH → Prop} {s s' : Shared} {ρ' : Lo} {H' : AH} (h : W C A L t ρ' H' Q) (hs : St C L ρ' H' s'.heap) (hst : Step L H H' s s') :
    wpAny C.M A t (Post C L H s Q) False2 s' :=
  wpAny_mono (h s' hs) (fun a s'' ⟨ρ'', H'', x', y', z'⟩ => ⟨ρ'', H'', x', hst.trans y' (fun _ _ => x'.nl), z'⟩) fun _ _ e => e
theorem W.at2 {t : Sem α} {f : α → Sem β} {Q : β → Lo → AH → Prop} {s s' : Shared} {ρ' : Lo} {H' : AH} (h : W C A L t ρ' H' (fun a ρ2 H2 => W C A L (f a) ρ2 H2 Q)) (hs : St C L ρ' H' s'.heap) (hst : Step L H H' s s') :
    wpAny C.M A t (fun a s2 => wpAny C.M A (f a) (Post C L H s Q) False2 s2) False2 s' :=
  wpAny_mono (h s' hs) (fun a s'' ⟨ρ'', H'', x', y', z'⟩ => z'.at x' (hst.trans y' (fun _ _ => x'.nl))) fun _ _ e => e
theorem W.at3 {γ : Type} {t : Sem α} {f : α → Sem β} {g : α → β → Sem γ} {Q : γ → Lo → AH → Prop} {s s' : Shared} {ρ' : Lo} {H' : AH} (h : W C A L t ρ' H' (fun a ρ2 H2 => W C A L (f a) ρ2 H2 (fun b ρ3 H3 => W C A L (g a b) ρ3 H3 Q))) (hs : St C L ρ' H' s'.heap) (hst : Step L H H' s s') :
    wpAny C.M A t (fun a s2 => wpAny C.M A (f a) (fun b s3 => wpAny C.M A (g a b) (Post C L H s Q) False2 s3) False2 s2) False2 s' :=
  wpAny_mono (h s' hs) (fun a s'' ⟨ρ'', H'', x', y', z'⟩ => z'.at2 x' (hst.trans y' (fun _ _ => x'.nl))) fun _ _ e => e

/-- only tokens, or new untracked objects -/
theorem St.ext {h h' : Heap} (x : St C L ρ H h) (k : ∀ b o, h.get? b = some o → h'.get? b = some o) : St C L ρ H h' where
  keep := fun b o e => k _ _ (x.keep b o e)
  rep := fun a o e => let ⟨c, e1, e2⟩ := x.rep a o e; ⟨c, k _ _ e1, e2⟩
  own := x.own
  loc := let ⟨m, e1, e2⟩ := x.loc; ⟨m, e1.keeps k, e2⟩
  nl := x.nl
  bl := x.bl
theorem Step.ext {s : Shared} {h' : Heap} {tk : Nat} (k : ∀ b o, s.heap.get? b = some o → h'.get? b = some o) : Step L H H s { s with heap := h', toks := tk } :=
  ⟨⟨rfl, rfl⟩, fun b o e _ _ => k b o e, fun _ _ _ e => e, fun b o e => ⟨o, k b o e⟩⟩
theorem Step.toks {s : Shared} {tk : Nat} : Step L H H s { s with toks := tk } := ⟨⟨rfl, rfl⟩, fun _ _ e _ _ => e, fun _ _ _ e => e, fun _ o e => ⟨o, e⟩⟩

/-- an address that is not tracked, not the base's and not the locals' may change -/
theorem St.off {h h' : Heap} {I : Addr} (x : St C L ρ H h) (hI : H I = none) (hB : C.base.get? I = none) (hL : I ≠ L) (k : ∀ b o, b ≠ I → h.get? b = some o → h'.get? b = some o) : St C L ρ H h' where
  keep := fun b o e => k _ _ (fun q => by rw [q, hB] at e; cases e) (x.keep b o e)
  rep := fun a o e => let ⟨c, e1, e2⟩ := x.rep a o e; ⟨c, k _ _ (fun q => by rw [q, hI] at e; cases e) e1, e2⟩
  own := x.own
  loc := let ⟨m, e1, e2⟩ := x.loc; ⟨m, e1.extBut (b := I) (fun b o hb e => k b o hb e) (Ne.symm hL), e2⟩
  nl := x.nl
  bl := x.bl

theorem St.fresh {h : Heap} (x : St C L ρ H h) {a : Addr} (ha : h.get? a = none) : H a = none ∧ C.base.get? a = none ∧ a ≠ L := by
  refine ⟨?_, ?_, ?_⟩
  · cases e : H a with
    | none => rfl
    | some o => obtain ⟨c, e1, _⟩ := x.rep a o e; rw [ha] at e1; cases e1
  · cases e : C.base.get? a with
    | none => rfl
    | some o => have := x.keep a o e; rw [ha] at this; cases this
  · rintro rfl
    obtain ⟨m, ⟨o, _, _, ho, _⟩, _⟩ := x.loc
    rw [ha] at ho; cases ho

theorem get?_size_none (h : Heap) : h.get? h.objs.size = none := by
  cases e : h.get? h.objs.size with
  | none => rfl
  | some o => exact absurd (Heap.lt_size e) (Nat.lt_irrefl _)

/-- a new tracked object -/
theorem St.alloc {h h' : Heap} {a : Addr} {c : Obj} {o : O} (x : St C L ρ H h) (ha : h.get? a = none) (hc : h'.get? a = some c) (hr : Rep o c) (k : ∀ b o, h.get? b = some o → h'.get? b = some o) : St C L ρ (H.set a o) h' where
  keep := fun b o e => k _ _ (x.keep b o e)
  rep := fun b o' e => by
    by_cases q : b = a
    · subst q; rw [AH.set_same] at e; cases e; exact ⟨c, hc, hr⟩
    · rw [AH.set_ne _ _ q] at e; obtain ⟨c, e1, e2⟩ := x.rep b o' e; exact ⟨c, k _ _ e1, e2⟩
  own := fun b o' e hm => by
    by_cases q : b = a
    · subst q; exact (x.fresh ha).2.1
    · rw [AH.set_ne _ _ q] at e; exact x.own b o' e hm
  loc := let ⟨m, e1, e2⟩ := x.loc; ⟨m, e1.keeps k, e2⟩
  nl := by rw [AH.set_ne _ _ (Ne.symm (x.fresh ha).2.2)]; exact x.nl
  bl := x.bl
theorem Step.alloc {s : Shared} {h' : Heap} {tk : Nat} {a : Addr} {o : O} (ha : s.heap.get? a = none) (k : ∀ b o, s.heap.get? b = some o → h'.get? b = some o) : Step L H (H.set a o) s { s with heap := h', toks := tk } :=
  ⟨⟨rfl, rfl⟩, fun b o e _ _ => k b o e, fun b o e hb => by rw [AH.set_ne _ _ (fun q => by rw [q, ha] at e; cases e)]; exact hb, fun b o e => ⟨o, k b o e⟩⟩

/-- a tracked object changed -/
theorem St.upd {h h' : Heap} {a : Addr} {c : Obj} {o₀ o : O} (x : St C L ρ H h) (hH : H a = some o₀) (hm : o₀.mut = true) (hc : h'.get? a = some c) (hr : Rep o c) (k : ∀ b o, b ≠ a → h.get? b = some o → h'.get? b = some o) : St C L ρ (H.set a o) h' where
  keep := fun b o e => k _ _ (fun q => by rw [q, x.own a o₀ hH hm] at e; cases e) (x.keep b o e)
  rep := fun b o' e => by
    by_cases q : b = a
    · subst q; rw [AH.set_same] at e; cases e; exact ⟨c, hc, hr⟩
    · rw [AH.set_ne _ _ q] at e; obtain ⟨c, e1, e2⟩ := x.rep b o' e; exact ⟨c, k _ _ q e1, e2⟩
  own := fun b o' e hm' => by
    by_cases q : b = a
    · subst q; exact x.own _ _ hH hm
    · rw [AH.set_ne _ _ q] at e; exact x.own b o' e hm'
  loc := let ⟨m, e1, e2⟩ := x.loc; ⟨m, e1.extBut (b := a) (fun b o hb e => k b o hb e) (fun q => by rw [← q, x.nl] at hH; cases hH), e2⟩
  nl := by rw [AH.set_ne _ _ (fun q => by rw [← q, x.nl] at hH; cases hH)]; exact x.nl
  bl := x.bl
theorem Step.upd {s : Shared} {h' : Heap} {tk : Nat} {a : Addr} {c : Obj} {o₀ o : O} (hH : H a = some o₀) (hc : h'.get? a = some c) (k : ∀ b o, b ≠ a → s.heap.get? b = some o → h'.get? b = some o) : Step L H (H.set a o) s { s with heap := h', toks := tk } :=
  ⟨⟨rfl, rfl⟩, fun b o e hb _ => k b o (fun q => by rw [q, hH] at hb; cases hb) e, fun b o e hb => by rw [AH.set_ne _ _ (fun q => by rw [q, hH] at hb; cases hb)]; exact hb, fun b o e => by
    by_cases q : b = a
    · subst q; exact ⟨c, hc⟩
    · exact ⟨o, k b o q e⟩⟩

/-- a local stored -/
theorem St.store {h h' : Heap} {x : Str} {v : Value} {m : Str → Option Value} (X : St C L ρ H h) (hm : ∀ x, (m x).map ab = ρ x) (hn : h'.Ns L (fun y => if y = x then some v else m y)) (hs : Heap.SameBut L h h') : St C L (ρ.set x (ab v)) H h' where
  keep := fun b o e => hs.extBut b o (fun q => by rw [q, X.bl] at e; cases e) (X.keep b o e)
  rep := fun a o e => let ⟨c, e1, e2⟩ := X.rep a o e; ⟨c, hs.extBut _ _ (fun q => by rw [q, X.nl] at e; cases e) e1, e2⟩
  own := X.own
  loc := ⟨_, hn, fun y => by
    unfold Lo.set
    by_cases q : y = x
    · simp [q]
    · simp [q, hm]⟩
  nl := X.nl
  bl := X.bl
theorem Step.store {s : Shared} {h' : Heap} {tk : Nat} {m : Str → Option Value} (hn : h'.Ns L m) (hs : Heap.SameBut L s.heap h') : Step L H H s { s with heap := h', toks := tk } :=
  ⟨⟨rfl, rfl⟩, fun b o e _ hb => hs.extBut b o hb e, fun _ _ _ e => e, fun b o e => by
    by_cases q : b = L
    · subst q; obtain ⟨o', _, _, ho, _⟩ := hn; exact ⟨o', ho⟩
    · exact ⟨o, hs.extBut b o q e⟩⟩

end
end Mine

namespace Mine
open PySem PySem.W PyProof.Rows

/-! ## facts of tracked objects -/
def lst : O → Option (List V)
  | .list vs => some vs
  | .scr vs => some vs
  | _ => none

section
variable {C : Cx} {A : Around} {L : Addr} {ρ : Lo} {H : AH} {h : Heap} {a : Addr} {vs : List V}

theorem St.list (x : St C L ρ H h) {o : O} (e : H a = some o) (hl : lst o = some vs) : ∃ xs : Array Value, h.IsList a xs ∧ xs.toList.map ab = vs ∧ vs.length ≤ sizeLine := by
  obtain ⟨c, hc, r⟩ := x.rep a o e
  cases o <;> simp only [lst] at hl <;> try cases hl
  · obtain ⟨xs, n, rfl, e2, e3⟩ := r; exact ⟨xs, ⟨_, hc, rfl, n, rfl⟩, e2, e3⟩
  · obtain ⟨e1, xs, n, ed, e2, e3⟩ := r; exact ⟨xs, ⟨_, hc, e1, n, ed⟩, e2, e3⟩
theorem St.plist (x : St C L ρ H h) (e : H a = some (.list vs)) : ∃ xs : Array Value, h.PlainList a xs ∧ xs.toList.map ab = vs ∧ vs.length ≤ sizeLine := by
  obtain ⟨c, hc, xs, n, rfl, e2, e3⟩ := x.rep a _ e
  exact ⟨xs, ⟨n, hc⟩, e2, e3⟩
theorem St.tup (x : St C L ρ H h) (e : H a = some (.tup vs)) : ∃ xs : Array Value, IsTup h a xs ∧ xs.toList.map ab = vs ∧ vs.length ≤ sizeLine := by
  obtain ⟨c, hc, xs, n, rfl, e2, e3⟩ := x.rep a _ e
  exact ⟨xs, ⟨_, hc, rfl, n, rfl⟩, e2, e3⟩
theorem St.cell (x : St C L ρ H h) {v : Option V} (e : H a = some (.cell v)) : ∃ u, h.IsCell a u ∧ u.map ab = v := by
  obtain ⟨c, hc, u, e1, e2⟩ := x.rep a _ e
  exact ⟨u, ⟨c, hc, e1⟩, e2⟩
theorem St.func (x : St C L ρ H h) {fd : FuncData} (e : H a = some (.fn fd)) : h.get? a = some { cls := .type "function", data := .func fd } := by
  obtain ⟨c, hc, e1⟩ := x.rep a _ e
  rw [hc, e1]

theorem arr_get {xs : Array Value} {i : Nat} {v : V} (e : xs.toList.map ab = vs) (hi : vs[i]? = some v) : ∃ x, xs[i]? = some x ∧ ab x = v := by
  subst e
  rw [List.getElem?_map] at hi
  cases hx : xs.toList[i]? with
  | none => rw [hx] at hi; cases hi
  | some x => rw [hx] at hi; exact ⟨x, by rw [← Array.getElem?_toList]; exact hx, by simpa using hi⟩
theorem arr_size {xs : Array Value} (e : xs.toList.map ab = vs) : xs.size = vs.length := by subst e; simp
end

structure Fx (C : Cx) (A : Around) (env : Env) : Prop where
  kind : env.scope.kind = .function
  gl : env.globals = mainGlobals
  bu : env.builtins = builtinsNs
  hh : A.handled = none

section
variable {C : Cx} {A : Around} {env : Env} {ρ : Lo} {H : AH}


theorem W.BinOp {l r : Expr} {op : Operator} {pos : Pos} {Q : Value → Lo → AH → Prop} {L : Addr}
    (h : W C A L (eval l env) ρ H (fun a ρ1 H1 => W C A L (eval r env) ρ1 H1 (fun b ρ2 H2 => W C A L (binaryOp op a b) ρ2 H2 Q))) :
    W C A L (eval (.BinOp l op r pos) env) ρ H Q := fun s hs => wpAny_BinOp (h.at3 hs (.refl ..))
theorem W.UnaryOp {x : Expr} {op : UnaryOp} {pos : Pos} {Q : Value → Lo → AH → Prop} {L : Addr}
    (h : W C A L (eval x env) ρ H (fun a ρ1 H1 => W C A L (unaryOp op a) ρ1 H1 Q)) :
    W C A L (eval (.UnaryOp op x pos) env) ρ H Q := fun s hs => wpAny_UnaryOp (h.at2 hs (.refl ..))
theorem W.Subscript {o i : Expr} {pos : Pos} {Q : Value → Lo → AH → Prop} {L : Addr}
    (h : W C A L (eval o env) ρ H (fun a ρ1 H1 => W C A L (eval i env) ρ1 H1 (fun b ρ2 H2 => W C A L (subscriptTail o i a b) ρ2 H2 Q))) :
    W C A L (eval (.Subscript o i pos) env) ρ H Q := fun s hs => Subscript_ (h.at3 hs (.refl ..))

/-! ## pure evaluation -/
def Ev (C : Cx) (A : Around) (env : Env) (ρ : Lo) (H : AH) (e : Expr) (v : V) : Prop :=
  W C A env.locals (eval e env) ρ H (fun x ρ' H' => ρ' = ρ ∧ H' = H ∧ ab x = v)
def EvT (C : Cx) (A : Around) (env : Env) (ρ : Lo) (H : AH) (e : Expr) (b : Bool) : Prop :=
  W C A env.locals (isTrue e env (eval e env)) ρ H (fun x ρ' H' => ρ' = ρ ∧ H' = H ∧ x = b)

theorem Ev.then {e : Expr} {v : V} {f : Value → Sem β} {Q : β → Lo → AH → Prop} (h : Ev C A env ρ H e v) (k : ∀ x, ab x = v → W C A env.locals (f x) ρ H Q) :
    W C A env.locals (eval e env) ρ H (fun x ρ1 H1 => W C A env.locals (f x) ρ1 H1 Q) :=
  W.mono h (by rintro x _ _ ⟨rfl, rfl, e⟩; exact k x e)

theorem Ev.local {x : Str} {pos : Pos} {v : V} (F : Fx C A env) (hl : env.kindOf x = some .local) (hv : ρ x = some v) (hd : (x == ("__debug__" : Str)) = false := by decide) : Ev C A env ρ H (.Name x pos) v := fun s hs => by
  obtain ⟨m, hn, hm⟩ := hs.loc
  have := hm x
  rw [hv] at this
  cases hx : m x with
  | none => rw [hx] at this; cases this
  | some y =>
    rw [hx] at this
    exact wpAny_Name (wpAny_loadName_local F.kind hl hn hx ⟨ρ, H, hs, .refl .., rfl, rfl, by simpa using this⟩) hd
theorem Ev.cell {x : Str} {pos : Pos} {v : V} {c : Addr} (F : Fx C A env) (hl : env.kindOf x = some .cell) (hc : env.cells.lookup x = some c) (hv : H c = some (.cell (some v))) (hd : (x == ("__debug__" : Str)) = false := by decide) : Ev C A env ρ H (.Name x pos) v := fun s hs => by
  obtain ⟨u, h1, h2⟩ := hs.cell hv
  cases u with
  | none => cases h2
  | some y => exact wpAny_Name (wpAny_loadName_cell F.kind hl hc h1 ⟨ρ, H, hs, .refl .., rfl, rfl, by simpa using h2⟩) hd
theorem Ev.glob {x : Str} {pos : Pos} {v : Value} (F : Fx C A env) (hl : env.kindOf x = some .globalImplicit) (hv : C.gl x = some v) (hd : (x == ("__debug__" : Str)) = false := by decide) : Ev C A env ρ H (.Name x pos) (ab v) := fun s hs => by
  refine wpAny_Name ?_ hd
  rw [loadName_read F.kind hl]
  unfold loadGlobal
  unfold Cx.gl at hv
  refine wpAny_bind (wpAny_nsGet (by rw [F.gl]; exact C.hg.keeps hs.keep) ?_)
  cases hm : C.mg x with
  | some y =>
    rw [hm] at hv; cases hv
    exact wpAny_pure ⟨ρ, H, hs, .refl .., rfl, rfl, rfl⟩
  | none =>
    rw [hm] at hv
    dsimp only
    refine wpAny_bind (wpAny_nsGet (by rw [F.bu]; exact C.hb.keeps hs.keep) ?_)
    dsimp only at hv
    rw [hv]
    exact wpAny_pure ⟨ρ, H, hs, .refl .., rfl, rfl, rfl⟩

theorem Ev.int {i : Int} {k : Nat} {pos : Pos} : Ev C A env ρ H (.Constant (.int i) k pos) (.int i) := fun s hs => wpAny_Constant_int ⟨ρ, H, hs, .toks, rfl, rfl, rfl⟩
theorem Ev.none {k : Nat} {pos : Pos} : Ev C A env ρ H (.Constant .none k pos) .none := fun s hs => wpAny_Constant_none ⟨ρ, H, hs, .refl .., rfl, rfl, rfl⟩
theorem Ev.bool {b : Bool} {k : Nat} {pos : Pos} : Ev C A env ρ H (.Constant (.bool b) k pos) (.bool b) := fun s hs => wpAny_Constant_bool ⟨ρ, H, hs, .refl .., rfl, rfl, rfl⟩

theorem Ev.bin {l r : Expr} {op : Operator} {pos : Pos} {a b v : V} (h1 : Ev C A env ρ H l a) (h2 : Ev C A env ρ H r b)
    (h : ∀ x y, ab x = a → ab y = b → W C A env.locals (binaryOp op x y) ρ H (fun z ρ' H' => ρ' = ρ ∧ H' = H ∧ ab z = v)) : Ev C A env ρ H (.BinOp l op r pos) v :=
  W.BinOp (W.mono h1 (by rintro x _ _ ⟨rfl, rfl, e⟩; exact h2.then fun y e' => h x y e e'))
theorem Ev.add {l r : Expr} {pos : Pos} {a b : Int} (h1 : Ev C A env ρ H l (.int a)) (h2 : Ev C A env ρ H r (.int b)) : Ev C A env ρ H (.BinOp l .Add r pos) (.int (a + b)) :=
  Ev.bin h1 h2 fun x y e e' => by
    obtain ⟨t, rfl⟩ := ab_int e; obtain ⟨u, rfl⟩ := ab_int e'
    exact fun s hs => add_int ⟨ρ, H, hs, .toks, rfl, rfl, rfl⟩
theorem Ev.sub {l r : Expr} {pos : Pos} {a b : Int} (h1 : Ev C A env ρ H l (.int a)) (h2 : Ev C A env ρ H r (.int b)) : Ev C A env ρ H (.BinOp l .Sub r pos) (.int (a - b)) :=
  Ev.bin h1 h2 fun x y e e' => by
    obtain ⟨t, rfl⟩ := ab_int e; obtain ⟨u, rfl⟩ := ab_int e'
    exact fun s hs => sub_int' ⟨ρ, H, hs, .toks, rfl, rfl, rfl⟩
theorem Ev.mod {l r : Expr} {pos : Pos} {a b : Int} (h1 : Ev C A env ρ H l (.int a)) (h2 : Ev C A env ρ H r (.int b)) (hb : b ≠ 0) : Ev C A env ρ H (.BinOp l .Mod r pos) (.int (a.fmod b)) :=
  Ev.bin h1 h2 fun x y e e' => by
    obtain ⟨t, rfl⟩ := ab_int e; obtain ⟨u, rfl⟩ := ab_int e'
    exact fun s hs => mod_int' hb ⟨ρ, H, hs, .toks, rfl, rfl, rfl⟩
theorem Ev.fdiv {l r : Expr} {pos : Pos} {a b : Int} (h1 : Ev C A env ρ H l (.int a)) (h2 : Ev C A env ρ H r (.int b)) (hb : 0 < b) (hb' : b < 1000000) : Ev C A env ρ H (.BinOp l .FloorDiv r pos) (.int (a.fdiv b)) :=
  Ev.bin h1 h2 fun x y e e' => by
    obtain ⟨t, rfl⟩ := ab_int e; obtain ⟨u, rfl⟩ := ab_int e'
    exact fun s hs => floordiv_int (by omega) ⟨ρ, H, hs, .toks, rfl, rfl, rfl⟩ (Or.inl (PyProof.noPylong_small (by omega)))
theorem Ev.neg {x : Expr} {pos : Pos} {a : Int} (h1 : Ev C A env ρ H x (.int a)) : Ev C A env ρ H (.UnaryOp .USub x pos) (.int (-a)) :=
  W.UnaryOp (h1.then fun y e => by
    obtain ⟨t, rfl⟩ := ab_int e
    exact fun s hs => neg_int ⟨ρ, H, hs, .toks, rfl, rfl, rfl⟩)

/-! comparisons of ints -/
def icmp : CmpOp → Int → Int → Option Bool
  | .Lt, a, b => some (decide (a < b))
  | .LtE, a, b => some (decide (a ≤ b))
  | .Gt, a, b => some (decide (b < a))
  | .GtE, a, b => some (decide (b ≤ a))
  | .Eq, a, b => some (a == b)
  | .NotEq, a, b => some (a != b)
  | _, _, _ => none

theorem W.icmp {L : Addr} {op : CmpOp} {a b : Int} {c : Bool} {x y : Value} {Q : Value → Lo → AH → Prop} (hx : ab x = .int a) (hy : ab y = .int b) (hc : icmp op a b = some c) (h : Q (.bool c) ρ H) : W C A L (compareOp op x y) ρ H Q := by
  obtain ⟨t, rfl⟩ := ab_int hx; obtain ⟨u, rfl⟩ := ab_int hy
  intro s hs
  have k : Post C L H s Q (Value.bool c) s := ⟨ρ, H, hs, .refl .., h⟩
  cases op <;> simp only [Mine.icmp] at hc <;> cases hc
  · exact eq_int k
  · exact ne_int k
  · exact lt_int k
  · exact le_int k
  · exact gt_int k
  · exact ge_int k

theorem W.isTrue_Compare1 {l r : Expr} {op : CmpOp} {pos : Pos} {whole : Sem Value} {Q : Bool → Lo → AH → Prop} {L : Addr} (hm : behindInMarks op r = false)
    (h : W C A L (eval l env) ρ H (fun a ρ1 H1 => W C A L (eval r env) ρ1 H1 (fun b ρ2 H2 => W C A L (compareOp op a b) ρ2 H2 (fun c ρ3 H3 => W C A L (truthy c) ρ3 H3 Q)))) :
    W C A L (isTrue (.Compare l [op] [r] pos) env whole) ρ H Q := fun s hs => by
  refine wpAny_isTrue_Compare1 ?_ hm
  exact wpAny_mono (h s hs) (fun a s1 ⟨ρ1, H1, x1, y1, z1⟩ => z1.at3 x1 y1) fun _ _ e => e
theorem W.truthy_bool {L : Addr} {b : Bool} {Q : Bool → Lo → AH → Prop} (h : Q b ρ H) : W C A L (truthy (.bool b)) ρ H Q := fun s hs => wpAny_truthy_bool ⟨ρ, H, hs, .refl .., h⟩
theorem EvT.icmp {l r : Expr} {op : CmpOp} {pos : Pos} {a b : Int} {c : Bool} (h1 : Ev C A env ρ H l (.int a)) (h2 : Ev C A env ρ H r (.int b)) (hc : Mine.icmp op a b = some c) (hm : behindInMarks op r = false := by with_unfolding_all rfl) :
    EvT C A env ρ H (.Compare l [op] [r] pos) c :=
  W.isTrue_Compare1 hm (W.mono h1 (by rintro x _ _ ⟨rfl, rfl, e⟩; exact h2.then fun y e' => W.icmp e e' hc (W.truthy_bool ⟨rfl, rfl, rfl⟩)))

/-! is None -/
theorem beq_none {x : Value} {a : V} (h : ab x = a) : (x == Value.none) = decide (a = .none) := by
  subst h
  cases x <;> simp [ab]
theorem EvT.isNone {l : Expr} {k : Nat} {p pos : Pos} {a : V} (h1 : Ev C A env ρ H l a) : EvT C A env ρ H (.Compare l [.Is] [.Constant .none k p] pos) (decide (a = .none)) :=
  W.isTrue_Compare1 rfl (W.mono h1 (by
    rintro x _ _ ⟨rfl, rfl, e⟩
    refine Ev.none.then fun y e' => ?_
    rw [ab_none e']
    intro s hs
    refine is_none_gen ⟨_, _, hs, .refl .., ?_⟩
    rw [beq_none e]
    exact W.truthy_bool ⟨rfl, rfl, rfl⟩))

/-! truth -/
def truth (H : AH) : V → Option Bool
  | .none => some false
  | .bool b => some b
  | .int i => some (i != 0)
  | .str x => some (decide (x.length ≠ 0))
  | .ref a => match H a with
    | some (.list vs) => some (!vs.isEmpty)
    | some (.scr vs) => some (!vs.isEmpty)
    | some (.tup vs) => some (!vs.isEmpty)
    | _ => none
  | _ => none

theorem W.truthy {L : Addr} {x : Value} {b : Bool} {Q : Bool → Lo → AH → Prop} (hb : truth H (ab x) = some b) (hx : ∀ y t, x = .str y t → y.length ≤ sizeLine) (h : Q b ρ H) : W C A L (PySem.truthy x) ρ H Q := fun s hs => by
  have hsl : (sizeLine : Int) < 2 ^ 63 := by decide
  cases x with
  | none => cases hb; exact truthy_none ⟨ρ, H, hs, .refl .., h⟩
  | bool c => cases hb; exact wpAny_truthy_bool ⟨ρ, H, hs, .refl .., h⟩
  | int i t => cases hb; exact truthy_int ⟨ρ, H, hs, .refl .., h⟩
  | str y t =>
    cases hb
    have := hx y t rfl
    refine P.truthy_str (by omega) ⟨ρ, H, hs, .toks, ?_⟩
    have e : ((y.length : Int) != 0) = decide (y.length ≠ 0) := by
      by_cases q : y.length = 0 <;> simp [q]
    rw [e]; exact h
  | ref a =>
    simp only [ab, truth] at hb
    split at hb
    · rename_i vs e; cases hb
      obtain ⟨xs, h1, h2, h3⟩ := hs.list e (vs := vs) rfl
      refine wpAny_truthy_list h1 (by rw [arr_size h2]; omega) ⟨ρ, H, hs, .toks, ?_⟩
      have e : xs.isEmpty = vs.isEmpty := by subst h2; obtain ⟨l⟩ := xs; cases l <;> simp
      rw [e]; exact h
    · rename_i vs e; cases hb
      obtain ⟨xs, h1, h2, h3⟩ := hs.list e (vs := vs) rfl
      refine wpAny_truthy_list h1 (by rw [arr_size h2]; omega) ⟨ρ, H, hs, .toks, ?_⟩
      have e : xs.isEmpty = vs.isEmpty := by subst h2; obtain ⟨l⟩ := xs; cases l <;> simp
      rw [e]; exact h
    · rename_i vs e; cases hb
      obtain ⟨xs, h1, h2, h3⟩ := hs.tup e
      refine truthy_tuple h1 (by rw [arr_size h2]; omega) ⟨ρ, H, hs, .toks, ?_⟩
      have e : xs.isEmpty = vs.isEmpty := by subst h2; obtain ⟨l⟩ := xs; cases l <;> simp
      rw [e]; exact h
    · cases hb
  | _ => cases hb

theorem EvT.of {e : Expr} {v : V} {b : Bool} (h : Ev C A env ρ H e v) (hb : truth H v = some b) (hs : ∀ x, v = .str x → x.length ≤ sizeLine)
    (he : isTrue e env (eval e env) = (do let v ← eval e env; standAt e.pos; holding [v] (PySem.truthy v)) := by rfl) : EvT C A env ρ H e b := by
  unfold EvT
  rw [he]
  exact W.bind (h.then fun x ex => W.bind (W.standAt (W.holding (W.truthy (by rw [ex]; exact hb) (fun y t ey => hs y (by rw [← ex, ey]; rfl)) ⟨rfl, rfl, rfl⟩))))

def AllT (C : Cx) (A : Around) (env : Env) (ρ : Lo) (H : AH) (op : BoolOp) (es : List Expr) (b : Bool) : Prop :=
  W C A env.locals (allTrue op es env) ρ H (fun x ρ' H' => ρ' = ρ ∧ H' = H ∧ x = b)
theorem EvT.boolop {op : BoolOp} {es : List Expr} {pos : Pos} {b : Bool} (h : AllT C A env ρ H op es b) : EvT C A env ρ H (.BoolOp op es pos) b := fun s hs => wpAny_isTrue_BoolOp (h s hs)
theorem AllT.and_nil : AllT C A env ρ H .And [] true := fun s hs => wpAny_allTrue_And_nil ⟨ρ, H, hs, .refl .., rfl, rfl, rfl⟩
theorem AllT.or_nil : AllT C A env ρ H .Or [] false := fun s hs => wpAny_allTrue_Or_nil ⟨ρ, H, hs, .refl .., rfl, rfl, rfl⟩
theorem AllT.and_cons {e : Expr} {es : List Expr} {b c : Bool} (h : EvT C A env ρ H e b) (h2 : b = true → AllT C A env ρ H .And es c) : AllT C A env ρ H .And (e :: es) (b && c) := fun s hs =>
  wpAny_allTrue_And_cons (wpAny_mono (h s hs) (fun x s1 ⟨ρ1, H1, x1, y1, e1, e2, e3⟩ => by
    subst e1 e2 e3
    cases x with
    | true => exact (h2 rfl).at x1 y1
    | false => exact ⟨_, _, x1, y1, rfl, rfl, rfl⟩) fun _ _ e => e)
theorem AllT.or_cons {e : Expr} {es : List Expr} {b c : Bool} (h : EvT C A env ρ H e b) (h2 : b = false → AllT C A env ρ H .Or es c) : AllT C A env ρ H .Or (e :: es) (b || c) := fun s hs =>
  wpAny_allTrue_Or_cons (wpAny_mono (h s hs) (fun x s1 ⟨ρ1, H1, x1, y1, e1, e2, e3⟩ => by
    subst e1 e2 e3
    cases x with
    | false => exact (h2 rfl).at x1 y1
    | true => exact ⟨_, _, x1, y1, rfl, rfl, rfl⟩) fun _ _ e => e)

theorem Ev.ifexp {t b o : Expr} {pos : Pos} {c : Bool} {v : V} (h : EvT C A env ρ H t c) (h1 : c = true → Ev C A env ρ H b v) (h2 : c = false → Ev C A env ρ H o v) : Ev C A env ρ H (.IfExp t b o pos) v := fun s hs =>
  wpAny_IfExp (wpAny_mono (h s hs) (fun x s1 ⟨ρ1, H1, x1, y1, e1, e2, e3⟩ => by
    subst e1 e2 e3
    cases x with
    | true => exact (h1 rfl).at x1 y1
    | false => exact (h2 rfl).at x1 y1) fun _ _ e => e)

/-! items -/
theorem Ev.item {o i : Expr} {pos : Pos} {a : Addr} {ob : O} {vs : List V} {k : Int} {v : V} (h1 : Ev C A env ρ H o (.ref a)) (h2 : Ev C A env ρ H i (.int k)) (hH : H a = some ob) (hl : lst ob = some vs) (h0 : 0 ≤ k) (hx : vs[k.toNat]? = some v)
    (hs : ∀ t, subscripted i false (.ref a) (.int k t) = operate [.ref a, .int k t] (getItem (.ref a) (.int k t)) := by intro _; with_unfolding_all rfl) : Ev C A env ρ H (.Subscript o i pos) v :=
  W.Subscript (W.mono h1 (by
    rintro x _ _ ⟨rfl, rfl, e⟩
    refine h2.then fun y e' => ?_
    cases ab_ref e
    obtain ⟨t, rfl⟩ := ab_int e'
    intro s hst
    obtain ⟨xs, q1, q2, q3⟩ := hst.list hH hl
    obtain ⟨y, y1, y2⟩ := arr_get q2 hx
    have hlt : k.toNat < vs.length := (List.getElem?_eq_some_iff.mp hx).1
    have hsl : (sizeLine : Int) < 2 ^ 63 := by decide
    exact tail_any q1.typeIs slot_list_getitem.lookup (wpAny_getItem_list q1 h0 (by omega) y1 ⟨_, _, hst, .refl .., rfl, rfl, y2⟩) (hs t)))
theorem Ev.titem {o i : Expr} {pos : Pos} {a : Addr} {vs : List V} {k : Int} {v : V} (h1 : Ev C A env ρ H o (.ref a)) (h2 : Ev C A env ρ H i (.int k)) (hH : H a = some (.tup vs)) (h0 : 0 ≤ k) (hx : vs[k.toNat]? = some v)
    (hs : ∀ t, subscripted i false (.ref a) (.int k t) = operate [.ref a, .int k t] (getItem (.ref a) (.int k t)) := by intro _; with_unfolding_all rfl) : Ev C A env ρ H (.Subscript o i pos) v :=
  W.Subscript (W.mono h1 (by
    rintro x _ _ ⟨rfl, rfl, e⟩
    refine h2.then fun y e' => ?_
    cases ab_ref e
    obtain ⟨t, rfl⟩ := ab_int e'
    intro s hst
    obtain ⟨xs, q1, q2, q3⟩ := hst.tup hH
    obtain ⟨y, y1, y2⟩ := arr_get q2 hx
    have hlt : k.toNat < vs.length := (List.getElem?_eq_some_iff.mp hx).1
    have hsl : (sizeLine : Int) < 2 ^ 63 := by decide
    refine item_tupleT (l := xs.toList) (by simpa using q1) (by omega) (by omega) (j := k.toNat) ?_ (by rw [Array.getElem?_toList]; exact y1) ⟨_, _, hst, .refl .., rfl, rfl, y2⟩ (hs t)
    have : xs.toList.length = vs.length := by rw [← q2]; simp
    unfold seqIndex?
    have h0' : ¬ k < 0 := by omega
    simp only [h0', if_false, this]
    rw [if_pos (by simp; omega)]))
end
end Mine

namespace Mine
open PySem PySem.W PyProof.Rows

inductive Fl where
  | next | brk | cont | ret (v : V)
def abF : Flow → Fl
  | .next => .next
  | .brk => .brk
  | .cont => .cont
  | .ret v => .ret (ab v)

def WE (C : Cx) (A : Around) (env : Env) (e : Expr) (ρ : Lo) (H : AH) (Q : V → AH → Prop) : Prop :=
  W C A env.locals (eval e env) ρ H (fun v ρ' H' => ρ' = ρ ∧ Q (ab v) H')
def WT (C : Cx) (A : Around) (env : Env) (e : Expr) (ρ : Lo) (H : AH) (Q : Bool → AH → Prop) : Prop :=
  W C A env.locals (isTrue e env (eval e env)) ρ H (fun b ρ' H' => ρ' = ρ ∧ Q b H')
def WS (C : Cx) (A : Around) (env : Env) (ss : List Stmt) (ρ : Lo) (H : AH) (Q : Fl → Lo → AH → Prop) : Prop :=
  W C A env.locals (execs ss env) ρ H (fun f ρ' H' => Q (abF f) ρ' H')
def W1 (C : Cx) (A : Around) (env : Env) (st : Stmt) (ρ : Lo) (H : AH) (Q : Fl → Lo → AH → Prop) : Prop :=
  W C A env.locals (exec st env) ρ H (fun f ρ' H' => Q (abF f) ρ' H')
def WCall (C : Cx) (A : Around) (f : V) (args : List V) (kw : List (Str × V)) (H : AH) (Q : V → AH → Prop) : Prop :=
  ∀ L ρ (fv : Value) (vals : List Value) (kvs : List (Str × Value)), ab fv = f → vals.map ab = args → kvs.map (fun p => (p.1, ab p.2)) = kw →
    W C A L (call fv vals kvs) ρ H (fun v ρ' H' => ρ' = ρ ∧ Q (ab v) H')
theorem WCall.mono {C : Cx} {A : Around} {f : V} {args : List V} {kw : List (Str × V)} {H : AH} {Q Q' : V → AH → Prop} (h : WCall C A f args kw H Q) (hq : ∀ v H', Q v H' → Q' v H') : WCall C A f args kw H Q' :=
  fun L ρ fv vals kvs a b c => W.mono (h L ρ fv vals kvs a b c) fun _ _ _ q => ⟨q.1, hq _ _ q.2⟩

section
variable {C : Cx} {A : Around} {env : Env} {ρ : Lo} {H : AH}

theorem WE.of {e : Expr} {v : V} {Q : V → AH → Prop} (h : Ev C A env ρ H e v) (q : Q v H) : WE C A env e ρ H Q := W.mono h (by rintro x _ _ ⟨rfl, rfl, rfl⟩; exact ⟨rfl, q⟩)
theorem WE.mono {e : Expr} {Q Q' : V → AH → Prop} (h : WE C A env e ρ H Q) (hq : ∀ v H', Q v H' → Q' v H') : WE C A env e ρ H Q' := W.mono h fun _ _ _ q => ⟨q.1, hq _ _ q.2⟩
theorem WE.ev {e : Expr} {v : V} (h : WE C A env e ρ H (fun v' H' => v' = v ∧ H' = H)) : Ev C A env ρ H e v := W.mono h (by rintro x _ _ ⟨rfl, rfl, rfl⟩; exact ⟨rfl, rfl, rfl⟩)
theorem WT.of {e : Expr} {b : Bool} {Q : Bool → AH → Prop} (h : EvT C A env ρ H e b) (q : Q b H) : WT C A env e ρ H Q := W.mono h (by rintro x _ _ ⟨rfl, rfl, rfl⟩; exact ⟨rfl, q⟩)
theorem WE.then {β : Type} {e : Expr} {f : Value → Sem β} {Q : β → Lo → AH → Prop} (h : WE C A env e ρ H (fun v H1 => ∀ x, ab x = v → W C A env.locals (f x) ρ H1 Q)) :
    W C A env.locals (eval e env) ρ H (fun x ρ1 H1 => W C A env.locals (f x) ρ1 H1 Q) := W.mono h (by rintro x _ _ ⟨rfl, q⟩; exact q x rfl)
theorem W1.mono {ss : Stmt} {Q Q' : Fl → Lo → AH → Prop} (h : W1 C A env ss ρ H Q) (hq : ∀ f ρ' H', Q f ρ' H' → Q' f ρ' H') : W1 C A env ss ρ H Q' := W.mono h fun _ _ _ q => hq _ _ _ q

theorem WS.nil {Q : Fl → Lo → AH → Prop} (h : Q .next ρ H) : WS C A env [] ρ H Q := fun s hs => wpAny_execs_nil ⟨ρ, H, hs, .refl .., h⟩
theorem WS.cons {st : Stmt} {rest : List Stmt} {Q : Fl → Lo → AH → Prop} (h : W1 C A env st ρ H (fun f ρ1 H1 => match f with | .next => WS C A env rest ρ1 H1 Q | f => Q f ρ1 H1)) : WS C A env (st :: rest) ρ H Q := fun s hs =>
  wpAny_execs_cons (wpAny_mono (h s hs) (fun f s' ⟨ρ', H', x, y, z⟩ => by
    cases f with
    | next => exact W.at z x y
    | brk => exact ⟨ρ', H', x, y, z⟩
    | cont => exact ⟨ρ', H', x, y, z⟩
    | ret v => exact ⟨ρ', H', x, y, z⟩) fun _ _ e => e)
/-- a statement that goes on -/
theorem WS.seq {st : Stmt} {rest : List Stmt} {Q : Fl → Lo → AH → Prop} (h : W1 C A env st ρ H (fun f ρ1 H1 => f = .next ∧ WS C A env rest ρ1 H1 Q)) : WS C A env (st :: rest) ρ H Q :=
  WS.cons (W1.mono h fun f ρ' H' q => by obtain ⟨rfl, q⟩ := q; exact q)

theorem W1.ret {e : Expr} {pos : Pos} {Q : Fl → Lo → AH → Prop} (h : WE C A env e ρ H (fun v H1 => Q (.ret v) ρ H1)) : W1 C A env (.Return (some e) pos) ρ H Q := fun s hs =>
  wpAny_Return_some (wpAny_mono (h s hs) (fun v s' ⟨ρ', H', x, y, z⟩ => ⟨ρ', H', x, y, by rw [z.1]; exact z.2⟩) fun _ _ e => e)
theorem W1.if {t : Expr} {b o : List Stmt} {pos : Pos} {Q : Fl → Lo → AH → Prop} (h : WT C A env t ρ H (fun c H1 => (c = true → WS C A env b ρ H1 Q) ∧ (c = false → WS C A env o ρ H1 Q))) : W1 C A env (.If t b o pos) ρ H Q := fun s hs =>
  wpAny_If (wpAny_mono (h s hs) (fun c s' ⟨ρ', H', x, y, z1, z2⟩ => by
    subst z1
    cases c with
    | true => exact W.at (z2.1 rfl) x y
    | false => exact W.at (z2.2 rfl) x y) fun _ _ e => e)

/-! ## stores -/
theorem W.storeLocal {x : Str} {v : Value} {Q : Unit → Lo → AH → Prop} (F : Fx C A env) (hl : env.kindOf x = some .local) (h : Q () (ρ.set x (ab v)) H) : W C A env.locals (storeName env x v) ρ H Q := fun s hs => by
  obtain ⟨m, hn, hm⟩ := hs.loc
  exact wpAny_storeName_local hl hn (fun h' hn' hsb => ⟨_, H, hs.store hm hn' hsb, .store hn' hsb, h⟩) (by simp [F.kind])
theorem W.storeCell {x : Str} {v : Value} {c : Addr} {o : Option V} {Q : Unit → Lo → AH → Prop} (F : Fx C A env) (hl : env.kindOf x = some .cell) (hc : env.cells.lookup x = some c) (hH : H c = some (.cell o)) (h : Q () ρ (H.set c (.cell (some (ab v))))) :
    W C A env.locals (storeName env x v) ρ H Q := fun s hs => by
  obtain ⟨u, h1, h2⟩ := hs.cell hH
  exact wpAny_storeName_cell F.kind hl hc h1 (fun h' hc' hsb => by
    obtain ⟨oc, e1, e2⟩ := hc'
    exact ⟨_, _, hs.upd (o := .cell (some (ab v))) hH rfl e1 ⟨some v, e2, rfl⟩ (fun b o hb e => hsb.extBut b o hb e), .upd hH e1 (fun b o hb e => hsb.extBut b o hb e), h⟩)

/-- what is drawn: a value, or a tuple of values -/
inductive Dv where
  | one (v : V) | tup (vs : List V)
def Dv.Is (h : Heap) : Dv → Value → Prop
  | .one v, x => ab x = v
  | .tup vs, x => ∃ T xs, x = .ref T ∧ IsTup h T xs ∧ xs.toList.map ab = vs

def Asg (C : Cx) (A : Around) (env : Env) (tgt : Expr) (d : Dv) (ρ : Lo) (H : AH) (Q : Lo → AH → Prop) : Prop :=
  ∀ s x, St C env.locals ρ H s.heap → d.Is s.heap x → wpAny C.M A (assign tgt env x) (Post C env.locals H s (fun _ => Q)) False2 s
def AsgL (C : Cx) (A : Around) (env : Env) (ts : List Expr) (vs : List V) (ρ : Lo) (H : AH) (Q : Lo → AH → Prop) : Prop :=
  match ts, vs with
  | [], [] => Q ρ H
  | t :: ts, v :: vs => Asg C A env t (.one v) ρ H (fun ρ1 H1 => AsgL C A env ts vs ρ1 H1 Q)
  | _, _ => False

theorem Asg.mono {tgt : Expr} {d : Dv} {Q Q' : Lo → AH → Prop} (h : Asg C A env tgt d ρ H Q) (hq : ∀ ρ' H', Q ρ' H' → Q' ρ' H') : Asg C A env tgt d ρ H Q' := fun s x hs hd =>
  wpAny_mono (h s x hs hd) (fun _ s' ⟨ρ', H', x, y, z⟩ => ⟨ρ', H', x, y, hq _ _ z⟩) fun _ _ e => e
theorem Asg.local {x : Str} {pos : Pos} {v : V} {Q : Lo → AH → Prop} (F : Fx C A env) (hl : env.kindOf x = some .local) (h : Q (ρ.set x v) H) : Asg C A env (.Name x pos) (.one v) ρ H Q := fun s y hs hd => by
  have e : ab y = v := hd
  subst e
  exact wpAny_assign_Name (W.storeLocal F hl h s hs)
theorem Asg.cell {x : Str} {pos : Pos} {v : V} {c : Addr} {o : Option V} {Q : Lo → AH → Prop} (F : Fx C A env) (hl : env.kindOf x = some .cell) (hc : env.cells.lookup x = some c) (hH : H c = some (.cell o)) (h : Q ρ (H.set c (.cell (some v)))) : Asg C A env (.Name x pos) (.one v) ρ H Q := fun s y hs hd => by
  have e : ab y = v := hd
  subst e
  exact wpAny_assign_Name (W.storeCell F hl hc hH h s hs)
theorem Asg.of_tup {tgt : Expr} {T : Addr} {ws : List V} {Q : Lo → AH → Prop} (hT : H T = some (.tup ws)) (h : Asg C A env tgt (.tup ws) ρ H Q) : Asg C A env tgt (.one (.ref T)) ρ H Q := fun s y hs hd => by
  refine h s y hs ?_
  obtain ⟨xs, h1, h2, _⟩ := hs.tup hT
  exact ⟨T, xs, ab_ref hd, h1, h2⟩
def noStar : List Expr → Bool
  | [] => true
  | .Starred _ _ :: _ => false
  | _ :: r => noStar r
theorem assignEach_plain : ∀ {ts : List Expr}, noStar ts = true → assignEach ts env = ts.map (fun t => (false, assign t env))
  | [], _ => rfl
  | t :: r, h => by
    have hr : noStar r = true := by
      unfold noStar at h; split at h <;> simp_all
    have e : assignEach (t :: r) env = (false, assign t env) :: assignEach r env := by
      cases t <;> first | rfl | (simp [noStar] at h)
    rw [e, assignEach_plain hr]; rfl
theorem Asg.inOrder : ∀ {ts : List Expr} {vs : List V} {ρ : Lo} {H : AH} {Q : Lo → AH → Prop} (xs : List Value), xs.map ab = vs → AsgL C A env ts vs ρ H Q →
    W C A env.locals (assignInOrder (ts.map fun t => assign t env) xs) ρ H (fun _ => Q)
  | [], [], _, _, _, [], _, h => W.pure h
  | [], _ :: _, _, _, _, _, _, h => h.elim
  | _ :: _, [], _, _, _, _, _, h => h.elim
  | t :: ts, v :: vs, ρ, H, Q, x :: xs, e, h => by
    simp only [List.map_cons, List.cons.injEq] at e
    show W C A env.locals (holding xs (assign t env x) >>= fun _ => assignInOrder (ts.map fun t => assign t env) xs) ρ H _
    refine W.bind (W.holding (fun s hs => ?_))
    exact wpAny_mono (h s x hs e.1) (fun _ s' ⟨ρ', H', a, b, c⟩ => ⟨ρ', H', a, b, Asg.inOrder xs e.2 c⟩) fun _ _ e => e
theorem Asg.tuple {ts : List Expr} {k : Nat} {pos : Pos} {vs : List V} {Q : Lo → AH → Prop} (F : Fx C A env) (hst : noStar ts = true) (hlen : ts.length = vs.length) (h : AsgL C A env ts vs ρ H Q) : Asg C A env (.Tuple ts k pos) (.tup vs) ρ H Q := fun s x hs hd => by
  obtain ⟨T, xs, rfl, hT, e⟩ := hd
  have hsz : xs.size = vs.length := by rw [← e]; simp
  refine assign_Tuple_tuple F.hh hT (by rw [assignEach_plain hst, List.length_map, hlen, hsz]) (by rw [assignEach_plain hst]; simp) fun h' hx => ?_
  have k : ∀ b o, s.heap.get? b = some o → h'.get? b = some o := fun b o eb => hx b o (Nat.ne_of_lt (Heap.lt_size eb)) eb
  have := Asg.inOrder (C := C) (A := A) (env := env) xs.toList e h
  rw [assignEach_plain hst, List.map_map]
  exact this.at (hs.ext k) (.ext k)
end
end Mine

namespace Mine
open PySem PySem.W PyProof.Rows

section
variable {C : Cx} {A : Around} {env : Env} {ρ : Lo} {H : AH}



/-! ## assignment statements -/
theorem W1.asg {tgt e : Expr} {pos : Pos} {Q : Fl → Lo → AH → Prop} (h : WE C A env e ρ H (fun v H1 => Asg C A env tgt (.one v) ρ H1 (fun ρ2 H2 => Q .next ρ2 H2)))
    (hs : swapsWithSole [tgt] e pos.line env = pure false := by rfl) (hw : swappedStores [tgt] e env = pure none := by rfl) (hn : noStar [tgt] = true := by rfl) : W1 C A env (.Assign [tgt] e pos) ρ H Q := by
  show W C A env.locals (standAt pos >>= fun _ => swapsWithSole [tgt] e pos.line env >>= fun b => if b then (evalThenUse e env (fun v => assignAll v ((assignEach [tgt] env).map (·.2))) >>= fun _ => pure .next) else
    (eval e env >>= fun v => swappedStores [tgt] e env >>= fun sw => assignStores env v sw ((assignEach [tgt] env).map (·.2)))) ρ H _
  refine W.bind (W.standAt ?_)
  rw [hs]
  refine W.bind (W.pure ?_)
  rw [if_neg Bool.false_ne_true]
  refine W.bind (WE.then (WE.mono h fun v H1 k x ex => ?_))
  rw [hw, assignEach_plain hn]
  refine W.bind (W.pure ?_)
  show W C A env.locals (assign tgt env x >>= fun _ => pure Flow.next) ρ H1 _
  refine W.bind (fun s hs => wpAny_mono (k s x hs ex) (fun _ s' ⟨ρ', H', a, b, c⟩ => ⟨ρ', H', a, b, W.pure c⟩) fun _ _ e => e)

theorem W1.asgLocal {x : Str} {p pos : Pos} {e : Expr} {Q : Fl → Lo → AH → Prop} (F : Fx C A env) (hl : env.kindOf x = some .local) (h : WE C A env e ρ H (fun v H1 => Q .next (ρ.set x v) H1))
    (hs : swapsWithSole [.Name x p] e pos.line env = pure false := by rfl) (hw : swappedStores [.Name x p] e env = pure none := by rfl) : W1 C A env (.Assign [.Name x p] e pos) ρ H Q :=
  W1.asg (WE.mono h fun v H1 q => Asg.local F hl q) hs hw rfl

theorem W1.asg2 {t₁ t₂ e : Expr} {pos : Pos} {Q : Fl → Lo → AH → Prop} (h : WE C A env e ρ H (fun v H1 => Asg C A env t₁ (.one v) ρ H1 (fun ρ2 H2 => Asg C A env t₂ (.one v) ρ2 H2 (fun ρ3 H3 => Q .next ρ3 H3))))
    (he : (assignEach [t₁, t₂] env).map (·.2) = [assign t₁ env, assign t₂ env] := by rfl) (hw : swappedStores [t₁, t₂] e env = pure none := by rfl) : W1 C A env (.Assign [t₁, t₂] e pos) ρ H Q := fun s hs => by
  refine wpAny_Assign_two ?_ he hw
  refine wpAny_mono (h s hs) (fun v s1 ⟨ρ1, H1, a1, b1, c1, d1⟩ => ?_) fun _ _ e => e
  subst c1
  refine wpAny_mono (d1 s1 v a1 rfl) (fun _ s2 ⟨ρ2, H2, a2, b2, c2⟩ => ?_) fun _ _ e => e
  exact wpAny_mono (c2 s2 v a2 rfl) (fun _ s3 ⟨ρ3, H3, a3, b3, c3⟩ => ⟨ρ3, H3, a3, (b1.trans b2 (fun _ _ => a2.nl)).trans b3 (fun _ _ => a3.nl), c3⟩) fun _ _ e => e

/-! ## argument lists, displays -/
def WEs (C : Cx) (A : Around) (env : Env) : List Expr → Lo → AH → (List V → AH → Prop) → Prop
  | [], _, H, Q => Q [] H
  | e :: es, ρ, H, Q => WE C A env e ρ H (fun v H1 => WEs C A env es ρ H1 (fun vs H2 => Q (v :: vs) H2))
theorem starEach_plain : ∀ {es : List Expr}, noStar es = true → starEach es env = es.map fun e => (false, eval e env)
  | [], _ => rfl
  | t :: r, h => by
    have hr : noStar r = true := by
      unfold noStar at h; split at h <;> simp_all
    have e : starEach (t :: r) env = (false, eval t env) :: starEach r env := by
      cases t <;> first | rfl | (simp [noStar] at h)
    rw [e, starEach_plain hr]; rfl
theorem backTo_plain {pos : Pos} {es : List Expr} (h : noStar es = true) : backTo pos (starEach es env) = es.map fun e => (false, eval e env) := by
  rw [starEach_plain h]
  unfold backTo
  rw [List.map_map]
  rfl
theorem WEs.run : ∀ {es : List Expr} {ρ : Lo} {H : AH} {Q : List V → AH → Prop}, WEs C A env es ρ H Q → W C A env.locals (spliced (es.map fun e => (false, eval e env))) ρ H (fun vs ρ' H' => ρ' = ρ ∧ Q (vs.map ab) H')
  | [], ρ, H, Q, h => W.pure ⟨rfl, h⟩
  | e :: es, ρ, H, Q, h => fun s hs => PySem.Calls.spliced_cons (wpAny_mono (h s hs) (fun v s1 ⟨ρ1, H1, a1, b1, c1, d1⟩ => by
      subst c1
      exact wpAny_mono (WEs.run d1 s1 a1) (fun vs s2 ⟨ρ2, H2, a2, b2, c2, d2⟩ => ⟨ρ2, H2, a2, b1.trans b2 (fun _ _ => a2.nl), c2, d2⟩) fun _ _ e => e) fun _ _ e => e)
theorem WEs.mono : ∀ {es : List Expr} {ρ : Lo} {H : AH} {Q Q' : List V → AH → Prop}, WEs C A env es ρ H Q → (∀ vs H', Q vs H' → Q' vs H') → WEs C A env es ρ H Q'
  | [], _, _, _, _, h, k => k _ _ h
  | _ :: es, _, _, _, _, h, k => WE.mono h fun _ _ q => WEs.mono q fun _ _ r => k _ _ r
/-- all pure -/
inductive Evs (C : Cx) (A : Around) (env : Env) (ρ : Lo) (H : AH) : List Expr → List V → Prop
  | nil : Evs C A env ρ H [] []
  | cons {e : Expr} {es : List Expr} {v : V} {vs : List V} : Ev C A env ρ H e v → Evs C A env ρ H es vs → Evs C A env ρ H (e :: es) (v :: vs)
theorem WEs.of {es : List Expr} {vs : List V} {Q : List V → AH → Prop} (h : Evs C A env ρ H es vs) (q : Q vs H) : WEs C A env es ρ H Q := by
  induction h generalizing Q with
  | nil => exact q
  | cons h1 _ ih => exact WE.of h1 (ih q)

theorem WE.list {es : List Expr} {pos : Pos} {Q : V → AH → Prop} (hn : noStar es = true) (hlen : es.length ≤ 1000) (h : WEs C A env es ρ H (fun vs H1 => ∀ a, H1 a = none → Q (.ref a) (H1.set a (.list vs)))) : WE C A env (.List es pos) ρ H Q := fun s hs => by
  refine wpAny_List ?_
  rw [backTo_plain hn]
  have hl : ∀ {es : List Expr} {ρ : Lo} {H : AH} {Q : List V → AH → Prop}, WEs C A env es ρ H Q → WEs C A env es ρ H (fun vs H' => vs.length = es.length ∧ Q vs H') := by
    intro es
    induction es with
    | nil => intro ρ H Q h; exact ⟨rfl, h⟩
    | cons e es ih => intro ρ H Q h; exact WE.mono h fun v H1 q => WEs.mono (ih q) fun vs H2 r => ⟨by simp [r.1], r.2⟩
  refine wpAny_mono (WEs.run (hl h) s hs) (fun vs s1 ⟨ρ1, H1, a1, b1, c1, d1⟩ => ?_) fun _ _ e => e
  subst c1
  obtain ⟨d0, d1⟩ := d1
  rw [List.length_map] at d0
  have hz : vs.length ≤ sizeLine := by rw [d0]; exact Nat.le_trans hlen (by decide)
  have ha := get?_size_none s1.heap
  refine ⟨hz, _, _, a1.alloc (o := .list (vs.map ab)) ha (Heap.get?_push_size _ rfl) ⟨vs.toArray, 0, rfl, rfl, by simpa using hz⟩ (fun b o e => Heap.get?_push_of_some _ e), ?_, rfl, d1 _ (a1.fresh ha).1⟩
  exact b1.trans (Step.alloc (tk := s1.toks) ha (fun b o e => Heap.get?_push_of_some _ e)) (fun _ _ => by rw [AH.set_ne _ _ (Ne.symm (a1.fresh ha).2.2)]; exact a1.nl)

theorem WE.tuple {es : List Expr} {k : Nat} {pos : Pos} {Q : V → AH → Prop} (hn : noStar es = true) (hlen : es.length ≤ 1000) (h : WEs C A env es ρ H (fun vs H1 => ∀ a, H1 a = none → Q (.ref a) (H1.set a (.tup vs)))) : WE C A env (.Tuple es k pos) ρ H Q := fun s hs => by
  refine wpAny_Tuple ?_
  rw [backTo_plain hn]
  have hl : ∀ {es : List Expr} {ρ : Lo} {H : AH} {Q : List V → AH → Prop}, WEs C A env es ρ H Q → WEs C A env es ρ H (fun vs H' => vs.length = es.length ∧ Q vs H') := by
    intro es
    induction es with
    | nil => intro ρ H Q h; exact ⟨rfl, h⟩
    | cons e es ih => intro ρ H Q h; exact WE.mono h fun v H1 q => WEs.mono (ih q) fun vs H2 r => ⟨by simp [r.1], r.2⟩
  refine wpAny_mono (WEs.run (hl h) s hs) (fun vs s1 ⟨ρ1, H1, a1, b1, c1, d1⟩ => ?_) fun _ _ e => e
  subst c1
  obtain ⟨d0, d1⟩ := d1
  rw [List.length_map] at d0
  have hz : vs.length ≤ sizeLine := by rw [d0]; exact Nat.le_trans hlen (by decide)
  have ha := get?_size_none s1.heap
  refine ⟨hz, _, _, a1.alloc (o := .tup (vs.map ab)) ha (Heap.get?_push_size _ rfl) ⟨vs.toArray, 0, rfl, rfl, by simpa using hz⟩ (fun b o e => Heap.get?_push_of_some _ e), ?_, rfl, d1 _ (a1.fresh ha).1⟩
  exact b1.trans (Step.alloc (tk := s1.toks) ha (fun b o e => Heap.get?_push_of_some _ e)) (fun _ _ => by rw [AH.set_ne _ _ (Ne.symm (a1.fresh ha).2.2)]; exact a1.nl)

/-! a tuple display unpacked at once: the tuple is not tracked -/
theorem WEs.hidden {es : List Expr} {k : Nat} {pos : Pos} {s : Shared} {R : List V → AH → Prop} (hn : noStar es = true) (hlen : es.length ≤ 1000) (hs : St C env.locals ρ H s.heap) (h : WEs C A env es ρ H R) {Q : Value → Shared → Prop}
    (hq : ∀ T (xs : Array Value) s1 H1, IsTup s1.heap T xs → St C env.locals ρ H1 s1.heap → Step env.locals H H1 s s1 → xs.size = es.length → R (xs.toList.map ab) H1 → Q (.ref T) s1) :
    wpAny C.M A (eval (.Tuple es k pos) env) Q False2 s := by
  refine wpAny_Tuple ?_
  rw [backTo_plain hn]
  have hl : ∀ {es : List Expr} {ρ : Lo} {H : AH} {Q : List V → AH → Prop}, WEs C A env es ρ H Q → WEs C A env es ρ H (fun vs H' => vs.length = es.length ∧ Q vs H') := by
    intro es
    induction es with
    | nil => intro ρ H Q h; exact ⟨rfl, h⟩
    | cons e es ih => intro ρ H Q h; exact WE.mono h fun v H1 q => WEs.mono (ih q) fun vs H2 r => ⟨by simp [r.1], r.2⟩
  refine wpAny_mono (WEs.run (hl h) s hs) (fun vs s1 ⟨ρ1, H1, a1, b1, c1, d1⟩ => ?_) fun _ _ e => e
  subst c1
  obtain ⟨d0, d1⟩ := d1
  rw [List.length_map] at d0
  have hz : vs.length ≤ sizeLine := by rw [d0]; exact Nat.le_trans hlen (by decide)
  have k' : ∀ b o, s1.heap.get? b = some o → (s1.heap.push { cls := .type "tuple", data := .seq vs.toArray }).get? b = some o := fun b o e => Heap.get?_push_of_some _ e
  refine ⟨hz, hq _ vs.toArray _ H1 ⟨_, Heap.get?_push_size _ rfl, rfl, _, rfl⟩ (a1.ext k') (b1.trans (Step.ext (tk := s1.toks) k') (fun _ _ => a1.nl)) (by simp [d0]) d1⟩

theorem W1.asgTup {ts es : List Expr} {k k' : Nat} {p p' pos : Pos} {Q : Fl → Lo → AH → Prop} (F : Fx C A env) (h : WEs C A env es ρ H (fun vs H1 => AsgL C A env ts vs ρ H1 (fun ρ2 H2 => Q .next ρ2 H2)))
    (hs : swapsWithSole [.Tuple ts k p] (.Tuple es k' p') pos.line env = pure false := by rfl) (hw : swappedStores [.Tuple ts k p] (.Tuple es k' p') env = pure none := by rfl) (hn : noStar es = true := by rfl) (hnt : noStar ts = true := by rfl) (hlen : es.length = ts.length := by rfl) (hl : es.length ≤ 1000 := by decide) :
    W1 C A env (.Assign [.Tuple ts k p] (.Tuple es k' p') pos) ρ H Q := fun s hs' => by
  refine Assign_Tuple ?_ hs hw
  refine WEs.hidden hn hl hs' h fun T xs s1 H1 hT a1 b1 hz r => ?_
  refine wpAny_mono (Asg.tuple F hnt (by simp [← hlen, ← hz]) r s1 (.ref T) a1 ⟨T, xs, rfl, hT, rfl⟩) (fun _ s2 ⟨ρ2, H2, a2, b2, c2⟩ => ⟨ρ2, H2, a2, b1.trans b2 (fun _ _ => a2.nl), c2⟩) fun _ _ e => e

/-- names stored in exchanged order -/
def StL (ns : List Str) (vs : List V) (ρ : Lo) : Lo := match ns, vs with
  | n :: ns, v :: vs => StL ns vs (ρ.set n v)
  | _, _ => ρ

/-! ## expression statements -/
theorem W1.expr {e : Expr} {pos : Pos} {Q : Fl → Lo → AH → Prop} (F : Fx C A env) (h : WE C A env e ρ H (fun v H1 => (∀ a, v ≠ .ref a) ∧ Q .next ρ H1)) (hs : swapsWith e none pos.line env = pure false := by rfl) : W1 C A env (.Expr e pos) ρ H Q := fun s hs' => by
  refine wpAny_Expr (wpAny_mono (h s hs') (fun v s1 ⟨ρ1, H1, a1, b1, c1, d1, d2⟩ => ?_) fun _ _ e => e) (by simp [interactive, F.kind]) hs
  subst c1
  cases v <;> first | exact ⟨ρ1, H1, a1, b1, d2⟩ | exact absurd rfl (d1 _)
end
end Mine

namespace Mine
open PySem PySem.W PyProof.Rows

section
variable {C : Cx} {A : Around} {env : Env} {ρ : Lo} {H : AH}

/-! ## calls by a name -/
def FnAt (C : Cx) (H : AH) (a : Addr) (o : Obj) (fd : FuncData) : Prop := o.data = .func fd ∧ (C.base.get? a = some o ∨ (H a = some (.fn fd) ∧ o = { cls := .type "function", data := .func fd }))
theorem FnAt.obj {a : Addr} {o : Obj} {fd : FuncData} {L : Addr} {h : Heap} (f : FnAt C H a o fd) (hs : St C L ρ H h) : h.get? a = some o ∧ o.data = .func fd := by
  obtain ⟨e, e1 | ⟨e1, rfl⟩⟩ := f
  · exact ⟨hs.keep _ _ e1, e⟩
  · exact ⟨hs.func e1, e⟩

def kwOf (ks : List Keyword) : List Expr := ks.map (·.value)
def kwNames (ks : List Keyword) : List (Option Str) := ks.map (·.arg)
def WKs (C : Cx) (A : Around) (env : Env) : List Keyword → Lo → AH → (List (Str × V) → AH → Prop) → Prop
  | [], _, H, Q => Q [] H
  | ⟨some n, e, _⟩ :: ks, ρ, H, Q => WE C A env e ρ H (fun v H1 => WKs C A env ks ρ H1 (fun vs H2 => Q ((n, v) :: vs) H2))
  | ⟨none, _, _⟩ :: _, _, _, _ => False
theorem WKs.nil {Q : List (Str × V) → AH → Prop} (h : Q [] H) : WKs C A env [] ρ H Q := h
theorem WKs.run {pos : Pos} : ∀ {ks : List Keyword} {ρ : Lo} {H : AH} {Q : List (Str × V) → AH → Prop}, WKs C A env ks ρ H Q →
    W C A env.locals (evalAll ((backToKw pos (keywordEach ks env)).map (·.2))) ρ H (fun vs ρ' H' => ρ' = ρ ∧ Q ((((backToKw pos (keywordEach ks env)).filterMap (·.1)).zip vs).map fun p => (p.1, ab p.2)) H')
  | [], ρ, H, Q, h => W.pure ⟨rfl, h⟩
  | ⟨none, e, p⟩ :: ks, ρ, H, Q, h => h.elim
  | ⟨some n, e, p⟩ :: ks, ρ, H, Q, h => fun s hs => by
    show wpAny C.M A (evalAll ((do let v ← eval e env; standAt pos; pure v) :: (backToKw pos (keywordEach ks env)).map (·.2))) _ _ s
    refine wpAny_evalAll_cons (wpAny_bind (wpAny_mono (h s hs) (fun v s1 ⟨ρ1, H1, a1, b1, c1, d1⟩ => ?_) fun _ _ e => e))
    subst c1
    refine wpAny_bind (wpAny_standAt (wpAny_pure ?_))
    exact wpAny_mono (WKs.run (pos := pos) d1 s1 a1) (fun vs s2 ⟨ρ2, H2, a2, b2, c2, d2⟩ => ⟨ρ2, H2, a2, b1.trans b2 (fun _ _ => a2.nl), c2, d2⟩) fun _ _ e => e
theorem WKs.all {pos : Pos} : ∀ {ks : List Keyword} {ρ : Lo} {H : AH} {Q : List (Str × V) → AH → Prop}, ks.all (·.arg.isSome) = true → (backToKw pos (keywordEach ks env)).all (·.1.isSome) = true
  | [], _, _, _, _ => rfl
  | ⟨none, e, p⟩ :: ks, _, _, _, h => by simp at h
  | ⟨some n, e, p⟩ :: ks, ρ, H, Q, h => by
    have := WKs.all (pos := pos) (ks := ks) (ρ := ρ) (H := H) (Q := Q) (by simpa using h)
    simpa [backToKw, keywordEach] using this

theorem evalArgs_run {f : Value} {pos : Pos} {es : List Expr} {ks : List Keyword} {Q : List V → List (Str × V) → AH → Prop} (hn : noStar es = true) (hk : ks.all (·.arg.isSome) = true) (h : WEs C A env es ρ H (fun vs H1 => WKs C A env ks ρ H1 (fun kv H2 => Q vs kv H2))) :
    W C A env.locals (evalArgs f true (backTo pos (starEach es env)) (backToKw pos (keywordEach ks env))) ρ H (fun a ρ' H' => ρ' = ρ ∧ Q (a.pos.map ab) (a.kw.map fun p => (p.1, ab p.2)) H') := fun s hs => by
  have hall := WKs.all (env := env) (pos := pos) (ks := ks) (ρ := ρ) (H := H) (Q := fun _ _ => True) hk
  rw [backTo_plain hn]
  cases es with
  | nil =>
    refine evalArgs_kw_nil hall ?_
    exact wpAny_mono (WKs.run (pos := pos) h s hs) (fun vs s2 ⟨ρ2, H2, a2, b2, c2, d2⟩ => ⟨ρ2, H2, a2, b2, c2, d2⟩) fun _ _ e => e
  | cons e es =>
    refine evalArgs_kw hall ?_
    refine wpAny_mono (WEs.run h s hs) (fun vs s1 ⟨ρ1, H1, a1, b1, c1, d1⟩ => ?_) fun _ _ e => e
    subst c1
    exact wpAny_mono (WKs.run (pos := pos) d1 s1 a1) (fun vs s2 ⟨ρ2, H2, a2, b2, c2, d2⟩ => ⟨ρ2, H2, a2, b1.trans b2 (fun _ _ => a2.nl), c2, d2⟩) fun _ _ e => e

theorem WE.callFn {id : Str} {p pos : Pos} {a : Addr} {o : Obj} {fd : FuncData} {es : List Expr} {ks : List Keyword} {Q : V → AH → Prop} (hf : Ev C A env ρ H (.Name id p) (.ref a))
    (h : WEs C A env es ρ H (fun vs H1 => WKs C A env ks ρ H1 (fun kv H2 => FnAt C H2 a o fd ∧ WCall C A (.ref a) vs kv H2 Q))) (hn : noStar es = true := by rfl) (hk : ks.all (·.arg.isSome) = true := by rfl) :
    WE C A env (.Call (.Name id p) es ks pos) ρ H Q := fun s hs => by
  refine wpAny_Call_Name_kw ?_
  refine wpAny_mono (hf s hs) (fun f s1 ⟨ρ1, H1, a1, b1, c1, c2, c3⟩ => ?_) fun _ _ e => e
  subst c1 c2
  cases ab_ref c3
  refine callWith_function_kw (o := o) (fd := fd) ?_
  refine wpAny_mono (evalArgs_run hn hk h s1 a1) (fun x s2 ⟨ρ2, H2, a2, b2, c2, hfn, d2⟩ => ⟨hfn.obj a2, ?_⟩) fun _ _ e => e
  subst c2
  exact wpAny_mono (d2 env.locals ρ2 (.ref a) x.pos x.kw rfl rfl rfl s2 a2) (fun v s3 ⟨ρ3, H3, a3, b3, c3, d3⟩ => ⟨ρ3, H3, a3, (b1.trans b2 (fun _ _ => a2.nl)).trans b3 (fun _ _ => a3.nl), c3, d3⟩) fun _ _ e => e

theorem backTo_any {pos : Pos} {es : List Expr} (h : noStar es = true) : (backTo pos (starEach es env)).any (·.1) = false := by
  rw [backTo_plain h]; induction es with
  | nil => rfl
  | cons e es ih =>
    have : noStar es = true := by unfold noStar at h; split at h <;> simp_all
    simp
theorem WE.callBi {id : Str} {p pos : Pos} {b : String} {es : List Expr} {ks : List Keyword} {Q : V → AH → Prop} (hf : Ev C A env ρ H (.Name id p) (.bi b))
    (h : WEs C A env es ρ H (fun vs H1 => WKs C A env ks ρ H1 (fun kv H2 => WCall C A (.bi b) vs kv H2 Q))) (hn : noStar es = true := by rfl) (hk : ks.all (·.arg.isSome) = true := by rfl) :
    WE C A env (.Call (.Name id p) es ks pos) ρ H Q := fun s hs => by
  refine wpAny_Call_Name_kw ?_
  refine wpAny_mono (hf s hs) (fun f s1 ⟨ρ1, H1, a1, b1, c1, c2, c3⟩ => ?_) fun _ _ e => e
  subst c1 c2
  cases ab_bi c3
  have hall := WKs.all (env := env) (pos := pos) (ks := ks) (ρ := ρ1) (H := H1) (Q := fun _ _ => True) hk
  refine callWith_builtin_kwB (backTo_any hn) ?_ ?_
  · rw [List.any_eq_false]
    intro x hx
    have := List.all_eq_true.mp hall x hx
    cases hx1 : x.1 <;> simp_all
  refine wpAny_mono (evalArgs_run hn hk h s1 a1) (fun x s2 ⟨ρ2, H2, a2, b2, c2, d2⟩ => ?_) fun _ _ e => e
  subst c2
  exact wpAny_mono (d2 env.locals ρ2 (.builtin b) x.pos x.kw rfl rfl rfl s2 a2) (fun v s3 ⟨ρ3, H3, a3, b3, c3, d3⟩ => ⟨ρ3, H3, a3, (b1.trans b2 (fun _ _ => a2.nl)).trans b3 (fun _ _ => a3.nl), c3, d3⟩) fun _ _ e => e
theorem WE.callTy {id : Str} {p pos : Pos} {b : String} {es : List Expr} {Q : V → AH → Prop} (hf : Ev C A env ρ H (.Name id p) (.ty b))
    (h : WEs C A env es ρ H (fun vs H1 => WCall C A (.ty b) vs [] H1 Q)) (hn : noStar es = true := by rfl) :
    WE C A env (.Call (.Name id p) es [] pos) ρ H Q := fun s hs => by
  refine wpAny_Call_Name_kw ?_
  refine wpAny_mono (hf s hs) (fun f s1 ⟨ρ1, H1, a1, b1, c1, c2, c3⟩ => ?_) fun _ _ e => e
  subst c1 c2
  cases ab_ty c3
  refine PySem.callWith_type (backTo_any hn) ?_
  refine wpAny_mono (evalArgs_run (ks := []) (Q := fun vs kv H2 => kv = [] ∧ WCall C A (.ty b) vs [] H2 Q) hn rfl (WEs.mono h fun vs H1 q => ⟨rfl, q⟩) s1 a1) (fun x s2 ⟨ρ2, H2, a2, b2, c2, d1, d2⟩ => ?_) fun _ _ e => e
  subst c2
  have hkw : x.kw = [] := by simpa using d1
  rw [hkw]
  exact wpAny_mono (d2 env.locals ρ2 (.type b) x.pos [] rfl rfl rfl s2 a2) (fun v s3 ⟨ρ3, H3, a3, b3, c3, d3⟩ => ⟨ρ3, H3, a3, (b1.trans b2 (fun _ _ => a2.nl)).trans b3 (fun _ _ => a3.nl), c3, d3⟩) fun _ _ e => e

theorem vals1 {vals : List Value} {a : V} (e : vals.map ab = [a]) : ∃ x, vals = [x] ∧ ab x = a := by
  cases vals with
  | nil => simp at e
  | cons x r => cases r with
    | nil => simp at e; exact ⟨x, rfl, e⟩
    | cons => simp at e
theorem vals2 {vals : List Value} {a b : V} (e : vals.map ab = [a, b]) : ∃ x y, vals = [x, y] ∧ ab x = a ∧ ab y = b := by
  cases vals with
  | nil => simp at e
  | cons x r =>
    simp only [List.map_cons, List.cons.injEq] at e
    obtain ⟨y, rfl, h⟩ := vals1 e.2
    exact ⟨x, y, rfl, e.1, h⟩
theorem vals3 {vals : List Value} {a b c : V} (e : vals.map ab = [a, b, c]) : ∃ x y z, vals = [x, y, z] ∧ ab x = a ∧ ab y = b ∧ ab z = c := by
  cases vals with
  | nil => simp at e
  | cons x r =>
    simp only [List.map_cons, List.cons.injEq] at e
    obtain ⟨y, z, rfl, h⟩ := vals2 e.2
    exact ⟨x, y, z, rfl, e.1, h⟩

/-! ## methods of lists -/
theorem WE.listMeth {o : Expr} {name : Str} {id : String} {apos pos : Pos} {es : List Expr} {Q : V → AH → Prop} (slot : Slot "list" name id) (hty : typeOf (.builtin id) = pure (.type "method_descriptor"))
    (h : WE C A env o ρ H (fun v H1 => ∃ a vs, v = .ref a ∧ H1 a = some (.list vs) ∧ WEs C A env es ρ H1 (fun ws H2 => WCall C A (.bi id) (.ref a :: ws) [] H2 Q)))
    (hbase : attributeBase o name env (eval o env) = eval o env := by rfl) (hfew : ((backTo pos (starEach es env)).all (fun x => !x.1) && (backToKw pos (keywordEach [] env)).all (fun x => x.1.isSome) && decide (es.length + ([] : List Keyword).length + (if ([] : List Keyword).isEmpty then 0 else 1) < 30)) = true := by rfl)
    (hline : (apos.endLine == pos.line) = true := by rfl) (hn : noStar es = true := by rfl) : WE C A env (.Call (.Attribute o name apos) es [] pos) ρ H Q := fun s hs => by
  refine wpAny_Call_method hbase hfew hline PySem.F.plainAttrs_list slot hty ?_
  refine wpAny_mono (h s hs) (fun v s1 ⟨ρ1, H1, a1, b1, c1, a, vs, d1, d2, d3⟩ => ?_) fun _ _ e => e
  subst c1
  cases ab_ref d1
  obtain ⟨xs, ⟨n, e1⟩, e2, e3⟩ := a1.plist d2
  refine ⟨⟨_, e1, rfl⟩, fun b hb => ⟨_, by cases hb; exact e1, rfl⟩, ?_⟩
  refine PySem.Calls.callWith_builtin (backTo_any hn) ?_
  refine wpAny_mono (evalArgs_run (ks := []) (Q := fun ws kv H2 => kv = [] ∧ WCall C A (.bi id) (.ref a :: ws) [] H2 Q) hn rfl (WEs.mono d3 fun vs H1 q => ⟨rfl, q⟩) s1 a1) (fun x s2 ⟨ρ2, H2, a2, b2, c2, d1, d2⟩ => ?_) fun _ _ e => e
  subst c2
  have hkw : x.kw = [] := by simpa using d1
  rw [hkw]
  exact wpAny_mono (d2 env.locals ρ2 (.builtin id) (.ref a :: x.pos) [] rfl rfl rfl s2 a2) (fun v s3 ⟨ρ3, H3, a3, b3, c3, d3⟩ => ⟨ρ3, H3, a3, (b1.trans b2 (fun _ _ => a2.nl)).trans b3 (fun _ _ => a3.nl), c3, d3⟩) fun _ _ e => e


/-! ## built-in functions -/
theorem WCall.len {a : Addr} {o : O} {vs : List V} {Q : V → AH → Prop} (hH : H a = some o) (hl : lst o = some vs) (h : Q (.int vs.length) H) : WCall C A (.bi "len") [.ref a] [] H Q := by
  intro L ρ fv vals kvs e1 e2 e3
  cases ab_bi e1
  obtain ⟨x, rfl, ex⟩ := vals1 e2
  cases ab_ref ex
  have : kvs = [] := by simpa using e3
  subst this
  intro s hs
  obtain ⟨xs, h1, h2, h3⟩ := hs.list hH hl
  have hsl : (sizeLine : Int) < 2 ^ 63 := by decide
  refine len_list h1 (by rw [arr_size h2]; omega) ⟨ρ, H, hs, .toks, rfl, ?_⟩
  show Q (.int xs.size) H
  rw [arr_size h2]; exact h
/-- len(e) as a pure expression -/
theorem Ev.len {e : Expr} {p pos : Pos} {a : Addr} {o : O} {vs : List V} {id : Str} (hf : Ev C A env ρ H (.Name id p) (.bi "len")) (h : Ev C A env ρ H e (.ref a)) (hH : H a = some o) (hl : lst o = some vs) (hn : noStar [e] = true := by rfl) : Ev C A env ρ H (.Call (.Name id p) [e] [] pos) (.int vs.length) :=
  WE.ev (WE.callBi hf (WEs.of (.cons h .nil) (WKs.nil (WCall.len hH hl ⟨rfl, rfl⟩))) hn)
end
end Mine

namespace Mine
open PySem PySem.W PyProof.Rows

section
variable {C : Cx} {A : Around} {env : Env} {ρ : Lo} {H : AH}

/-! ## a def called -/
def retv : Fl → V
  | .ret v => v
  | _ => .none
def Keep (C : Cx) (s : Shared) : Prop := ∀ b o, C.base.get? b = some o → s.heap.get? b = some o
theorem lookup_ab (x : Str) (l : List (Str × Value)) : (l.lookup x).map ab = (l.map fun p => (p.1, ab p.2)).lookup x := by
  induction l with
  | nil => rfl
  | cons p r ih =>
    obtain ⟨n, v⟩ := p
    rw [List.map_cons, List.lookup_cons, List.lookup_cons]
    cases x == n
    · exact ih
    · rfl
/-- the frame left -/
theorem St.back {L L' : Addr} {s s1 s' : Shared} {ρ' : Lo} {H1 H' : AH} (hs : St C L ρ H s.heap) (hk : ∀ b o, s.heap.get? b = some o → s1.heap.get? b = some o) (hL' : s.heap.get? L' = none) (h1 : ∀ b o, s.heap.get? b = some o → H b = none → H1 b = none) (x : St C L' ρ' H' s'.heap) (y : Step L' H1 H' s1 s') :
    St C L ρ H' s'.heap ∧ (∀ b o, s.heap.get? b = some o → H b = none → s'.heap.get? b = some o) ∧ (∀ b o, s.heap.get? b = some o → H b = none → H' b = none) ∧ (∀ b o, s.heap.get? b = some o → ∃ o', s'.heap.get? b = some o') := by
  obtain ⟨m, ⟨o, es, ep, ho, r⟩, hm⟩ := hs.loc
  have ne : ∀ b o, s.heap.get? b = some o → b ≠ L' := fun b o e q => by rw [q, hL'] at e; cases e
  have kept : ∀ b o, s.heap.get? b = some o → H b = none → s'.heap.get? b = some o := fun b o e eb => y.kept b o (hk b o e) (h1 b o e eb) (ne b o e)
  have new : ∀ b o, s.heap.get? b = some o → H b = none → H' b = none := fun b o e eb => y.new b o (hk b o e) (h1 b o e eb)
  exact ⟨⟨x.keep, x.rep, x.own, ⟨m, ⟨o, es, ep, kept L o ho hs.nl, r⟩, hm⟩, new L o ho hs.nl, hs.bl⟩, kept, new, fun b o e => y.live b o (hk b o e)⟩

theorem WCall.def {a : Addr} {o : Obj} {fd : FuncData} {body : List Stmt} {args : List V} {kw bs : List (Str × V)} {Q : V → AH → Prop} (hfn : FnAt C H a o fd) (hdep : A.depth < recursionLimit)
    (hb : fd.body = .stmts body) (hcell : ∀ x ∈ fd.scope.names, x.2 ≠ .cell) (hcd : ∀ h : Heap, (∀ b o, C.base.get? b = some o → h.get? b = some o) → h.CodeRec fd.code fd.qualname)
    (hbind : ∀ vals kvs, vals.map ab = args → kvs.map (fun p => (p.1, ab p.2)) = kw → ∃ binds, (∀ s, Keep C s → BindsTo s fd ⟨vals, kvs⟩ binds) ∧ binds.map (fun p => (p.1, ab p.2)) = bs)
    (hloc : ∀ x ∈ bs, fd.scope.names.lookup x.1 = some .local)
    (h : ∀ L, H L = none → WS C (A.deeper (callEnv fd L a)) (callEnv fd L a) body (fun y => bs.reverse.lookup y) H (fun f _ H' => Q (retv f) H'))
    (hco : fd.scope.isCoroutine = false := by rfl) (hgen : fd.scope.isGenerator = false := by rfl) (hk : fd.scope.kind = .function := by rfl) : WCall C A (.ref a) args kw H Q := by
  intro L ρ fv vals kvs e1 e2 e3
  cases ab_ref e1
  obtain ⟨binds, hbt, hbs⟩ := hbind vals kvs e2 e3
  intro s hs
  obtain ⟨ho, hd⟩ := hfn.obj hs
  have hnone := get?_size_none s.heap
  refine wpAny_call (codeAny_call_def hdep ho hd (C.lim.keeps hs.keep) (hcd _ hs.keep) hb (hbt s hs.keep) hcell (fun x hx => hloc (x.1, ab x.2) (by rw [← hbs]; exact List.mem_map.mpr ⟨x, hx, rfl⟩)) (fun h₀ hn hk0 => ?_) hco hgen hk)
  have hst : St C s.heap.objs.size (fun y => bs.reverse.lookup y) H h₀ := by
    refine ⟨fun b o e => hk0 _ _ (hs.keep b o e), fun a o e => let ⟨c, e1, e2⟩ := hs.rep a o e; ⟨c, hk0 _ _ e1, e2⟩, hs.own, ⟨_, hn, fun x => ?_⟩, (hs.fresh hnone).1, (hs.fresh hnone).2.1⟩
    rw [← hbs, ← List.map_reverse]
    exact lookup_ab x binds.reverse
  have henv : (callEnv fd s.heap.objs.size a).locals = s.heap.objs.size := rfl
  refine wpAny_mono (h s.heap.objs.size (hs.fresh hnone).1 { s with heap := h₀, toks := s.toks + binds.length } hst) (fun f s' ⟨ρ', H', x, y, z⟩ => ?_) fun _ _ e => e.elim
  obtain ⟨q1, q2, q3, q4⟩ := hs.back (s1 := { s with heap := h₀, toks := s.toks + binds.length }) (L' := s.heap.objs.size) hk0 hnone (fun _ _ _ e => e) x y
  refine ⟨ρ, H', q1, ⟨?_, fun b o e eb _ => q2 b o e eb, q3, q4⟩, rfl, by cases f <;> exact z⟩
  exact y.same

/-! with cells -/
def cellH (cm : Str → Option V) : List (Str × Addr) → AH → AH
  | [], H => H
  | (n, c) :: r, H => (cellH cm r H).set c (.cell (cm n))
theorem cellH_get {cm : Str → Option V} : ∀ {cs : List (Str × Addr)} {H : AH} {b : Addr}, (∀ p ∈ cs, p.2 ≠ b) → cellH cm cs H b = H b
  | [], _, _, _ => rfl
  | (n, c) :: r, H, b, h => by
    rw [cellH, AH.set_ne _ _ (Ne.symm (h (n, c) (List.mem_cons_self ..)))]
    exact cellH_get fun p hp => h p (List.mem_cons_of_mem _ hp)
theorem cellH_some {cm : Str → Option V} : ∀ {cs : List (Str × Addr)} {H : AH} {b : Addr} {o : O}, cellH cm cs H b = some o → (∃ n, (n, b) ∈ cs ∧ o = .cell (cm n)) ∨ H b = some o
  | [], _, _, _, h => .inr h
  | (n, c) :: r, H, b, o, h => by
    rw [cellH] at h
    by_cases q : b = c
    · subst q; rw [AH.set_same] at h; cases h; exact .inl ⟨n, List.mem_cons_self .., rfl⟩
    · rw [AH.set_ne _ _ q] at h
      rcases cellH_some h with ⟨m, hm, e⟩ | e
      · exact .inl ⟨m, List.mem_cons_of_mem _ hm, e⟩
      · exact .inr e


/-! ## while -/
theorem W1.while {t : Expr} {body : List Stmt} {pos : Pos} {Q : Fl → Lo → AH → Prop} (F : Fx C A env) (I : Nat → Lo → AH → Prop) (n : Nat) (h0 : I n ρ H)
    (turn : ∀ n ρ1 H1, I n ρ1 H1 → WT C A env t ρ1 H1 (fun c H2 => (c = true → WS C A env body ρ1 H2 (fun f ρ3 H3 => match f with | .next => ∃ m, m < n ∧ I m ρ3 H3 | .cont => ∃ m, m < n ∧ I m ρ3 H3 | .brk => Q .next ρ3 H3 | .ret v => Q (.ret v) ρ3 H3)) ∧ (c = false → Q .next ρ1 H2))) :
    W1 C A env (.While t body [] pos) ρ H Q := fun s hs => by
  refine wpAny_While ?_
  refine codeAny_whileLoop (fun k s' => ∃ ρ1 H1, St C env.locals ρ1 H1 s'.heap ∧ Step env.locals H H1 s s' ∧ I k ρ1 H1) ?_ n ⟨ρ, H, hs, .refl .., h0⟩
  rintro k s1 ⟨ρ1, H1, a1, b1, c1⟩
  refine wpAny_mono (turn k ρ1 H1 c1 s1 a1) (fun c s2 ⟨ρ2, H2, a2, b2, c2, d2⟩ => ?_) fun _ _ e => e.elim
  subst c2
  have b12 := b1.trans b2 (fun _ _ => a2.nl)
  cases c with
  | true =>
    refine wpAny_mono (d2.1 rfl s2 a2) (fun f s3 ⟨ρ3, H3, a3, b3, c3⟩ => ?_) fun _ _ e => e.elim
    have b13 := b12.trans b3 (fun _ _ => a3.nl)
    cases f with
    | next => obtain ⟨m, hm, hI⟩ := c3; exact ⟨m, hm, ρ3, H3, a3, b13, hI⟩
    | cont => obtain ⟨m, hm, hI⟩ := c3; exact ⟨m, hm, ρ3, H3, a3, b13, hI⟩
    | brk => exact ⟨ρ3, H3, a3, b13, c3⟩
    | ret v => exact ⟨ρ3, H3, a3, b13, c3⟩
  | false => exact wpAny_execs_nil ⟨ρ2, H2, a2, b12, d2.2 rfl⟩
end
end Mine

namespace Mine
open PySem PySem.W PyProof.Rows

/-! ## iterators (their own objects are not tracked) -/
def Drawn (C : Cx) (A : Around) (tgt : Expr) (I : Addr) (Q : Option Value → Shared → Prop) (r : Option Value) (s₁ : Shared) : Prop :=
  match r with
  | none => Q none s₁
  | some v => wpAny C.M A (letOwnedTupleGo tgt (.ref I) v) (fun _ s₂ => Q (some v) s₂) False2 s₁

def Off (C : Cx) (L : Addr) (H : AH) (wr : List Addr) : Prop := ∀ b ∈ wr, H b = none ∧ C.base.get? b = none ∧ b ≠ L

structure Itr (C : Cx) (A : Around) (I : Addr) (wr : List Addr) (tgt : Expr) (n : Nat) (Rr : Nat → Heap → Prop) (Ok : Nat → AH → Prop) (P : Nat → AH → Dv → Prop) : Prop where
  live : ∀ i h, Rr i h → ∀ b ∈ wr, ∃ o, h.get? b = some o
  frame : ∀ i h h', Rr i h → (∀ b ∈ wr, ∀ o, h.get? b = some o → h'.get? b = some o) → Rr i h'
  item : ∀ i (s : Shared) L ρ H (Q : Option Value → Shared → Prop), i < n → Rr i s.heap → St C L ρ H s.heap → Off C L H wr → Ok i H →
    (∀ v d h' tk, P i H d → d.Is h' v → St C L ρ H h' → Rr (i + 1) h' → (∀ b o, b ∉ wr → s.heap.get? b = some o → h'.get? b = some o) → Q (some v) { s with heap := h', toks := tk }) →
    wpAny C.M A (pyNext (.ref I)) (Drawn C A tgt I Q) False2 s
  done : ∀ (s : Shared) L ρ H (Q : Option Value → Shared → Prop), Rr n s.heap → St C L ρ H s.heap → Off C L H wr → Ok n H →
    (∀ h' tk, St C L ρ H h' → (∀ b o, b ∉ wr → s.heap.get? b = some o → h'.get? b = some o) → Q none { s with heap := h', toks := tk }) →
    wpAny C.M A (pyNext (.ref I)) (Drawn C A tgt I Q) False2 s
  self : ∀ i (s : Shared) (Q : Value → Shared → Prop), Rr i s.heap → Q (.ref I) s → wpAny C.M A (pyIter (.ref I)) Q False2 s

def WIt (C : Cx) (A : Around) (env : Env) (e tgt : Expr) (ρ : Lo) (H : AH) (K : AH → Nat → (Nat → AH → Prop) → (Nat → AH → Dv → Prop) → Prop) : Prop :=
  ∀ s : Shared, St C env.locals ρ H s.heap → ∀ Q : Value → Shared → Prop,
    (∀ H1 n Ok P I wr Rr s', K H1 n Ok P → Itr C A I wr tgt n Rr Ok P → Rr 0 s'.heap → St C env.locals ρ H1 s'.heap → Step env.locals H H1 s s' → (∀ b ∈ wr, s.heap.get? b = none ∧ H1 b = none) → Q (.ref I) s') →
    wpAny C.M A (eval e env) (fun x s₁ => wpAny C.M A (pyIter x) Q False2 s₁) False2 s

section
variable {C : Cx} {A : Around} {env : Env} {ρ : Lo} {H : AH}

theorem St.offL {L : Addr} {h h' : Heap} {wr : List Addr} (x : St C L ρ H h) (hw : Off C L H wr) (k : ∀ b o, b ∉ wr → h.get? b = some o → h'.get? b = some o) : St C L ρ H h' where
  keep := fun b o e => k _ _ (fun q => by rw [(hw b q).2.1] at e; cases e) (x.keep b o e)
  rep := fun a o e => let ⟨c, e1, e2⟩ := x.rep a o e; ⟨c, k _ _ (fun q => by rw [(hw a q).1] at e; cases e) e1, e2⟩
  own := x.own
  loc := let ⟨m, ⟨o, es, ep, e1, r⟩, e2⟩ := x.loc; ⟨m, ⟨o, es, ep, k L o (fun q => (hw L q).2.2 rfl) e1, r⟩, e2⟩
  nl := x.nl
  bl := x.bl

theorem Step.offL {L : Addr} {H H' : AH} {s s2 : Shared} {h' : Heap} {tk : Nat} {wr : List Addr} (x : Step L H H' s s2) (hw : ∀ b ∈ wr, s.heap.get? b = none) (k : ∀ b o, b ∉ wr → s2.heap.get? b = some o → h'.get? b = some o) : Step L H H' s { s2 with heap := h', toks := tk } := by
  obtain ⟨m1, k1, n1, l1⟩ := x
  exact ⟨m1, fun b o e eb eL => k b o (fun q => by rw [hw b q] at e; cases e) (k1 b o e eb eL), n1, fun b o e => let ⟨o', e'⟩ := l1 b o e; ⟨o', k b o' (fun q => by rw [hw b q] at e; cases e) e'⟩⟩
/-! the loop itself -/
theorem forLoop_run {tgt : Expr} {it : Addr} {body : List Stmt} {R : Result → Shared → Prop} {s : Shared} (I : Nat → Shared → Prop)
    (turn : ∀ n s, I n s → wpAny C.M A (pyNext (.ref it)) (Drawn C A tgt it (fun r s₁ => match r with
      | none => R (.ok .next) s₁
      | some v => wpAny C.M A (PySem.assign tgt env v) (fun _ s₂ => wpAny C.M A (execs body env) (fun f s₃ => match f with
          | .next | .cont => ∃ m, m < n ∧ I m s₃
          | .brk => R (.ok .next) s₃
          | .ret v => R (.ok (.ret v)) s₃) False2 s₂) False2 s₁)) False2 s)
    (n : Nat) (h : I n s) : codeAny C.M A (.forLoop tgt (.ref it) body [] env) R s := by
  refine codeAny_loop' rfl I (fun n s hI => ?_) n h
  show wpAny _ _ ((forTurn tgt (.ref it) body [] env).onRaise (fun x => do noteFrame x env; theTreesLotGoes x)) _ _ s
  refine wpAny_noted ?_
  simp only [forTurn]
  refine wpAny_bind (wpAny_standAt (wpAny_bind (wpAny_onRaise (wpAny_mono (turn n s hI) (fun r s₁ h₁ => ?_) fun _ _ e => e.elim))))
  cases r with
  | none => exact wpAny_pure (.inr ⟨rfl, codeAny_block (wpAny_execs_nil h₁)⟩)
  | some v =>
    refine wpAny_bind (wpAny_mono h₁ (fun _ s₁' h₁' => ?_) fun _ _ e => e.elim)
    refine wpAny_bind (wpAny_mono h₁' (fun _ s₂ h₂ => wpAny_bind (wpAny_mono h₂ (fun f s₃ h₃ => ?_) fun _ _ e => e.elim)) fun _ _ e => e.elim)
    cases f with
    | next => exact wpAny_pure (.inl ⟨rfl, h₃⟩)
    | cont => exact wpAny_pure (.inl ⟨rfl, h₃⟩)
    | brk => exact wpAny_pure h₃
    | ret v => exact wpAny_pure h₃

theorem Off.step {L : Addr} {H H' : AH} {wr : List Addr} {s s' : Shared} (x : Off C L H wr) (hl : ∀ b ∈ wr, ∃ o, s.heap.get? b = some o) (y : Step L H H' s s') : Off C L H' wr := fun b hb =>
  ⟨let ⟨o, e⟩ := hl b hb; y.new b o e (x b hb).1, (x b hb).2⟩

theorem W1.for {tgt iter : Expr} {body : List Stmt} {pos : Pos} {Q : Fl → Lo → AH → Prop}
    (h : WIt C A env iter tgt ρ H (fun H1 n Ok P => ∃ Inv : Nat → Lo → AH → Prop, Inv 0 ρ H1 ∧
      (∀ i ρ1 H2, i < n → Inv i ρ1 H2 → Ok i H2 ∧ ∀ d, P i H2 d → Asg C A env tgt d ρ1 H2 (fun ρ2 H3 => WS C A env body ρ2 H3 (fun f ρ3 H4 => match f with
        | .next => Inv (i + 1) ρ3 H4
        | .cont => Inv (i + 1) ρ3 H4
        | .brk => Q .next ρ3 H4
        | .ret v => Q (.ret v) ρ3 H4))) ∧
      (∀ ρ1 H2, Inv n ρ1 H2 → Ok n H2 ∧ Q .next ρ1 H2)))
    (hs : ∀ x, foldedSetIterable iter env x = pure x := by intro _; rfl) : W1 C A env (.For tgt iter body [] pos) ρ H Q := fun s hst => by
  refine wpAny_For ?_ hs
  refine h s hst _ (fun H1 n Ok P I wr Rr s' ⟨Inv, h0, turn, fin⟩ it r0 a1 b1 hw => ?_)
  have hoff : Off C env.locals H1 wr := fun b hb => ⟨(hw b hb).2, (hst.fresh (hw b hb).1).2⟩
  refine forLoop_run (fun k s2 => ∃ i ρ2 H2, i ≤ n ∧ k = n - i ∧ St C env.locals ρ2 H2 s2.heap ∧ Step env.locals H H2 s s2 ∧ Rr i s2.heap ∧ Off C env.locals H2 wr ∧ Inv i ρ2 H2) ?_ n ⟨0, ρ, H1, Nat.zero_le _, rfl, a1, b1, r0, hoff, h0⟩
  rintro k s2 ⟨i, ρ2, H2, hi, rfl, a2, b2, r2, o2, i2⟩
  by_cases hlt : i < n
  · obtain ⟨ok, t⟩ := turn i ρ2 H2 hlt i2
    refine it.item i s2 env.locals ρ2 H2 _ hlt r2 a2 o2 ok fun v d h' tk hP hd a3 r3 k3 => ?_
    have b3 : Step env.locals H H2 s { s2 with heap := h', toks := tk } := b2.offL (fun b hb => (hw b hb).1) k3
    refine wpAny_mono (t d hP { s2 with heap := h', toks := tk } v a3 hd) (fun _ s4 ⟨ρ4, H4, a4, b4, c4⟩ => ?_) fun _ _ e => e
    have b14 := b3.trans b4 (fun _ _ => a4.nl)
    have r4 : Rr (i + 1) s4.heap := it.frame _ _ _ r3 fun b hb o e => b4.kept b o e (o2 b hb).1 (o2 b hb).2.2
    have o4 : Off C env.locals H4 wr := o2.step (it.live _ _ r3) b4
    refine wpAny_mono (c4 s4 a4) (fun f s5 ⟨ρ5, H5, a5, b5, c5⟩ => ?_) fun _ _ e => e
    have b15 := b14.trans b5 (fun _ _ => a5.nl)
    have r5 : Rr (i + 1) s5.heap := it.frame _ _ _ r4 fun b hb o e => b5.kept b o e (o4 b hb).1 (o4 b hb).2.2
    have o5 : Off C env.locals H5 wr := o4.step (it.live _ _ r4) b5
    cases f with
    | next => exact ⟨n - (i + 1), by omega, i + 1, ρ5, H5, hlt, rfl, a5, b15, r5, o5, c5⟩
    | cont => exact ⟨n - (i + 1), by omega, i + 1, ρ5, H5, hlt, rfl, a5, b15, r5, o5, c5⟩
    | brk => exact ⟨ρ5, H5, a5, b15, c5⟩
    | ret v => exact ⟨ρ5, H5, a5, b15, c5⟩
  · have hin : i = n := by omega
    subst hin
    obtain ⟨ok, q⟩ := fin ρ2 H2 i2
    exact it.done s2 env.locals ρ2 H2 _ r2 a2 o2 ok fun h' tk a3 k3 => ⟨ρ2, H2, a3, b2.offL (fun b hb => (hw b hb).1) k3, q⟩

/-! ## lists, ranges -/
theorem letOwned_list {tgt : Expr} {I l : Addr} {i : Nat} {v : Value} {s : Shared} {Q : Unit → Shared → Prop} (h : s.heap.IsListIter I l i) (q : Q () s) : wpAny C.M A (letOwnedTupleGo tgt (.ref I) v) Q False2 s := by
  obtain ⟨o, ho, hc, hd⟩ := h
  cases tgt <;> first | exact wpAny_pure q | skip
  all_goals
    cases v <;> first | exact wpAny_pure q | skip
    refine wpAny_bind (wpAny_load ho ?_)
    rw [hc, hd]
    show wpAny _ _ (if _ then _ else _) _ _ _
    rw [if_neg (by simp)]
    exact wpAny_pure q

theorem Itr.list {I l : Addr} {tgt : Expr} {ob : O} {vs : List V} (hh : A.handled = none) (hne : l ≠ I) (hl : lst ob = some vs) :
    Itr C A I [I] tgt vs.length (fun i h => h.IsListIter I l i) (fun _ H => H l = some ob) (fun i H d => ∃ v, vs[i]? = some v ∧ d = .one v) where
  live := fun i h ⟨o, ho, _⟩ b hb => by rw [List.mem_singleton.mp hb]; exact ⟨o, ho⟩
  frame := fun i h h' ⟨o, ho, r⟩ k => ⟨o, k I (List.mem_singleton.mpr rfl) o ho, r⟩
  item := fun i s L ρ H Q hi hr hs hw hok hq => by
    obtain ⟨xs, h1, h2, h3⟩ := hs.list hok hl
    obtain ⟨x, x1, x2⟩ := arr_get (i := i) (v := vs[i]) h2 (by simp [hi])
    refine wpAny_pyNext_list_item hr h1 x1 fun h' hit' hs' => ?_
    refine letOwned_list hit' ?_
    have k : ∀ b o, b ∉ [I] → s.heap.get? b = some o → h'.get? b = some o := fun b o hb e => hs'.extBut b o (fun q => hb (by simp [q])) e
    exact hq x (.one vs[i]) h' s.toks ⟨_, by simp [hi], rfl⟩ x2 (hs.offL hw k) hit' k
  done := fun s L ρ H Q hr hs hw hok hq => by
    obtain ⟨xs, h1, h2, h3⟩ := hs.list hok hl
    refine wpAny_pyNext_list_end hh hr h1 (by rw [← arr_size h2]; simp) fun h' he' => ?_
    have k : ∀ b o, b ∉ [I] → s.heap.get? b = some o → h'.get? b = some o := fun b o hb e => he' b o (fun q => hb (by simp [q])) e
    exact hq h' s.toks (hs.offL hw k) k
  self := fun i s Q hr hq => wpAny_pyIter_listiter hr hq

theorem WIt.list {e tgt : Expr} {K : AH → Nat → (Nat → AH → Prop) → (Nat → AH → Dv → Prop) → Prop} (F : Fx C A env)
    (h : WE C A env e ρ H (fun v H1 => ∃ l ob vs, v = .ref l ∧ H1 l = some ob ∧ lst ob = some vs ∧ K H1 vs.length (fun _ H2 => H2 l = some ob) (fun i _ d => ∃ v, vs[i]? = some v ∧ d = .one v))) : WIt C A env e tgt ρ H K := fun s hs Q hq => by
  refine wpAny_mono (h s hs) (fun x s1 ⟨ρ1, H1, a1, b1, c1, l, ob, vs, d1, d2, d3, d4⟩ => ?_) fun _ _ e => e
  subst c1
  cases ab_ref d1
  obtain ⟨xs, h1, h2, h3⟩ := a1.list d2 d3
  refine wpAny_pyIter_list h1 ?_
  have hn := get?_size_none s1.heap
  have hne : l ≠ s1.heap.objs.size := fun q => by obtain ⟨o, ho, _⟩ := h1; rw [q, hn] at ho; cases ho
  have k : ∀ b o, s1.heap.get? b = some o → (s1.heap.push { cls := .type "list_iterator", data := .fields #[.ref l, .int 0 0] }).get? b = some o := fun b o e => Heap.get?_push_of_some _ e
  refine hq H1 _ _ _ s1.heap.objs.size [s1.heap.objs.size] _ _ d4 (Itr.list F.hh hne d3) ⟨_, Heap.get?_push_size _ rfl, rfl, rfl⟩ (a1.ext k) (b1.trans (Step.ext (tk := s1.toks) k) (fun _ _ => a1.nl)) fun b hb => ?_
  rw [List.mem_singleton.mp hb]
  refine ⟨?_, (a1.fresh hn).1⟩
  cases e : s.heap.get? s1.heap.objs.size with
  | none => rfl
  | some o =>
    obtain ⟨o', e'⟩ := b1.live _ o e
    rw [hn] at e'; cases e'
end
end Mine

namespace Mine
open PySem PySem.W PyProof.Rows

section
variable {C : Cx} {A : Around} {env : Env} {ρ : Lo} {H : AH}

theorem letOwned_range {tgt : Expr} {I : Addr} {x left step : Int} {i : Int} {t : Tok} {s : Shared} {Q : Unit → Shared → Prop} (q : Q () s) : wpAny C.M A (letOwnedTupleGo tgt (.ref I) (.int i t)) Q False2 s := by
  cases tgt <;> exact wpAny_pure q

theorem Itr.range {I : Addr} {tgt : Expr} {a c : Int} {n : Nat} (hh : A.handled = none) :
    Itr C A I [I] tgt n (fun i h => IsRangeIter h I (a + (i : Nat) * c) ((n : Int) - (i : Nat)) c) (fun _ _ => True) (fun i H d => d = .one (.int (a + (i : Nat) * c))) where
  live := fun i h ho b hb => by rw [List.mem_singleton.mp hb]; exact ⟨_, ho⟩
  frame := fun i h h' ho k => k I (List.mem_singleton.mpr rfl) _ ho
  item := fun i s L ρ H Q hi hr hs hw hok hq => by
    refine wpAny_pyNext_range_item hr (by omega) fun h' hit' hs' => ?_
    refine letOwned_range (x := 0) (left := 0) (step := 0) ?_
    have k : ∀ b o, b ∉ [I] → s.heap.get? b = some o → h'.get? b = some o := fun b o hb e => hs'.extBut b o (fun q => hb (by simp [q])) e
    refine hq (.int (a + (i : Nat) * c) s.toks) _ h' (s.toks + 1) rfl rfl (hs.offL hw k) ?_ k
    have e1 : a + ((i + 1 : Nat) : Int) * c = a + (i : Int) * c + c := by push_cast; rw [Int.add_mul, Int.one_mul, Int.add_assoc]
    have e2 : (n : Int) - ((i + 1 : Nat) : Int) = (n : Int) - (i : Int) - 1 := by push_cast; omega
    rw [e1, e2]; exact hit'
  done := fun s L ρ H Q hr hs hw hok hq => by
    refine wpAny_pyNext_range_end hh hr (by omega) fun h' he' => ?_
    have k : ∀ b o, b ∉ [I] → s.heap.get? b = some o → h'.get? b = some o := fun b o hb e => he' b o (fun q => hb (by simp [q])) e
    exact hq h' s.toks (hs.offL hw k) k
  self := fun i s Q hr hq => wpAny_pyIter_rangeiter hr hq

/-- behind the call of range -/
theorem WIt.range_core {r : Addr} {tgt : Expr} {a b c : Int} {t u v : Tok} {n : Nat} {s s1 : Shared} {H1 : AH} {K : AH → Nat → (Nat → AH → Prop) → (Nat → AH → Dv → Prop) → Prop} (hh : A.handled = none)
    (hr : IsRange s1.heap r a b c t u v) (hsm : Builtin.Range.small a b c = true) (hn : Builtin.Range.rangeSize a b c = (n : Int)) (a1 : St C env.locals ρ H1 s1.heap) (b1 : Step env.locals H H1 s s1)
    (hK : K H1 n (fun _ _ => True) (fun i H d => d = .one (.int (a + (i : Nat) * c)))) {Q : Value → Shared → Prop}
    (hq : ∀ H1 n Ok P I wr Rr s', K H1 n Ok P → Itr C A I wr tgt n Rr Ok P → Rr 0 s'.heap → St C env.locals ρ H1 s'.heap → Step env.locals H H1 s s' → (∀ b ∈ wr, s.heap.get? b = none ∧ H1 b = none) → Q (.ref I) s') :
    wpAny C.M A (pyIter (.ref r)) Q False2 s1 := by
  refine wpAny_pyIter_range hr hsm ?_
  have hnn := get?_size_none s1.heap
  have k : ∀ b' o, s1.heap.get? b' = some o → (s1.heap.push { cls := .type "range_iterator", data := .fields #[rawInt a, rawInt (Builtin.Range.rangeSize a b c), rawInt c] }).get? b' = some o := fun b' o e => Heap.get?_push_of_some _ e
  refine hq H1 n _ _ s1.heap.objs.size [s1.heap.objs.size] _ _ hK (Itr.range (a := a) (c := c) hh) ?_ (a1.ext k) (b1.trans (Step.ext (tk := s1.toks) k) (fun _ _ => a1.nl)) fun b hb => ?_
  · have := Heap.get?_push_size s1.heap (o := { cls := .type "range_iterator", data := .fields #[rawInt a, rawInt (Builtin.Range.rangeSize a b c), rawInt c] }) rfl
    rw [hn] at this
    have e : a + ((0 : Nat) : Int) * c = a := by simp
    have e' : (n : Int) - ((0 : Nat) : Int) = n := by simp
    show IsRangeIter _ _ (a + ((0 : Nat) : Int) * c) ((n : Int) - ((0 : Nat) : Int)) c
    rw [e, e', hn]; exact this
  · rw [List.mem_singleton.mp hb]
    refine ⟨?_, (a1.fresh hnn).1⟩
    cases e : s.heap.get? s1.heap.objs.size with
    | none => rfl
    | some o =>
      obtain ⟨o', e'⟩ := b1.live _ o e
      rw [hnn] at e'; cases e'

theorem WIt.range1 {e tgt : Expr} {id : Str} {p pos : Pos} {b : Int} {K : AH → Nat → (Nat → AH → Prop) → (Nat → AH → Dv → Prop) → Prop} (F : Fx C A env) (hf : Ev C A env ρ H (.Name id p) (.ty "range")) (he : Ev C A env ρ H e (.int b)) (hb : -(2 ^ 62) ≤ b) (hb' : b < 2 ^ 62)
    (hK : K H b.toNat (fun _ _ => True) (fun i _ d => d = .one (.int i))) (hn : noStar [e] = true := by rfl) : WIt C A env (.Call (.Name id p) [e] [] pos) tgt ρ H K := fun s hs Q hq => by
  refine wpAny_Call_Name_kw (wpAny_mono (hf s hs) (fun f s1 ⟨ρ1, H1, a1, b1, c1, c2, c3⟩ => ?_) fun _ _ e => e)
  subst c1 c2
  cases ab_ty c3
  refine PySem.callWith_type (backTo_any hn) (wpAny_mono (evalArgs_run (ks := []) (Q := fun vs kv H2 => vs = [.int b] ∧ kv = [] ∧ H2 = H1) hn rfl (WEs.of (.cons he .nil) ⟨rfl, rfl, rfl⟩) s1 a1) (fun x s2 ⟨ρ2, H2, a2, b2, c2, d1, d2, d3⟩ => ?_) fun _ _ e => e)
  subst c2 d3
  have hkw : x.kw = [] := by simpa using d2
  obtain ⟨y, ey, ey'⟩ := vals1 d1
  obtain ⟨t, rfl⟩ := ab_int ey'
  rw [hkw, ey]
  have k : ∀ b' o, s2.heap.get? b' = some o → (s2.heap.push { cls := .type "range", data := .fields #[.int 0 s2.toks, .int b t, .int 1 (s2.toks + 1)] }).get? b' = some o := fun b' o e => Heap.get?_push_of_some _ e
  refine call_range_1 (WIt.range_core (n := b.toNat) F.hh (IsRange.new _ _ _ _ _ _ _) (small_one (by decide) (by decide) hb hb') (by rw [rangeSize_nat]; simp) (a2.ext k) ((b1.trans b2 (fun _ _ => a2.nl)).trans (Step.ext (tk := s2.toks + 1 + 1) k) (fun _ _ => a2.nl)) ?_ hq)
  have e : (fun (i : Nat) (H : AH) (d : Dv) => d = Dv.one (V.int (0 + (i : Int) * 1))) = fun i _ d => d = .one (.int i) := by funext i _ d; simp
  rw [e]; exact hK
theorem WIt.range2 {e1 e2 tgt : Expr} {id : Str} {p pos : Pos} {a b : Int} {K : AH → Nat → (Nat → AH → Prop) → (Nat → AH → Dv → Prop) → Prop} (F : Fx C A env) (hf : Ev C A env ρ H (.Name id p) (.ty "range")) (he1 : Ev C A env ρ H e1 (.int a)) (he2 : Ev C A env ρ H e2 (.int b)) (ha : -(2 ^ 62) ≤ a) (ha' : a < 2 ^ 62) (hb : -(2 ^ 62) ≤ b) (hb' : b < 2 ^ 62)
    (hK : K H (b - a).toNat (fun _ _ => True) (fun i _ d => d = .one (.int (a + i)))) (hn : noStar [e1, e2] = true := by rfl) : WIt C A env (.Call (.Name id p) [e1, e2] [] pos) tgt ρ H K := fun s hs Q hq => by
  refine wpAny_Call_Name_kw (wpAny_mono (hf s hs) (fun f s1 ⟨ρ1, H1, a1, b1, c1, c2, c3⟩ => ?_) fun _ _ e => e)
  subst c1 c2
  cases ab_ty c3
  refine PySem.callWith_type (backTo_any hn) (wpAny_mono (evalArgs_run (ks := []) (Q := fun vs kv H2 => vs = [.int a, .int b] ∧ kv = [] ∧ H2 = H1) hn rfl (WEs.of (.cons he1 (.cons he2 .nil)) ⟨rfl, rfl, rfl⟩) s1 a1) (fun x s2 ⟨ρ2, H2, a2, b2, c2, d1, d2, d3⟩ => ?_) fun _ _ e => e)
  subst c2 d3
  have hkw : x.kw = [] := by simpa using d2
  obtain ⟨y, z, ey, ey', ez'⟩ := vals2 d1
  obtain ⟨t, rfl⟩ := ab_int ey'
  obtain ⟨u, rfl⟩ := ab_int ez'
  rw [hkw, ey]
  have k : ∀ b' o, s2.heap.get? b' = some o → (s2.heap.push { cls := .type "range", data := .fields #[.int a t, .int b u, .int 1 s2.toks] }).get? b' = some o := fun b' o e => Heap.get?_push_of_some _ e
  refine call_range_2 (WIt.range_core (n := (b - a).toNat) F.hh (IsRange.new _ _ _ _ _ _ _) (small_one ha ha' hb hb') (by rw [rangeSize_nat]) (a2.ext k) ((b1.trans b2 (fun _ _ => a2.nl)).trans (Step.ext (tk := s2.toks + 1) k) (fun _ _ => a2.nl)) ?_ hq)
  have e : (fun (i : Nat) (H : AH) (d : Dv) => d = Dv.one (V.int (a + (i : Int) * 1))) = fun i _ d => d = .one (.int (a + i)) := by funext i _ d; simp
  rw [e]; exact hK
theorem WIt.range3 {e1 e2 e3 tgt : Expr} {id : Str} {p pos : Pos} {a b c : Int} {n : Nat} {K : AH → Nat → (Nat → AH → Prop) → (Nat → AH → Dv → Prop) → Prop} (F : Fx C A env) (hf : Ev C A env ρ H (.Name id p) (.ty "range")) (he1 : Ev C A env ρ H e1 (.int a)) (he2 : Ev C A env ρ H e2 (.int b)) (he3 : Ev C A env ρ H e3 (.int c)) (hc : c ≠ 0) (hc' : c.natAbs < 1000)
    (hsm : Builtin.Range.small a b c = true) (hsz : Builtin.Range.rangeSize a b c = (n : Int))
    (hK : K H n (fun _ _ => True) (fun i _ d => d = .one (.int (a + (i : Nat) * c)))) (hn : noStar [e1, e2, e3] = true := by rfl) : WIt C A env (.Call (.Name id p) [e1, e2, e3] [] pos) tgt ρ H K := fun s hs Q hq => by
  refine wpAny_Call_Name_kw (wpAny_mono (hf s hs) (fun f s1 ⟨ρ1, H1, a1, b1, c1, c2, c3⟩ => ?_) fun _ _ e => e)
  subst c1 c2
  cases ab_ty c3
  refine PySem.callWith_type (backTo_any hn) (wpAny_mono (evalArgs_run (ks := []) (Q := fun vs kv H2 => vs = [.int a, .int b, .int c] ∧ kv = [] ∧ H2 = H1) hn rfl (WEs.of (.cons he1 (.cons he2 (.cons he3 .nil))) ⟨rfl, rfl, rfl⟩) s1 a1) (fun x s2 ⟨ρ2, H2, a2, b2, c2, d1, d2, d3⟩ => ?_) fun _ _ e => e)
  subst c2 d3
  have hkw : x.kw = [] := by simpa using d2
  obtain ⟨y, z, w, ey, ey', ez', ew'⟩ := vals3 d1
  obtain ⟨t, rfl⟩ := ab_int ey'
  obtain ⟨u, rfl⟩ := ab_int ez'
  obtain ⟨v, rfl⟩ := ab_int ew'
  rw [hkw, ey]
  have k : ∀ b' o, s2.heap.get? b' = some o → (s2.heap.push { cls := .type "range", data := .fields #[.int a t, .int b u, .int c v] }).get? b' = some o := fun b' o e => Heap.get?_push_of_some _ e
  exact call_range_3 hc (WIt.range_core (n := n) F.hh (IsRange.new _ _ _ _ _ _ _) hsm hsz (a2.ext k) ((b1.trans b2 (fun _ _ => a2.nl)).trans (Step.ext (tk := s2.toks) k) (fun _ _ => a2.nl)) hK hq) (Or.inl (PyProof.noPylong_small (by omega)))
end
end Mine

namespace Mine
open PySem PySem.W PyProof.Rows

section
variable {C : Cx} {A : Around} {env : Env} {ρ : Lo} {H : AH}

/-! ## tests of a clause -/
def WIf (C : Cx) (A : Around) (env : Env) : List Expr → Lo → AH → (Bool → AH → Prop) → Prop
  | [], _, H, Q => Q true H
  | c :: cs, ρ, H, Q => WT C A env c ρ H (fun b H1 => (b = true → WIf C A env cs ρ H1 Q) ∧ (b = false → Q false H1))
theorem ifs_false {env : Env} : ∀ (ifs : List Expr), (forIn ifs false fun c r => if r = true then do let ok ← isTrue c env (eval c env); pure (ForInStep.yield ok) else pure (ForInStep.yield r) : Sem Bool) = pure false
  | [] => rfl
  | c :: cs => by
    rw [List.forIn_cons]
    show (if false = true then _ else pure (ForInStep.yield false) : Sem (ForInStep Bool)) >>= _ = _
    rw [if_neg Bool.false_ne_true]
    exact ifs_false cs
theorem WIf.run : ∀ {ifs : List Expr} {ρ : Lo} {H : AH} {Q : Bool → AH → Prop}, WIf C A env ifs ρ H Q →
    W C A env.locals (forIn ifs true fun c r => if r = true then do let ok ← isTrue c env (eval c env); pure (ForInStep.yield ok) else pure (ForInStep.yield r)) ρ H (fun b ρ' H' => ρ' = ρ ∧ Q b H')
  | [], ρ, H, Q, h => W.pure ⟨rfl, h⟩
  | c :: cs, ρ, H, Q, h => by
    rw [List.forIn_cons]
    refine W.bind (W.bind (W.mono h ?_))
    rintro b ρ1 H1 ⟨rfl, h1, h2⟩
    refine W.pure ?_
    cases b with
    | true => exact WIf.run (h1 rfl)
    | false =>
      show W C A env.locals (forIn cs false _) ρ1 H1 _
      rw [ifs_false]
      exact W.pure ⟨rfl, h2 rfl⟩

/-! ## comprehensions -/
structure StepX (ex : List Addr) (L : Addr) (H H' : AH) (s s' : Shared) : Prop where
  same : s'.gens = s.gens ∧ s'.os = s.os
  kept : ∀ b o, b ∉ ex → s.heap.get? b = some o → H b = none → b ≠ L → s'.heap.get? b = some o
  new : ∀ b o, b ∉ ex → s.heap.get? b = some o → H b = none → H' b = none
  live : ∀ b o, b ∉ ex → s.heap.get? b = some o → ∃ o', s'.heap.get? b = some o'
theorem Step.toX {ex : List Addr} {L : Addr} {H H' : AH} {s s' : Shared} (x : Step L H H' s s') : StepX ex L H H' s s' := ⟨x.same, fun b o _ e eb eL => x.kept b o e eb eL, fun b o _ => x.new b o, fun b o _ => x.live b o⟩
theorem StepX.trans {ex : List Addr} {L : Addr} {H H' H'' : AH} {s s' s'' : Shared} (x : StepX ex L H H' s s') (y : StepX ex L H' H'' s' s'') : StepX ex L H H'' s s'' := by
  obtain ⟨m1, k1, n1, l1⟩ := x
  obtain ⟨m2, k2, n2, l2⟩ := y
  exact ⟨⟨m2.1.trans m1.1, m2.2.trans m1.2⟩, fun b o hb e eH eL => k2 b o hb (k1 b o hb e eH eL) (n1 b o hb e eH) eL, fun b o hb e eH => let ⟨o', e'⟩ := l1 b o hb e; n2 b o' hb e' (n1 b o hb e eH), fun b o hb e => let ⟨o', e'⟩ := l1 b o hb e; l2 b o' hb e'⟩
/-- changes at untracked places -/
theorem StepX.off {ex : List Addr} {L : Addr} {H : AH} {s : Shared} {h' : Heap} {tk : Nat} (k : ∀ b o, b ∉ ex → s.heap.get? b = some o → h'.get? b = some o) : StepX ex L H H s { s with heap := h', toks := tk } :=
  ⟨⟨rfl, rfl⟩, fun b o hb e _ _ => k b o hb e, fun _ _ _ _ e => e, fun b o hb e => ⟨o, k b o hb e⟩⟩
theorem StepX.mono {ex ex' : List Addr} {L : Addr} {H H' : AH} {s s' : Shared} (x : StepX ex L H H' s s') (h : ∀ b ∈ ex, ∀ o, s.heap.get? b = some o → b ∈ ex') : StepX ex' L H H' s s' :=
  ⟨x.same, fun b o hb e eb eL => x.kept b o (fun q => hb (h b q o e)) e eb eL, fun b o hb e => x.new b o (fun q => hb (h b q o e)) e, fun b o hb e => x.live b o (fun q => hb (h b q o e)) e⟩

/-- the accumulator, not tracked -/
structure Acc (C : Cx) (L : Addr) (D : Addr) (H : AH) (ys : List V) (h : Heap) : Prop where
  off : H D = none ∧ C.base.get? D = none ∧ D ≠ L
  arr : ∃ xs : Array Value, h.PlainList D xs ∧ xs.toList.map ab = ys
  sz : ys.length ≤ sizeLine
theorem Acc.step {L D : Addr} {H H' : AH} {ys : List V} {s s' : Shared} (x : Acc C L D H ys s.heap) (y : Step L H H' s s') : Acc C L D H' ys s'.heap := by
  obtain ⟨o, ⟨xs, ⟨n, hp⟩, e⟩, z⟩ := x
  exact ⟨⟨y.new _ _ hp o.1, o.2⟩, ⟨xs, ⟨n, y.kept _ _ hp o.1 o.2.2⟩, e⟩, z⟩

def CompR (C : Cx) (L D : Addr) (ex : List Addr) (H : AH) (s : Shared) (Q : Lo → AH → List V → Prop) (r : Result) (s' : Shared) : Prop :=
  match r with
  | .ok .next => ∃ ρ' H' zs, St C L ρ' H' s'.heap ∧ Acc C L D H' zs s'.heap ∧ StepX ex L H H' s s' ∧ Q ρ' H' zs
  | _ => False

/-- what is done for each item of the clauses behind -/
def CompI (C : Cx) (A : Around) (env : Env) (elt : Expr) : List Comprehension → Lo → AH → List V → (Lo → AH → List V → Prop) → Prop
  | [], ρ, H, ys, Q => WE C A env elt ρ H (fun v H1 => ys.length < sizeLine ∧ Q ρ H1 (ys ++ [v]))
  | ⟨tgt, iter, ifs, _⟩ :: gs, ρ, H, ys, Q => WIt C A env iter tgt ρ H (fun H1 n Ok P => ∃ Inv : Nat → Lo → AH → List V → Prop, Inv 0 ρ H1 ys ∧
      (∀ i ρ1 H2 zs, i < n → Inv i ρ1 H2 zs → Ok i H2 ∧ ∀ d, P i H2 d → Asg C A env tgt d ρ1 H2 (fun ρ2 H3 => WIf C A env ifs ρ2 H3 (fun b H4 => (b = true → CompI C A env elt gs ρ2 H4 zs (fun ρ5 H5 us => Inv (i + 1) ρ5 H5 us)) ∧ (b = false → Inv (i + 1) ρ2 H4 zs)))) ∧
      (∀ ρ1 H2 zs, Inv n ρ1 H2 zs → Ok n H2 ∧ Q ρ1 H2 zs))

/-- the loop of one clause, given what is done inside -/
def LoopOk (C : Cx) (A : Around) (env : Env) (elt tgt : Expr) (ifs : List Expr) (gs : List Comprehension) (H1 : AH) (n : Nat) (Ok : Nat → AH → Prop) (P : Nat → AH → Dv → Prop) (ρ : Lo) (ys : List V) (Q : Lo → AH → List V → Prop) : Prop :=
  ∃ Inv : Nat → Lo → AH → List V → Prop, Inv 0 ρ H1 ys ∧
      (∀ i ρ1 H2 zs, i < n → Inv i ρ1 H2 zs → Ok i H2 ∧ ∀ d, P i H2 d → Asg C A env tgt d ρ1 H2 (fun ρ2 H3 => WIf C A env ifs ρ2 H3 (fun b H4 => (b = true → CompI C A env elt gs ρ2 H4 zs (fun ρ5 H5 us => Inv (i + 1) ρ5 H5 us)) ∧ (b = false → Inv (i + 1) ρ2 H4 zs)))) ∧
      (∀ ρ1 H2 zs, Inv n ρ1 H2 zs → Ok n H2 ∧ Q ρ1 H2 zs)

theorem compTurn_last (elt : Expr) (gens : List Comprehension) (scope : Scope) (pos : Pos) (d : Nat) (tgt iter : Expr) (ifs : List Expr) (it acc : Value) (cenv : Env) (hd : gens[d]? = some ⟨tgt, iter, ifs, 0⟩) (hl : gens[d + 1]? = none) :
    compTurn (.ListComp elt gens scope pos) d it acc cenv = (standAt iter.pos >>= fun _ => pyNext it >>= fun r => match r with
      | none => pure (.done .next)
      | some v => letOwnedTupleGo tgt it v >>= fun _ => PySem.assign tgt cenv v >>= fun _ =>
          (forIn ifs true fun c r => if r = true then do let ok ← isTrue c cenv (eval c cenv); pure (ForInStep.yield ok) else pure (ForInStep.yield r)) >>= fun ok =>
            if ok = true then ((eval elt cenv >>= fun x => call (.builtin "list.append") [acc, x] >>= fun _ => pure PUnit.unit) >>= fun _ => again (.compLoop (.ListComp elt gens scope pos) d it acc cenv)) else again (.compLoop (.ListComp elt gens scope pos) d it acc cenv)) := by
  unfold compTurn
  simp only [hd, hl]
  rfl
theorem compTurn_more (elt : Expr) (gens : List Comprehension) (scope : Scope) (pos : Pos) (d : Nat) (tgt iter tgt' iter' : Expr) (ifs ifs' : List Expr) (it acc : Value) (cenv : Env) (hd : gens[d]? = some ⟨tgt, iter, ifs, 0⟩) (hl : gens[d + 1]? = some ⟨tgt', iter', ifs', 0⟩) :
    compTurn (.ListComp elt gens scope pos) d it acc cenv = (standAt iter.pos >>= fun _ => pyNext it >>= fun r => match r with
      | none => pure (.done .next)
      | some v => letOwnedTupleGo tgt it v >>= fun _ => PySem.assign tgt cenv v >>= fun _ =>
          (forIn ifs true fun c r => if r = true then do let ok ← isTrue c cenv (eval c cenv); pure (ForInStep.yield ok) else pure (ForInStep.yield r)) >>= fun ok =>
            if ok = true then (eval iter' cenv >>= fun x => standAt iter'.pos >>= fun _ => foldedSetIterable iter' cenv x >>= fun x => holding [x] (pyIter x) >>= fun it' => runOwn (.compStart (.ListComp elt gens scope pos) (d + 1) it' acc cenv) cenv >>= fun _ => again (.compLoop (.ListComp elt gens scope pos) d it acc cenv)) else again (.compLoop (.ListComp elt gens scope pos) d it acc cenv)) := by
  unfold compTurn
  simp only [hd, hl]
  rfl

theorem Off.stepX {L : Addr} {H H' : AH} {wr ex : List Addr} {s s' : Shared} (x : Off C L H wr) (hl : ∀ b ∈ wr, ∃ o, s.heap.get? b = some o) (y : StepX ex L H H' s s') (hex : ∀ b ∈ wr, b ∉ ex) : Off C L H' wr := fun b hb =>
  ⟨let ⟨o, e⟩ := hl b hb; y.new b o (hex b hb) e (x b hb).1, (x b hb).2⟩

abbrev ifsT (ifs : List Expr) (env : Env) : Sem Bool := forIn ifs true fun c r => if r = true then do let ok ← isTrue c env (eval c env); pure (ForInStep.yield ok) else pure (ForInStep.yield r)
def TurnP (C : Cx) (A : Around) (env : Env) (tgt : Expr) (ifs : List Expr) (I : Addr) (fin : Shared → Prop) (Inn : Shared → Prop) (K : Shared → Prop) : Option Value → Shared → Prop :=
  Drawn C A tgt I (fun r s₁ => match r with
    | none => fin s₁
    | some v => wpAny C.M A (PySem.assign tgt env v) (fun _ s₂ => wpAny C.M A (ifsT ifs env) (fun ok s₃ => (ok = true → Inn s₃) ∧ (ok = false → K s₃)) False2 s₂) False2 s₁)
def InnLast (C : Cx) (A : Around) (env : Env) (elt : Expr) (D : Addr) (K : Shared → Prop) (s : Shared) : Prop :=
  wpAny C.M A (eval elt env) (fun x s₄ => wpAny C.M A (call (.builtin "list.append") [.ref D, x]) (fun _ s₅ => K s₅) False2 s₄) False2 s
def InnMore (C : Cx) (A : Around) (env : Env) (e iter : Expr) (d : Nat) (D : Addr) (K : Shared → Prop) (s : Shared) : Prop :=
  wpAny C.M A (eval iter env) (fun x s₄ => wpAny C.M A (pyIter x) (fun it s₅ => codeAny C.M A (.compStart e d it (.ref D) env) (fun r s₆ => match r with | .ok _ => K s₆ | .error _ => False) s₅) False2 s₄) False2 s

theorem compLoop_last {elt : Expr} {gens : List Comprehension} {scope : Scope} {pos : Pos} {d : Nat} {tgt iter : Expr} {ifs : List Expr} {it D : Addr} {R : Result → Shared → Prop} {s : Shared} (hd : gens[d]? = some ⟨tgt, iter, ifs, 0⟩) (hl : gens[d + 1]? = none) (I : Nat → Shared → Prop)
    (turn : ∀ n s, I n s → wpAny C.M A (pyNext (.ref it)) (TurnP C A env tgt ifs it (R (.ok .next)) (InnLast C A env elt D (fun s' => ∃ m, m < n ∧ I m s')) (fun s' => ∃ m, m < n ∧ I m s')) False2 s) (n : Nat) (h : I n s) :
    codeAny C.M A (.compLoop (.ListComp elt gens scope pos) d (.ref it) (.ref D) env) R s := by
  refine codeAny_loop rfl I (fun n s hI => ?_) n h
  show wpAny _ A ((compTurn (.ListComp elt gens scope pos) d (.ref it) (.ref D) env).onRaise (fun x => do noteFrame x env; theTreesLotGoes x)) _ _ s
  refine wpAny_noted ?_
  rw [compTurn_last elt gens scope pos d tgt iter ifs _ _ _ hd hl]
  refine wpAny_bind (wpAny_standAt (wpAny_bind (wpAny_mono (turn n s hI) (fun r s₁ h₁ => ?_) fun _ _ e => e.elim)))
  cases r with
  | none => exact wpAny_pure h₁
  | some v =>
    refine wpAny_bind (wpAny_mono h₁ (fun _ s₂ h₂ => ?_) fun _ _ e => e.elim)
    refine wpAny_bind (wpAny_mono h₂ (fun _ s₃ h₃ => ?_) fun _ _ e => e.elim)
    refine wpAny_bind (wpAny_mono h₃ (fun ok s₄ h₄ => ?_) fun _ _ e => e.elim)
    cases ok with
    | false => exact wpAny_pure ⟨rfl, h₄.2 rfl⟩
    | true => exact wpAny_bind (wpAny_bind (wpAny_mono (h₄.1 rfl) (fun x s₅ h₅ => wpAny_bind (wpAny_mono h₅ (fun _ s₆ h₆ => wpAny_pure (wpAny_pure ⟨rfl, h₆⟩)) fun _ _ e => e.elim)) fun _ _ e => e.elim))
theorem compLoop_more {elt : Expr} {gens : List Comprehension} {scope : Scope} {pos : Pos} {d : Nat} {tgt iter tgt' iter' : Expr} {ifs ifs' : List Expr} {it D : Addr} {R : Result → Shared → Prop} {s : Shared} (hd : gens[d]? = some ⟨tgt, iter, ifs, 0⟩) (hl : gens[d + 1]? = some ⟨tgt', iter', ifs', 0⟩) (hs : ∀ x, foldedSetIterable iter' env x = pure x) (I : Nat → Shared → Prop)
    (turn : ∀ n s, I n s → wpAny C.M A (pyNext (.ref it)) (TurnP C A env tgt ifs it (R (.ok .next)) (InnMore C A env (.ListComp elt gens scope pos) iter' (d + 1) D (fun s' => ∃ m, m < n ∧ I m s')) (fun s' => ∃ m, m < n ∧ I m s')) False2 s) (n : Nat) (h : I n s) :
    codeAny C.M A (.compLoop (.ListComp elt gens scope pos) d (.ref it) (.ref D) env) R s := by
  refine codeAny_loop rfl I (fun n s hI => ?_) n h
  show wpAny _ A ((compTurn (.ListComp elt gens scope pos) d (.ref it) (.ref D) env).onRaise (fun x => do noteFrame x env; theTreesLotGoes x)) _ _ s
  refine wpAny_noted ?_
  rw [compTurn_more elt gens scope pos d tgt iter tgt' iter' ifs ifs' _ _ _ hd hl]
  refine wpAny_bind (wpAny_standAt (wpAny_bind (wpAny_mono (turn n s hI) (fun r s₁ h₁ => ?_) fun _ _ e => e.elim)))
  cases r with
  | none => exact wpAny_pure h₁
  | some v =>
    refine wpAny_bind (wpAny_mono h₁ (fun _ s₂ h₂ => ?_) fun _ _ e => e.elim)
    refine wpAny_bind (wpAny_mono h₂ (fun _ s₃ h₃ => ?_) fun _ _ e => e.elim)
    refine wpAny_bind (wpAny_mono h₃ (fun ok s₄ h₄ => ?_) fun _ _ e => e.elim)
    cases ok with
    | false => exact wpAny_pure ⟨rfl, h₄.2 rfl⟩
    | true =>
      refine wpAny_bind (wpAny_mono (h₄.1 rfl) (fun x s₅ h₅ => wpAny_bind (wpAny_standAt ?_)) fun _ _ e => e.elim)
      rw [hs]
      refine wpAny_bind (wpAny_pure (wpAny_bind (wpAny_holding (wpAny_mono h₅ (fun it' s₆ h₆ => ?_) fun _ _ e => e.elim))))
      refine wpAny_bind ?_
      unfold runOwn
      refine wpAny_onRaise (wpAny_run (codeAny_mono h₆ fun r s' hr => ?_))
      cases r with
      | ok f => exact wpAny_pure ⟨rfl, hr⟩
      | error e => exact hr.elim

theorem compStart_run {elt : Expr} {gens : List Comprehension} {scope : Scope} {pos : Pos} {d : Nat} {tgt iter : Expr} {ifs : List Expr} {it acc : Value} {R : Result → Shared → Prop} {s : Shared} (hd : gens[d]? = some ⟨tgt, iter, ifs, 0⟩)
    (h0 : codeAny C.M A (.compLoop (.ListComp elt gens scope pos) d it acc env) R s)
    (h : wpAny C.M A (pyIter it) (fun it' s' => codeAny C.M A (.compLoop (.ListComp elt gens scope pos) d it' acc env) R s') False2 s) :
    codeAny C.M A (.compStart (.ListComp elt gens scope pos) d it acc env) R s := by
  refine codeAny_of_tree ?_
  show wpAny _ _ ((compStart (.ListComp elt gens scope pos) d it acc env).onRaise (fun x => do noteFrame x env; standAt theWindowsPlace)) _ _ s
  refine wpAny_notedAt ?_
  unfold compStart
  have hcl : (clausesOf (.ListComp elt gens scope pos))[d]? = some ⟨tgt, iter, ifs, 0⟩ := hd
  rw [hcl]
  show wpAny _ _ (ask >>= _) _ _ s
  refine wpAny_bind (wpAny_askSetting (wpAny_ite ?_))
  split
  · exact wpAny_pure (And.intro rfl h0)
  · exact wpAny_bind (wpAny_rule (wpAny_bind (wpAny_standAt (wpAny_bind (wpAny_mono h (fun it' s' h' => wpAny_pure (And.intro rfl h')) fun _ _ x => x.elim)))))

section
variable {elt tgt : Expr} {ifs : List Expr} {gs : List Comprehension} {I D : Addr} {wr : List Addr} {n : Nat} {Rr : Nat → Heap → Prop} {Ok : Nat → AH → Prop} {P : Nat → AH → Dv → Prop} {Inv : Nat → Lo → AH → List V → Prop} {s : Shared} {Q : Lo → AH → List V → Prop}
def CSt (C : Cx) (env : Env) (D : Addr) (wr : List Addr) (n : Nat) (Rr : Nat → Heap → Prop) (Inv : Nat → Lo → AH → List V → Prop) (H : AH) (s : Shared) (k : Nat) (s2 : Shared) : Prop :=
  ∃ i ρ2 H2 zs, i ≤ n ∧ k = n - i ∧ St C env.locals ρ2 H2 s2.heap ∧ StepX (D :: wr) env.locals H H2 s s2 ∧ Rr i s2.heap ∧ Off C env.locals H2 wr ∧ Acc C env.locals D H2 zs s2.heap ∧ Inv i ρ2 H2 zs
theorem comp_turns (Inn : (Shared → Prop) → Shared → Prop)
    (hInn : ∀ {ρ H zs Qi} {K : Shared → Prop} {s : Shared}, CompI C A env elt gs ρ H zs Qi → St C env.locals ρ H s.heap → Acc C env.locals D H zs s.heap →
      (∀ ρ5 H5 us s5, St C env.locals ρ5 H5 s5.heap → Acc C env.locals D H5 us s5.heap → StepX [D] env.locals H H5 s s5 → Qi ρ5 H5 us → K s5) → Inn K s)
    (it : Itr C A I wr tgt n Rr Ok P) (hDw : D ∉ wr)
    (turn : ∀ i ρ1 H2 zs, i < n → Inv i ρ1 H2 zs → Ok i H2 ∧ ∀ d, P i H2 d → Asg C A env tgt d ρ1 H2 (fun ρ2 H3 => WIf C A env ifs ρ2 H3 (fun b H4 => (b = true → CompI C A env elt gs ρ2 H4 zs (fun ρ5 H5 us => Inv (i + 1) ρ5 H5 us)) ∧ (b = false → Inv (i + 1) ρ2 H4 zs))))
    (fin : ∀ ρ1 H2 zs, Inv n ρ1 H2 zs → Ok n H2 ∧ Q ρ1 H2 zs) (k : Nat) (s2 : Shared) (hI : CSt C env D wr n Rr Inv H s k s2) :
    wpAny C.M A (pyNext (.ref I)) (TurnP C A env tgt ifs I (CompR C env.locals D (D :: wr) H s Q (.ok .next)) (Inn (fun s' => ∃ m, m < k ∧ CSt C env D wr n Rr Inv H s m s')) (fun s' => ∃ m, m < k ∧ CSt C env D wr n Rr Inv H s m s')) False2 s2 := by
  obtain ⟨i, ρ2, H2, zs, hi, rfl, a2, b2, r2, o2, acc2, i2⟩ := hI
  by_cases hlt : i < n
  · obtain ⟨ok, t⟩ := turn i ρ2 H2 zs hlt i2
    refine it.item i s2 env.locals ρ2 H2 _ hlt r2 a2 o2 ok fun v dd h' tk hP hdd a3 r3 k3 => ?_
    have b3 : StepX (D :: wr) env.locals H2 H2 s2 { s2 with heap := h', toks := tk } := StepX.off (fun b o hb e => k3 b o (fun q => hb (List.mem_cons_of_mem _ q)) e)
    have hDn : ∀ b ∈ wr, b ∉ [D] := fun b hb q => hDw (by rw [← List.mem_singleton.mp q]; exact hb)
    have acc3 : Acc C env.locals D H2 zs h' := by
      obtain ⟨oo, ⟨xs, ⟨nn, hp⟩, e⟩, z⟩ := acc2
      exact ⟨oo, ⟨xs, ⟨nn, k3 D _ hDw hp⟩, e⟩, z⟩
    refine wpAny_mono (t dd hP { s2 with heap := h', toks := tk } v a3 hdd) (fun _ s4 ⟨ρ4, H4, a4, b4, c4⟩ => ?_) fun _ _ e => e.elim
    have acc4 := acc3.step b4
    have r4 : Rr (i + 1) s4.heap := it.frame _ _ _ r3 fun b hb o e => b4.kept b o e (o2 b hb).1 (o2 b hb).2.2
    have o4 : Off C env.locals H4 wr := o2.step (it.live _ _ r3) b4
    refine wpAny_mono (WIf.run c4 s4 a4) (fun bb s5 ⟨ρ5, H5, a5, b5, c5, d5, d5'⟩ => ?_) fun _ _ e => e.elim
    subst c5
    have acc5 := acc4.step b5
    have r5 : Rr (i + 1) s5.heap := it.frame _ _ _ r4 fun b hb o e => b5.kept b o e (o4 b hb).1 (o4 b hb).2.2
    have o5 : Off C env.locals H5 wr := o4.step (it.live _ _ r4) b5
    have b25 := ((b2.trans b3).trans b4.toX).trans b5.toX
    refine ⟨fun e => ?_, fun e => ⟨n - (i + 1), by omega, i + 1, ρ5, H5, zs, hlt, rfl, a5, b25, r5, o5, acc5, d5' e⟩⟩
    refine hInn (d5 e) a5 acc5 fun ρ6 H6 us s6 a6 acc6 b6 i6 => ?_
    refine ⟨n - (i + 1), by omega, i + 1, ρ6, H6, us, hlt, rfl, a6, b25.trans (b6.mono fun b hb _ _ => by rw [List.mem_singleton.mp hb]; exact List.mem_cons_self ..), ?_, o5.stepX (it.live _ _ r5) b6 hDn, acc6, i6⟩
    exact it.frame _ _ _ r5 fun b hb o e => b6.kept b o (hDn b hb) e (o5 b hb).1 (o5 b hb).2.2
  · have hin : i = n := by omega
    subst hin
    obtain ⟨ok, q⟩ := fin ρ2 H2 zs i2
    refine it.done s2 env.locals ρ2 H2 _ r2 a2 o2 ok fun h' tk a3 k3 => ?_
    refine ⟨ρ2, H2, zs, a3, ?_, ?_, q⟩
    · obtain ⟨oo, ⟨xs, ⟨nn, hp⟩, e⟩, z⟩ := acc2
      exact ⟨oo, ⟨xs, ⟨nn, k3 D _ hDw hp⟩, e⟩, z⟩
    · exact b2.trans (StepX.off fun b o hb e => k3 b o (fun q => hb (List.mem_cons_of_mem _ q)) e)
end

theorem comp_run {elt : Expr} {gens : List Comprehension} {scope : Scope} {pos : Pos} {D : Addr} : ∀ (gs : List Comprehension) (d : Nat) (tgt iter : Expr) (ifs : List Expr), gens.drop d = ⟨tgt, iter, ifs, 0⟩ :: gs → (∀ g ∈ gs, g.is_async = 0 ∧ ∀ x, foldedSetIterable g.iter env x = pure x) →
    ∀ {I : Addr} {wr : List Addr} {n : Nat} {Rr : Nat → Heap → Prop} {Ok : Nat → AH → Prop} {P : Nat → AH → Dv → Prop} {ρ : Lo} {H : AH} {ys : List V} {Q : Lo → AH → List V → Prop} {s : Shared},
      LoopOk C A env elt tgt ifs gs H n Ok P ρ ys Q → Itr C A I wr tgt n Rr Ok P → Rr 0 s.heap → St C env.locals ρ H s.heap → Off C env.locals H wr → D ∉ wr → Acc C env.locals D H ys s.heap →
      codeAny C.M A (.compStart (.ListComp elt gens scope pos) d (.ref I) (.ref D) env) (CompR C env.locals D (D :: wr) H s Q) s := by
  intro gs
  induction gs with
  | nil =>
    intro d tgt iter ifs hdrop hasync I wr n Rr Ok P ρ H ys Q s ⟨Inv, h0, turn, fin⟩ it r0 a0 o0 hDw acc0
    have hd : gens[d]? = some ⟨tgt, iter, ifs, 0⟩ := by rw [← List.head?_drop, hdrop]; rfl
    have hl : gens[d + 1]? = none := by
      have : gens.drop (d + 1) = [] := by rw [← List.drop_drop, hdrop]; rfl
      rw [← List.head?_drop, this]; rfl
    have key : codeAny C.M A (.compLoop (.ListComp elt gens scope pos) d (.ref I) (.ref D) env) (CompR C env.locals D (D :: wr) H s Q) s := by
      refine compLoop_last hd hl (CSt C env D wr n Rr Inv H s) (fun k s2 hI => comp_turns (InnLast C A env elt D) ?_ it hDw turn fin k s2 hI) n ⟨0, ρ, H, ys, Nat.zero_le _, rfl, a0, (Step.refl ..).toX, r0, o0, acc0, h0⟩
      intro ρ5 H5 zs Qi K s5 hc a5 acc5 hK
      refine wpAny_mono (hc s5 a5) (fun y s6 ⟨ρ6, H6, a6, b6, c6, d6, d6'⟩ => ?_) fun _ _ e => e.elim
      subst c6
      obtain ⟨oo, ⟨xs, hp, e⟩, z6⟩ := acc5.step b6
      have hxs : xs.size = zs.length := by rw [← e]; simp
      refine wpAny_list_append_plain hp (fun h7 hp7 hs7 => ?_) (by rw [hxs]; exact Nat.le_of_lt d6)
      have k7 : ∀ b o, b ∉ [D] → s6.heap.get? b = some o → h7.get? b = some o := fun b o hb e => hs7.extBut b o (fun q => hb (by simp [q])) e
      exact hK ρ6 H6 (zs ++ [ab y]) _ (a6.offL (fun b hb => by rw [List.mem_singleton.mp hb]; exact oo) k7) ⟨oo, ⟨xs.push y, hp7, by simp [e]⟩, by simp; omega⟩ (b6.toX.trans (StepX.off k7)) d6'
    exact compStart_run hd key (it.self 0 s _ r0 key)
  | cons g gs ih =>
    intro d tgt iter ifs hdrop hasync I wr n Rr Ok P ρ H ys Q s ⟨Inv, h0, turn, fin⟩ it r0 a0 o0 hDw acc0
    obtain ⟨tgt', iter', ifs', as'⟩ := g
    have has : as' = 0 := (hasync _ (List.mem_cons_self ..)).1
    subst has
    have hfs : ∀ x, foldedSetIterable iter' env x = pure x := (hasync _ (List.mem_cons_self ..)).2
    have hd : gens[d]? = some ⟨tgt, iter, ifs, 0⟩ := by rw [← List.head?_drop, hdrop]; rfl
    have hdrop' : gens.drop (d + 1) = ⟨tgt', iter', ifs', 0⟩ :: gs := by rw [← List.drop_drop, hdrop]; rfl
    have hl : gens[d + 1]? = some ⟨tgt', iter', ifs', 0⟩ := by rw [← List.head?_drop, hdrop']; rfl
    have key : codeAny C.M A (.compLoop (.ListComp elt gens scope pos) d (.ref I) (.ref D) env) (CompR C env.locals D (D :: wr) H s Q) s := by
      refine compLoop_more hd hl hfs (CSt C env D wr n Rr Inv H s) (fun k s2 hI => comp_turns (InnMore C A env (.ListComp elt gens scope pos) iter' (d + 1) D) ?_ it hDw turn fin k s2 hI) n ⟨0, ρ, H, ys, Nat.zero_le _, rfl, a0, (Step.refl ..).toX, r0, o0, acc0, h0⟩
      intro ρ5 H5 zs Qi K s5 hc a5 acc5 hK
      refine hc s5 a5 _ (fun H6 n6 Ok6 P6 I6 wr6 Rr6 s6 hL6 it6 r6 a6 b6 hw6 => ?_)
      have acc6 := acc5.step b6
      have hD6 : D ∉ wr6 := fun q => by
        obtain ⟨_, ⟨xs, ⟨nn, hp⟩, _⟩, _⟩ := acc5
        rw [(hw6 D q).1] at hp; cases hp
      refine codeAny_mono (ih (d + 1) tgt' iter' ifs' hdrop' (fun g hg => hasync g (List.mem_cons_of_mem _ hg)) hL6 it6 r6 a6 (fun b hb => ⟨(hw6 b hb).2, (a5.fresh (hw6 b hb).1).2⟩) hD6 acc6) (fun r s7 h7 => ?_)
      cases r with
      | error e => exact h7
      | ok f =>
        cases f with
        | next =>
          obtain ⟨ρ7, H7, us, a7, acc7, b7, q7⟩ := h7
          refine hK ρ7 H7 us s7 a7 acc7 ?_ q7
          have b67 := (b6.toX (ex := D :: wr6)).trans b7
          refine b67.mono fun b hb o e => ?_
          rcases List.mem_cons.mp hb with rfl | hb
          · exact List.mem_singleton.mpr rfl
          · rw [(hw6 b hb).1] at e; cases e
        | brk => exact h7.elim
        | cont => exact h7.elim
        | ret v => exact h7.elim
    exact compStart_run hd key (it.self 0 s _ r0 key)

/-! the whole comprehension -/

def CompOk (C : Cx) (A : Around) (env : Env) (elt : Expr) (g : Comprehension) (gs : List Comprehension) (scope : Scope) (cl : List (Str × Addr)) (ρ : Lo) (H : AH) (Q : AH → List V → Prop) : Prop :=
  WIt C A env g.iter g.target ρ H (fun H1 n Ok P => ∀ Cn, H1 Cn = none → LoopOk C A (compEnvC scope cl Cn env) elt g.target g.ifs gs H1 n Ok P (fun _ => none) [] (fun _ H2 zs => Q H2 zs))

theorem comp_whole {elt tgt iter : Expr} {ifs : List Expr} {gs : List Comprehension} {scope : Scope} {pos : Pos} {cl : List (Str × Addr)} {use : Option (Value → Sem Unit)} {s : Shared} {Q : AH → List V → Prop} {QQ : Value → Shared → Prop}
    (hclos : closureFor scope env = pure cl) (hcell : ∀ y ∈ scope.names, y.2 ≠ .cell) (hkind : scope.kind = .function) (hnames : ∀ x ∈ scope.names, x.2 = .local → scope.names.lookup x.1 = some .local)
    (hfs : ∀ x, foldedSetIterable iter env x = pure x) (hgs : ∀ g ∈ gs, g.is_async = 0 ∧ ∀ Cn, ∀ x, foldedSetIterable g.iter (compEnvC scope cl Cn env) x = pure x)
    (hs : St C env.locals ρ H s.heap) (h : CompOk C A env elt ⟨tgt, iter, ifs, 0⟩ gs scope cl ρ H Q)
    (hq : ∀ D Cn H2 zs s', Q H2 zs → H2 D = none → St C env.locals ρ (H2.set D (.list zs)) s'.heap → Step env.locals H (H2.set D (.list zs)) s s' → s.heap.get? Cn = none → Cn ≠ D → H2 Cn = none → (∃ m, s'.heap.Ns Cn m) → compPost C.M A False2 use QQ (.ref D) Cn (.ok .next) s') :
    wpAny C.M A (comprehension (.ListComp elt (⟨tgt, iter, ifs, 0⟩ :: gs) scope pos) scope env (firstIterPos (⟨tgt, iter, ifs, 0⟩ :: gs) pos) (newList []) false (eval iter env) use) QQ False2 s := by
  refine wpAny_comprehension_free (g := ⟨tgt, iter, ifs, 0⟩) (gs := gs) rfl hfs hclos hkind hnames ?_
  refine h s hs _ (fun H1 n Ok P I wr Rr s1 hL it r1 a1 b1 hw => ?_)
  refine wpAny_newObj_type (wpAny_newFunctionEnv hcell (by intro y hy; simp at hy) (fun h2 hns2 hsb2 => ?_) hkind)
  dsimp only at hns2 hsb2 ⊢
  generalize hH2 : s1.heap.push { cls := .type "list", dict := none, data := .seq ([] : List Value).toArray } = HH at hns2 hsb2 ⊢
  have hsz : HH.objs.size = s1.heap.objs.size + 1 := by rw [← hH2, Heap.size_push]
  have hDn : s1.heap.get? s1.heap.objs.size = none := get?_size_none _
  have hCn : HH.get? HH.objs.size = none := get?_size_none _
  have up1 : ∀ b o, s1.heap.get? b = some o → HH.get? b = some o := fun b o e => by rw [← hH2]; exact Heap.get?_push_of_some _ e
  have up2 : ∀ b o, HH.get? b = some o → h2.get? b = some o := fun b o e => hsb2.extBut b o (fun q => by rw [q, hCn] at e; cases e) (Heap.get?_push_of_some _ e)
  have hDC : s1.heap.objs.size ≠ HH.objs.size := by rw [hsz]; exact Nat.ne_of_lt (Nat.lt_succ_self _)
  have hC1 : s1.heap.get? HH.objs.size = none := by
    cases e : s1.heap.get? HH.objs.size with
    | none => rfl
    | some o => rw [up1 _ _ e] at hCn; cases hCn
  have fD := a1.fresh hDn
  have fC := a1.fresh hC1
  have a2 : St C HH.objs.size (fun _ => none) H1 h2 := ⟨fun b o e => up2 _ _ (up1 _ _ (a1.keep b o e)), fun a o e => let ⟨c, e1, e2⟩ := a1.rep a o e; ⟨c, up2 _ _ (up1 _ _ e1), e2⟩, a1.own, ⟨_, hns2, fun x => rfl⟩, fC.1, fC.2.1⟩
  have hDp : h2.PlainList s1.heap.objs.size #[] := ⟨0, up2 _ _ (by rw [← hH2]; exact Heap.get?_push_size _ rfl)⟩
  have accD : Acc C HH.objs.size s1.heap.objs.size H1 [] h2 := ⟨⟨fD.1, fD.2.1, hDC⟩, ⟨#[], hDp, rfl⟩, Nat.zero_le _⟩
  have live1 := it.live 0 s1.heap r1
  have hwne : ∀ b ∈ wr, b ≠ s1.heap.objs.size ∧ b ≠ HH.objs.size := fun b hb => by
    obtain ⟨o, e⟩ := live1 b hb
    exact ⟨fun q => (by rw [q, hDn] at e; cases e), fun q => (by rw [q, hC1] at e; cases e)⟩
  have r2 : Rr 0 h2 := it.frame _ _ _ r1 fun b hb o e => up2 _ _ (up1 _ _ e)
  have o2 : Off C HH.objs.size H1 wr := fun b hb => ⟨(hw b hb).2, (hs.fresh (hw b hb).1).2.1, (hwne b hb).2⟩
  have key := comp_run (C := C) (A := A) (env := compEnvC scope cl HH.objs.size env) (elt := elt) (gens := ⟨tgt, iter, ifs, 0⟩ :: gs) (scope := scope) (pos := pos) (D := s1.heap.objs.size) gs 0 tgt iter ifs rfl (fun g hg => ⟨(hgs g hg).1, (hgs g hg).2 _⟩) (s := { s1 with heap := h2, toks := s1.toks + ([] : List (Str × Value)).length }) (hL HH.objs.size fC.1) it r2 a2 o2 (fun q => (hwne _ q).1 rfl) accD
  refine codeAny_mono key fun r s3 h3 => ?_
  cases r with
  | error e => exact h3.elim
  | ok f =>
    cases f with
    | brk => exact h3.elim
    | cont => exact h3.elim
    | ret v => exact h3.elim
    | next =>
      obtain ⟨ρ3, H3, zs, a3, ⟨oD, ⟨xs, ⟨nn, hp⟩, e⟩, hzs⟩, b3, q3⟩ := h3
      have s13 : ∀ b o, s.heap.get? b = some o → b ∉ s1.heap.objs.size :: wr := fun b o eb q => by
        rcases List.mem_cons.mp q with rfl | q
        · obtain ⟨o', e'⟩ := b1.live _ o eb; rw [hDn] at e'; cases e'
        · rw [(hw b q).1] at eb; cases eb
      have neC : ∀ b o, s.heap.get? b = some o → b ≠ HH.objs.size := fun b o eb q => by obtain ⟨o', e'⟩ := b1.live _ o eb; rw [q, hC1] at e'; cases e'
      have alive2 : ∀ b o, s.heap.get? b = some o → ∃ o', h2.get? b = some o' := fun b o eb => let ⟨o', e'⟩ := b1.live _ o eb; ⟨o', up2 _ _ (up1 _ _ e')⟩
      have kept : ∀ b o, s.heap.get? b = some o → H b = none → b ≠ env.locals → s3.heap.get? b = some o := fun b o eb eH eL =>
        b3.kept b o (s13 b o eb) (up2 _ _ (up1 _ _ (b1.kept b o eb eH eL))) (b1.new b o eb eH) (neC b o eb)
      have new3 : ∀ b o, s.heap.get? b = some o → H b = none → H3 b = none := fun b o eb eH => by
        obtain ⟨o', e'⟩ := alive2 b o eb
        exact b3.new b o' (s13 b o eb) e' (b1.new b o eb eH)
      obtain ⟨m1, ⟨oL, esL, epL, hoL, rL⟩, hm1⟩ := a1.loc
      have hLD : env.locals ≠ s1.heap.objs.size := fun q => by rw [q, hDn] at hoL; cases hoL
      have hLC : env.locals ≠ HH.objs.size := fun q => by rw [q, hC1] at hoL; cases hoL
      have hLx : env.locals ∉ s1.heap.objs.size :: wr := fun q => by
        rcases List.mem_cons.mp q with q | q
        · exact hLD q
        · exact (hs.fresh (hw _ q).1).2.2 rfl
      have hL3 : s3.heap.get? env.locals = some oL := b3.kept _ _ hLx (up2 _ _ (up1 _ _ hoL)) a1.nl hLC
      have nL3 : H3 env.locals = none := b3.new _ _ hLx (up2 _ _ (up1 _ _ hoL)) a1.nl
      have St3 : St C env.locals ρ (H3.set s1.heap.objs.size (.list zs)) s3.heap := by
        refine ⟨a3.keep, fun b o eb => ?_, fun b o eb hm => ?_, ⟨m1, ⟨oL, esL, epL, hL3, rL⟩, hm1⟩, ?_, a1.bl⟩
        · by_cases q : b = s1.heap.objs.size
          · subst q; rw [AH.set_same] at eb; cases eb; exact ⟨_, hp, xs, nn, rfl, e, hzs⟩
          · rw [AH.set_ne _ _ q] at eb; exact a3.rep b o eb
        · by_cases q : b = s1.heap.objs.size
          · subst q; exact fD.2.1
          · rw [AH.set_ne _ _ q] at eb; exact a3.own b o eb hm
        · rw [AH.set_ne _ _ hLD]; exact nL3
      refine hq s1.heap.objs.size HH.objs.size H3 zs s3 q3 oD.1 St3 ⟨?_, kept, fun b o eb eH => ?_, fun b o eb => ?_⟩ ?_ (Ne.symm hDC) a3.nl (let ⟨m, hm, _⟩ := a3.loc; ⟨m, hm⟩)
      · exact ⟨b3.same.1.trans b1.same.1, b3.same.2.trans b1.same.2⟩
      · rw [AH.set_ne _ _ (fun q => by obtain ⟨o', e'⟩ := b1.live _ o eb; rw [q, hDn] at e'; cases e')]; exact new3 b o eb eH
      · obtain ⟨o', e'⟩ := alive2 b o eb
        exact b3.live b o' (s13 b o eb) e'
      · cases ec : s.heap.get? HH.objs.size with
        | none => rfl
        | some o => exact absurd rfl (neC _ o ec)

theorem Step.letgo {L Cn D : Addr} {H H2 : AH} {s s' : Shared} {h' : Heap} {zs : List V} (x : Step L H H2 s s') (hc : s.heap.get? Cn = none) (hs : Heap.SameBut Cn s'.heap h') : Step L H H2 s { s' with heap := h' } := by
  obtain ⟨m1, k, n, l⟩ := x
  have ne : ∀ b o, s.heap.get? b = some o → b ≠ Cn := fun b o e q => by rw [q, hc] at e; cases e
  exact ⟨m1, fun b o e eb eL => hs.extBut b o (ne b o e) (k b o e eb eL), n, fun b o e => let ⟨o', e'⟩ := l b o e; ⟨o', hs.extBut b o' (ne b o e) e'⟩⟩

theorem WE.listComp {elt tgt iter : Expr} {ifs : List Expr} {gs : List Comprehension} {scope : Scope} {pos : Pos} {cl : List (Str × Addr)} {Q : V → AH → Prop}
    (hclos : closureFor scope env = pure cl) (h : CompOk C A env elt ⟨tgt, iter, ifs, 0⟩ gs scope cl ρ H (fun H2 zs => ∀ D, H2 D = none → Q (.ref D) (H2.set D (.list zs))))
    (hcell : ∀ y ∈ scope.names, y.2 ≠ .cell := by decide) (hkind : scope.kind = .function := by rfl) (hnames : ∀ x ∈ scope.names, x.2 = .local → scope.names.lookup x.1 = some .local := by decide)
    (hfs : ∀ x, foldedSetIterable iter env x = pure x := by intro _; rfl) (hgs : ∀ g ∈ gs, g.is_async = 0 ∧ ∀ Cn, ∀ x, foldedSetIterable g.iter (compEnvC scope cl Cn env) x = pure x := by simp) :
    WE C A env (.ListComp elt (⟨tgt, iter, ifs, 0⟩ :: gs) scope pos) ρ H Q := fun s hs => by
  refine comp_whole (use := none) hclos hcell hkind hnames hfs hgs hs h fun D Cn H2 zs s' q hD a b hCs hCD hC2 hns => ?_
  obtain ⟨m, hm⟩ := hns
  refine ⟨m, hm, fun h' hsb => ⟨ρ, _, ?_, b.letgo (D := D) (zs := zs) hCs hsb, rfl, q D hD⟩⟩
  refine a.off (I := Cn) ?_ ?_ ?_ (fun b o hb e => hsb.extBut b o hb e)
  · rw [AH.set_ne _ _ hCD]; exact hC2
  · exact (hs.fresh hCs).2.1
  · exact (hs.fresh hCs).2.2

theorem W1.asgComp {elt tgt iter : Expr} {ifs : List Expr} {gs : List Comprehension} {scope : Scope} {pos spos p : Pos} {x : Str} {cl : List (Str × Addr)} {Q : Fl → Lo → AH → Prop} (F : Fx C A env) (hl : env.kindOf x = some .local)
    (hclos : closureFor scope env = pure cl) (h : CompOk C A env elt ⟨tgt, iter, ifs, 0⟩ gs scope cl ρ H (fun H2 zs => ∀ D, H2 D = none → Q .next (ρ.set x (.ref D)) (H2.set D (.list zs))))
    (hsw : swapsWith (.ListComp elt (⟨tgt, iter, ifs, 0⟩ :: gs) scope pos) (some (.Name x p)) spos.line env = pure true)
    (hcell : ∀ y ∈ scope.names, y.2 ≠ .cell := by decide) (hkind : scope.kind = .function := by rfl) (hnames : ∀ x ∈ scope.names, x.2 = .local → scope.names.lookup x.1 = some .local := by decide)
    (hfs : ∀ x, foldedSetIterable iter env x = pure x := by intro _; rfl) (hgs : ∀ g ∈ gs, g.is_async = 0 ∧ ∀ Cn, ∀ x, foldedSetIterable g.iter (compEnvC scope cl Cn env) x = pure x := by simp) :
    W1 C A env (.Assign [.Name x p] (.ListComp elt (⟨tgt, iter, ifs, 0⟩ :: gs) scope pos) spos) ρ H Q := fun s hs => by
  rw [exec_Assign_Name_used x p _ spos hsw]
  refine wpAny_bind (wpAny_standAt (wpAny_bind (m := evalThenUse (.ListComp elt (⟨tgt, iter, ifs, 0⟩ :: gs) scope pos) env (PySem.assign (.Name x p) env)) ?_))
  show wpAny C.M A (comprehension (.ListComp elt (⟨tgt, iter, ifs, 0⟩ :: gs) scope pos) scope env (firstIterPos (⟨tgt, iter, ifs, 0⟩ :: gs) pos) (newList []) false (eval iter env) (some (PySem.assign (.Name x p) env)) >>= fun _ => pure PUnit.unit) _ _ s
  refine wpAny_bind ?_
  refine comp_whole (use := some (PySem.assign (.Name x p) env)) hclos hcell hkind hnames hfs hgs hs h fun D Cn H2 zs s' q hD a b hCs hCD hC2 hns => ?_
  obtain ⟨m, hm⟩ := hns
  have hCo : (H2.set D (.list zs)) Cn = none := by rw [AH.set_ne _ _ hCD]; exact hC2
  have hCL : Cn ≠ env.locals := (hs.fresh hCs).2.2
  refine wpAny_mono (Asg.local (pos := p) F hl (Q := fun ρ2 H3 => ρ2 = ρ.set x (.ref D) ∧ H3 = H2.set D (.list zs)) ⟨rfl, rfl⟩ s' (.ref D) a rfl) (fun _ s'' ⟨ρ2, H3, a2, b2, c2, c3⟩ => ?_) fun _ _ e => e
  subst c2 c3
  have hm2 : s''.heap.Ns Cn m := by
    obtain ⟨o, es, ep, ho, r⟩ := hm
    exact ⟨o, es, ep, b2.kept _ _ ho hCo hCL, r⟩
  refine ⟨m, hm2, fun h' hsb => wpAny_pure (wpAny_pure ⟨_, _, ?_, (b.trans b2 (fun _ _ => a2.nl)).letgo (D := D) (zs := zs) hCs hsb, q D hD⟩)⟩
  exact a2.off (I := Cn) hCo (hs.fresh hCs).2.1 hCL (fun b o hb e => hsb.extBut b o hb e)
end
end Mine

namespace Mine
open PySem PySem.W PyProof.Rows

section
variable {C : Cx} {A : Around} {env : Env} {ρ : Lo} {H : AH}

/-! ## the library's frames and ledgers over my states -/
def noHeap : Heap := ⟨#[], {}⟩
theorem noHeap_get (b : Addr) : noHeap.get? b = none := by simp [noHeap, Heap.get?]
def allNews (h : Heap) (L : Addr) : List (Addr × Obj) := (List.range h.objs.size).filterMap fun b => if b = L then none else (h.get? b).map fun o => (b, o)
theorem mem_allNews {h : Heap} {L b : Addr} {o : Obj} (e : h.get? b = some o) (hb : b ≠ L) : (b, o) ∈ allNews h L :=
  List.mem_filterMap.mpr ⟨b, List.mem_range.mpr (Heap.lt_size e), by simp [hb, e]⟩
theorem news_all (h : Heap) (L : Addr) : News noHeap L h (allNews h L) := fun p hp => by
  obtain ⟨b, _, e⟩ := List.mem_filterMap.mp hp
  by_cases hb : b = L
  · simp [hb] at e
  · rw [if_neg hb] at e
    cases hg : h.get? b with
    | none => rw [hg] at e; cases e
    | some o => rw [hg] at e; cases e; exact ⟨hg, hb, noHeap_get _⟩
theorem St.fr {L : Addr} {h : Heap} (hs : St C L ρ H h) : ∃ m, Fr noHeap L h m ∧ ∀ x, (m x).map ab = ρ x := by
  obtain ⟨m, hn, hm⟩ := hs.loc
  exact ⟨m, ⟨hn, fun b o e => (by rw [noHeap_get] at e; cases e), Nat.zero_le _⟩, hm⟩
theorem News.kept {L : Addr} {h h' : Heap} {news : List (Addr × Obj)} (N : News noHeap L h' news) (hsub : ∀ p ∈ allNews h L, p ∈ news) : ∀ b o, b ≠ L → h.get? b = some o → h'.get? b = some o := fun b o hb e => (N _ (hsub _ (mem_allNews e hb))).1
theorem St.of_fr {L : Addr} {h h' : Heap} {m : Str → Option Value} (hs : St C L ρ H h) (F : Fr noHeap L h' m) (hm : ∀ x, (m x).map ab = ρ x) (k : ∀ b o, b ≠ L → h.get? b = some o → h'.get? b = some o) : St C L ρ H h' where
  keep := fun b o e => k b o (fun q => by rw [q, hs.bl] at e; cases e) (hs.keep b o e)
  rep := fun a o e => let ⟨c, e1, e2⟩ := hs.rep a o e; ⟨c, k a c (fun q => by rw [q, hs.nl] at e; cases e) e1, e2⟩
  own := hs.own
  loc := ⟨m, F.ns, hm⟩
  nl := hs.nl
  bl := hs.bl
theorem Step.of_fr {L : Addr} {s : Shared} {h' : Heap} {tk : Nat} {m : Str → Option Value} (F : Fr noHeap L h' m) (k : ∀ b o, b ≠ L → s.heap.get? b = some o → h'.get? b = some o) : Step L H H s { s with heap := h', toks := tk } :=
  ⟨⟨rfl, rfl⟩, fun b o e _ hb => k b o hb e, fun _ _ _ e => e, fun b o e => by
    by_cases q : b = L
    · subst q; obtain ⟨o', _, _, ho, _⟩ := F.ns; exact ⟨o', ho⟩
    · exact ⟨o, k b o q e⟩⟩
/-- a new object, given by its ledger row -/
theorem St.alloc_fr {L a : Addr} {h h' : Heap} {c : Obj} {o : O} {m : Str → Option Value} (hs : St C L ρ H h) (F : Fr noHeap L h' m) (hm : ∀ x, (m x).map ab = ρ x) (ha : h.get? a = none) (hc : h'.get? a = some c) (hr : Rep o c) (k : ∀ b o, b ≠ L → h.get? b = some o → h'.get? b = some o) : St C L ρ (H.set a o) h' := by
  have f := hs.fresh ha
  exact St.alloc' (hs.of_fr F hm k) f.1 f.2.1 f.2.2 hc hr
where
  St.alloc' {h' : Heap} {a : Addr} {c : Obj} {o : O} {L : Addr} {ρ : Lo} {H : AH} (x : St C L ρ H h') (hH : H a = none) (hB : C.base.get? a = none) (hL : a ≠ L) (hc : h'.get? a = some c) (hr : Rep o c) : St C L ρ (H.set a o) h' :=
    ⟨x.keep, fun b o' e => by
      by_cases q : b = a
      · subst q; rw [AH.set_same] at e; cases e; exact ⟨c, hc, hr⟩
      · rw [AH.set_ne _ _ q] at e; exact x.rep b o' e, fun b o' e m => by
      by_cases q : b = a
      · subst q; exact hB
      · rw [AH.set_ne _ _ q] at e; exact x.own b o' e m, x.loc, by rw [AH.set_ne _ _ (Ne.symm hL)]; exact x.nl, x.bl⟩
theorem Step.alloc_fr {L a : Addr} {s : Shared} {h' : Heap} {tk : Nat} {o : O} {m : Str → Option Value} (F : Fr noHeap L h' m) (ha : s.heap.get? a = none) (k : ∀ b o, b ≠ L → s.heap.get? b = some o → h'.get? b = some o) : Step L H (H.set a o) s { s with heap := h', toks := tk } :=
  let x : Step L H H s { s with heap := h', toks := tk } := Step.of_fr F k
  ⟨x.same, x.kept, fun b o e eb => by rw [AH.set_ne _ _ (fun q => by rw [q, ha] at e; cases e)]; exact eb, x.live⟩

/-! ## lists: +, slices -/
def vadd (xs ys : List V) : List V := xs ++ ys
theorem WE.addList {l r : Expr} {pos : Pos} {Q : V → AH → Prop}
    (h : WE C A env l ρ H (fun v H1 => WE C A env r ρ H1 (fun w H2 => ∃ a b oa ob xs ys, v = .ref a ∧ w = .ref b ∧ H2 a = some oa ∧ H2 b = some ob ∧ lst oa = some xs ∧ lst ob = some ys ∧ xs.length + ys.length ≤ sizeLine ∧ ∀ c, H2 c = none → Q (.ref c) (H2.set c (.list (xs ++ ys)))))) :
    WE C A env (.BinOp l .Add r pos) ρ H Q := by
  refine W.BinOp (W.mono h ?_)
  rintro x _ H1 ⟨rfl, h1⟩
  refine W.mono h1 ?_
  rintro y _ H2 ⟨rfl, a, b, oa, ob, xs, ys, ex, ey, ha, hb, la, lb, hsz, hq⟩
  cases ab_ref ex
  cases ab_ref ey
  intro s hs
  obtain ⟨ax, a1, a2, a3⟩ := hs.list ha la
  obtain ⟨bx, b1, b2, b3⟩ := hs.list hb lb
  obtain ⟨m, F, hm⟩ := hs.fr
  have hn := get?_size_none s.heap
  refine add_arrays F (news_all s.heap env.locals) a1 b1 (fun h' F' N' => ?_) (by rw [arr_size a2, arr_size b2]; exact hsz)
  have k := News.kept N' fun p hp => List.mem_cons_of_mem _ hp
  exact ⟨_, _, hs.alloc_fr (o := .list (xs ++ ys)) F' hm hn (N' _ (List.mem_cons_self ..)).1 ⟨_, _, rfl, by simp [a2, b2], by simpa using hsz⟩ k, .alloc_fr F' hn k, rfl, hq _ (hs.fresh hn).1⟩

def slc (lo hi : Option Int) (vs : List V) : List V := (vs.drop (lo.elim 0 (clipAt vs.length))).take (hi.elim vs.length (clipAt vs.length) - lo.elim 0 (clipAt vs.length))
theorem slc_pick {xs : Array Value} {vs : List V} {lo hi : Option Int} (e : xs.toList.map ab = vs) : (slicePick xs lo hi none).toList.map ab = slc lo hi vs := by
  rw [slicePick_plain]
  unfold slc
  rw [show vs.length = xs.size from (arr_size e).symm]
  simp [List.map_take, List.map_drop, ← e]
theorem slc_len (lo hi : Option Int) (vs : List V) : (slc lo hi vs).length ≤ vs.length := by
  unfold slc; simp; omega

/-- a part of a slice -/
inductive EvP (C : Cx) (A : Around) (env : Env) (ρ : Lo) (H : AH) : Option Expr → Option Int → Prop
  | none : EvP C A env ρ H none none
  | some {e : Expr} {i : Int} : Ev C A env ρ H e (.int i) → EvP C A env ρ H (some e) (some i)
theorem EvP.run {e : Option Expr} {k : Option Int} (h : EvP C A env ρ H e k) : W C A env.locals (evalPart e env) ρ H (fun x ρ' H' => ρ' = ρ ∧ H' = H ∧ IsPart x k) := by
  cases h with
  | none => exact W.pure ⟨rfl, rfl, .none⟩
  | some h => exact W.mono h (by rintro x _ _ ⟨rfl, rfl, e⟩; obtain ⟨t, rfl⟩ := ab_int e; exact ⟨rfl, rfl, .int _ t⟩)

theorem WE.slice {o : Expr} {lower upper : Option Expr} {p pos : Pos} {lo hi : Option Int} {Q : V → AH → Prop}
    (h : WE C A env o ρ H (fun v H1 => ∃ l ob vs, v = .ref l ∧ H1 l = some ob ∧ lst ob = some vs ∧ EvP C A env ρ H1 lower lo ∧ EvP C A env ρ H1 upper hi ∧ ∀ c, H1 c = none → Q (.ref c) (H1.set c (.list (slc lo hi vs))))) :
    WE C A env (.Subscript o (.Slice lower upper none p) pos) ρ H Q := fun s hs => by
  refine Subscript_ (wpAny_mono (h s hs) (fun x s1 ⟨ρ1, H1, a1, b1, c1, l, ob, vs, d1, d2, d3, d4, d5, d6⟩ => ?_) fun _ _ e => e)
  subst c1
  cases ab_ref d1
  refine wpAny_Slice (wpAny_mono (d4.run s1 a1) (fun vl s2 ⟨ρ2, H2, a2, b2, c2, c3, pl⟩ => ?_) fun _ _ e => e)
  subst c2 c3
  refine wpAny_mono (d5.run s2 a2) (fun vu s3 ⟨ρ3, H3, a3, b3, c3, c4, pu⟩ => ?_) fun _ _ e => e
  subst c3 c4
  rw [evalPart_none]
  refine wpAny_pure ?_
  obtain ⟨xs, x1, x2, x3⟩ := a3.list d2 d3
  have k1 : ∀ b o, s3.heap.get? b = some o → (s3.heap.push { cls := .type "slice", data := .fields #[vl, vu, .none] }).get? b = some o := fun b o e => Heap.get?_push_of_some _ e
  have a4 := a3.ext k1
  have x1' := x1.push { cls := .type "slice", data := .fields #[vl, vu, .none] }
  have hn := get?_size_none (s3.heap.push { cls := .type "slice", data := .fields #[vl, vu, .none] })
  refine tail_any (ops := [.ref s3.heap.objs.size, .ref l]) x1'.typeIs slot_list_getitem.lookup (wpAny_getItem_list_slice x1' (Heap.IsSliceOf.new ..) pl pu .none (by simp) ?_ (by rw [arr_size x2]; exact x3)) rfl
  have k2 : ∀ b o, (s3.heap.push { cls := .type "slice", data := .fields #[vl, vu, .none] }).get? b = some o → ((s3.heap.push { cls := .type "slice", data := .fields #[vl, vu, .none] }).push { cls := .type "list", data := .seq (slicePick xs lo hi none) }).get? b = some o := fun b o e => Heap.get?_push_of_some _ e
  refine ⟨_, _, a4.alloc (o := .list (slc lo hi vs)) hn (Heap.get?_push_size _ rfl) ⟨_, 0, rfl, slc_pick x2, Nat.le_trans (slc_len ..) x3⟩ k2, ?_, rfl, d6 _ (a4.fresh hn).1⟩
  have b13 := (b1.trans b2 (fun _ _ => a2.nl)).trans b3 (fun _ _ => a3.nl)
  exact (b13.trans (Step.ext (tk := s3.toks) k1) (fun _ _ => a3.nl)).trans (Step.alloc (tk := s3.toks) hn k2) (fun _ _ => by rw [AH.set_ne _ _ (Ne.symm (a4.fresh hn).2.2)]; exact a4.nl)

/-! ## vints of a list -/
def vints (ns : List Int) : List V := ns.map V.int
theorem intsAre_of : ∀ {xs : List Value} {ns : List Int}, xs.map ab = vints ns → IntsAre xs ns
  | [], [], _ => .nil
  | [], _ :: _, h => by simp [vints] at h
  | _ :: _, [], h => by simp [vints] at h
  | x :: xs, n :: ns, h => by
    simp only [vints, List.map_cons, List.cons.injEq] at h
    obtain ⟨t, rfl⟩ := ab_int h.1
    exact .cons n t (intsAre_of h.2)
@[simp] theorem ints_length (ns : List Int) : (vints ns).length = ns.length := by simp [vints]

end
end Mine

namespace Mine
open PySem PySem.W PyProof.Rows

/-! ## forgetting tracked objects at the end -/
def AH.le (H H' : AH) : Prop := ∀ a o, H a = some o → H' a = some o
theorem AH.le_refl (H : AH) : H.le H := fun _ _ e => e
theorem AH.le_trans {H H' H'' : AH} (x : H.le H') (y : H'.le H'') : H.le H'' := fun a o e => y a o (x a o e)
theorem AH.none_of_le {H H' : AH} (x : H.le H') {a : Addr} (e : H' a = none) : H a = none := by
  cases q : H a with
  | none => rfl
  | some o => have := x a o q; rw [e] at this; cases this
theorem AH.le_set {H H' : AH} (x : H.le H') {a : Addr} {o : O} (e : H a = none) : H.le (H'.set a o) := fun b o' eb => by
  by_cases q : b = a
  · subst q; rw [e] at eb; cases eb
  · rw [AH.set_ne _ _ q]; exact x b o' eb
theorem AH.get_of_set {H : AH} {a b : Addr} {o o' : O} (e : H b = some o') (ha : H a = none) : (H.set a o) b = some o' := by
  rw [AH.set_ne _ _ (fun q => by rw [q, ha] at e; cases e)]; exact e
theorem AH.none_of_set {H : AH} {a b : Addr} {o : O} (e : (H.set a o) b = none) : H b = none ∧ b ≠ a := by
  by_cases q : b = a
  · subst q; rw [AH.set_same] at e; cases e
  · rw [AH.set_ne _ _ q] at e; exact ⟨e, q⟩

section
variable {C : Cx} {A : Around} {env : Env} {ρ : Lo} {H : AH}
theorem St.le {L : Addr} {H H' : AH} {h : Heap} (x : H.le H') (y : St C L ρ H' h) : St C L ρ H h :=
  ⟨y.keep, fun a o e => y.rep a o (x a o e), fun a o e => y.own a o (x a o e), y.loc, AH.none_of_le x y.nl, y.bl⟩
theorem Post.drop {α : Type} {L : Addr} {s s' : Shared} {Q : α → Lo → AH → Prop} {a : α} (h : Post C L H s (fun a ρ' H' => ∃ H0, AH.le H0 H' ∧ Q a ρ' H0) a s') : Post C L H s Q a s' := by
  obtain ⟨ρ', H', x, y, H0, le, q⟩ := h
  exact ⟨ρ', H0, x.le le, ⟨y.same, y.kept, fun b o e eb => AH.none_of_le le (y.new b o e eb), y.live⟩, q⟩
theorem W.drop {α : Type} {L : Addr} {t : Sem α} {Q : α → Lo → AH → Prop} (h : W C A L t ρ H (fun a ρ' H' => ∃ H0, AH.le H0 H' ∧ Q a ρ' H0)) : W C A L t ρ H Q := fun s hs =>
  wpAny_mono (h s hs) (fun _ _ q => q.drop) fun _ _ e => e
theorem WE.drop {e : Expr} {Q : V → AH → Prop} (h : WE C A env e ρ H (fun v H' => ∃ H0, AH.le H0 H' ∧ Q v H0)) : WE C A env e ρ H Q :=
  W.drop (W.mono h fun _ _ _ ⟨a, H0, b, c⟩ => ⟨H0, b, a, c⟩)
theorem WT.drop {e : Expr} {Q : Bool → AH → Prop} (h : WT C A env e ρ H (fun v H' => ∃ H0, AH.le H0 H' ∧ Q v H0)) : WT C A env e ρ H Q :=
  W.drop (W.mono h fun _ _ _ ⟨a, H0, b, c⟩ => ⟨H0, b, a, c⟩)

theorem WEs.nil {Q : List V → AH → Prop} (h : Q [] H) : WEs C A env [] ρ H Q := h
theorem WEs.cons {e : Expr} {es : List Expr} {Q : List V → AH → Prop} (h : WE C A env e ρ H (fun v H1 => WEs C A env es ρ H1 (fun vs H2 => Q (v :: vs) H2))) : WEs C A env (e :: es) ρ H Q := h

/-! ## the call from the top -/
end
end Mine

namespace Mine
open PySem PySem.W PyProof.Rows

def aL (k : Str → Option NameKind) : List (Str × V) → Lo → Lo
  | [], m => m
  | (n, v) :: r, m => aL k r (if k n = some .local then fun y => if y = n then some v else m y else m)
def aC (k : Str → Option NameKind) : List (Str × V) → Lo → Lo
  | [], m => m
  | (n, v) :: r, m => aC k r (if k n = some .local then m else fun y => if y = n then some v else m y)
theorem bindL_ab {k : Str → Option NameKind} : ∀ {binds : List (Str × Value)} {m : Str → Option Value} {m' : Lo}, (∀ x, (m x).map ab = m' x) → ∀ x, (bindL k binds m x).map ab = aL k (binds.map fun p => (p.1, ab p.2)) m' x
  | [], _, _, h, x => h x
  | (n, v) :: r, m, m', h, x => by
    rw [List.map_cons, bindL, aL]
    refine bindL_ab (fun y => ?_) x
    split
    · show Option.map ab (if y = n then some v else m y) = if y = n then some (ab v) else m' y
      split
      · rfl
      · exact h y
    · exact h y
theorem bindC_ab {k : Str → Option NameKind} : ∀ {binds : List (Str × Value)} {m : Str → Option Value} {m' : Lo}, (∀ x, (m x).map ab = m' x) → ∀ x, (bindC k binds m x).map ab = aC k (binds.map fun p => (p.1, ab p.2)) m' x
  | [], _, _, h, x => h x
  | (n, v) :: r, m, m', h, x => by
    rw [List.map_cons, bindC, aC]
    refine bindC_ab (fun y => ?_) x
    split
    · exact h y
    · show Option.map ab (if y = n then some v else m y) = if y = n then some (ab v) else m' y
      split
      · rfl
      · exact h y

section
variable {C : Cx} {A : Around} {env : Env} {ρ : Lo} {H : AH}
def kinds (fd : FuncData) (x : Str) : Option NameKind := fd.scope.names.lookup x

/-! sums, counts, shorter -/
theorem slc_take (vs : List V) (k : Nat) (h : k ≤ vs.length) : slc none (some (k : Int)) vs = vs.take k := by
  unfold slc
  simp [clipAt]
  omega
theorem slc_drop (vs : List V) (k : Nat) : slc (some (k : Int)) none vs = vs.drop k := by
  unfold slc
  rcases Nat.lt_or_ge vs.length k with h | h
  · have e : ((clipAt vs.length (k : Int)) : Nat) = vs.length := by simp [clipAt]; omega
    rw [show (some (k : Int)).elim 0 (clipAt vs.length) = vs.length from e, List.drop_of_length_le (Nat.le_refl _), List.drop_of_length_le (Nat.le_of_lt h)]; simp
  · have e : ((clipAt vs.length (k : Int)) : Nat) = k := by simp [clipAt]; omega
    rw [show (some (k : Int)).elim 0 (clipAt vs.length) = k from e]
    exact List.take_of_length_le (by simp)
theorem WE.callB {id : Str} {p pos : Pos} {a : Addr} {o : Obj} {fd : FuncData} {es : List Expr} {ks : List Keyword} {Q : V → AH → Prop} (hfn : ∀ H, FnAt C H a o fd) (hf : Ev C A env ρ H (.Name id p) (.ref a))
    (h : WEs C A env es ρ H (fun vs H1 => WKs C A env ks ρ H1 (fun kv H2 => WCall C A (.ref a) vs kv H2 Q))) (hn : noStar es = true := by rfl) (hk : ks.all (·.arg.isSome) = true := by rfl) :
    WE C A env (.Call (.Name id p) es ks pos) ρ H Q := WE.callFn (o := o) (fd := fd) hf (WEs.mono h fun vs H1 q => by
      have : ∀ {ks : List Keyword} {H1 : AH} {Q Q' : List (Str × V) → AH → Prop}, (∀ kv H2, Q kv H2 → Q' kv H2) → WKs C A env ks ρ H1 Q → WKs C A env ks ρ H1 Q' := by
        intro ks
        induction ks with
        | nil => intro H1 Q Q' hq h; exact hq _ _ h
        | cons k ks ih =>
          intro H1 Q Q' hq h
          obtain ⟨arg, value⟩ := k
          cases arg with
          | none => exact h
          | some n => exact WE.mono h fun v H2 h => ih (fun kv H3 q => hq _ _ q) h
      exact this (fun kv H2 q => ⟨hfn H2, q⟩) q) hn hk
theorem Ev.as {e : Expr} {v v' : V} (h : Ev C A env ρ H e v) (hv : v = v') : Ev C A env ρ H e v' := hv ▸ h
theorem Fx.comp {scope : Scope} {cl : List (Str × Addr)} {Cn : Addr} (F : Fx C A env) (h : scope.kind = .function) : Fx C A (compEnvC scope cl Cn env) := ⟨h, F.gl, F.bu, F.hh⟩
end
end Mine

namespace Mine
open PySem PySem.W PyProof.Rows

/-! ## the top -/
theorem gl_own {C : Cx} {K : Frag} {x : Str} {v : Value} (hK : K.In C.base) (e : nsIn K mainGlobals x = some (some v)) : C.gl x = some v := by
  unfold Cx.gl; rw [mg_of hK C.hg e]
theorem gl_boot {C : Cx} {K : Frag} {x : Str} {v : Value} (hK : K.In C.base) (e : nsIn K mainGlobals x = some none) (hb : C.mb x = some v) : C.gl x = some v := by
  unfold Cx.gl; rw [ns_none_of hK C.hg e]; exact hb
theorem ints_of : ∀ {vs : List Value} {ns : List Int}, IntsAre vs ns → vs.map ab = vints ns
  | _, _, .nil => rfl
  | _, _, .cons _ _ h => by
    rw [List.map_cons, ints_of h]; rfl
theorem addr_ne (L i j : Nat) (h : (i == j) = false) : L + i ≠ L + j := by
  have : i ≠ j := by simpa using h
  omega
def bodyOf (fd : FuncData) : List Stmt := match fd.body with
  | .stmts b => b
  | _ => []
def fdOf (K : Frag) (a : Addr) : FuncData := match K.lookup a with
  | some ⟨_, _, .func fd, _⟩ => fd
  | _ => default
theorem noCell {l : List (Str × NameKind)} (h : l.all (fun x => x.2 != .cell) = true) : ∀ x ∈ l, x.2 ≠ .cell := fun x hx q => by
  have := List.all_eq_true.mp h x hx
  rw [q] at this
  exact absurd this (by decide)
theorem allLocal {l : List (Str × NameKind)} {bs : List (Str × V)} (h : bs.all (fun x => l.lookup x.1 == some .local) = true) : ∀ x ∈ bs, l.lookup x.1 = some .local := fun x hx => by
  simpa using List.all_eq_true.mp h x hx
theorem fn_in {C : Cx} {H : AH} {K : Frag} (hK : K.In C.base) (a : Addr) (h : K.lookup a = some ⟨.type "function", none, .func (fdOf K a), #[]⟩) : FnAt C H a ⟨.type "function", none, .func (fdOf K a), #[]⟩ (fdOf K a) := ⟨rfl, .inl (hK a _ h)⟩
end Mine

namespace Mine
open PySem PySem.W PyProof.Rows

section
variable {C : Cx} {A : Around} {env : Env} {ρ : Lo} {H : AH}

/-! ## a list changed, given by the ledger -/
theorem upd_map {D : Addr} {o o' : Obj} : ∀ {l : List (Addr × Obj)}, l.Pairwise (fun p q => p.1 ≠ q.1) → (D, o) ∈ l → Upd D o o' l (l.map fun p => if p.1 = D then (D, o') else p)
  | [], _, h => by cases h
  | p :: r, hp, h => by
    obtain ⟨h1, h2⟩ := List.pairwise_cons.mp hp
    rw [List.map_cons]
    by_cases q : p.1 = D
    · have hp : p = (D, o) := by
        rcases List.mem_cons.mp h with e | e
        · exact e.symm
        · exact absurd q (h1 _ e)
      subst hp
      have hr : ∀ x ∈ r, x.1 ≠ D := fun x hx => Ne.symm (h1 x hx)
      rw [if_pos rfl]
      have : (r.map fun p => if p.1 = D then (D, o') else p) = r := by
        conv => rhs; rw [← List.map_id r]
        exact List.map_congr_left fun x hx => by rw [if_neg (hr x hx)]; rfl
      rw [this]
      exact .head hr
    · rw [if_neg q]
      have : (D, o) ∈ r := by
        rcases List.mem_cons.mp h with e | e
        · rw [← e] at q; exact absurd rfl q
        · exact e
      exact .tail q (upd_map h2 this)
theorem allNews_keys (h : Heap) (L : Addr) : (allNews h L).Pairwise (fun p q => p.1 ≠ q.1) := by
  unfold allNews
  refine List.Pairwise.filterMap _ ?_ (List.nodup_range (n := h.objs.size))
  intro a a' hne b hb b' hb'
  have key : ∀ {a : Addr} {b : Addr × Obj}, (if a = L then none else (h.get? a).map fun o => (a, o)) = some b → b.1 = a := by
    intro a b e
    split at e
    · cases e
    · cases hg : h.get? a with
      | none => rw [hg] at e; cases e
      | some o => rw [hg] at e; cases e; rfl
  rw [key hb, key hb']; exact hne
/-- what the ledger says behind a change -/
theorem upd_all {L D : Addr} {h : Heap} {o o' : Obj} (hD : D ≠ L) (ho : h.get? D = some o) : ∃ news', Upd D o o' (allNews h L) news' ∧ ∀ h', News noHeap L h' news' → h'.get? D = some o' ∧ ∀ b ob, b ≠ L → b ≠ D → h.get? b = some ob → h'.get? b = some ob := by
  refine ⟨_, upd_map (allNews_keys h L) (mem_allNews ho hD), fun h' N => ⟨?_, fun b ob hb hbD e => ?_⟩⟩
  · exact (N (D, o') (List.mem_map.mpr ⟨(D, o), mem_allNews ho hD, by simp⟩)).1
  · exact (N (b, ob) (List.mem_map.mpr ⟨(b, ob), mem_allNews e hb, by simp [hbD]⟩)).1
theorem St.upd_fr {L a : Addr} {h h' : Heap} {c : Obj} {o₀ o : O} {m : Str → Option Value} (x : St C L ρ H h) (F : Fr noHeap L h' m) (hm : ∀ x, (m x).map ab = ρ x) (hH : H a = some o₀) (hmut : o₀.mut = true) (hc : h'.get? a = some c) (hr : Rep o c) (k : ∀ b o, b ≠ L → b ≠ a → h.get? b = some o → h'.get? b = some o) : St C L ρ (H.set a o) h' where
  keep := fun b o e => k _ _ (fun q => by rw [q, x.bl] at e; cases e) (fun q => by rw [q, x.own a o₀ hH hmut] at e; cases e) (x.keep b o e)
  rep := fun b o' e => by
    by_cases q : b = a
    · subst q; rw [AH.set_same] at e; cases e; exact ⟨c, hc, hr⟩
    · rw [AH.set_ne _ _ q] at e; obtain ⟨c, e1, e2⟩ := x.rep b o' e; exact ⟨c, k _ _ (fun q => by rw [q, x.nl] at e; cases e) q e1, e2⟩
  own := fun b o' e hm' => by
    by_cases q : b = a
    · subst q; exact x.own _ _ hH hmut
    · rw [AH.set_ne _ _ q] at e; exact x.own b o' e hm'
  loc := ⟨m, F.ns, hm⟩
  nl := by rw [AH.set_ne _ _ (fun q => by rw [← q, x.nl] at hH; cases hH)]; exact x.nl
  bl := x.bl
theorem Step.upd_fr {L a : Addr} {s : Shared} {h' : Heap} {tk : Nat} {c : Obj} {o₀ o : O} {m : Str → Option Value} (F : Fr noHeap L h' m) (hH : H a = some o₀) (hc : h'.get? a = some c) (k : ∀ b o, b ≠ L → b ≠ a → s.heap.get? b = some o → h'.get? b = some o) : Step L H (H.set a o) s { s with heap := h', toks := tk } :=
  ⟨⟨rfl, rfl⟩, fun b o e hb hL => k b o hL (fun q => by rw [q, hH] at hb; cases hb) e, fun b o e hb => by rw [AH.set_ne _ _ (fun q => by rw [q, hH] at hb; cases hb)]; exact hb, fun b o e => by
    by_cases q : b = a
    · subst q; exact ⟨c, hc⟩
    · by_cases ql : b = L
      · subst ql; obtain ⟨o', _, _, ho, _⟩ := F.ns; exact ⟨o', ho⟩
      · exact ⟨o, k b o ql q e⟩⟩
theorem St.at {L D : Addr} {h : Heap} {vs : List V} (hs : St C L ρ H h) (hH : H D = some (.list vs)) : ∃ its n, h.get? D = some (listOf its n) ∧ its.toList.map ab = vs ∧ vs.length ≤ sizeLine ∧ D ≠ L := by
  obtain ⟨c, e1, xs, n, rfl, e2, e3⟩ := hs.rep _ _ hH
  exact ⟨xs, n, e1, e2, e3, fun q => by rw [q, hs.nl] at hH; cases hH⟩

/-! ## methods -/
theorem ab_nil {kvs : List (Str × Value)} (h : kvs.map (fun p => (p.1, ab p.2)) = []) : kvs = [] := by simpa using h
theorem WCall.insert {a : Addr} {vs : List V} {k : Nat} {v : V} {Q : V → AH → Prop} (hH : H a = some (.list vs)) (hk : k ≤ vs.length) (hz : vs.length < sizeLine) (h : Q .none (H.set a (.list (vs.take k ++ v :: vs.drop k)))) :
    WCall C A (.bi "list.insert") [.ref a, .int k, v] [] H Q := by
  intro L ρ fv vals kvs e1 e2 e3
  cases ab_bi e1
  obtain ⟨x, y, z, rfl, ex, ey, ez⟩ := vals3 e2
  cases ab_ref ex
  obtain ⟨t, rfl⟩ := ab_int ey
  cases ab_nil e3
  intro s hs
  obtain ⟨its, n, ho, hi, hsz, hL⟩ := hs.at hH
  obtain ⟨m, F, hm⟩ := hs.fr
  have hlen : its.toList.length = vs.length := by rw [← hi]; simp
  have hsl : (sizeLine : Int) < 2 ^ 62 := by decide
  obtain ⟨news', U, hU⟩ := upd_all (o' := listOf (its.toList.take k ++ z :: its.toList.drop k).toArray (n + 1)) hL ho
  refine kl_insert F (news_all _ _) (l := its.toList.take k ++ z :: its.toList.drop k) ?_ ?_ U (by rw [hlen]; exact hsz) (fun h' F' N' => ?_)
  · unfold Builtin.List.listFitsIndex; simp; omega
  · unfold kl_ins
    rw [if_neg (by omega), hlen, Int.toNat_natCast, Nat.min_eq_left hk]
  · obtain ⟨k1, k2⟩ := hU h' N'
    refine ⟨_, _, hs.upd_fr F' hm hH rfl k1 (o := .list (vs.take k ++ v :: vs.drop k)) ⟨_, _, rfl, ?_, ?_⟩ k2, .upd_fr F' hH k1 k2, rfl, h⟩
    · rw [List.toList_toArray]; simp [← hi, ez]
    · simp; omega
end
end Mine

namespace Mine
open PySem PySem.W PyProof.Rows
open PySem.SeqAt (shaped compareEq_shaped compareNe_shaped in_list_reads notIn_list_reads canLay_of_shaped depth_of_shaped)

/-! ## deep data -/
mutual
def Rd (H : AH) (v : V) : PyData → Prop
  | .none => v = .none
  | .bool b => v = .bool b
  | .int i => v = .int i
  | .str x => v = .str x
  | .list ds => ∃ a ob vs, v = .ref a ∧ H a = some ob ∧ lst ob = some vs ∧ RdL H vs ds
  | .tuple ds => ∃ a vs, v = .ref a ∧ H a = some (.tup vs) ∧ RdL H vs ds
  | .dict _ => False
def RdL (H : AH) (vs : List V) : List PyData → Prop
  | [] => vs = []
  | d :: ds => ∃ v r, vs = v :: r ∧ Rd H v d ∧ RdL H r ds
end

section
variable {C : Cx} {A : Around} {env : Env} {ρ : Lo} {H : AH}
mutual
theorem Rd.reads {L : Addr} {h : Heap} (hs : St C L ρ H h) : ∀ (d : PyData) (x : Value), Rd H (ab x) d → ∃ as, Reads h x d as
  | .none, x, r => by rw [Rd] at r; cases ab_none r; exact ⟨_, .none⟩
  | .bool b, x, r => by rw [Rd] at r; cases ab_bool r; exact ⟨_, .bool b⟩
  | .int i, x, r => by rw [Rd] at r; obtain ⟨t, rfl⟩ := ab_int r; exact ⟨_, .int i t⟩
  | .str y, x, r => by rw [Rd] at r; obtain ⟨t, rfl⟩ := ab_str r; exact ⟨_, .str y t⟩
  | .list ds, x, r => by
    rw [Rd] at r
    obtain ⟨a, ob, vs, e, hH, hl, hr⟩ := r
    cases ab_ref e
    obtain ⟨xs, ⟨o, ho, hc, n, hd⟩, h2, _⟩ := hs.list hH hl
    obtain ⟨as, R⟩ := RdL.reads hs ds xs.toList (by rw [h2]; exact hr)
    exact ⟨_, .list ho hc hd R⟩
  | .tuple ds, x, r => by
    rw [Rd] at r
    obtain ⟨a, vs, e, hH, hr⟩ := r
    cases ab_ref e
    obtain ⟨xs, ⟨o, ho, hc, n, hd⟩, h2, _⟩ := hs.tup hH
    obtain ⟨as, R⟩ := RdL.reads hs ds xs.toList (by rw [h2]; exact hr)
    exact ⟨_, .tuple ho hc hd R⟩
  | .dict _, x, r => by rw [Rd] at r; exact r.elim
theorem RdL.reads {L : Addr} {h : Heap} (hs : St C L ρ H h) : ∀ (ds : List PyData) (xs : List Value), RdL H (xs.map ab) ds → ∃ as, ReadsAll h xs ds as
  | [], xs, r => by
    rw [RdL] at r
    have : xs = [] := by simpa using r
    subst this; exact ⟨_, .nil⟩
  | d :: ds, xs, r => by
    rw [RdL] at r
    obtain ⟨v, q, e, r1, r2⟩ := r
    cases xs with
    | nil => simp at e
    | cons x xs =>
      rw [List.map_cons] at e
      cases e
      obtain ⟨as, R⟩ := Rd.reads hs d x r1
      obtain ⟨bs, R'⟩ := RdL.reads hs ds xs r2
      exact ⟨_, .cons R R'⟩
end
theorem RdL_ints {H : AH} : ∀ (ns : List Int), RdL H (vints ns) (ns.map .int)
  | [] => by rw [List.map_nil, RdL]; rfl
  | n :: ns => by rw [List.map_cons, RdL]; exact ⟨.int n, vints ns, rfl, by rw [Rd], RdL_ints ns⟩
def dints (ns : List Int) : PyData := .list (ns.map .int)
theorem Rd_ints {H : AH} {a : Addr} {ob : O} {ns : List Int} (h : H a = some ob) (hl : lst ob = some (vints ns)) : Rd H (.ref a) (dints ns) := by
  unfold dints; rw [Rd]; exact ⟨a, ob, _, rfl, h, hl, RdL_ints ns⟩
theorem shaped_ints (ns : List Int) : shaped (dints ns) = true := by
  have h1 : PyData.canLayAll0 (ns.map .int) = true := by
    induction ns with
    | nil => rfl
    | cons n ns ih => rw [List.map_cons, PyData.canLayAll0, ih]; rfl
  have h2 : PyData.depthAll (ns.map .int) = 0 := by
    induction ns with
    | nil => rfl
    | cons n ns ih =>
      rw [List.map_cons, PyData.depthAll, ih (by rw [List.map_cons, PyData.canLayAll0] at h1; exact (Bool.and_eq_true_iff.mp h1).2)]; rfl
  unfold shaped dints
  rw [PyData.canLay0, PyData.depth, h1, h2]; rfl
theorem eqvAll_map {α : Type} [DecidableEq α] {enc : α → PyData} (he : ∀ a b, PyData.eqv (enc a) (enc b) = decide (a = b)) : ∀ (xs ys : List α), PyData.eqvAll (xs.map enc) (ys.map enc) = decide (xs = ys)
  | [], [] => by simp [PyData.eqvAll]
  | [], _ :: _ => by simp [PyData.eqvAll]
  | _ :: _, [] => by simp [PyData.eqvAll]
  | x :: xs, y :: ys => by
    rw [List.map_cons, List.map_cons, PyData.eqvAll, he, eqvAll_map he]
    simp
theorem eqv_list_map {α : Type} [DecidableEq α] {enc : α → PyData} (he : ∀ a b, PyData.eqv (enc a) (enc b) = decide (a = b)) (xs ys : List α) : PyData.eqv (.list (xs.map enc)) (.list (ys.map enc)) = decide (xs = ys) := by
  rw [PyData.eqv]; exact eqvAll_map he xs ys
theorem eqv_int (a b : Int) : PyData.eqv (.int a) (.int b) = decide (a = b) := by
  rw [PyData.eqv]; rfl
theorem eqv_ints (xs ys : List Int) : PyData.eqv (dints xs) (dints ys) = decide (xs = ys) := eqv_list_map eqv_int xs ys

theorem W.neData {L : Addr} {x y : Value} {d e : PyData} {Q : Value → Lo → AH → Prop} (hx : Rd H (ab x) d) (hy : Rd H (ab y) e) (hd : shaped d = true) (he : shaped e = true) (hu : A.units + 64 < cLine) (h : Q (.bool (!PyData.eqv d e)) ρ H) : W C A L (compareOp .NotEq x y) ρ H Q := fun s hs => by
  obtain ⟨as, R⟩ := Rd.reads hs d x hx
  obtain ⟨bs, R'⟩ := Rd.reads hs e y hy
  exact compareNe_shaped R R' hd he hu ⟨ρ, H, hs, .refl .., h⟩

theorem WT.cmp {l r : Expr} {op : CmpOp} {pos : Pos} {Q : Bool → AH → Prop} (h : WE C A env l ρ H (fun v H1 => WE C A env r ρ H1 (fun w H2 => ∀ x y, ab x = v → ab y = w → W C A env.locals (compareOp op x y) ρ H2 (fun z ρ' H' => ρ' = ρ ∧ ∃ b, z = .bool b ∧ Q b H'))))
    (hm : behindInMarks op r = false := by with_unfolding_all rfl) : WT C A env (.Compare l [op] [r] pos) ρ H Q :=
  W.isTrue_Compare1 hm (W.mono h (by rintro x _ H1 ⟨rfl, h1⟩; exact W.mono h1 (by rintro y _ H2 ⟨rfl, h2⟩; exact W.mono (h2 x y rfl rfl) (by rintro z _ H3 ⟨rfl, b, rfl, q⟩; exact W.truthy_bool ⟨rfl, q⟩))))
theorem WT.neD {l r : Expr} {pos : Pos} {Q : Bool → AH → Prop} (hu : A.units + 64 < cLine) (h : WE C A env l ρ H (fun v H1 => WE C A env r ρ H1 (fun w H2 => ∃ d e, Rd H2 v d ∧ Rd H2 w e ∧ shaped d = true ∧ shaped e = true ∧ Q (!PyData.eqv d e) H2)))
    (hm : behindInMarks .NotEq r = false := by with_unfolding_all rfl) : WT C A env (.Compare l [.NotEq] [r] pos) ρ H Q :=
  WT.cmp (WE.mono h fun v H1 q => WE.mono q fun w H2 ⟨d, e, r1, r2, s1, s2, q⟩ x y ex ey => W.neData (ex ▸ r1) (ey ▸ r2) s1 s2 hu ⟨rfl, _, rfl, q⟩) hm
/-- pure tests out of tests that make things -/
theorem WT.ev {e : Expr} {b : Bool} (h : WT C A env e ρ H (fun b' H' => b' = b ∧ H' = H)) : EvT C A env ρ H e b := W.mono h (by rintro x _ _ ⟨rfl, rfl, rfl⟩; exact ⟨rfl, rfl, rfl⟩)

/-! ## in -/
theorem W.inData {L : Addr} {x y : Value} {d : PyData} {es : List PyData} {Q : Value → Lo → AH → Prop} (hx : Rd H (ab x) d) (hy : Rd H (ab y) (.list es)) (hd : shaped d = true) (he : shaped (.list es) = true) (hu : A.units + 66 < cLine) (h : Q (.bool (es.any fun y => PyData.eqv y d)) ρ H) : W C A L (compareOp .In x y) ρ H Q := fun s hs => by
  obtain ⟨as, R⟩ := Rd.reads hs d x hx
  obtain ⟨bs, R'⟩ := Rd.reads hs (.list es) y hy
  exact in_list_reads R' R (canLay_of_shaped he) (canLay_of_shaped hd) (by have := depth_of_shaped hd; omega) ⟨ρ, H, hs, .refl .., h⟩
theorem shaped_int (i : Int) : shaped (.int i) = true := by unfold shaped; rw [PyData.canLay0, PyData.depth]; rfl
theorem any_ints (ns : List Int) (k : Int) : ((ns.map PyData.int).any fun y => PyData.eqv y (.int k)) = decide (k ∈ ns) := by
  induction ns with
  | nil => simp
  | cons n ns ih =>
    rw [List.map_cons, List.any_cons, ih, eqv_int]
    by_cases q : n = k
    · simp [q]
    · have : ¬ k = n := fun e => q e.symm
      simp [q, this]
theorem EvT.inInts {l r : Expr} {pos : Pos} {k : Int} {a : Addr} {ob : O} {ns : List Int} (hu : A.units + 66 < cLine) (h1 : Ev C A env ρ H l (.int k)) (h2 : Ev C A env ρ H r (.ref a)) (hH : H a = some ob) (hl : lst ob = some (vints ns)) (hm : behindInMarks .In r = false := by with_unfolding_all rfl) :
    EvT C A env ρ H (.Compare l [.In] [r] pos) (decide (k ∈ ns)) :=
  WT.ev (WT.cmp (WE.of h1 (WE.of h2 fun x y ex ey => W.inData (d := .int k) (es := ns.map .int) (by rw [ex, Rd]) (by rw [ey]; exact Rd_ints hH hl) (shaped_int k) (shaped_ints ns) hu ⟨rfl, _, rfl, any_ints ns k, rfl⟩)) hm)

/-! ## negative places, stores, repeats, powers, the greatest -/
end
end Mine

namespace Mine
open PySem PySem.W PyProof.Rows

section
variable {C : Cx} {A : Around} {env : Env} {ρ : Lo} {H : AH}


/-! ## stores into lists -/

/-! ## repeats, powers, the greatest -/

/-! ## the place's own changes -/
theorem W.loadLocal {x : Str} {v : V} (F : Fx C A env) (hl : env.kindOf x = some .local) (hv : ρ x = some v) : W C A env.locals (loadName env x) ρ H (fun y ρ' H' => ρ' = ρ ∧ H' = H ∧ ab y = v) := fun s hs => by
  obtain ⟨m, hn, hm⟩ := hs.loc
  have := hm x
  rw [hv] at this
  cases hx : m x with
  | none => rw [hx] at this; cases this
  | some y => rw [hx] at this; exact wpAny_loadName_local F.kind hl hn hx ⟨ρ, H, hs, .refl .., rfl, rfl, by simpa using this⟩
theorem W1.augLocal {x : Str} {p pos : Pos} {op : Operator} {e : Expr} {Q : Fl → Lo → AH → Prop} {u : V} (F : Fx C A env) (hl : env.kindOf x = some .local) (hv : ρ x = some u)
    (h : WE C A env e ρ H (fun v H1 => ∀ y z, ab y = u → ab z = v → W C A env.locals (inplaceOp op y z) ρ H1 (fun r ρ' H' => ρ' = ρ ∧ Q .next (ρ.set x (ab r)) H'))) : W1 C A env (.AugAssign (.Name x p) op e pos) ρ H Q := fun s hs => by
  refine wpAny_AugAssign_Name ?_
  refine wpAny_mono (W.loadLocal F hl hv s hs) (fun old s1 ⟨ρ1, H1, a1, b1, c1, c2, c3⟩ => ?_) fun _ _ e => e
  subst c1 c2
  refine wpAny_mono (h s1 a1) (fun v s2 ⟨ρ2, H2, a2, b2, c1, c4⟩ => ?_) fun _ _ e => e
  subst c1
  refine wpAny_mono (c4 old v c3 rfl s2 a2) (fun r s3 ⟨ρ3, H3, a3, b3, c1, c5⟩ => ?_) fun _ _ e => e
  subst c1
  exact W.at (W.storeLocal F hl c5) a3 ((b1.trans b2 (fun _ _ => a2.nl)).trans b3 (fun _ _ => a3.nl))
theorem W1.augSub {x : Str} {p pos : Pos} {e : Expr} {Q : Fl → Lo → AH → Prop} {a b : Int} (F : Fx C A env) (hl : env.kindOf x = some .local) (hv : ρ x = some (.int a)) (he : Ev C A env ρ H e (.int b)) (h : Q .next (ρ.set x (.int (a - b))) H) : W1 C A env (.AugAssign (.Name x p) .Sub e pos) ρ H Q :=
  W1.augLocal F hl hv (WE.of he fun y z ey ez => by
    obtain ⟨t, rfl⟩ := ab_int ey; obtain ⟨u, rfl⟩ := ab_int ez
    exact fun s hs => PySem.AutoIntOps.isub_0 ⟨ρ, H, hs, .toks, rfl, h⟩)

/-! ## backwards -/
end
end Mine

namespace Mine
open PySem PySem.W PyProof.Rows

section
variable {C : Cx} {A : Around} {env : Env} {ρ : Lo} {H : AH}
/-- a list that is made of another's items -/
theorem comp_list {f : Nat → V} {elt : Expr} {x : Str} {pos : Pos} {Ok : Nat → AH → Prop} {vs : List V} {Q : AH → List V → Prop} (F : Fx C A env) (hx : env.kindOf x = some .local) (hn : vs.length ≤ sizeLine)
    (hOk : ∀ i, Ok i H) (he : ∀ i v (ρ : Lo), vs[i]? = some v → ρ x = some v → Ev C A env ρ H elt (f i)) (hQ : Q H ((List.range vs.length).map f)) :
    LoopOk C A env elt (.Name x pos) [] [] H vs.length Ok (fun i _ d => ∃ v, vs[i]? = some v ∧ d = .one v) (fun _ => none) [] (fun _ H2 zs => Q H2 zs) := by
  refine ⟨fun i ρ1 H1 zs => H1 = H ∧ zs = (List.range i).map f, ⟨rfl, rfl⟩, ?_, ?_⟩
  · rintro i ρ1 H1 zs hi ⟨rfl, rfl⟩
    refine ⟨hOk i, ?_⟩
    rintro d ⟨v, hv, rfl⟩
    refine Asg.local F hx ⟨fun _ => ?_, fun e => by cases e⟩
    exact WE.of (he i v _ hv (Lo.set_same ..)) ⟨by simp; omega, rfl, by rw [List.range_succ]; simp⟩
  · rintro ρ1 H1 zs ⟨rfl, rfl⟩
    exact ⟨hOk _, hQ⟩
/-- a list of which nothing is taken -/
theorem comp_none {n : Nat} {elt c : Expr} {x : Str} {pos : Pos} {Ok : Nat → AH → Prop} {P : Nat → AH → Dv → Prop} {g : Nat → V} {Q : AH → List V → Prop} (F : Fx C A env) (hx : env.kindOf x = some .local)
    (hOk : ∀ i, Ok i H) (hP : ∀ i d, P i H d → d = .one (g i)) (he : ∀ i (ρ : Lo), i < n → ρ x = some (g i) → EvT C A env ρ H c false) (hQ : Q H []) :
    LoopOk C A env elt (.Name x pos) [c] [] H n Ok P (fun _ => none) [] (fun _ H2 zs => Q H2 zs) := by
  refine ⟨fun i ρ1 H1 zs => H1 = H ∧ zs = [], ⟨rfl, rfl⟩, ?_, ?_⟩
  · rintro i ρ1 H1 zs hi ⟨rfl, rfl⟩
    refine ⟨hOk i, fun d hd => ?_⟩
    rw [hP i d hd]
    refine Asg.local F hx (WT.of (he i _ hi (Lo.set_same ..)) ⟨fun e => (by cases e), fun _ => ⟨fun e => (by cases e), fun _ => ⟨rfl, rfl⟩⟩⟩)
  · rintro ρ1 H1 zs ⟨rfl, rfl⟩
    exact ⟨hOk n, hQ⟩
theorem map_range_vints {xs : List Int} (f : Int → Int) : (List.range (vints xs).length).map (fun i => V.int (f (xs.getD i 0))) = vints (xs.map f) := by
  rw [ints_length]
  apply List.ext_getElem?
  intro i
  by_cases q : i < xs.length
  · simp [vints, q]
  · simp [vints, q]
theorem vints_at {xs : List Int} {i : Nat} {v : V} (h : (vints xs)[i]? = some v) : v = .int (xs.getD i 0) ∧ i < xs.length := by
  have hi : i < (vints xs).length := (List.getElem?_eq_some_iff.mp h).1
  rw [ints_length] at hi
  rw [List.getD_eq_getElem?_getD]
  refine ⟨?_, hi⟩
  simp [vints, hi] at h ⊢
  exact h.symm
end
end Mine

namespace Mine
open PySem PySem.W PyProof.Rows

theorem div_as (n c : Int) (hc : 0 < c) : n = n.fdiv c * c + n.fmod c ∧ 0 ≤ n.fmod c ∧ n.fmod c < c := by
  have e1 := Int.mul_fdiv_add_fmod n c
  rw [Int.mul_comm] at e1
  exact ⟨e1.symm, Int.fmod_nonneg_of_pos n hc, Int.fmod_lt_of_pos n hc⟩
end Mine

namespace Mine
open PySem PySem.W PyProof.Rows

/-! ## lambdas -/
def Bm (C : Cx) : Prop := ∃ bm ob, C.mg "__builtins__" = some (.ref bm) ∧ bm ≠ builtinsNs ∧ bm ≠ mainGlobals ∧ C.base.get? bm = some ob ∧ ob.cls = .type "module" ∧ ob.dict = some builtinsNs ∧ ob.data = .plain
def hit (es : List (Nat × Nat × Addr)) (pos : Pos) : Option Addr := match es with
  | [] => none
  | e :: r => if e.1 == pos.line && e.2.1 == pos.col then some e.2.2 else hit r pos
theorem triples_tab : ∀ (es : List (Nat × Nat × Addr)), TriplesOk (tabItems es)
  | [] => trivial
  | e :: r => triples_tab r
theorem among_tab {pos : Pos} : ∀ (es : List (Nat × Nat × Addr)), codeAmong pos (tabItems es) = (hit es pos).map Value.ref
  | [] => rfl
  | e :: r => by
    have ih := among_tab (pos := pos) r
    show (if ((e.1 : Int) == (pos.line : Int) && (e.2.1 : Int) == (pos.col : Int)) = true then some (Value.ref e.2.2) else codeAmong pos (tabItems r)) = _
    rw [hit, ih]
    have h1 : ((e.1 : Int) == (pos.line : Int)) = (e.1 == pos.line) := by
      by_cases q : e.1 = pos.line
      · simp [q]
      · have : ¬ (e.1 : Int) = (pos.line : Int) := by omega
        rw [beq_eq_false_iff_ne.mpr q, beq_eq_false_iff_ne.mpr this]
    have h2 : ((e.2.1 : Int) == (pos.col : Int)) = (e.2.1 == pos.col) := by
      by_cases q : e.2.1 = pos.col
      · simp [q]
      · have : ¬ (e.2.1 : Int) = (pos.col : Int) := by omega
        rw [beq_eq_false_iff_ne.mpr q, beq_eq_false_iff_ne.mpr this]
    rw [h1, h2]
    cases (e.1 == pos.line && e.2.1 == pos.col) <;> rfl
theorem tab_snoc (es : List (Nat × Nat × Addr)) (l c : Nat) (a : Addr) : tabItems (es ++ [(l, c, a)]) = tabItems es ++ [rawInt l, rawInt c, .ref a] := by
  simp [tabItems]

section
variable {C : Cx} {A : Around} {env : Env} {ρ : Lo} {H : AH}
abbrev lamFd (C : Cx) (env : Env) (params : Arguments) (body : Expr) (scope : Scope) (clos : List (Str × Addr)) (c' : Addr) (ctv : Value) : FuncData :=
  kla_fn "<lambda>" (env.qual ++ "<lambda>") params body scope clos ((C.mg "__name__").getD .none) (.ref c') ctv

theorem WE.lambda {params : Arguments} {body : Expr} {scope : Scope} {pos : Pos} {clos : List (Str × Addr)} {es : List (Nat × Nat × Addr)} {c P : Addr} {Q : V → AH → Prop} (F : Fx C A env) (hbm : Bm C) (hcode : env.code = .ref c) (hC : CodeHd C.base c P) (hP : H P = some (.tab es))
    (h1 : hit es pos = none → ∀ c' ctv f, H c' = none → H f = none → c' ≠ f → Q (.ref f) (((H.set c' (.code (env.qual ++ "<lambda>"))).set P (.tab (es ++ [(pos.line, pos.col, c')]))).set f (.fn (lamFd C env params body scope clos c' ctv))))
    (h2 : ∀ c', hit es pos = some c' → ∀ ctv f, H f = none → Q (.ref f) (H.set f (.fn (lamFd C env params body scope clos c' ctv))))
    (hdef : defaultsOf params env = ([], []) := by rfl) (hcl : closureFor scope env = pure clos := by rfl) : WE C A env (.Lambda params body scope pos) ρ H Q := fun s hs => by
  refine kla_eval hdef ?_
  obtain ⟨co, hco, hr⟩ := hs.rep P _ hP
  have hPo : s.heap.get? P = some (tabObj (tabItems es).toArray) := by rw [hco, hr]
  have hPL : P ≠ env.locals := fun q => by rw [q, hs.nl] at hP; cases hP
  have hPb := hs.own P _ hP rfl
  have hg := C.hg.keeps hs.keep
  have hgP : mainGlobals ≠ P := fun q => by
    obtain ⟨o, es, ep, e, hd, _⟩ := C.hg
    rw [q, hPb] at e; cases e
  obtain ⟨bm, ob, b1, b2, b3, b4, b5, b6, b7⟩ := hbm
  have hbP : bm ≠ P := fun q => by rw [q, hPb] at b4; cases b4
  have hB : s.heap.BuiltinsAt C.mg P := ⟨bm, ob, b1, b2, b3, hbP, hs.keep _ _ b4, b5, b6, b7⟩
  have hCs := hC.keeps hs.keep
  cases hf : hit es pos with
  | none =>
    refine kla_makeFunction hcl F.gl hg hcode hCs hPo (by rw [List.toList_toArray]; exact triples_tab es) (by rw [List.toList_toArray, among_tab, hf]; rfl) hgP hB fun c' ctv h' tk hx hge hlt hrec htb => ?_
    have hcn : s.heap.get? c' = none := Heap.get?_none_of_le hge
    have hfn : s.heap.get? h'.objs.size = none := Heap.get?_none_of_le (Nat.le_of_lt (Nat.lt_of_le_of_lt hge hlt))
    obtain ⟨c₂, oc, vs, t, e2, hoc, hd, hv⟩ := hrec
    cases e2
    have fc := hs.fresh hcn
    have ff := hs.fresh hfn
    have hcf : c' ≠ h'.objs.size := Nat.ne_of_lt hlt
    have hcP : c' ≠ P := fun q => by rw [q, hPo] at hcn; cases hcn
    have hfP : h'.objs.size ≠ P := fun q => by rw [q, hPo] at hfn; cases hfn
    obtain ⟨m, hn, hm⟩ := hs.loc
    have hpush : ∀ (o' : Obj) b o, h'.get? b = some o → (h'.push o').get? b = some o := fun o' b o e => Heap.get?_push_of_some _ e
    have hget : ∀ (x : Addr) (o : O), ((((H.set c' (.code (env.qual ++ "<lambda>"))).set P (.tab (es ++ [(pos.line, pos.col, c')]))).set h'.objs.size (.fn (lamFd C env params body scope clos c' ctv))) x = some o) → (x = h'.objs.size ∧ o = .fn (lamFd C env params body scope clos c' ctv)) ∨ (x = P ∧ o = .tab (es ++ [(pos.line, pos.col, c')])) ∨ (x = c' ∧ o = .code (env.qual ++ "<lambda>")) ∨ (x ≠ P ∧ H x = some o) := by
      intro x o e
      by_cases q1 : x = h'.objs.size
      · subst q1; rw [AH.set_same] at e; cases e; exact .inl ⟨rfl, rfl⟩
      · rw [AH.set_ne _ _ q1] at e
        by_cases q2 : x = P
        · subst q2; rw [AH.set_same] at e; cases e; exact .inr (.inl ⟨rfl, rfl⟩)
        · rw [AH.set_ne _ _ q2] at e
          by_cases q3 : x = c'
          · subst q3; rw [AH.set_same] at e; cases e; exact .inr (.inr (.inl ⟨rfl, rfl⟩))
          · rw [AH.set_ne _ _ q3] at e; exact .inr (.inr (.inr ⟨q2, e⟩))
    refine ⟨ρ, _, ⟨fun b o e => hpush _ b o (hx b o (fun q => by rw [q, hPb] at e; cases e) (hs.keep b o e)), fun x o e => ?_, fun x o e hm' => ?_, ⟨m, (hn.extBut hx hPL.symm).push _, hm⟩, ?_, hs.bl⟩, ⟨⟨rfl, rfl⟩, fun b o e eb eL => hpush _ b o (hx b o (fun q => by rw [q, hP] at eb; cases eb) e), fun b o e eb => ?_, fun b o e => ?_⟩, rfl, h1 hf c' ctv _ fc.1 ff.1 hcf⟩
    · rcases hget x o e with ⟨rfl, rfl⟩ | ⟨rfl, rfl⟩ | ⟨rfl, rfl⟩ | ⟨q, e⟩
      · exact ⟨_, Heap.get?_push_size _ rfl, rfl⟩
      · refine ⟨_, hpush _ _ _ htb, ?_⟩
        show tabObj _ = _
        rw [tab_snoc]; simp
      · exact ⟨oc, hpush _ _ _ hoc, vs, t, hd, hv⟩
      · obtain ⟨c0, e1, e2⟩ := hs.rep x o e
        exact ⟨c0, hpush _ _ _ (hx x c0 q e1), e2⟩
    · rcases hget x o e with ⟨rfl, rfl⟩ | ⟨rfl, rfl⟩ | ⟨rfl, rfl⟩ | ⟨q, e⟩
      · cases hm'
      · exact hPb
      · cases hm'
      · exact hs.own x o e hm'
    · rw [AH.set_ne _ _ (Ne.symm ff.2.2), AH.set_ne _ _ hPL.symm, AH.set_ne _ _ (Ne.symm fc.2.2)]; exact hs.nl
    · rw [AH.set_ne _ _ (fun q => by rw [q, hfn] at e; cases e), AH.set_ne _ _ (fun q => by rw [q, hP] at eb; cases eb), AH.set_ne _ _ (fun q => by rw [q, hcn] at e; cases e)]; exact eb
    · by_cases q : b = P
      · subst q; exact ⟨_, hpush _ _ _ htb⟩
      · exact ⟨o, hpush _ b o (hx b o q e)⟩
  | some c' =>
    refine kla_makeFunctionHit hcl F.gl hg hcode hCs hPo (by rw [List.toList_toArray]; exact triples_tab es) (cv := .ref c') (by rw [List.toList_toArray, among_tab, hf]; rfl) hB fun ctv h' tk hk hsz => ?_
    have hfn : s.heap.get? h'.objs.size = none := Heap.get?_none_of_le hsz
    have k : ∀ b o, s.heap.get? b = some o → (h'.push (kla_obj "<lambda>" (env.qual ++ "<lambda>") params body scope clos ((C.mg "__name__").getD .none) c' ctv)).get? b = some o := fun b o e => Heap.get?_push_of_some _ (hk b o e)
    exact ⟨ρ, _, hs.alloc (o := .fn (lamFd C env params body scope clos c' ctv)) hfn (Heap.get?_push_size _ rfl) rfl k, .alloc hfn k, rfl, h2 c' hf ctv _ (hs.fresh hfn).1⟩

/-- a lambda called -/
abbrev lamEnv (fd : FuncData) (L a : Addr) : Env := newEnv fd.scope L fd.globals fd.closure (fd.qualname ++ ".<locals>.") (some a) fd.code none fd.builtins
theorem WCall.lam {a c' : Addr} {fd : FuncData} {body : Expr} {args : List V} {bs : List (Str × V)} {Q : V → AH → Prop} (hfn : H a = some (.fn fd)) (hdep : A.depth < recursionLimit)
    (hb : fd.body = .expr body) (hc : fd.code = .ref c') (hcH : H c' = some (.code fd.qualname)) (hcell : ∀ x ∈ fd.scope.names, x.2 ≠ .cell)
    (hbind : ∀ vals, vals.map ab = args → ∃ binds, bindArgs fd ⟨vals, []⟩ = pure binds ∧ binds.map (fun p => (p.1, ab p.2)) = bs)
    (hloc : ∀ x ∈ bs, fd.scope.names.lookup x.1 = some .local)
    (h : ∀ L, H L = none → WE C (A.deeper (lamEnv fd L a)) (lamEnv fd L a) body (fun y => bs.reverse.lookup y) H Q)
    (hco : fd.scope.isCoroutine = false := by rfl) (hgen : fd.scope.isGenerator = false := by rfl) (hk : fd.scope.kind = .function := by rfl) : WCall C A (.ref a) args [] H Q := by
  intro L ρ fv vals kvs e1 e2 e3
  cases ab_ref e1
  cases ab_nil e3
  obtain ⟨binds, hbt, hbs⟩ := hbind vals e2
  intro s hs
  have ho := hs.func hfn
  have hnone := get?_size_none s.heap
  have hrec : s.heap.CodeRec fd.code fd.qualname := by
    obtain ⟨oc, hoc, vs, t, hd, hv⟩ := hs.rep c' _ hcH
    exact ⟨c', oc, vs, t, hc, hoc, hd, hv⟩
  refine wpAny_call (kla_callFunE hdep ho rfl hco hgen hb hrec ?_)
  rw [hbt]
  refine wpAny_pure (wpAny_newFunctionEnv hcell (fun x hx => hloc (x.1, ab x.2) (by rw [← hbs]; exact List.mem_map.mpr ⟨x, hx, rfl⟩)) (fun h₁ hns hsb => ⟨((C.lim).keeps hs.keep).fresh _ hsb, ?_⟩) hk)
  have hk₁ : ∀ b o, s.heap.get? b = some o → h₁.get? b = some o := fun b o e => hsb.extBut b o (Nat.ne_of_lt (Heap.lt_size e)) (Heap.get?_push_of_some _ e)
  have hst : St C s.heap.objs.size (fun y => bs.reverse.lookup y) H h₁ := by
    refine ⟨fun b o e => hk₁ _ _ (hs.keep b o e), fun a o e => let ⟨c, e1, e2⟩ := hs.rep a o e; ⟨c, hk₁ _ _ e1, e2⟩, hs.own, ⟨_, hns, fun x => ?_⟩, (hs.fresh hnone).1, (hs.fresh hnone).2.1⟩
    rw [← hbs, ← List.map_reverse]
    exact lookup_ab x binds.reverse
  show codeAny _ _ (.expr body (lamEnv fd s.heap.objs.size a)) _ _
  refine kla_codeExpr (wpAny_mono (h s.heap.objs.size (hs.fresh hnone).1 { s with heap := h₁, toks := s.toks + binds.length } hst) (fun v s' ⟨ρ', H', x, y, z1, z⟩ => ?_) fun _ _ e => e.elim)
  obtain ⟨q1, q2, q3, q4⟩ := hs.back (s1 := { s with heap := h₁, toks := s.toks + binds.length }) (L' := s.heap.objs.size) hk₁ hnone (fun _ _ _ e => e) x y
  refine ⟨ρ, H', q1, ⟨?_, fun b o e eb _ => q2 b o e eb, q3, q4⟩, rfl, z⟩
  exact y.same
end
end Mine

namespace Mine
open PySem PySem.W PyProof.Rows

section
variable {C : Cx} {A : Around} {env : Env} {ρ : Lo} {H : AH}
/-! ## the call from the top, with code tables that may grow -/
theorem top_call2 {a : Addr} {o : Obj} {fd : FuncData} {body : List Stmt} {vals : List Value} {bs : List (Str × V)} {Q : V → AH → Prop} {s : Shared} (hsub : ∀ b o, C.base.get? b = some o → s.heap.get? b = some o) (hrep : ∀ a o, H a = some o → ∃ c, s.heap.get? a = some c ∧ Rep o c) (hown : ∀ a o, H a = some o → o.mut = true → C.base.get? a = none)
    (ho : s.heap.get? a = some o) (hd : o.data = .func fd) (hdep : A.depth < recursionLimit)
    (hb : fd.body = .stmts body) (hclo : fd.closure = []) (hcd : s.heap.CodeRec fd.code fd.qualname)
    {binds : List (Str × Value)} (hbt : bindArgs fd ⟨vals, []⟩ = pure binds) (hbs : binds.map (fun p => (p.1, ab p.2)) = bs)
    (hkind : (bs.all fun y => fd.scope.names.lookup y.1 == some .local || fd.scope.names.lookup y.1 == some .cell) = true)
    (hnd : ((cellsFrom 0 fd.scope.names []).map (·.1)).Nodup)
    (lm cm : Str → Option V) (hlm : ∀ L x, (bindL (callEnvC fd L a).kindOf binds (fun _ => none) x).map ab = lm x) (hcm : ∀ L x, (bindC (callEnvC fd L a).kindOf binds (fun _ => none) x).map ab = cm x)
    (h : ∀ L, H L = none → (∀ p ∈ cellsFrom (L + 1) fd.scope.names [], H p.2 = none ∧ p.2 ≠ L) → WS C (A.deeper (callEnvC fd L a)) (callEnvC fd L a) body lm (cellH cm (cellsFrom (L + 1) fd.scope.names []) H) (fun f _ H' => Q (retv f) H'))
    (hco : fd.scope.isCoroutine = false := by rfl) (hgen : fd.scope.isGenerator = false := by rfl) (hk : fd.scope.kind = .function := by rfl) :
    wpAny C.M A (call (.ref a) vals []) (fun v s' => (∃ H', Q (ab v) H' ∧ ∀ a o, H' a = some o → ∃ c, s'.heap.get? a = some c ∧ Rep o c) ∧ (∀ b o, C.base.get? b = some o → s'.heap.get? b = some o) ∧ (∀ b o, s.heap.get? b = some o → H b = none → s'.heap.get? b = some o) ∧ (∀ b o, s.heap.get? b = some o → ∃ o', s'.heap.get? b = some o') ∧ s'.gens = s.gens ∧ s'.os = s.os) False2 s := by
  have hnone := get?_size_none s.heap
  have hHn : ∀ b, s.heap.get? b = none → H b = none := fun b e => by
    cases q : H b with
    | none => rfl
    | some o => obtain ⟨c, e1, _⟩ := hrep b o q; rw [e] at e1; cases e1
  have hBn : ∀ b, s.heap.get? b = none → C.base.get? b = none := fun b e => by
    cases q : C.base.get? b with
    | none => rfl
    | some o => rw [hsub b o q] at e; cases e
  have hkind' : ∀ n, ∀ x ∈ binds, fd.scope.names.lookup x.1 = some .local ∨ (fd.scope.names.lookup x.1 = some .cell ∧ ((cellsFrom n fd.scope.names []).lookup x.1).isSome = true) := fun n x hx => by
    have := kindsX (scope := fd.scope) (binds := binds) (by
      rw [List.all_eq_true]; intro y hy
      exact List.all_eq_true.mp hkind (y.1, ab y.2) (by rw [← hbs]; exact List.mem_map.mpr ⟨y, hy, rfl⟩)) n x hx
    exact this
  refine wpAny_call (codeAny_call_cells hdep ho hd (C.lim.keeps hsub) hcd hb hbt hclo (hkind' _) (fun s₁ X => ?_) hco hgen hk)
  have hnames : ∀ (n : Nat) (names : List (Str × NameKind)) (acc : List (Str × Addr)) (p : Str × Addr), p ∈ cellsFrom n names acc → p ∈ acc ∨ n ≤ p.2 := by
    intro n names
    induction names generalizing n with
    | nil => intro acc p hp; exact .inl hp
    | cons x r ih =>
      intro acc p hp
      obtain ⟨nm, k⟩ := x
      unfold cellsFrom at hp
      split at hp
      · rcases ih (n + 1) _ p hp with q | q
        · rcases List.mem_cons.mp q with rfl | q
          · exact .inr (Nat.le_refl _)
          · exact .inl q
        · exact .inr (by omega)
      · exact ih n acc p hp
  have habove : ∀ p ∈ cellsFrom (s.heap.objs.size + 1) fd.scope.names [], s.heap.objs.size < p.2 := fun p hp => by
    rcases hnames _ _ _ p hp with q | q
    · cases q
    · omega
  have hfresh : ∀ p ∈ cellsFrom (s.heap.objs.size + 1) fd.scope.names [], s.heap.get? p.2 = none := fun p hp => by
    cases e : s.heap.get? p.2 with
    | none => rfl
    | some o => exact absurd (Heap.lt_size e) (Nat.lt_asymm (habove p hp))
  have same_names : ∀ (n n' : Nat) (names : List (Str × NameKind)) (acc acc' : List (Str × Addr)), acc.map (·.1) = acc'.map (·.1) → (cellsFrom n names acc).map (·.1) = (cellsFrom n' names acc').map (·.1) := by
    intro n n' names
    induction names generalizing n n' with
    | nil => intro acc acc' e; exact e
    | cons x r ih =>
      intro acc acc' e
      obtain ⟨nm, k⟩ := x
      unfold cellsFrom
      split
      · exact ih _ _ _ _ (by simp [e])
      · exact ih _ _ _ _ e
  have hnd' : ((cellsFrom (s.heap.objs.size + 1) fd.scope.names []).map (·.1)).Nodup := by rw [same_names _ 0 _ _ [] rfl]; exact hnd
  have lookup_mem : ∀ {cs : List (Str × Addr)}, (cs.map (·.1)).Nodup → ∀ n c, (n, c) ∈ cs → cs.lookup n = some c := by
    intro cs
    induction cs with
    | nil => intro _ n c hm; cases hm
    | cons p r ih =>
      intro hn n c hm
      obtain ⟨pn, pc⟩ := p
      simp only [List.map_cons, List.nodup_cons] at hn
      rcases List.mem_cons.mp hm with e | hm
      · cases e; simp [List.lookup_cons]
      · have hne : n ≠ pn := fun q => hn.1 (q ▸ List.mem_map.mpr ⟨(n, c), hm, rfl⟩)
        rw [List.lookup_cons, beq_false_of_ne hne]; exact ih hn.2 n c hm
  obtain ⟨⟨⟨h1, tk1, rfl⟩, hns, hkeep, hab⟩, hcell, hap, hgt⟩ := X
  have hst : St C s.heap.objs.size lm (cellH cm (cellsFrom (s.heap.objs.size + 1) fd.scope.names []) H) h1 := by
    refine ⟨fun b o e => hkeep _ _ (hsub b o e), fun b o e => ?_, fun b o e hm => ?_, ⟨_, hns, fun x => hlm _ x⟩, ?_, hBn _ hnone⟩
    · rcases cellH_some e with ⟨n, hm, rfl⟩ | e
      · obtain ⟨oc, ho, hd⟩ := hcell n b (lookup_mem hnd' n b hm)
        exact ⟨oc, ho, _, hd, hcm _ n⟩
      · obtain ⟨c, e1, e2⟩ := hrep b o e; exact ⟨c, hkeep _ _ e1, e2⟩
    · rcases cellH_some e with ⟨n, hm', rfl⟩ | e
      · exact hBn _ (hfresh _ hm')
      · exact hown b o e hm
    · rw [cellH_get (fun p hp q => Nat.ne_of_gt (habove p hp) q)]; exact hHn _ hnone
  refine wpAny_mono (h s.heap.objs.size (hHn _ hnone) (fun p hp => ⟨hHn _ (hfresh p hp), Nat.ne_of_gt (habove p hp)⟩) { s with heap := h1, toks := tk1 } hst) (fun f s' ⟨ρ', H', x, y, z⟩ => ?_) fun _ _ e => e.elim
  have e1 : (∃ H', Q (ab (match f with | .ret v => v | _ => .none)) H' ∧ ∀ a o, H' a = some o → ∃ c, s'.heap.get? a = some c ∧ Rep o c) := ⟨H', by cases f <;> exact z, x.rep⟩
  have e2 : ∀ b o, C.base.get? b = some o → s'.heap.get? b = some o := fun b o e => x.keep b o e
  have e3 : s'.gens = s.gens ∧ s'.os = s.os := y.same
  have e4 : ∀ b o, s.heap.get? b = some o → H b = none → s'.heap.get? b = some o := fun b o eb hb => by
    refine y.kept b o (hkeep b o eb) ?_ (fun q => by have q' : b = s.heap.objs.size := q; rw [q', hnone] at eb; cases eb)
    rw [cellH_get (fun p hp q => by have := hfresh p hp; rw [q, eb] at this; cases this)]; exact hb
  have e5 : ∀ b o, s.heap.get? b = some o → ∃ o', s'.heap.get? b = some o' := fun b o eb => y.live b o (hkeep b o eb)
  exact ⟨by cases f <;> exact e1, e2, e4, e5, e3.1, e3.2⟩

theorem law_end2 {r : RowW} {cl : Str → Option Addr} {mean : ExcName → Option Value} {args : List WData} {s₁ s' : Shared} {H H' : AH} {tabs : List Addr} (hr : r.raises = []) (hp : r.claim.post args (.bool true) args = true)
    (htab : ∀ P ∈ tabs, (∃ c, s₁.heap.TableAt c P #[]) ∧ ∃ es, H' P = some (.tab es)) (hrep : ∀ a o, H' a = some o → ∃ c, s'.heap.get? a = some c ∧ Rep o c)
    (hk : ∀ b o, b ∉ tabs → s₁.heap.get? b = some o → s'.heap.get? b = some o) (hl : ∀ b o, s₁.heap.get? b = some o → ∃ o', s'.heap.get? b = some o') (hg : s'.gens = #[]) (hos : s'.os = s₁.os) : GoodWG r.claim cl mean args s₁ (.ok (.ret (.bool true))) s' := by
  refine ⟨.inl ⟨.bool true, .bool true, [], rfl, raisesW_false (by rw [hr]; exact allW_false_nil), .bool true, hp, unshared_nil⟩, ⟨fun b o e => ?_, hl⟩, hos, .of_eq hg⟩
  by_cases q : b ∈ tabs
  · obtain ⟨⟨c, ht⟩, es, he⟩ := htab b q
    have e₀ : o = { cls := .none, data := .fields #[] } := Option.some.inj (e.symm.trans ht.2)
    obtain ⟨co, h1, h2⟩ := hrep b _ he
    refine .inr (.inl ⟨ht.isCodeTable, by rw [e₀], #[], (tabItems es).toArray, by rw [e₀], ?_⟩)
    rw [h1, e₀]
    have : co = { cls := .none, data := .fields (tabItems es).toArray } := h2
    rw [this]; simp
  · exact .inl (hk b o q e)
end
end Mine

namespace Mine
open PySem PySem.W PyProof.Rows

/-! ## comparisons and keys as judgements -/
def LtOk (C : Cx) (A : Around) (H : AH) (v w : V) (b : Bool) : Prop := ∀ L ρ x y, ab x = v → ab y = w → W C A L (compareOp .Lt x y) ρ H (fun z ρ' H' => ρ' = ρ ∧ H' = H ∧ z = .bool b)
def KeyOk (C : Cx) (A : Around) (H : AH) (f : Addr) (v kv : V) : Prop := WCall C A (.ref f) [v] [] H (fun r H' => r = kv ∧ H' = H)
section
variable {C : Cx} {A : Around} {env : Env} {ρ : Lo} {H : AH}
theorem LtOk.int {a b : Int} : LtOk C A H (.int a) (.int b) (decide (a < b)) := fun L ρ x y ex ey => W.icmp (op := .Lt) ex ey rfl ⟨rfl, rfl, rfl⟩
theorem EvT.ltOk {l r : Expr} {pos : Pos} {v w : V} {b : Bool} (h1 : Ev C A env ρ H l v) (h2 : Ev C A env ρ H r w) (h : LtOk C A H v w b) (hm : behindInMarks .Lt r = false := by with_unfolding_all rfl) : EvT C A env ρ H (.Compare l [.Lt] [r] pos) b :=
  WT.ev (WT.cmp (WE.of h1 (WE.of h2 fun x y ex ey => W.mono (h _ _ x y ex ey) (by rintro z _ _ ⟨rfl, rfl, rfl⟩; exact ⟨rfl, _, rfl, rfl, rfl⟩))) hm)
theorem Ev.key {id : Str} {p pos : Pos} {e : Expr} {f : Addr} {o : Obj} {fd : FuncData} {v kv : V} (hf : Ev C A env ρ H (.Name id p) (.ref f)) (hfn : FnAt C H f o fd) (he : Ev C A env ρ H e v) (hk : KeyOk C A H f v kv) (hn : noStar [e] = true := by rfl) : Ev C A env ρ H (.Call (.Name id p) [e] [] pos) kv :=
  WE.ev (WE.callFn hf (WEs.of (.cons he .nil) (WKs.nil ⟨hfn, hk⟩)) hn)
/-! is, is not -/
theorem Ev.any {l r : Expr} {op : CmpOp} {pos : Pos} {v w : V} {b : Bool} (h1 : Ev C A env ρ H l v) (h2 : Ev C A env ρ H r w) (h : ∀ x y, ab x = v → ab y = w → W C A env.locals (compareOp op x y) ρ H (fun z ρ' H' => ρ' = ρ ∧ H' = H ∧ z = .bool b)) (hm : behindInMarks op r = false := by with_unfolding_all rfl) : EvT C A env ρ H (.Compare l [op] [r] pos) b :=
  WT.ev (WT.cmp (WE.of h1 (WE.of h2 fun x y ex ey => W.mono (h x y ex ey) (by rintro z _ _ ⟨rfl, rfl, rfl⟩; exact ⟨rfl, _, rfl, rfl, rfl⟩))) hm)
theorem EvT.isNotSelf {l r : Expr} {pos : Pos} {a : Addr} (h1 : Ev C A env ρ H l (.ref a)) (h2 : Ev C A env ρ H r (.ref a)) (hm : behindInMarks .IsNot r = false := by with_unfolding_all rfl) : EvT C A env ρ H (.Compare l [.IsNot] [r] pos) false :=
  Ev.any h1 h2 (fun x y ex ey => by
    cases ab_ref ex; cases ab_ref ey
    exact fun s hs => wpAny_isNot_ref_self ⟨ρ, H, hs, .refl .., rfl, rfl, rfl⟩) hm
end
/-- one frame deeper -/
def Nx (A A' : Around) : Prop := A'.depth = A.depth + 1 ∧ A'.units = A.units + 3 ∧ A'.handled = A.handled
theorem Nx.of (A : Around) (env : Env) : Nx A (A.deeper env) := ⟨rfl, rfl, rfl⟩

/-! ## the search -/
def bis (f : Nat → Bool) (lo hi : Nat) : Nat :=
  if h : lo < hi then
    if f ((lo + hi) / 2) then bis f lo ((lo + hi) / 2) else bis f ((lo + hi) / 2 + 1) hi
  else lo
termination_by hi - lo
decreasing_by all_goals omega
theorem bis_eq {f : Nat → Bool} {s : Nat} : ∀ {lo hi : Nat}, lo ≤ s → s ≤ hi → (∀ i, lo ≤ i → i < s → f i = false) → (∀ i, s ≤ i → i < hi → f i = true) → bis f lo hi = s := by
  intro lo hi
  induction hm : hi - lo using Nat.strongRecOn generalizing lo hi with
  | ind n ih =>
    intro h1 h2 h3 h4
    unfold bis
    by_cases h : lo < hi
    · rw [dif_pos h]
      by_cases hf : f ((lo + hi) / 2) = true
      · rw [if_pos hf]
        have : s ≤ (lo + hi) / 2 := by
          rcases Nat.lt_or_ge ((lo + hi) / 2) s with q | q
          · have := h3 _ (by omega) q; rw [hf] at this; cases this
          · exact q
        exact ih _ (by omega) rfl h1 this h3 (fun i a b => h4 i a (by omega))
      · rw [if_neg hf]
        have : (lo + hi) / 2 < s := by
          rcases Nat.lt_or_ge ((lo + hi) / 2) s with q | q
          · exact q
          · exact absurd (h4 _ q (by omega)) hf
        exact ih _ (by omega) rfl this h2 (fun i a b => h3 i (by omega) b) h4
    · rw [dif_neg h]; omega
theorem bis_cross {f : Nat → Bool} {lo hi : Nat} (h : hi ≤ lo) : bis f lo hi = lo := by
  unfold bis; rw [dif_neg (by omega)]
theorem bis_true {f : Nat → Bool} {lo hi : Nat} (h : lo < hi) (hf : f ((lo + hi) / 2) = true) : bis f lo hi = bis f lo ((lo + hi) / 2) := by
  conv => lhs; unfold bis
  rw [dif_pos h, if_pos hf]
theorem bis_false {f : Nat → Bool} {lo hi : Nat} (h : lo < hi) (hf : f ((lo + hi) / 2) = false) : bis f lo hi = bis f ((lo + hi) / 2 + 1) hi := by
  conv => lhs; unfold bis
  rw [dif_pos h, if_neg (by simp [hf])]
end Mine

namespace Mine
open PySem PySem.W PyProof.Rows
open PySem.AutoSeq1 (wpAny_loadPart')
open PySem.MeetsSeq PySem.MeetsSeq3

/-! ## lists of one number, compared -/
theorem lt_end (l b : Addr) (x y : Value) (n n2 : Nat) (dd dd2 : Option Addr) (sl sl2 : Array (Option Value)) :
    Meets (Builtin.«list.__eq__.loop» ⟨[.ref l, .ref b, rawInt 1, rawInt 0], []⟩)
      (fun A R s => s.heap.get? l = some { cls := .type "list", dict := dd, data := .seq #[x] n, slots := sl } ∧ s.heap.get? b = some { cls := .type "list", dict := dd2, data := .seq #[y] n2, slots := sl2 } ∧ R (.ok (.ret (.bool false))) s) := by
  intro prog w A R s h
  obtain ⟨hp, g, d, tk, os⟩ := s; obtain ⟨hl, hb, h⟩ := h
  wp_walk using wpAny_loadPart' hl, wpAny_loadPart' hb
  exact h
theorem lt_one (l b : Addr) (items items2 : Array Value) (x y : Int) (t u : Tok) (n n2 : Nat) (dd dd2 : Option Addr) (sl sl2 : Array (Option Value)) (e1 : items = #[.int x t]) (e2 : items2 = #[.int y u]) :
    Meets (Builtin.«list.__eq__.loop» ⟨[.ref l, .ref b, rawInt 0, rawInt 0], []⟩)
      (fun A R s => s.heap.get? l = some { cls := .type "list", dict := dd, data := .seq items n, slots := sl } ∧ s.heap.get? b = some { cls := .type "list", dict := dd2, data := .seq items2 n2, slots := sl2 } ∧ R (.ok (.ret (.bool (decide (x < y))))) s) := by
  intro prog w A R s h
  obtain ⟨hp, g, d, tk, os⟩ := s; obtain ⟨hl, hb, h⟩ := h
  have h1 : items[(0 : Int).toNat]? = some (.int x t) := by rw [e1]; rfl
  have h2 : items2[(0 : Int).toNat]? = some (.int y u) := by rw [e2]; rfl
  wp_walk using wpAny_loadPart' hl, wpAny_loadPart' hb
  rw [h1, h2]
  refine wpAny_bind (EqGives.int x y t u prog w _ _ _ _ ?_)
  cases hxy : (x == y) with
  | true =>
    have e : x = y := by simpa using hxy
    wp_walk
    rw [show decide (x < y) = false by simp [e]] at h
    exact ⟨plainId_quiet plain_eq_loop _, codeAny_builtin entry_eq_loop (by
        rw [Around.under_plainId plain_eq_loop _]
        rw [e1] at hl; rw [e2] at hb
        exact lt_end l b _ _ n n2 dd dd2 sl sl2 prog w A R _ ⟨hl, hb, h⟩)⟩
  | false =>
    wp_walk using wpAny_loadPart' hl, wpAny_loadPart' hb
    rw [h1, h2]
    refine wpAny_bind (show wpAny _ _ (compareOp .Lt (.int x t) (.int y u)) _ _ _ from PySem.wpAny_lt_int ?_)
    wp_walk
    exact h
theorem list_lt_one (l b : Addr) (items items2 : Array Value) (x y : Int) (t u : Tok) (n n2 : Nat) (dd dd2 : Option Addr) (sl sl2 : Array (Option Value)) (e1 : items = #[.int x t]) (e2 : items2 = #[.int y u]) :
    Meets (Builtin.«list.__lt__» ⟨[.ref l, .ref b], []⟩)
      (fun A R s => s.heap.get? l = some { cls := .type "list", dict := dd, data := .seq items n, slots := sl } ∧ s.heap.get? b = some { cls := .type "list", dict := dd2, data := .seq items2 n2, slots := sl2 } ∧ R (.ok (.ret (.bool (decide (x < y))))) s) := by
  intro prog w A R s h
  obtain ⟨hp, g, d, tk, os⟩ := s; obtain ⟨hl, hb, h⟩ := h
  have f3 := AutoSeq1.sub_list_list
  wp_walk using wpAny_loadPart' hl, wpAny_loadPart' hb
  exact ⟨plainId_quiet plain_eq_loop _, codeAny_builtin entry_eq_loop (by
    rw [Around.under_plainId plain_eq_loop _]
    exact lt_one l b items items2 x y t u n n2 dd dd2 sl sl2 e1 e2 prog w A R _ ⟨hl, hb, h⟩)⟩
section
variable {C : Cx} {A : Around} {env : Env} {ρ : Lo} {H : AH}
theorem LtOk.one {a b : Addr} {x y : Int} (ha : H a = some (.list [.int x])) (hb : H b = some (.list [.int y])) (hu : A.units < cLine) : LtOk C A H (.ref a) (.ref b) (decide (x < y)) := fun L ρ v w ev ew => by
  cases ab_ref ev; cases ab_ref ew
  intro s hs
  obtain ⟨its, n, ho, hi, _, _⟩ := hs.at ha
  obtain ⟨its2, n2, ho2, hi2, _, _⟩ := hs.at hb
  obtain ⟨v, e1, e1'⟩ := vals1 hi
  obtain ⟨w, e2, e2'⟩ := vals1 hi2
  obtain ⟨t, rfl⟩ := ab_int e1'
  obtain ⟨u, rfl⟩ := ab_int e2'
  have e3 : its = #[.int x t] := by rw [← Array.toArray_toList (xs := its), e1]
  have e4 : its2 = #[.int y u] := by rw [← Array.toArray_toList (xs := its2), e2]
  refine cmp_ofLt (richCompare_meets_room (T := "list") ⟨_, ho, rfl⟩ ⟨_, ho2, rfl⟩ PySem.F.slot_list_lt PySem.F.entry_list_lt (PySem.F.args_list_lt_2 _ _) (list_lt_one a b its its2 x y t u n n2 none none #[] #[] e3 e4) ⟨ho, ho2, ?_⟩ hu)
  exact ⟨by simp, ρ, H, hs, .refl .., rfl, rfl, rfl⟩

/-! ## more lists made -/
/-- of a list's items those that pass a test -/
theorem comp_filter {p : V → Bool} {elt c : Expr} {x : Str} {pos : Pos} {Ok : Nat → AH → Prop} {vs : List V} {g : V → V} {Q : AH → List V → Prop} (F : Fx C A env) (hx : env.kindOf x = some .local) (hn : vs.length ≤ sizeLine)
    (hOk : ∀ i, Ok i H) (he : ∀ v (ρ : Lo), v ∈ vs → ρ x = some v → Ev C A env ρ H elt (g v)) (hc : ∀ v (ρ : Lo), v ∈ vs → ρ x = some v → EvT C A env ρ H c (p v)) (hQ : Q H ((vs.filter p).map g)) :
    LoopOk C A env elt (.Name x pos) [c] [] H vs.length Ok (fun i _ d => ∃ v, vs[i]? = some v ∧ d = .one v) (fun _ => none) [] (fun _ H2 zs => Q H2 zs) := by
  refine ⟨fun i ρ1 H1 zs => H1 = H ∧ zs = ((vs.take i).filter p).map g, ⟨rfl, rfl⟩, ?_, ?_⟩
  · rintro i ρ1 H1 zs hi ⟨rfl, rfl⟩
    refine ⟨hOk i, ?_⟩
    rintro d ⟨v, hv, rfl⟩
    have hm : v ∈ vs := List.mem_of_getElem? hv
    have ht : vs.take (i + 1) = vs.take i ++ [v] := by rw [List.take_add_one, hv]; rfl
    refine Asg.local F hx (WT.of (hc v _ hm (Lo.set_same ..)) ⟨fun e => ⟨fun _ => ?_, fun e => (by cases e)⟩, fun e => ⟨fun e => (by cases e), fun _ => ⟨rfl, ?_⟩⟩⟩)
    · refine WE.of (he v _ hm (Lo.set_same ..)) ⟨?_, rfl, ?_⟩
      · have := List.length_filter_le p (vs.take i)
        simp at this ⊢
        omega
      · rw [ht]; simp [e]
    · rw [ht]; simp [e]
  · rintro ρ1 H1 zs ⟨rfl, rfl⟩
    exact ⟨hOk _, by rw [List.take_length]; exact hQ⟩
theorem Ev.lenFilter {p : V → Bool} {x : Str} {iter c : Expr} {q q' q2 pos pos' : Pos} {id : Str} {scope : Scope} {cl : List (Str × Addr)} {l : Addr} {ob : O} {vs : List V} (F : Fx C A env) (hf : Ev C A env ρ H (.Name id q2) (.bi "len")) (hclos : closureFor scope env = pure cl)
    (hit : Ev C A env ρ H iter (.ref l)) (hH : H l = some ob) (hl : lst ob = some vs) (hn : vs.length ≤ sizeLine) (hx : ∀ Cn, (compEnvC scope cl Cn env).kindOf x = some .local)
    (hc : ∀ Cn v (ρ : Lo), v ∈ vs → ρ x = some v → EvT C A (compEnvC scope cl Cn env) ρ H c (p v))
    (hcell : ∀ y ∈ scope.names, y.2 ≠ .cell := by decide) (hkind : scope.kind = .function := by rfl) (hnames : ∀ x ∈ scope.names, x.2 = .local → scope.names.lookup x.1 = some .local := by decide)
    (hfs : ∀ x, foldedSetIterable iter env x = pure x := by intro _; rfl) (hd : (x == ("__debug__" : Str)) = false := by decide) :
    Ev C A env ρ H (.Call (.Name id q2) [.ListComp (.Name x q) [⟨.Name x q', iter, [c], 0⟩] scope pos] [] pos') (.int (vs.countP p : Nat)) := by
  refine WE.ev (WE.drop (WE.callBi hf (WEs.cons (WE.listComp hclos (WIt.list F (WE.of hit ⟨l, ob, vs, rfl, hH, hl, fun Cn hCn => ?_⟩)) hcell hkind hnames hfs)) rfl))
  refine comp_filter (p := p) (g := fun v => v) (F.comp hkind) (hx Cn) hn (fun _ => hH) (fun v ρ _ hv => Ev.local (F.comp hkind) (hx Cn) hv hd) (hc Cn) fun D hD => ?_
  refine WEs.nil (WKs.nil (WCall.len (AH.set_same ..) rfl ⟨H, AH.le_set (AH.le_refl _) hD, ?_, rfl⟩))
  rw [List.length_map, List.countP_eq_length_filter]
end
end Mine

namespace Mine
open PySem PySem.W PyProof.Rows

/-! ## plain lists: the place among sorted things, one part grown -/
def ins {α : Type} (xs : List α) (k : Nat) (x : α) : List α := xs.take k ++ x :: xs.drop k
theorem count_split {α : Type} {P : α → Bool} : ∀ {xs : List α}, xs.Pairwise (fun p q => P q = true → P p = true) → ∀ (j : Nat) (x : α), xs[j]? = some x → (P x = true ↔ j < xs.countP P)
  | [], _, j, x, e => by simp at e
  | a :: r, h, j, x, e => by
    obtain ⟨h1, h2⟩ := List.pairwise_cons.mp h
    have ih := count_split h2
    by_cases ha : P a = true
    · rw [List.countP_cons_of_pos ha]
      cases j with
      | zero => simp at e; subst e; simp [ha]
      | succ j => rw [List.getElem?_cons_succ] at e; rw [ih j x e]; omega
    · have hall : ∀ y ∈ r, ¬ P y = true := fun y hy q => ha (h1 y hy q)
      have h0 : r.countP P = 0 := by rw [List.countP_eq_zero]; exact hall
      rw [List.countP_cons_of_neg ha, h0]
      cases j with
      | zero => simp at e; subst e; simp [ha]
      | succ j =>
        rw [List.getElem?_cons_succ] at e
        have := hall x (List.mem_of_getElem? e)
        simp [this]

theorem countP_or {α : Type} {P Q : α → Bool} : ∀ {xs : List α}, (∀ x ∈ xs, P x = true → Q x = true → False) → xs.countP P + xs.countP Q = xs.countP (fun x => P x || Q x)
  | [], _ => rfl
  | a :: r, h => by
    have ih := countP_or (P := P) (Q := Q) (xs := r) fun x hx => h x (List.mem_cons_of_mem _ hx)
    have ha := h a (List.mem_cons_self ..)
    rw [List.countP_cons, List.countP_cons, List.countP_cons]
    cases h1 : P a <;> cases h2 : Q a <;> simp_all <;> omega

theorem bis_part {α : Type} {P : α → Bool} {xs : List α} {f : Nat → Bool} {lo hi : Nat} (h : xs.Pairwise (fun p q => P q = true → P p = true)) (hhi : hi = lo + xs.length) (hf : ∀ j x, xs[j]? = some x → f (lo + j) = !P x) : bis f lo hi = lo + xs.countP P := by
  have hc := List.countP_le_length (p := P) (l := xs)
  refine bis_eq (by omega) (by omega) (fun i h1 h2 => ?_) (fun i h1 h2 => ?_)
  · obtain ⟨j, rfl⟩ : ∃ j, i = lo + j := ⟨i - lo, by omega⟩
    have hj : j < xs.length := by omega
    rw [hf j _ (List.getElem?_eq_getElem hj), ((count_split h j _ (List.getElem?_eq_getElem hj)).mpr (by omega))]; rfl
  · obtain ⟨j, rfl⟩ : ∃ j, i = lo + j := ⟨i - lo, by omega⟩
    have hj : j < xs.length := by omega
    rw [hf j _ (List.getElem?_eq_getElem hj)]
    cases q : P xs[j] with
    | false => rfl
    | true => have := (count_split h j _ (List.getElem?_eq_getElem hj)).mp q; omega

theorem split_at {α : Type} {P : α → Bool} {xs : List α} (h : xs.Pairwise (fun p q => P q = true → P p = true)) : (∀ p ∈ xs.take (xs.countP P), P p = true) ∧ (∀ p ∈ xs.drop (xs.countP P), P p = false) := by
  refine ⟨fun p hp => ?_, fun p hp => ?_⟩
  · obtain ⟨j, hj⟩ := List.getElem?_of_mem hp
    rw [List.getElem?_take] at hj
    split at hj
    · exact (count_split h j p hj).mpr ‹_›
    · cases hj
  · obtain ⟨j, hj⟩ := List.getElem?_of_mem hp
    rw [List.getElem?_drop] at hj
    have := count_split h _ p hj
    cases q : P p with
    | false => rfl
    | true => have := this.mp q; omega
theorem map_ins {α β : Type} (g : α → β) (xs : List α) (k : Nat) (x : α) : (ins xs k x).map g = ins (xs.map g) k (g x) := by
  unfold ins; simp [List.map_take, List.map_drop]
theorem mem_ins {α : Type} {xs : List α} {k : Nat} {x y : α} (h : y ∈ ins xs k x) : y = x ∨ y ∈ xs := by
  unfold ins at h
  rcases List.mem_append.mp h with h | h
  · exact .inr (List.mem_of_mem_take h)
  · rcases List.mem_cons.mp h with h | h
    · exact .inl h
    · exact .inr (List.mem_of_mem_drop h)

/-! ## statements, lambdas, heaps -/
def stAt (l : List Stmt) (n : Nat) : Stmt := (l[n]?).getD (.Pass ⟨0, 0, 0, 0⟩)
def forBody : Stmt → List Stmt
  | .For _ _ b _ _ => b
  | _ => []
def lamF (C : Cx) (env : Env) (e : Expr) (c' : Addr) (ctv : Value) : FuncData := match e with
  | .Lambda params body scope pos => lamFd C env params body scope [] c' ctv
  | _ => default
theorem set_at {H : AH} {a b : Addr} {o o' o2 : O} (ha : H a = some o) (hb : H b = some o') (hne : o ≠ o') : (H.set b o2) a = some o := by
  rw [AH.set_ne _ _ (fun q => by rw [q, hb] at ha; exact hne (Option.some.inj ha).symm)]; exact ha
theorem hit_mem {es : List (Nat × Nat × Addr)} {pos : Pos} {c : Addr} (h : hit es pos = some c) : ∃ e ∈ es, e.2.2 = c := by
  induction es with
  | nil => cases h
  | cons e r ih =>
    rw [hit] at h
    split at h
    · exact ⟨e, List.mem_cons_self .., Option.some.inj h⟩
    · obtain ⟨e', h1, h2⟩ := ih h
      exact ⟨e', List.mem_cons_of_mem _ h1, h2⟩

section
variable {C : Cx} {A : Around} {env : Env} {ρ : Lo} {H : AH}
end
end Mine

namespace Mine
open PySem PySem.W PyProof.Rows

/-! ## a table whose codes are all of one lambda -/
def Tab (H : AH) (T : Addr) (q : Str) : Prop := ∃ es, H T = some (.tab es) ∧ ∀ e ∈ es, H e.2.2 = some (.code q)
theorem Tab.up {H H' : AH} {T : Addr} {q : Str} (h : Tab H T q) (k : ∀ a o, H a = some o → (∀ vs, o ≠ .list vs) → H' a = some o) : Tab H' T q :=
  let ⟨es, e1, e2⟩ := h; ⟨es, k _ _ e1 (by simp), fun e he => k _ _ (e2 e he) (by simp)⟩
theorem Tab.le {H H' : AH} {T : Addr} {q : Str} (h : Tab H T q) (k : H.le H') : Tab H' T q := h.up fun a o e _ => k a o e
theorem WE.lamT {C : Cx} {A : Around} {env : Env} {ρ : Lo} {H : AH} {params : Arguments} {body : Expr} {scope : Scope} {pos : Pos} {clos : List (Str × Addr)} {c T : Addr} {Q : V → AH → Prop} (F : Fx C A env) (hbm : Bm C) (hcode : env.code = .ref c) (hC : CodeHd C.base c T) (ht : Tab H T (env.qual ++ "<lambda>"))
    (h : ∀ H1 g c' ctv, (∀ a o, H a = some o → a ≠ T → H1 a = some o) → Tab H1 T (env.qual ++ "<lambda>") → H1 g = some (.fn (lamFd C env params body scope clos c' ctv)) → H1 c' = some (.code (env.qual ++ "<lambda>")) → H g = none → (∀ a, H1 a = none → H a = none) → Q (.ref g) H1)
    (hdef : defaultsOf params env = ([], []) := by rfl) (hcl : closureFor scope env = pure clos := by rfl) : WE C A env (.Lambda params body scope pos) ρ H Q := by
  obtain ⟨es, hes, hec⟩ := ht
  refine WE.lambda (es := es) F hbm hcode hC hes (fun hm c' ctv f hc' hf' hcf => ?_) (fun c' hm ctv f hf' => ?_) hdef hcl
  · have up : ∀ {x : Addr} {o : O}, H x = some o → x ≠ T → (((H.set c' (.code (env.qual ++ "<lambda>"))).set T (.tab (es ++ [(pos.line, pos.col, c')]))).set f (.fn (lamFd C env params body scope clos c' ctv))) x = some o := fun {x o} e hn => by
      rw [AH.set_ne _ _ (fun q => by rw [q, hf'] at e; cases e), AH.set_ne _ _ hn, AH.set_ne _ _ (fun q => by rw [q, hc'] at e; cases e)]; exact e
    have hcT : c' ≠ T := fun e => by rw [e, hes] at hc'; cases hc'
    have hTf : T ≠ f := fun e => by rw [← e, hes] at hf'; cases hf'
    have hc2 : (((H.set c' (.code (env.qual ++ "<lambda>"))).set T (.tab (es ++ [(pos.line, pos.col, c')]))).set f (.fn (lamFd C env params body scope clos c' ctv))) c' = some (.code (env.qual ++ "<lambda>")) := by
      rw [AH.set_ne _ _ hcf, AH.set_ne _ _ hcT, AH.set_same]
    refine h _ f c' ctv (fun a o e hn => up e hn) ⟨es ++ [(pos.line, pos.col, c')], by rw [AH.set_ne _ _ hTf, AH.set_same], fun e he => ?_⟩ (AH.set_same ..) hc2 hf' fun a ha => ?_
    · rcases List.mem_append.mp he with he | he
      · exact up (hec e he) (fun q => by have := hec e he; rw [q, hes] at this; cases this)
      · rw [List.mem_singleton.mp he]; exact hc2
    · cases q : H a with
      | none => rfl
      | some o =>
        by_cases hT : a = T
        · rw [hT, AH.set_ne _ _ hTf, AH.set_same] at ha; cases ha
        · rw [up q hT] at ha; cases ha
  · obtain ⟨e0, he0, rfl⟩ := hit_mem hm
    refine h _ f e0.2.2 ctv (fun a o e _ => AH.get_of_set e hf') ⟨es, AH.get_of_set hes hf', fun e he => AH.get_of_set (hec e he) hf'⟩ (AH.set_same ..) (AH.get_of_set (hec e0 he0) hf') hf' fun a ha => (AH.none_of_set ha).1
end Mine

namespace Mine
open PySem PySem.W PyProof.Rows
open PySem.SeqAt (shaped)

/-! ## deep data, made of parts -/
def Dp (d : PyData) (k : Nat) : Prop := d.canLay0 = true ∧ d.depth ≤ k
theorem Dp.int (i : Int) : Dp (.int i) 0 := ⟨by rw [PyData.canLay0], by rw [PyData.depth]; exact Nat.le_refl _⟩
theorem Dp.shaped {d : PyData} {k : Nat} (h : Dp d k) (hk : k ≤ 64) : shaped d = true := by
  unfold PySem.SeqAt.shaped; rw [h.1, Bool.true_and]; exact decide_eq_true (Nat.le_trans h.2 hk)
theorem Dp.all {ds : List PyData} {k : Nat} (h : ∀ d ∈ ds, Dp d k) : PyData.canLayAll0 ds = true ∧ PyData.depthAll ds ≤ k := by
  induction ds with
  | nil => exact ⟨by rw [PyData.canLayAll0], by rw [PyData.depthAll]; exact Nat.zero_le _⟩
  | cons d r ih =>
    obtain ⟨h1, h2⟩ := ih fun x hx => h x (List.mem_cons_of_mem _ hx)
    obtain ⟨h3, h4⟩ := h d (List.mem_cons_self ..)
    refine ⟨by rw [PyData.canLayAll0, h3, h1]; rfl, ?_⟩
    rw [PyData.depthAll]; omega
theorem Dp.list {ds : List PyData} {k : Nat} (h : ∀ d ∈ ds, Dp d k) : Dp (.list ds) (k + 1) := by
  obtain ⟨h1, h2⟩ := Dp.all h
  exact ⟨by rw [PyData.canLay0]; exact h1, by rw [PyData.depth]; omega⟩
theorem RdL_map {α : Type} {H : AH} {f : α → V} {e : α → PyData} : ∀ {xs : List α}, (∀ x ∈ xs, Rd H (f x) (e x)) → RdL H (xs.map f) (xs.map e)
  | [], _ => by rw [List.map_nil, List.map_nil, RdL]
  | x :: r, h => by
    rw [List.map_cons, List.map_cons, RdL]
    exact ⟨f x, r.map f, rfl, h x (List.mem_cons_self ..), RdL_map fun y hy => h y (List.mem_cons_of_mem _ hy)⟩
theorem Rd_list {H : AH} {a : Addr} {ob : O} {vs : List V} {ds : List PyData} (h : H a = some ob) (hl : lst ob = some vs) (hr : RdL H vs ds) : Rd H (.ref a) (.list ds) := by
  rw [Rd]; exact ⟨a, ob, vs, rfl, h, hl, hr⟩
section
variable {C : Cx} {A : Around} {env : Env} {ρ : Lo} {H : AH}
mutual
theorem Rd.le {H H' : AH} (k : H.le H') : ∀ (d : PyData) (v : V), Rd H v d → Rd H' v d
  | .none, v, r => by rw [Rd] at r ⊢; exact r
  | .bool b, v, r => by rw [Rd] at r ⊢; exact r
  | .int i, v, r => by rw [Rd] at r ⊢; exact r
  | .str x, v, r => by rw [Rd] at r ⊢; exact r
  | .list ds, v, r => by
    rw [Rd] at r ⊢
    obtain ⟨a, ob, vs, e, h, hl, hr⟩ := r
    exact ⟨a, ob, vs, e, k _ _ h, hl, RdL.le k ds vs hr⟩
  | .tuple ds, v, r => by
    rw [Rd] at r ⊢
    obtain ⟨a, vs, e, h, hr⟩ := r
    exact ⟨a, vs, e, k _ _ h, RdL.le k ds vs hr⟩
  | .dict _, v, r => by rw [Rd] at r; exact r.elim
theorem RdL.le {H H' : AH} (k : H.le H') : ∀ (ds : List PyData) (vs : List V), RdL H vs ds → RdL H' vs ds
  | [], vs, r => by rw [RdL] at r ⊢; exact r
  | d :: ds, vs, r => by
    rw [RdL] at r ⊢
    obtain ⟨v, q, e, r1, r2⟩ := r
    exact ⟨v, q, e, Rd.le k d v r1, RdL.le k ds q r2⟩
end
end
end Mine

namespace Mine
open PySem PySem.W PyProof.Rows
open PySem.SeqAt (shaped)

/-! ## things in rising order -/
section
variable {α : Type} (g : α → Int)
def SrtBy (xs : List α) : Prop := xs.Pairwise fun p q => g p ≤ g q
variable {g}
theorem SrtBy.le {xs : List α} (h : SrtBy g xs) (v : Int) : xs.Pairwise (fun p q => decide (g q ≤ v) = true → decide (g p ≤ v) = true) :=
  List.Pairwise.imp (fun {p q} hpq hq => by simp at *; omega) h

end

/-! ## items of two numbers -/
abbrev It := Addr × (Int × Int)
def gx (p : It) : Int := p.2.2
def refs (xs : List It) : List V := xs.map fun p => V.ref p.1
abbrev IsIt (H : AH) (p : It) : Prop := H p.1 = some (.list [.int p.2.1, .int p.2.2])
theorem refs_at {xs : List It} {i : Nat} {u : V} (h : (refs xs)[i]? = some u) : ∃ p, xs[i]? = some p ∧ u = .ref p.1 := by
  unfold refs at h
  rw [List.getElem?_map] at h
  cases q : xs[i]? with
  | none => rw [q] at h; cases h
  | some p => rw [q] at h; exact ⟨p, rfl, (Option.some.inj h).symm⟩
theorem refs_len (xs : List It) : (refs xs).length = xs.length := by unfold refs; rw [List.length_map]
def dIt (p : Int × Int) : PyData := .list [.int p.1, .int p.2]
def dPart (xs : List It) : PyData := .list (xs.map fun p => dIt p.2)
theorem Rd_it {H : AH} {p : It} (h : IsIt H p) : Rd H (.ref p.1) (dIt p.2) := by
  unfold dIt
  refine Rd_list h rfl ?_
  rw [RdL]
  refine ⟨_, _, rfl, by rw [Rd], ?_⟩
  rw [RdL]
  exact ⟨_, _, rfl, by rw [Rd], by rw [RdL]⟩
theorem Dp_it (p : Int × Int) : Dp (dIt p) 1 := by
  unfold dIt
  refine Dp.list fun d hd => ?_
  rcases List.mem_cons.mp hd with rfl | hd
  · exact Dp.int _
  · rw [List.mem_singleton.mp hd]; exact Dp.int _
theorem Dp_part (xs : List It) : Dp (dPart xs) 2 := by
  unfold dPart
  refine Dp.list fun d hd => ?_
  obtain ⟨p, _, rfl⟩ := List.mem_map.mp hd
  exact Dp_it _
theorem Rd_part {H : AH} {a : Addr} {ob : O} {xs : List It} (h : H a = some ob) (hl : lst ob = some (refs xs)) (hI : ∀ p ∈ xs, IsIt H p) : Rd H (.ref a) (dPart xs) :=
  Rd_list h hl (RdL_map fun p hp => Rd_it (hI p hp))
theorem eqv_it (a b : Int × Int) : PyData.eqv (dIt a) (dIt b) = decide (a = b) := by
  unfold dIt
  rw [PyData.eqv, PyData.eqvAll, PyData.eqvAll, PyData.eqvAll, eqv_int, eqv_int]
  rw [Bool.and_true, ← Bool.decide_and]
  congr 1
  apply propext
  constructor
  · intro ⟨h1, h2⟩; exact Prod.ext h1 h2
  · intro h; rw [h]; exact ⟨rfl, rfl⟩
theorem eqv_part (a b : List It) : PyData.eqv (dPart a) (dPart b) = decide (a.map (·.2) = b.map (·.2)) := by
  unfold dPart
  rw [show (a.map fun p => dIt p.2) = (a.map (·.2)).map dIt by simp, show (b.map fun p => dIt p.2) = (b.map (·.2)).map dIt by simp]
  exact eqv_list_map eqv_it _ _
def valIt (H : AH) : V → Int × Int
  | .ref a => (match H a with
    | some (.list [.int z, .int z']) => (z, z')
    | _ => (0, 0))
  | _ => (0, 0)
section
variable {C : Cx} {A : Around} {ρ : Lo} {H : AH}

theorem ins_refs (xs : List It) (k : Nat) (p : It) : ins (refs xs) k (.ref p.1) = refs (ins xs k p) := by unfold refs; rw [map_ins]

def Sm (A : Around) : Prop := A.handled = none ∧ A.depth < recursionLimit ∧ A.units < cLine
theorem Sm.nx {A A' : Around} (h : Nx A A') (hh : A.handled = none) (hd : A.depth + 4 < recursionLimit) (hu : A.units + 100 < cLine) : Sm A' := ⟨h.2.2.trans hh, by rw [h.1]; omega, by rw [h.2.1]; omega⟩
theorem Sm.nx2 {A A' A'' : Around} (h : Nx A A') (h' : Nx A' A'') (hh : A.handled = none) (hd : A.depth + 4 < recursionLimit) (hu : A.units + 100 < cLine) : Sm A'' := ⟨h'.2.2.trans (h.2.2.trans hh), by rw [h'.1, h.1]; omega, by rw [h'.2.1, h.2.1]; omega⟩
def ifThen : Stmt → List Stmt
  | .If _ b _ _ => b
  | _ => []
def ifElse : Stmt → List Stmt
  | .If _ _ b _ => b
  | _ => []
end
end Mine

set_option maxHeartbeats 1000000
namespace Mine

/-! ## one row: what is put in, what is pushed out -/
abbrev Pr := Int × Int
def swp (x : Pr) : Pr := (x.2, x.1)
def leL (x y : Pr) : Prop := x.1 < y.1 ∨ (x.1 = y.1 ∧ x.2 ≤ y.2)
def SL (L : List Pr) : Prop := L.Pairwise leL
abbrev PS := List Int × List Int × List Pr
def plc (R : List Int) (p : Int) : Nat := R.countP (fun z => decide (z ≤ p))
def pstep (st : PS) (e : Pr) : PS :=
  if plc st.1 e.2 = st.1.length then (st.1 ++ [e.2], st.2.1 ++ [e.1], st.2.2)
  else (st.1.set (plc st.1 e.2) e.2, st.2.1, st.2.2 ++ [(e.1, st.1.getD (plc st.1 e.2) 0)])
def pass (L : List Pr) : PS := L.foldl pstep ([], [], [])
def prow (L : List Pr) : List Int := (pass L).1
def pq (L : List Pr) : List Int := (pass L).2.1
def pout (L : List Pr) : List Pr := (pass L).2.2

/-! the first column taken off -/
def peel (c : Int) : List Pr → List Pr × List Pr
  | [] => ([], [])
  | e :: r => if e.2 < c then (e :: (peel e.2 r).1, (peel e.2 r).2) else ((peel c r).1, e :: (peel c r).2)
def bumps (c : Int) : List Pr → List Pr
  | [] => []
  | e :: r => (e.1, c) :: bumps e.2 r
def lastC (c : Int) : List Pr → Int
  | [] => c
  | e :: r => lastC e.2 r

/-! what is taken off: the least ones -/
/-- the least ones of a list in order -/
def mins : List Pr → List Pr
  | [] => []
  | e :: r => e :: (peel e.2 r).1
def rest : List Pr → List Pr
  | [] => []
  | e :: r => (peel e.2 r).2
def bumpsL : List Pr → List Pr
  | [] => []
  | e :: r => bumps e.2 r


/-! what is pushed out comes in order -/

/-! ## the tables -/
def tabs : Nat → List Pr → List (List Int) × List (List Int)
  | 0, _ => ([], [])
  | _ + 1, [] => ([], [])
  | n + 1, e :: r => (prow (e :: r) :: (tabs n (pout (e :: r))).1, pq (e :: r) :: (tabs n (pout (e :: r))).2)
def table (L : List Pr) : List (List Int) × List (List Int) := tabs L.length L
/-- one more put in: the rows, and the place where a cell is added -/
def putR : List (List Int) → Int → List (List Int) × Nat
  | [], b => ([[b]], 0)
  | R :: rows, b => if plc R b = R.length then ((R ++ [b]) :: rows, 0) else (R.set (plc R b) b :: (putR rows (R.getD (plc R b) 0)).1, (putR rows (R.getD (plc R b) 0)).2 + 1)
def putS (steps : List (List Int)) (k : Nat) (a : Int) : List (List Int) := if k = steps.length then steps ++ [[a]] else steps.set k (steps.getD k [] ++ [a])
end Mine

set_option maxHeartbeats 1000000
namespace Mine
open PySem PySem.W PyProof.Rows

/-! ## the sorting of fewer than 64 things, asked by pairs -/
def krun {α : Type} (lt : Nat → Nat → Bool) : KasT α → α
  | .ret a => a
  | .ask i j k => krun lt (k (lt i j))
def kok {α : Type} (lt : Nat → Nat → Bool) (N : Nat) : KasT α → Prop
  | .ret _ => True
  | .ask i j k => i < N ∧ j < N ∧ kok lt N (k (lt i j))
theorem kwp {α : Type} {lt : Nat → Nat → Bool} {N : Nat} {cmp : Nat → Nat → (Bool → Shared → Prop) → Shared → Prop} {s : Shared} (hc : ∀ i j C, i < N → j < N → C (lt i j) s → cmp i j C s) {Q : α → Shared → Prop} : ∀ (t : KasT α), kok lt N t → Q (krun lt t) s → t.kasWp cmp Q s
  | .ret a, _, h => h
  | .ask i j k, ⟨h1, h2, h3⟩, h => hc i j _ h1 h2 (kwp hc (k (lt i j)) h3 h)
theorem krun_bind {α β : Type} (lt : Nat → Nat → Bool) (f : α → KasT β) : ∀ (t : KasT α), krun lt (t.bind f) = krun lt (f (krun lt t))
  | .ret a => rfl
  | .ask i j k => krun_bind lt f (k (lt i j))
theorem kok_bind {α β : Type} {lt : Nat → Nat → Bool} {N : Nat} (f : α → KasT β) : ∀ (t : KasT α), kok lt N t → kok lt N (f (krun lt t)) → kok lt N (t.bind f)
  | .ret a, _, h => h
  | .ask i j k, ⟨h1, h2, h3⟩, h => ⟨h1, h2, kok_bind f (k (lt i j)) h3 h⟩

section
variable {lt : Nat → Nat → Bool} {N : Nat}
structure Ord (lt : Nat → Nat → Bool) : Prop where
  asym : ∀ a b, lt a b = true → lt b a = false
  trans : ∀ a b c, lt b a = false → lt c b = false → lt c a = false
theorem Ord.refl (o : Ord lt) (a : Nat) : lt a a = false := by
  cases h : lt a a with
  | false => rfl
  | true => have := o.asym a a h; rw [h] at this; cases this
abbrev gP (p : Array Nat) (i : Nat) : Nat := p.getD i 0
def SP (lt : Nat → Nat → Bool) (p : Array Nat) (k : Nat) : Prop := ∀ i j, i ≤ j → j < k → lt (gP p j) (gP p i) = false
def NI (lt : Nat → Nat → Bool) (p : Array Nat) (k : Nat) : Prop := ∀ i j, i ≤ j → j < k → lt (gP p i) (gP p j) = false
structure In (N : Nat) (p : Array Nat) : Prop where
  size : p.size = N
  perm : p.toList.Perm (List.range N)
theorem In.bd {p : Array Nat} (h : In N p) {i : Nat} (hi : i < N) : gP p i < N := by
  have hi' : i < p.size := by rw [h.size]; exact hi
  have e : gP p i = p[i] := by simp [gP, Array.getD, hi']
  have hm : p[i] ∈ p.toList := by simp
  rw [e]; simpa using h.perm.mem_iff.mp hm
theorem gP_of {p q : Array Nat} {i j : Nat} (h : p[i]? = q[j]?) : gP p i = gP q j := by
  simp only [gP, Array.getD_eq_getD_getElem?, h]
theorem rev_get {p : Array Nat} {i j : Nat} (hj : j ≤ p.size) (k : Nat) : gP (kas_rev p i j) k = if i ≤ k ∧ k < j then gP p (i + j - 1 - k) else gP p k := by
  have := getElem?_mirror_all (xs := p) (i := i) hj k
  split
  · rename_i h; rw [if_pos h] at this; exact gP_of this
  · rename_i h; rw [if_neg h] at this; exact gP_of this
theorem In.rev {p : Array Nat} (h : In N p) (i j : Nat) : In N (kas_rev p i j) := ⟨by rw [kas_rev_size, h.size], (Array.perm_iff_toList_perm.mp (mirror_perm p i j _)).trans h.perm⟩
theorem asc_ok (o : Ord lt) {p : Array Nat} (hp : In N p) : ∀ (f n : Nat), 1 ≤ n → n + f ≤ N → SP lt p n → kok lt N (kas_asc p f n) ∧ n ≤ krun lt (kas_asc p f n) ∧ krun lt (kas_asc p f n) ≤ n + f ∧ SP lt p (krun lt (kas_asc p f n))
  | 0, n, h1, h2, hs => ⟨trivial, Nat.le_refl _, Nat.le_refl _, hs⟩
  | f + 1, n, h1, h2, hs => by
    unfold kas_asc
    cases hc : lt (p.getD n 0) (p.getD (n - 1) 0) with
    | true =>
      refine ⟨⟨hp.bd (by omega), hp.bd (by omega), ?_⟩, ?_⟩
      · rw [hc]; trivial
      · show n ≤ krun lt (if lt _ _ = true then _ else _) ∧ _
        simp only [krun, hc, if_true]
        exact ⟨Nat.le_refl _, by omega, hs⟩
    | false =>
      have hs' : SP lt p (n + 1) := fun i j hij hj => by
        by_cases q : j < n
        · exact hs i j hij q
        · have : j = n := by omega
          subst this
          by_cases q2 : i = j
          · subst q2; exact o.refl _
          · exact o.trans _ _ _ (hs i (j - 1) (by omega) (by omega)) hc
      obtain ⟨a1, a2, a3, a4⟩ := asc_ok o hp f (n + 1) (by omega) (by omega) hs'
      refine ⟨⟨hp.bd (by omega), hp.bd (by omega), ?_⟩, ?_⟩
      · rw [hc]; exact a1
      · simp only [krun, hc, Bool.false_eq_true, if_false]
        exact ⟨by omega, by omega, a4⟩
/-- the last q + 1 are alike -/
def Eqs (lt : Nat → Nat → Bool) (p : Array Nat) (n q : Nat) : Prop := q + 1 ≤ n ∧ ∀ i, n - (q + 1) ≤ i → i < n → lt (gP p (n - 1)) (gP p i) = false ∧ lt (gP p i) (gP p (n - 1)) = false
theorem rev_eqs (o : Ord lt) {p : Array Nat} {n q : Nat} (hn : n ≤ p.size) (h : NI lt p n) (he : Eqs lt p n q) : NI lt (kas_rev p (n - (q + 1)) n) n ∧ (∀ k, n ≤ k → gP (kas_rev p (n - (q + 1)) n) k = gP p k) ∧ lt (gP (kas_rev p (n - (q + 1)) n) (n - 1)) (gP p (n - 1)) = false ∧ lt (gP p (n - 1)) (gP (kas_rev p (n - (q + 1)) n) (n - 1)) = false := by
  obtain ⟨hq, he⟩ := he
  have hget := rev_get (p := p) (i := n - (q + 1)) hn
  refine ⟨fun i j hij hj => ?_, fun k hk => by rw [hget, if_neg (by omega)], ?_, ?_⟩
  · rw [hget, hget]
    by_cases q1 : n - (q + 1) ≤ i
    · rw [if_pos ⟨q1, by omega⟩, if_pos ⟨by omega, hj⟩]
      have a := he (n - (q + 1) + n - 1 - i) (by omega) (by omega)
      have b := he (n - (q + 1) + n - 1 - j) (by omega) (by omega)
      exact o.trans _ _ _ b.1 a.2
    · rw [if_neg (by omega)]
      by_cases q2 : n - (q + 1) ≤ j
      · rw [if_pos ⟨q2, hj⟩]; exact h i _ (by omega) (by omega)
      · rw [if_neg (by omega)]; exact h i j hij hj
  · rw [hget, if_pos ⟨by omega, by omega⟩]; exact (he _ (by omega) (by omega)).2
  · rw [hget, if_pos ⟨by omega, by omega⟩]; exact (he _ (by omega) (by omega)).1
theorem desc_ok (o : Ord lt) : ∀ (f : Nat) (p : Array Nat) (n q : Nat), In N p → 1 ≤ n → n + f ≤ N → NI lt p n → Eqs lt p n q →
    kok lt N (kas_desc f p n q) ∧ In N (krun lt (kas_desc f p n q)).1 ∧ n ≤ (krun lt (kas_desc f p n q)).2.1 ∧ (krun lt (kas_desc f p n q)).2.1 ≤ n + f ∧ NI lt (krun lt (kas_desc f p n q)).1 (krun lt (kas_desc f p n q)).2.1 ∧ Eqs lt (krun lt (kas_desc f p n q)).1 (krun lt (kas_desc f p n q)).2.1 (krun lt (kas_desc f p n q)).2.2
  | 0, p, n, q, hp, h1, h2, hs, he => ⟨trivial, hp, Nat.le_refl _, Nat.le_refl _, hs, he⟩
  | f + 1, p, n, q, hp, h1, h2, hs, he => by
    have l1 : p.getD n 0 < N := hp.bd (by omega)
    have l2 : p.getD (n - 1) 0 < N := hp.bd (by omega)
    have grow : ∀ (p' : Array Nat), NI lt p' n → lt (gP p' (n - 1)) (gP p' n) = false → NI lt p' (n + 1) := fun p' hs' hb i j hij hj => by
      by_cases q1 : j < n
      · exact hs' i j hij q1
      · have : j = n := by omega
        subst this
        by_cases q2 : i = j
        · subst q2; exact o.refl _
        · exact o.trans _ _ _ hb (hs' i (j - 1) (by omega) (by omega))
    have one : ∀ (p' : Array Nat), Eqs lt p' (n + 1) 0 := fun p' => ⟨by omega, fun i hi hi2 => by
      have : i = n := by omega
      subst this
      exact ⟨o.refl _, o.refl _⟩⟩
    unfold kas_desc
    cases hc : lt (p.getD n 0) (p.getD (n - 1) 0) with
    | true =>
      by_cases hq : q > 0
      · obtain ⟨r1, r2, r3, r4⟩ := rev_eqs o (by rw [hp.size]; omega) hs he
        have hb : lt (gP (kas_rev p (n - (q + 1)) n) (n - 1)) (gP (kas_rev p (n - (q + 1)) n) n) = false := by
          rw [r2 n (Nat.le_refl _)]
          exact o.trans _ _ _ (o.asym _ _ hc) r3
        obtain ⟨a1, a2, a3, a4, a5, a6⟩ := desc_ok o f (kas_rev p (n - (q + 1)) n) (n + 1) 0 (hp.rev _ _) (by omega) (by omega) (grow _ r1 hb) (one _)
        refine ⟨⟨l1, l2, by rw [hc]; simp only [if_true, if_pos hq]; exact a1⟩, ?_⟩
        simp only [krun, hc, if_true, if_pos hq]
        exact ⟨a2, by omega, by omega, a5, a6⟩
      · obtain ⟨a1, a2, a3, a4, a5, a6⟩ := desc_ok o f p (n + 1) 0 hp (by omega) (by omega) (grow _ hs (o.asym _ _ hc)) (one _)
        refine ⟨⟨l1, l2, by rw [hc]; simp only [if_true, if_neg hq]; exact a1⟩, ?_⟩
        simp only [krun, hc, if_true, if_neg hq]
        exact ⟨a2, by omega, by omega, a5, a6⟩
    | false =>
      cases hd : lt (p.getD (n - 1) 0) (p.getD n 0) with
      | true =>
        refine ⟨⟨l1, l2, ?_⟩, ?_⟩
        · rw [hc]
          refine ⟨l2, l1, ?_⟩
          rw [hd]; trivial
        · simp only [krun, hc, hd, Bool.false_eq_true, if_false, if_true]
          exact ⟨hp, Nat.le_refl _, by omega, hs, he⟩
      | false =>
        have he' : Eqs lt p (n + 1) (q + 1) := ⟨by have := he.1; omega, fun i hi hi2 => by
          by_cases q1 : i = n
          · subst q1; exact ⟨o.refl _, o.refl _⟩
          · have := he.2 i (by omega) (by omega)
            exact ⟨o.trans _ _ _ this.1 hc, o.trans _ _ _ hd this.2⟩⟩
        obtain ⟨a1, a2, a3, a4, a5, a6⟩ := desc_ok o f p (n + 1) (q + 1) hp (by omega) (by omega) (grow _ hs hd) he'
        refine ⟨⟨l1, l2, ?_⟩, ?_⟩
        · rw [hc]
          refine ⟨l2, l1, ?_⟩
          rw [hd]; exact a1
        · simp only [krun, hc, hd, Bool.false_eq_true, if_false]
          exact ⟨a2, by omega, by omega, a5, a6⟩
theorem tail_ok (o : Ord lt) {p : Array Nat} {n : Nat} (hp : In N p) (h1 : 1 ≤ n) (h2 : n ≤ N) (hs : NI lt p n) : kok lt N (kas_tail3 n N p) ∧ In N (krun lt (kas_tail3 n N p)).2 ∧ (krun lt (kas_tail3 n N p)).1 ≤ N ∧ 1 ≤ (krun lt (kas_tail3 n N p)).1 ∧ SP lt (krun lt (kas_tail3 n N p)).2 (krun lt (kas_tail3 n N p)).1 := by
  have hget := rev_get (p := p) (i := 0) (j := n) (by rw [hp.size]; omega)
  have hs' : SP lt (kas_rev p 0 n) n := fun i j hij hj => by
    rw [hget, hget, if_pos ⟨by omega, by omega⟩, if_pos ⟨by omega, by omega⟩]
    exact hs _ _ (by omega) (by omega)
  obtain ⟨a1, a2, a3, a4⟩ := asc_ok o (hp.rev 0 n) (N - n) n h1 (by omega) hs'
  unfold kas_tail3
  refine ⟨kok_bind _ _ a1 trivial, ?_⟩
  rw [krun_bind]
  exact ⟨hp.rev 0 n, by show krun lt _ ≤ N; omega, by show 1 ≤ krun lt _; omega, a4⟩
theorem part_ok (o : Ord lt) {p : Array Nat} {n : Nat} (hp : In N p) (h1 : 1 ≤ n) (h2 : n + 1 ≤ N) (hs : NI lt p (n + 1)) : kok lt N (kas_descPart n N p) ∧ In N (krun lt (kas_descPart n N p)).2 ∧ (krun lt (kas_descPart n N p)).1 ≤ N ∧ 1 ≤ (krun lt (kas_descPart n N p)).1 ∧ SP lt (krun lt (kas_descPart n N p)).2 (krun lt (kas_descPart n N p)).1 := by
  have one : Eqs lt p (n + 1) 0 := ⟨by omega, fun i hi hi2 => by
      have : i = n := by omega
      subst this
      exact ⟨o.refl _, o.refl _⟩⟩
  obtain ⟨a1, a2, a3, a4, a5, a6⟩ := desc_ok o (N - (n + 1)) p (n + 1) 0 hp (by omega) (by omega) hs one
  unfold kas_descPart
  rw [krun_bind]
  generalize hr : krun lt (kas_desc (N - (n + 1)) p (n + 1) 0) = r at *
  by_cases hq : r.2.2 > 0
  · obtain ⟨r1, _⟩ := rev_eqs o (by rw [a2.size]; omega) a5 a6
    have t := tail_ok o (a2.rev (r.2.1 - (r.2.2 + 1)) r.2.1) (by omega) (by omega) r1
    refine ⟨kok_bind _ _ a1 ?_, ?_⟩
    · rw [hr, if_pos hq]; exact t.1
    · rw [if_pos hq]; exact t.2
  · have t := tail_ok o a2 (by omega) (by omega) a5
    refine ⟨kok_bind _ _ a1 ?_, ?_⟩
    · rw [hr, if_neg hq]; exact t.1
    · rw [if_neg hq]; exact t.2
theorem asc_stop {p : Array Nat} : ∀ (f n : Nat), krun lt (kas_asc p f n) < n + f → lt (gP p (krun lt (kas_asc p f n))) (gP p (krun lt (kas_asc p f n) - 1)) = true
  | 0, n, h => by simp [kas_asc, krun] at h
  | f + 1, n, h => by
    unfold kas_asc at h ⊢
    cases hc : lt (p.getD n 0) (p.getD (n - 1) 0) with
    | true => simp only [krun, hc, if_true]
    | false =>
      simp only [krun, hc, Bool.false_eq_true, if_false] at h ⊢
      exact asc_stop f (n + 1) (by omega)
theorem count_ok (o : Ord lt) {p : Array Nat} (hp : In N p) (hN : 1 ≤ N) : kok lt N (kas_count N p) ∧ In N (krun lt (kas_count N p)).2 ∧ (krun lt (kas_count N p)).1 ≤ N ∧ 1 ≤ (krun lt (kas_count N p)).1 ∧ SP lt (krun lt (kas_count N p)).2 (krun lt (kas_count N p)).1 := by
  have hs1 : SP lt p 1 := fun i j hij hj => by
    have : i = j := by omega
    subst this
    exact o.refl _
  obtain ⟨a1, a2, a3, a4⟩ := asc_ok o hp (N - 1) 1 (Nat.le_refl _) (by omega) hs1
  have stop := asc_stop (lt := lt) (p := p) (N - 1) 1
  unfold kas_count
  rw [krun_bind]
  generalize hr : krun lt (kas_asc p (N - 1) 1) = n at *
  by_cases hn : (n == N) = true
  · refine ⟨kok_bind _ _ a1 (by rw [hr, if_pos hn]; trivial), ?_⟩
    rw [if_pos hn]
    exact ⟨hp, by show n ≤ N; omega, a2, a4⟩
  · have hnN : n < N := by
      have : n ≠ N := by simpa using hn
      omega
    have hst := stop (by omega)
    by_cases h1 : n > 1
    · cases hc : lt (p.getD 0 0) (p.getD (n - 1) 0) with
      | true =>
        refine ⟨kok_bind _ _ a1 ?_, ?_⟩
        · rw [hr, if_neg hn, if_pos h1]
          exact ⟨hp.bd (by omega), hp.bd (by omega), by rw [hc]; trivial⟩
        · rw [if_neg hn, if_pos h1]
          simp only [krun, hc, if_true]
          exact ⟨hp, by omega, a2, a4⟩
      | false =>
        -- all alike so far
        have hget := rev_get (p := p) (i := 0) (j := n) (by rw [hp.size]; omega)
        have hall : ∀ i j, i < n → j < n → lt (gP p i) (gP p j) = false := fun i j hi hj => by
          exact o.trans _ _ _ (o.trans _ _ _ (a4 j (n - 1) (by omega) (by omega)) hc) (a4 0 i (Nat.zero_le _) hi)
        have hni : NI lt (kas_rev p 0 n) (n + 1) := fun i j hij hj => by
          rw [hget, hget]
          by_cases q : j < n
          · rw [if_pos ⟨by omega, by omega⟩, if_pos ⟨by omega, q⟩]; exact hall _ _ (by omega) (by omega)
          · have : j = n := by omega
            subst this
            rw [if_neg (show ¬ (0 ≤ j ∧ j < j) by omega)]
            by_cases q2 : i = j
            · subst q2; rw [if_neg (by omega)]; exact o.refl _
            · rw [if_pos ⟨by omega, by omega⟩]
              exact o.trans _ _ _ (o.asym _ _ hst) (hall _ _ (by omega) (by omega))
        have t := part_ok o (hp.rev 0 n) (by omega) (by omega) hni
        refine ⟨kok_bind _ _ a1 ?_, ?_⟩
        · rw [hr, if_neg hn, if_pos h1]
          exact ⟨hp.bd (by omega), hp.bd (by omega), by rw [hc]; exact t.1⟩
        · rw [if_neg hn, if_pos h1]
          simp only [krun, hc, Bool.false_eq_true, if_false]
          exact t.2
    · have hn1 : n = 1 := by omega
      subst hn1
      have hni : NI lt p 2 := fun i j hij hj => by
        by_cases q : i = j
        · subst q; exact o.refl _
        · have : i = 0 ∧ j = 1 := by omega
          obtain ⟨rfl, rfl⟩ := this
          exact o.asym _ _ hst
      have t := part_ok o hp (Nat.le_refl _) (by omega) hni
      refine ⟨kok_bind _ _ a1 ?_, ?_⟩
      · rw [hr, if_neg hn, if_neg h1]; exact t.1
      · rw [if_neg hn, if_neg h1]; exact t.2
theorem place_ok (o : Ord lt) {p : Array Nat} (hp : In N p) {k : Nat} (hk : k < N) (hs : SP lt p k) : ∀ (f l r : Nat), r ≤ k → l ≤ r → r - l ≤ f → (∀ i, i < l → lt (gP p k) (gP p i) = false) → (∀ i, r ≤ i → i < k → lt (gP p k) (gP p i) = true) →
    kok lt N (kas_place p k f l r) ∧ krun lt (kas_place p k f l r) ≤ k ∧ (∀ i, i < krun lt (kas_place p k f l r) → lt (gP p k) (gP p i) = false) ∧ (∀ i, krun lt (kas_place p k f l r) ≤ i → i < k → lt (gP p k) (gP p i) = true)
  | 0, l, r, h1, h2, h3, h4, h5 => by
    have : l = r := by omega
    subst this
    exact ⟨trivial, h1, h4, h5⟩
  | f + 1, l, r, h1, h2, h3, h4, h5 => by
    unfold kas_place
    by_cases hl : l ≥ r
    · have : l = r := by omega
      subst this
      rw [if_pos hl]
      exact ⟨trivial, h1, h4, h5⟩
    · rw [if_neg hl]
      cases hc : lt (p.getD k 0) (p.getD ((l + r) / 2) 0) with
      | true =>
        have := place_ok o hp hk hs f l ((l + r) / 2) (by omega) (by omega) (by omega) h4 (fun i hi hik => by
          cases q : lt (gP p k) (gP p i) with
          | true => rfl
          | false =>
            have h6 := hs ((l + r) / 2) i hi hik
            have := o.trans _ _ _ h6 q
            rw [hc] at this; cases this)
        refine ⟨⟨hp.bd hk, hp.bd (by omega), by rw [hc]; exact this.1⟩, ?_⟩
        simp only [krun, hc, if_true]
        exact this.2
      | false =>
        have := place_ok o hp hk hs f ((l + r) / 2 + 1) r h1 (by omega) (by omega) (fun i hi => by
          have h6 := hs i ((l + r) / 2) (by omega) (by omega)
          exact o.trans _ _ _ h6 hc) h5
        refine ⟨⟨hp.bd hk, hp.bd (by omega), by rw [hc]; exact this.1⟩, ?_⟩
        simp only [krun, hc, Bool.false_eq_true, if_false]
        exact this.2
theorem bin_ok (o : Ord lt) : ∀ (f : Nat) (p : Array Nat) (k : Nat), In N p → k + f = N → SP lt p k → kok lt N (kas_bin f p k) ∧ In N (krun lt (kas_bin f p k)) ∧ SP lt (krun lt (kas_bin f p k)) N
  | 0, p, k, hp, hk, hs => ⟨trivial, hp, by
      have : k = N := by omega
      subst this
      exact hs⟩
  | f + 1, p, k, hp, hk, hs => by
    obtain ⟨a1, a2, a3, a4⟩ := place_ok o hp (by omega) hs k 0 k (Nat.le_refl _) (Nat.zero_le _) (by omega) (fun i hi => by omega) (fun i hi hik => by omega)
    unfold kas_bin
    rw [krun_bind]
    generalize hr : krun lt (kas_place p k k 0 k) = l at *
    have hget : ∀ i, gP (bubble p k (k - l)) i = if i = l then gP p k else if l < i ∧ i ≤ k then gP p (i - 1) else gP p i := fun i => by
      have := getElem?_bubble (xs := p) (src := k) (by rw [hp.size]; omega) (k - l) (by omega) i
      rw [show k - (k - l) = l by omega] at this
      split
      · rename_i h; rw [if_pos h] at this; exact gP_of this
      · rename_i h
        rw [if_neg h] at this
        split
        · rename_i h'; rw [if_pos h'] at this; exact gP_of this
        · rename_i h'; rw [if_neg h'] at this; exact gP_of this
    have hs' : SP lt (bubble p k (k - l)) (k + 1) := fun i j hij hj => by
      rw [hget, hget]
      by_cases j1 : j = l
      · rw [if_pos j1]
        by_cases i1 : i = l
        · rw [if_pos i1]; exact o.refl _
        · rw [if_neg i1, if_neg (by omega)]; exact a3 i (by omega)
      · rw [if_neg j1]
        by_cases j2 : l < j ∧ j ≤ k
        · rw [if_pos j2]
          by_cases i1 : i = l
          · rw [if_pos i1]; exact o.asym _ _ (a4 (j - 1) (by omega) (by omega))
          · rw [if_neg i1]
            by_cases i2 : l < i ∧ i ≤ k
            · rw [if_pos i2]; exact hs _ _ (by omega) (by omega)
            · rw [if_neg i2]; exact hs _ _ (by omega) (by omega)
        · rw [if_neg j2, if_neg (by omega), if_neg (by omega)]; exact hs i j hij (by omega)
    have hp' : In N (bubble p k (k - l)) := ⟨by rw [bubble_size, hp.size], (Array.perm_iff_toList_perm.mp (bubble_perm p k _)).trans hp.perm⟩
    obtain ⟨b1, b2, b3⟩ := bin_ok o f (bubble p k (k - l)) (k + 1) hp' (by omega) hs'
    exact ⟨kok_bind _ _ a1 (by rw [hr]; exact b1), b2, b3⟩
theorem sort_ok (o : Ord lt) (hN : 1 ≤ N) : kok lt N (kas_sort N) ∧ In N (krun lt (kas_sort N)) ∧ SP lt (krun lt (kas_sort N)) N := by
  have hp : In N (List.toArray (List.range N)) := ⟨by simp, by simp⟩
  obtain ⟨a1, a2, a3, a4, a5⟩ := count_ok o hp hN
  unfold kas_sort
  rw [krun_bind]
  generalize hr : krun lt (kas_count N (List.toArray (List.range N))) = r at *
  by_cases h : r.1 < N
  · have hm : max r.1 1 = r.1 := by omega
    obtain ⟨b1, b2, b3⟩ := bin_ok o (N - r.1) r.2 r.1 a2 (by omega) a5
    refine ⟨kok_bind _ _ a1 (by rw [hr, if_pos h, hm]; exact b1), ?_⟩
    rw [if_pos h, hm]; exact ⟨b2, b3⟩
  · have : r.1 = N := by omega
    refine ⟨kok_bind _ _ a1 (by rw [hr, if_neg h]; trivial), ?_⟩
    rw [if_neg h]
    exact ⟨a2, by rw [this] at a5; exact a5⟩
end
end Mine

set_option maxHeartbeats 1000000
namespace Mine
open PySem PySem.W PyProof.Rows
open PySem.MeetsSeq

/-! ## pairs of numbers, sorted -/
section
variable {prog : Program} {w : World} {A : Around} {E : Value → Shared → Prop} {s : Shared}
end
section
variable {C : Cx} {A : Around} {env : Env} {ρ : Lo} {H : AH}
abbrev PA := Addr × Pr
abbrev IsPr (H : AH) (p : PA) : Prop := H p.1 = some (.tup [.int p.2.1, .int p.2.2])
def prefs (ps : List PA) : List V := ps.map fun p => V.ref p.1
def ltP (a b : Pr) : Bool := decide (a.1 < b.1) || (decide (a.1 = b.1) && decide (a.2 < b.2))
end
end Mine

set_option maxHeartbeats 1000000
namespace Mine
open PySem PySem.W PyProof.Rows

/-! ## the sorting keeps the order of those alike -/
def lx (lt : Nat → Nat → Bool) (a b : Nat) : Bool := lt a b || (!lt b a && decide (a < b))
section
variable {lt : Nat → Nat → Bool} {N : Nat}
theorem lx_gt {x y : Nat} (h : y ≤ x) : lx lt x y = lt x y := by
  unfold lx; rw [decide_eq_false (by omega : ¬ x < y)]; simp
theorem lx_of {x y : Nat} (h : lt x y = true) : lx lt x y = true := by unfold lx; rw [h]; rfl
theorem lx_alike {x y : Nat} (h : lt y x = false) (hxy : x < y) : lx lt x y = true := by unfold lx; rw [h, decide_eq_true hxy]; simp
theorem lx_false {x y : Nat} : lx lt x y = false ↔ lt x y = false ∧ (lt y x = true ∨ ¬ x < y) := by
  unfold lx
  cases lt x y <;> cases lt y x <;> simp
theorem Ord.lx (o : Ord lt) : Ord (lx lt) where
  asym := fun a b h => by
    rw [lx_false]
    unfold Mine.lx at h
    cases h1 : lt a b with
    | true => exact ⟨o.asym _ _ h1, .inl rfl⟩
    | false =>
      rw [h1] at h
      simp at h
      exact ⟨h.1, .inr (by omega)⟩
  trans := fun a b c h1 h2 => by
    rw [lx_false] at h1 h2 ⊢
    have h3 := o.trans _ _ _ h1.1 h2.1
    refine ⟨h3, ?_⟩
    cases h4 : lt a c with
    | true => exact .inl rfl
    | false =>
      right
      have h5 : lt b c = false := o.trans c a b h4 h1.1
      have h6 : lt a b = false := o.trans b c a h2.1 h4
      rcases h1.2 with q | q
      · rw [h6] at q; cases q
      · rcases h2.2 with q' | q'
        · rw [h5] at q'; cases q'
        · omega
def Fx2 (N : Nat) (p : Array Nat) (k : Nat) : Prop := ∀ m, k ≤ m → m < N → gP p m = m
theorem In.inj {p : Array Nat} (h : In N p) {i j : Nat} (hi : i < N) (hj : j < N) (e : gP p i = gP p j) : i = j := by
  have nd : p.toList.Nodup := h.perm.nodup_iff.mpr List.nodup_range
  have hi' : i < p.toList.length := by simp [h.size, hi]
  have hj' : j < p.toList.length := by simp [h.size, hj]
  have e1 : gP p i = p.toList[i] := by simp [gP, Array.getD, h.size, hi]
  have e2 : gP p j = p.toList[j] := by simp [gP, Array.getD, h.size, hj]
  rw [e1, e2] at e
  rcases Nat.lt_trichotomy i j with q | q | q
  · exact absurd e (List.pairwise_iff_getElem.mp nd i j hi' hj' q)
  · exact q
  · exact absurd e.symm (List.pairwise_iff_getElem.mp nd j i hj' hi' q)
theorem Fx2.lo {p : Array Nat} (hp : In N p) {k : Nat} (h : Fx2 N p k) {i : Nat} (hi : i < k) (hk : k ≤ N) : gP p i < k := by
  rcases Nat.lt_or_ge (gP p i) k with q | q
  · exact q
  · have hb := hp.bd (show i < N by omega)
    have := h _ q hb
    have := hp.inj hb (by omega) this
    omega
theorem asc_same {p : Array Nat} (hp : In N p) : ∀ (f n : Nat), 1 ≤ n → n + f ≤ N → Fx2 N p n → krun (lx lt) (kas_asc p f n) = krun lt (kas_asc p f n)
  | 0, n, _, _, _ => rfl
  | f + 1, n, h1, h2, hf => by
    have e : lx lt (gP p n) (gP p (n - 1)) = lt (gP p n) (gP p (n - 1)) := lx_gt (by rw [hf n (Nat.le_refl _) (by omega)]; exact Nat.le_of_lt (hf.lo hp (by omega) (by omega)))
    unfold kas_asc
    show krun (lx lt) (if lx lt (gP p n) (gP p (n - 1)) = true then _ else _) = krun lt (if lt (gP p n) (gP p (n - 1)) = true then _ else _)
    rw [e]
    split
    · rfl
    · exact asc_same hp f (n + 1) (by omega) (by omega) (fun m hm hm' => hf m (by omega) hm')
theorem place_same {p : Array Nat} (hp : In N p) {k : Nat} (hk : k < N) (hf : Fx2 N p k) : ∀ (f l r : Nat), r ≤ k → krun (lx lt) (kas_place p k f l r) = krun lt (kas_place p k f l r)
  | 0, _, _, _ => rfl
  | f + 1, l, r, hr => by
    unfold kas_place
    by_cases hl : l ≥ r
    · rw [if_pos hl]; rfl
    · rw [if_neg hl]
      have e : lx lt (gP p k) (gP p ((l + r) / 2)) = lt (gP p k) (gP p ((l + r) / 2)) := lx_gt (by rw [hf k (Nat.le_refl _) hk]; exact Nat.le_of_lt (hf.lo hp (by omega) (by omega)))
      show krun (lx lt) (if lx lt (gP p k) (gP p ((l + r) / 2)) = true then _ else _) = krun lt (if lt (gP p k) (gP p ((l + r) / 2)) = true then _ else _)
      rw [e]
      split
      · exact place_same hp hk hf f _ _ (by omega)
      · exact place_same hp hk hf f _ _ (by omega)
theorem place_le {p : Array Nat} {k : Nat} : ∀ (f l r : Nat), l ≤ r → r ≤ k → krun lt (kas_place p k f l r) ≤ k
  | 0, l, r, h, h' => by show l ≤ k; omega
  | f + 1, l, r, h, h' => by
    unfold kas_place
    by_cases hl : l ≥ r
    · rw [if_pos hl]; show l ≤ k; omega
    · rw [if_neg hl]
      show krun lt (if lt (gP p k) (gP p ((l + r) / 2)) = true then _ else _) ≤ k
      split
      · exact place_le f _ _ (by omega) (by omega)
      · exact place_le f _ _ (by omega) (by omega)
theorem bin_same : ∀ (f : Nat) (p : Array Nat) (k : Nat), In N p → k + f = N → Fx2 N p k → krun (lx lt) (kas_bin f p k) = krun lt (kas_bin f p k)
  | 0, _, _, _, _, _ => rfl
  | f + 1, p, k, hp, hk, hf => by
    unfold kas_bin
    rw [krun_bind, krun_bind, place_same hp (by omega) hf k 0 k (Nat.le_refl _)]
    have hle := place_le (lt := lt) (p := p) (k := k) k 0 k (Nat.zero_le _) (Nat.le_refl _)
    generalize krun lt (kas_place p k k 0 k) = l at *
    refine bin_same f _ (k + 1) ⟨by rw [bubble_size, hp.size], (Array.perm_iff_toList_perm.mp (bubble_perm p k _)).trans hp.perm⟩ (by omega) fun m hm hm' => ?_
    have := getElem?_bubble (xs := p) (src := k) (by rw [hp.size]; omega) (k - l) (by omega) m
    rw [show k - (k - l) = l by omega, if_neg (by omega), if_neg (by omega)] at this
    rw [gP_of this]
    exact hf m (by omega) hm'
/-- falling so far, but for the last q + 1, which are alike -/
structure DS (lt : Nat → Nat → Bool) (N : Nat) (p : Array Nat) (n q : Nat) : Prop where
  dn : ∀ i j, i < j → j < n → i < n - (q + 1) → lx lt (gP p j) (gP p i) = true
  fx : Fx2 N p (n - (q + 1))
  eq : Eqs lt p n q
theorem DS.rev (o : Ord lt) {p : Array Nat} {n q : Nat} (hp : In N p) (hn : n ≤ N) (h : DS lt N p n q) : (∀ i j, i < j → j < n → lx lt (gP (kas_rev p (n - (q + 1)) n) j) (gP (kas_rev p (n - (q + 1)) n) i) = true) ∧ Fx2 N (kas_rev p (n - (q + 1)) n) n := by
  obtain ⟨hq, he⟩ := h.eq
  have hget := rev_get (p := p) (i := n - (q + 1)) (j := n) (by rw [hp.size]; omega)
  refine ⟨fun i j hij hj => ?_, fun m hm hm' => by rw [hget, if_neg (by omega)]; exact h.fx m (by omega) hm'⟩
  rw [hget j, hget i]
  by_cases q1 : n - (q + 1) ≤ i
  · rw [if_pos (show n - (q + 1) ≤ j ∧ j < n from ⟨by omega, hj⟩), if_pos (show n - (q + 1) ≤ i ∧ i < n from ⟨q1, by omega⟩)]
    have a := he (n - (q + 1) + n - 1 - i) (by omega) (by omega)
    have b := he (n - (q + 1) + n - 1 - j) (by omega) (by omega)
    refine lx_alike (o.trans _ _ _ b.1 a.2) ?_
    rw [h.fx _ (by omega) (by omega), h.fx _ (by omega) (by omega)]; omega
  · rw [if_neg (by omega : ¬ (n - (q + 1) ≤ i ∧ i < n))]
    by_cases q2 : n - (q + 1) ≤ j
    · rw [if_pos (show n - (q + 1) ≤ j ∧ j < n from ⟨q2, hj⟩)]; exact h.dn i _ (by omega) (by omega) (by omega)
    · rw [if_neg (show ¬ (n - (q + 1) ≤ j ∧ j < n) by omega)]; exact h.dn i j hij hj (by omega)
theorem DS.one (o : Ord lt) {p : Array Nat} {n : Nat} (hd : ∀ i j, i < j → j < n → lx lt (gP p j) (gP p i) = true) (hf : Fx2 N p n) (hn : 1 ≤ n) (hc : lt (gP p n) (gP p (n - 1)) = true) : DS lt N p (n + 1) 0 where
  dn := fun i j hij hj hi => by
    by_cases q : j < n
    · exact hd i j hij q
    · have : j = n := by omega
      subst this
      refine lx_of ?_
      by_cases q2 : i = j - 1
      · rw [q2]; exact hc
      · have h1 := hd i (j - 1) (by omega) (by omega)
        cases h2 : lt (gP p j) (gP p i) with
        | true => rfl
        | false =>
          have h3 := (lx_false.mp ((o.lx).asym _ _ h1)).1
          have := o.trans _ _ _ h3 h2
          exact absurd hc (by
            have h4 := o.trans _ _ _ (lx_false.mp ((o.lx).asym _ _ h1)).1 h2
            intro h5
            have h6 : lt (gP p (j - 1)) (gP p i) = true ∨ lt (gP p (j - 1)) (gP p i) = false := by cases lt (gP p (j - 1)) (gP p i) <;> simp
            have h7 : lt (gP p i) (gP p (j - 1)) = false := h3
            have h8 : lt (gP p j) (gP p (j - 1)) = false := o.trans (gP p (j - 1)) (gP p i) (gP p j) h7 h2
            rw [h5] at h8; cases h8)
  fx := fun m hm hm' => hf m (by omega) hm'
  eq := ⟨by omega, fun i hi hi2 => by
      have : i = n := by omega
      subst this
      exact ⟨o.refl _, o.refl _⟩⟩
theorem desc_st (o : Ord lt) : ∀ (f : Nat) (p : Array Nat) (n q : Nat), In N p → 1 ≤ n → n + f ≤ N → DS lt N p n q →
    DS lt N (krun lt (kas_desc f p n q)).1 (krun lt (kas_desc f p n q)).2.1 (krun lt (kas_desc f p n q)).2.2 ∧ In N (krun lt (kas_desc f p n q)).1 ∧ n ≤ (krun lt (kas_desc f p n q)).2.1 ∧ (krun lt (kas_desc f p n q)).2.1 ≤ n + f
  | 0, p, n, q, hp, h1, h2, hs => ⟨hs, hp, Nat.le_refl _, Nat.le_refl _⟩
  | f + 1, p, n, q, hp, h1, h2, hs => by
    unfold kas_desc
    cases hc : lt (p.getD n 0) (p.getD (n - 1) 0) with
    | true =>
      by_cases hq : q > 0
      · obtain ⟨r1, r2⟩ := hs.rev o hp (by omega)
        have hget := rev_get (p := p) (i := n - (q + 1)) (j := n) (by rw [hp.size]; omega)
        have hb : lt (gP (kas_rev p (n - (q + 1)) n) n) (gP (kas_rev p (n - (q + 1)) n) (n - 1)) = true := by
          rw [hget, hget, if_neg (by omega), if_pos ⟨by omega, by omega⟩]
          have a := hs.eq.2 (n - (q + 1) + n - 1 - (n - 1)) (by have := hs.eq.1; omega) (by have := hs.eq.1; omega)
          cases h3 : lt (gP p n) (gP p (n - (q + 1) + n - 1 - (n - 1))) with
          | true => rfl
          | false =>
            have := o.trans _ _ _ a.2 h3
            have hc' : lt (gP p n) (gP p (n - 1)) = true := hc
            rw [hc'] at this; cases this
        obtain ⟨a1, a2, a3, a4⟩ := desc_st o f (kas_rev p (n - (q + 1)) n) (n + 1) 0 (hp.rev _ _) (by omega) (by omega) (DS.one o r1 r2 h1 hb)
        simp only [krun, hc, if_true, if_pos hq]
        exact ⟨a1, a2, by omega, by omega⟩
      · have hq0 : q = 0 := by omega
        subst hq0
        obtain ⟨a1, a2, a3, a4⟩ := desc_st o f p (n + 1) 0 hp (by omega) (by omega) (DS.one o (fun i j hij hj => hs.dn i j hij hj (by omega)) (fun m hm hm' => hs.fx m (by omega) hm') h1 hc)
        simp only [krun, hc, if_true, if_neg hq]
        exact ⟨a1, a2, by omega, by omega⟩
    | false =>
      cases hd : lt (p.getD (n - 1) 0) (p.getD n 0) with
      | true =>
        simp only [krun, hc, hd, Bool.false_eq_true, if_false, if_true]
        exact ⟨hs, hp, Nat.le_refl _, by omega⟩
      | false =>
        have he' : Eqs lt p (n + 1) (q + 1) := ⟨by have := hs.eq.1; omega, fun i hi hi2 => by
          by_cases q1 : i = n
          · subst q1; exact ⟨o.refl _, o.refl _⟩
          · have := hs.eq.2 i (by omega) (by omega)
            exact ⟨o.trans _ _ _ this.1 hc, o.trans _ _ _ hd this.2⟩⟩
        have hds : DS lt N p (n + 1) (q + 1) := ⟨fun i j hij hj hi => (by
          by_cases q1 : j < n
          · exact hs.dn i j hij q1 (by omega)
          · have : j = n := by omega
            subst this
            have h3 := hs.dn i (j - 1) (by omega) (by omega) (by omega)
            -- j is alike j - 1, and comes later
            cases h4 : lx lt (gP p j) (gP p i) with
            | true => rfl
            | false =>
              exfalso
              have h5 : lx lt (gP p i) (gP p j) = true ∨ lx lt (gP p i) (gP p j) = false := by cases lx lt (gP p i) (gP p j) <;> simp
              have hfj : gP p j = j := hs.fx j (by omega) (by omega)
              have hfj1 : gP p (j - 1) = j - 1 := hs.fx (j - 1) (by have := hs.eq.1; omega) (by omega)
              have hil : gP p i < j - (q + 1) := hs.fx.lo hp (by omega) (by omega)
              have h6 := lx_false.mp h4
              have h7 : lt (gP p (j - 1)) (gP p i) = true := by
                rw [lx_gt (by rw [hfj1]; have := hs.eq.1; omega)] at h3; exact h3
              have h8 : lt (gP p j) (gP p i) = false := h6.1
              have h9 : lt (gP p (j - 1)) (gP p i) = false := o.trans (gP p i) (gP p j) (gP p (j - 1)) h8 hd
              rw [h7] at h9; cases h9), fun m hm hm' => hs.fx m (by omega) hm', he'⟩
        obtain ⟨a1, a2, a3, a4⟩ := desc_st o f p (n + 1) (q + 1) hp (by omega) (by omega) hds
        simp only [krun, hc, hd, Bool.false_eq_true, if_false]
        exact ⟨a1, a2, by omega, by omega⟩
theorem tail_st (o : Ord lt) {p : Array Nat} {n : Nat} (hp : In N p) (h1 : 1 ≤ n) (h2 : n ≤ N) (hd : ∀ i j, i < j → j < n → lx lt (gP p j) (gP p i) = true) (hf : Fx2 N p n) :
    SP (lx lt) (krun lt (kas_tail3 n N p)).2 (krun lt (kas_tail3 n N p)).1 ∧ Fx2 N (krun lt (kas_tail3 n N p)).2 (krun lt (kas_tail3 n N p)).1 ∧ In N (krun lt (kas_tail3 n N p)).2 ∧ 1 ≤ (krun lt (kas_tail3 n N p)).1 ∧ (krun lt (kas_tail3 n N p)).1 ≤ N := by
  have hget := rev_get (p := p) (i := 0) (j := n) (by rw [hp.size]; omega)
  have hf' : Fx2 N (kas_rev p 0 n) n := fun m hm hm' => by rw [hget, if_neg (by omega)]; exact hf m hm hm'
  have hs' : SP (lx lt) (kas_rev p 0 n) n := fun i j hij hj => by
    rw [hget, hget, if_pos ⟨by omega, by omega⟩, if_pos ⟨by omega, by omega⟩]
    by_cases q : i = j
    · subst q; exact (o.lx).refl _
    · exact (o.lx).asym _ _ (hd _ _ (by omega) (by omega))
  obtain ⟨a1, a2, a3, a4⟩ := asc_ok (o.lx) (hp.rev 0 n) (N - n) n h1 (by omega) hs'
  rw [asc_same (hp.rev 0 n) _ _ h1 (by omega) hf'] at a2 a3 a4
  unfold kas_tail3
  rw [krun_bind]
  exact ⟨a4, fun m hm hm' => hf' m (by have hm2 : krun lt (kas_asc (kas_rev p 0 n) (N - n) n) ≤ m := hm; omega) hm', hp.rev 0 n, by show 1 ≤ krun lt _; omega, by show krun lt _ ≤ N; omega⟩
theorem part_st (o : Ord lt) {p : Array Nat} {n : Nat} (hp : In N p) (h1 : 1 ≤ n) (h2 : n + 1 ≤ N) (hs : DS lt N p (n + 1) 0) :
    SP (lx lt) (krun lt (kas_descPart n N p)).2 (krun lt (kas_descPart n N p)).1 ∧ Fx2 N (krun lt (kas_descPart n N p)).2 (krun lt (kas_descPart n N p)).1 ∧ In N (krun lt (kas_descPart n N p)).2 ∧ 1 ≤ (krun lt (kas_descPart n N p)).1 ∧ (krun lt (kas_descPart n N p)).1 ≤ N := by
  obtain ⟨a1, a2, a3, a4⟩ := desc_st o (N - (n + 1)) p (n + 1) 0 hp (by omega) (by omega) hs
  unfold kas_descPart
  rw [krun_bind]
  generalize hr : krun lt (kas_desc (N - (n + 1)) p (n + 1) 0) = r at *
  by_cases hq : r.2.2 > 0
  · rw [if_pos hq]
    obtain ⟨r1, r2⟩ := a1.rev o a2 (by omega)
    exact tail_st o (a2.rev _ _) (by omega) (by omega) r1 r2
  · have hq0 : r.2.2 = 0 := by omega
    rw [if_neg hq]
    rw [hq0] at a1
    exact tail_st o a2 (by omega) (by omega) (fun i j hij hj => a1.dn i j hij hj (by omega)) (fun m hm hm' => a1.fx m (by omega) hm')
theorem gP_range {m : Nat} (h : m < N) : gP (List.toArray (List.range N)) m = m := by simp [gP, Array.getD, h]
theorem count_st (o : Ord lt) (hN : 1 ≤ N) :
    SP (lx lt) (krun lt (kas_count N (List.toArray (List.range N)))).2 (krun lt (kas_count N (List.toArray (List.range N)))).1 ∧ Fx2 N (krun lt (kas_count N (List.toArray (List.range N)))).2 (krun lt (kas_count N (List.toArray (List.range N)))).1 ∧ In N (krun lt (kas_count N (List.toArray (List.range N)))).2 ∧ 1 ≤ (krun lt (kas_count N (List.toArray (List.range N)))).1 ∧ (krun lt (kas_count N (List.toArray (List.range N)))).1 ≤ N := by
  have hp : In N (List.toArray (List.range N)) := ⟨by simp, by simp⟩
  have hfx : ∀ k, Fx2 N (List.toArray (List.range N)) k := fun k m _ hm => gP_range hm
  generalize List.toArray (List.range N) = p at *
  have hs1 : SP (lx lt) p 1 := fun i j hij hj => by
    have : i = j := by omega
    subst this
    exact (o.lx).refl _
  obtain ⟨a1, a2, a3, a4⟩ := asc_ok (o.lx) hp (N - 1) 1 (Nat.le_refl _) (by omega) hs1
  rw [asc_same hp _ _ (Nat.le_refl _) (by omega) (hfx 1)] at a2 a3 a4
  have stop := asc_stop (lt := lt) (p := p) (N - 1) 1
  unfold kas_count
  rw [krun_bind]
  generalize hr : krun lt (kas_asc p (N - 1) 1) = n at *
  by_cases hn : (n == N) = true
  · rw [if_pos hn]
    exact ⟨a4, hfx _, hp, a2, by show n ≤ N; omega⟩
  · have hnN : n < N := by
      have : n ≠ N := by simpa using hn
      omega
    have hst := stop (by omega)
    by_cases h1 : n > 1
    · cases hc : lt (p.getD 0 0) (p.getD (n - 1) 0) with
      | true =>
        rw [if_neg hn, if_pos h1]
        simp only [krun, hc, if_true]
        exact ⟨a4, hfx _, hp, a2, by omega⟩
      | false =>
        have hget := rev_get (p := p) (i := 0) (j := n) (by rw [hp.size]; omega)
        have hsp : SP lt p n := fun i j hij hj => (lx_false.mp (a4 i j hij hj)).1
        have hall : ∀ i j, i < n → j < n → lt (gP p i) (gP p j) = false := fun i j hi hj => by
          exact o.trans _ _ _ (o.trans _ _ _ (hsp j (n - 1) (by omega) (by omega)) hc) (hsp 0 i (Nat.zero_le _) hi)
        have hds : DS lt N (kas_rev p 0 n) (n + 1) 0 := DS.one o (fun i j hij hj => by
            rw [hget, hget, if_pos ⟨by omega, by omega⟩, if_pos ⟨by omega, by omega⟩]
            refine lx_alike (hall _ _ (by omega) (by omega)) ?_
            rw [hfx 0 _ (Nat.zero_le _) (by omega), hfx 0 _ (Nat.zero_le _) (by omega)]; omega) (fun m hm hm' => by rw [hget, if_neg (by omega)]; exact hfx 0 m (Nat.zero_le _) hm') (by omega) (by
            rw [hget, hget, if_neg (by omega), if_pos ⟨by omega, by omega⟩]
            cases h3 : lt (gP p n) (gP p (0 + n - 1 - (n - 1))) with
            | true => rfl
            | false =>
              have := o.trans _ _ _ (hall (0 + n - 1 - (n - 1)) (n - 1) (by omega) (by omega)) h3
              rw [hst] at this; cases this)
        rw [if_neg hn, if_pos h1]
        simp only [krun, hc, Bool.false_eq_true, if_false]
        exact part_st o (hp.rev 0 n) (by omega) (by omega) hds
    · have hn1 : n = 1 := by omega
      subst hn1
      rw [if_neg hn, if_neg h1]
      exact part_st o hp (Nat.le_refl _) (by omega) (DS.one o (fun i j hij hj => by omega) (hfx 1) (Nat.le_refl _) hst)
theorem sort_st (o : Ord lt) (hN : 1 ≤ N) : SP (lx lt) (krun lt (kas_sort N)) N := by
  obtain ⟨a1, a2, a3, a4, a5⟩ := count_st o hN
  unfold kas_sort
  rw [krun_bind]
  generalize hr : krun lt (kas_count N (List.toArray (List.range N))) = r at *
  by_cases h : r.1 < N
  · have hm : max r.1 1 = r.1 := by omega
    rw [if_pos h, hm, ← bin_same (N - r.1) r.2 r.1 a3 (by omega) a2]
    exact (bin_ok (o.lx) (N - r.1) r.2 r.1 a3 (by omega) a1).2.2
  · have : r.1 = N := by omega
    rw [if_neg h]
    show SP (lx lt) r.2 N
    rw [this] at a1; exact a1
end
end Mine

set_option maxHeartbeats 1000000
namespace Mine
open PySem PySem.W PyProof.Rows

section
variable {prog : Program} {w : World} {A : Around} {E : Value → Shared → Prop} {s : Shared}
theorem runs_small {κ : SortKind} {it : Array Keyed} {N : Nat} {lt : Nat → Nat → Bool} (h2 : 2 ≤ N) (h64 : N < 64) (hit : it.size = N) (o : Ord lt)
    (hc : ∀ i j (Q : Bool → Shared → Prop), i < N → j < N → Q (lt i j) s → wpAny (model prog w) A (keyLt' κ (kas_item it i).1 (kas_item it j).1) Q (fun _ _ => False) s) {Q : PUnit × SortSt → Shared → Prop}
    (h : ∀ p st', In N p → SP (lx lt) p N → arrOf st' = p.map (kas_item it) → failedOf st' = none → Q ((), st') s) :
    wpAny (model prog w) A ((sortRuns').run (SortSt.mk' κ it #[] 7 none)) Q E s := by
  have est : SortSt.mk' κ it #[] 7 none = kas_st κ it (List.toArray (List.range N)) := by
    have e := kas_range it
    rw [hit] at e
    show _ = SortSt.mk' κ ((List.toArray (List.range N)).map (kas_item it)) #[] 7 none
    rw [e]
  obtain ⟨s1, s2, s3⟩ := sort_ok (N := N) o (by omega)
  have s4 := sort_st (N := N) o (by omega)
  have run := kas_runs (prog := prog) (w := w) (A := A) (E := E) (κ := κ) (it := it) (s := s) (Q := fun _ st' s' => s' = s ∧ ∃ p, In N p ∧ SP (lx lt) p N ∧ arrOf st' = p.map (kas_item it) ∧ failedOf st' = none) (G := fun p s' => s' = s ∧ In N p ∧ SP (lx lt) p N) h2 h64
    (fun p' st' s' a1 a2 a3 a4 => ⟨a4.1, p', a4.2.1, a4.2.2, a2, a3⟩) (kwp (fun i j Cc hi hj hC => hc i j Cc hi hj hC) _ s1 ⟨rfl, s2, s4⟩)
  rw [est]
  refine wpAny_mono run ?_ fun _ _ e => e
  rintro ⟨⟨⟩, st'⟩ s' ⟨rfl, p, b1, b2, b3, b4⟩
  exact h p st' b1 b2 b3 b4
theorem in_range (N : Nat) : In N (List.toArray (List.range N)) := ⟨by simp, by simp⟩
theorem sp_small {lt : Nat → Nat → Bool} {N : Nat} {p : Array Nat} (o : Ord lt) (h : N < 2) : SP (lx lt) p N := fun i j hij hj => by
  have : i = j := by omega
  subst this
  exact (o.lx).refl _
/-- a.sort() -/
theorem sort_plain {a : Addr} {n : Nat} {vs : List Value} {κ : SortKind} {lt : Nat → Nat → Bool} {P : PySem.Fin → Shared → Prop} (ho : s.heap.get? a = some (seqObj "list" vs.toArray n)) (h64 : vs.length < 64) (o : Ord lt)
    (hk : 2 ≤ vs.length → ∀ h', Heap.ExtBut a s.heap h' → ∀ Q : SortKind → Shared → Prop, Q κ { s with heap := h' } → wpAny (model prog w) A (keyKind' vs.toArray) Q E { s with heap := h' })
    (hc : 2 ≤ vs.length → ∀ h', Heap.ExtBut a s.heap h' → ∀ i j (Q : Bool → Shared → Prop), i < vs.length → j < vs.length → Q (lt i j) { s with heap := h' } → wpAny (model prog w) A (keyLt' κ (vs.getD i Value.none) (vs.getD j Value.none)) Q (fun _ _ => False) { s with heap := h' })
    (h : ∀ p h' c, In vs.length p → SP (lx lt) p vs.length → Heap.ExtBut a s.heap h' → h'.get? a = some (seqObj "list" (p.toList.map fun i => vs.getD i Value.none).toArray c) → P (.done (.ret .none)) { s with heap := h' }) :
    wpAny (model prog w) A (Builtin.«list.sort» ⟨[.ref a], []⟩) P E s := by
  have ha : a < s.heap.objs.size := Heap.lt_size ho
  have s1 := Heap.SameBut.update s.heap a (Obj.mapSeq fun _ => (#[] : Array Value))
  obtain ⟨e1, ho1⟩ : ∃ e1, (s.heap.update a (Obj.mapSeq fun _ => (#[] : Array Value))).get? a = some (seqObj "list" #[] e1) := ⟨_, get?_update_seq ho fun _ => #[]⟩
  rw [list_sort_plain]
  refine wpAny_bind (listItems_at ho rfl ?_)
  refine wpAny_bind (listUpdate_at ho rfl ?_ (by rw [List.size_toArray, sizeLine_eq]; omega) (Nat.zero_le _))
  refine wpAny_bind (seqEpoch_at ho1 rfl ?_)
  refine wpAny_bind (wpAny_newTuple ?_ (by show vs.length ≤ _; rw [sizeLine_eq]; omega))
  refine wpAny_bind (wpAny_newList ?_ (Nat.zero_le _))
  refine wpAny_holding ?_
  show wpAny (model prog w) A _ P E { s with heap := ((s.heap.update a (Obj.mapSeq fun _ => (#[] : Array Value))).push (seqObj "tuple" vs.toArray 0)).push (seqObj "list" #[] 0) }
  have hx : Heap.ExtBut a s.heap (((s.heap.update a (Obj.mapSeq fun _ => (#[] : Array Value))).push (seqObj "tuple" vs.toArray 0)).push (seqObj "list" #[] 0)) := fun b o hb e => Heap.get?_push_of_some _ (Heap.get?_push_of_some _ (s1.extBut b o hb e))
  have ho6 : (((s.heap.update a (Obj.mapSeq fun _ => (#[] : Array Value))).push (seqObj "tuple" vs.toArray 0)).push (seqObj "list" #[] 0)).get? a = some (seqObj "list" #[] e1) := Heap.get?_push_of_some _ (Heap.get?_push_of_some _ ho1)
  generalize ((s.heap.update a (Obj.mapSeq fun _ => (#[] : Array Value))).push (seqObj "tuple" vs.toArray 0)).push (seqObj "list" #[] 0) = h6 at *
  dsimp only
  have fin : ∀ (p : Array Nat) (st' : SortSt), In vs.length p → SP (lx lt) p vs.length → arrOf st' = p.map (kas_item (pairsOf vs)) → failedOf st' = none →
      wpAny (model prog w) A (do
        let touched := (← seqEpoch a) != e1
        Builtin.List.listUpdate (.ref a) fun _ => (arrOf st').map (·.2)
        if let some e := failedOf st' then rule "list.sort.comparison-raised"; throw e
        if touched then rule "list.sort.modified"; raiseError "ValueError" "list modified during sort"
        ret .none) P E { s with heap := h6 } := by
    intro p st' hp hsp har hf
    have hout : (arrOf st').map (·.2) = List.toArray (p.toList.map fun i => vs.getD i Value.none) := by
      apply Array.toList_inj.mp
      rw [har, Array.map_map, Array.toList_map]
      exact List.map_congr_left fun i _ => by show (kas_item (pairsOf vs) i).2 = _; rw [kas_item_eq]
    have hsz : (List.toArray (p.toList.map fun i => vs.getD i Value.none)).size = vs.length := by rw [List.size_toArray, List.length_map, Array.length_toList, hp.size]
    rw [hout]
    have s2 := Heap.SameBut.update h6 a (Obj.mapSeq fun _ => List.toArray (p.toList.map fun i => vs.getD i Value.none))
    refine wpAny_bind (seqEpoch_at ho6 rfl ?_)
    refine wpAny_bind (listUpdate_at ho6 rfl ?_ (Nat.zero_le _) (Nat.le_trans (Nat.le_of_eq hsz) (by rw [sizeLine_eq]; omega)))
    rw [hf]
    simp only [bne_self_eq_false, Bool.false_eq_true, if_false]
    exact wpAny_pure (h p _ _ hp hsp (fun b o hb e => s2.extBut b o hb (hx b o hb e)) (get?_update_seq ho6 fun _ => List.toArray (p.toList.map fun i => vs.getD i Value.none)))
  by_cases h2 : vs.toArray.size < 2
  · rw [if_pos h2, if_pos h2]
    refine wpAny_bind (wpAny_pure ?_)
    rw [StateT.run_pure]
    refine wpAny_bind (wpAny_pure ?_)
    rw [List.size_toArray] at h2
    refine fin (List.toArray (List.range vs.length)) (SortSt.mk' general' (vs.toArray.zip vs.toArray) #[] 7 none) (in_range _) (sp_small o h2) ?_ rfl
    have e := kas_range (pairsOf vs)
    rw [pairsOf_size] at e
    exact e.symm
  · rw [if_neg h2, if_neg h2]
    rw [List.size_toArray] at h2
    refine wpAny_bind (hk (by omega) h6 hx _ ?_)
    refine wpAny_bind (runs_small (N := vs.length) (by omega) h64 (pairsOf_size vs) o (fun i j Q hi hj hq => ?_) fun p st' b1 b2 b3 b4 => fin p st' b1 b2 b3 b4)
    rw [kas_item_eq, kas_item_eq]
    exact hc (by omega) h6 hx i j Q hi hj hq
end

section
variable {C : Cx} {A : Around} {ρ : Lo} {H : AH} {L : Addr} {s : Shared} {E : Value → Shared → Prop}
theorem St.track {h : Heap} {D : Addr} {o : O} {c : Obj} (x : St C L ρ H h) (hD : H D = none) (hB : C.base.get? D = none) (hL : D ≠ L) (hc : h.get? D = some c) (hr : Rep o c) : St C L ρ (H.set D o) h :=
  St.alloc_fr.St.alloc' x hD hB hL hc hr
def zlt (kz : List Int) (i j : Nat) : Bool := decide (kz.getD i 0 < kz.getD j 0)
theorem zlt_ord (kz : List Int) : Ord (zlt kz) := ⟨fun a b h => by unfold zlt at *; simp at *; omega, fun a b c h1 h2 => by unfold zlt at *; simp at *; omega⟩
theorem zip_getD {ks vs : List Value} (hl : ks.length = vs.length) (i : Nat) : kas_item (ks.toArray.zip vs.toArray) i = (ks.getD i Value.none, vs.getD i Value.none) := by
  unfold kas_item
  by_cases h : i < vs.length
  · have h1 : i < (ks.toArray.zip vs.toArray).size := by simp; omega
    rw [Array.getD_eq_getD_getElem?, Array.getElem?_eq_getElem h1, List.getD_eq_getElem?_getD, List.getD_eq_getElem?_getD, List.getElem?_eq_getElem h, List.getElem?_eq_getElem (by omega : i < ks.length)]
    simp
  · have h1 : ¬ i < (ks.toArray.zip vs.toArray).size := by simp; omega
    rw [Array.getD_eq_getD_getElem?, Array.getElem?_eq_none (by omega), List.getD_eq_getElem?_getD, List.getD_eq_getElem?_getD, List.getElem?_eq_none (by omega), List.getElem?_eq_none (by omega)]
    rfl
/-- a.sort(key=f) -/
theorem sort_keyed {a : Addr} {n : Nat} {vs : List Value} {kz : List Int} {f : Value} {P : PySem.Fin → Shared → Prop} (hs : St C L ρ H s.heap) (ho : s.heap.get? a = some (seqObj "list" vs.toArray n)) (haH : H a = none) (haB : C.base.get? a = none) (haL : a ≠ L)
    (hlen : kz.length = vs.length) (h64 : vs.length < 64)
    (hkey : ∀ (i : Nat) (v : Value) (k : Int), vs[i]? = some v → kz[i]? = some k → W C A L (call f [v]) ρ H (fun r ρ' H' => ρ' = ρ ∧ H' = H ∧ ab r = .int k))
    (h : ∀ p s' c, In vs.length p → SP (lx (zlt kz)) p vs.length → St C L ρ H s'.heap → StepX [a] L H H s s' → s'.heap.get? a = some (seqObj "list" (p.toList.map fun i => vs.getD i Value.none).toArray c) → P (.done (.ret .none)) s') :
    wpAny C.M A (ksk_tree a f false) P E s := by
  have ha : a < s.heap.objs.size := Heap.lt_size ho
  have s1 := Heap.SameBut.update s.heap a (Obj.mapSeq fun _ => (#[] : Array Value))
  obtain ⟨e1, ho1⟩ : ∃ e1, (s.heap.update a (Obj.mapSeq fun _ => (#[] : Array Value))).get? a = some (seqObj "list" #[] e1) := ⟨_, get?_update_seq ho fun _ => #[]⟩
  unfold ksk_tree
  refine wpAny_bind (listItems_at ho rfl ?_)
  refine wpAny_bind (listUpdate_at ho rfl ?_ (by rw [List.size_toArray, sizeLine_eq]; omega) (Nat.zero_le _))
  refine wpAny_bind (seqEpoch_at ho1 rfl ?_)
  refine wpAny_bind (wpAny_newTuple ?_ (by show vs.length ≤ _; rw [sizeLine_eq]; omega))
  refine wpAny_bind (wpAny_newList ?_ (Nat.zero_le _))
  refine wpAny_holding ?_
  have hkS : ((s.heap.update a (Obj.mapSeq fun _ => (#[] : Array Value))).push (seqObj "tuple" vs.toArray 0)).objs.size = s.heap.objs.size + 1 := by rw [size_push', Heap.size_update]
  show wpAny C.M A (ksk_rest a f false vs.toArray e1 (.ref ((s.heap.update a (Obj.mapSeq fun _ => (#[] : Array Value))).push (seqObj "tuple" vs.toArray 0)).objs.size)) P E { s with heap := ((s.heap.update a (Obj.mapSeq fun _ => (#[] : Array Value))).push (seqObj "tuple" vs.toArray 0)).push (seqObj "list" #[] 0) }
  have hx : Heap.ExtBut a s.heap (((s.heap.update a (Obj.mapSeq fun _ => (#[] : Array Value))).push (seqObj "tuple" vs.toArray 0)).push (seqObj "list" #[] 0)) := fun b o hb e => Heap.get?_push_of_some _ (Heap.get?_push_of_some _ (s1.extBut b o hb e))
  have ho6 : (((s.heap.update a (Obj.mapSeq fun _ => (#[] : Array Value))).push (seqObj "tuple" vs.toArray 0)).push (seqObj "list" #[] 0)).get? a = some (seqObj "list" #[] e1) := Heap.get?_push_of_some _ (Heap.get?_push_of_some _ ho1)
  have hk6 : (((s.heap.update a (Obj.mapSeq fun _ => (#[] : Array Value))).push (seqObj "tuple" vs.toArray 0)).push (seqObj "list" #[] 0)).get? ((s.heap.update a (Obj.mapSeq fun _ => (#[] : Array Value))).push (seqObj "tuple" vs.toArray 0)).objs.size = some (seqObj "list" #[] 0) := Heap.get?_push_size _ rfl
  have hkn : s.heap.get? (s.heap.objs.size + 1) = none := Heap.get?_none_of_le (by omega)
  rw [hkS] at hk6 ⊢
  have fk := hs.fresh hkn
  have hka : s.heap.objs.size + 1 ≠ a := Nat.ne_of_gt (Nat.lt_succ_of_lt ha)
  generalize ((s.heap.update a (Obj.mapSeq fun _ => (#[] : Array Value))).push (seqObj "tuple" vs.toArray 0)).push (seqObj "list" #[] 0) = h6 at *
  generalize hkS' : s.heap.objs.size + 1 = kS at *
  clear hkS
  have hs6 : St C L ρ H h6 := hs.off haH haB haL hx
  have st6 : StepX [a] L H H s { s with heap := h6 } := StepX.off (fun b o hb e => hx b o (fun q => hb (by simp [q])) e)
  unfold ksk_rest
  refine wpAny_bind (wpAny_rule ?_)
  first
    | rw [List.forIn_toArray]
    | (rw [← Array.forIn_toList]; simp only [List.toList_toArray])
    | rw [← Array.forIn_toList]
  refine wpAny_bind (ksk_fold (fun i s' => ∃ (kA : List Value) (e : Nat), St C L ρ H s'.heap ∧ StepX [a] L H H s s' ∧ s'.heap.get? a = some (seqObj "list" #[] e1) ∧ s'.heap.get? kS = some (seqObj "list" kA.toArray e) ∧ kA.map ab = vints (kz.take i)) vs 0 { s with heap := h6 } ⟨[], 0, hs6, st6, ho6, hk6, by simp [vints]⟩ ?step ?done)
  case step =>
    rintro j x s' hx' ⟨kA, e, q1, q2, q3, q4, q5⟩
    simp only [Nat.zero_add] at q5 ⊢
    have hj : j < vs.length := (List.getElem?_eq_some_iff.mp hx').1
    obtain ⟨k, hkj⟩ : ∃ k, kz[j]? = some k := ⟨_, List.getElem?_eq_getElem (by omega)⟩
    have hz : kA.length ≤ vs.length := by
      have h1 := congrArg List.length q5
      rw [List.length_map, ints_length, List.length_take] at h1
      omega
    refine wpAny_bind (wpAny_attempt (wpAny_mono (hkey j x k hx' hkj s' q1) (fun v s'' he => ?_) fun _ _ hF => hF.elim))
    obtain ⟨ρ2, H2, r1, r2, rfl, rfl, r3⟩ := he
    have na : s''.heap.get? a = some (seqObj "list" #[] e1) := r2.kept a _ q3 haH haL
    have nk : s''.heap.get? kS = some (seqObj "list" kA.toArray e) := r2.kept kS _ q4 fk.1 fk.2.2
    have u1 := Heap.SameBut.update s''.heap kS (Obj.mapSeq (·.push v))
    have ea : kA.toArray.push v = (kA ++ [v]).toArray := by simp
    have ek : kz.take (j + 1) = kz.take j ++ [k] := by rw [List.take_add_one, hkj]; simp
    refine wpAny_bind (listUpdate_at nk rfl ?_ (by rw [List.size_toArray, sizeLine_eq]; omega) (Nat.le_trans (Nat.le_of_eq (Array.size_push ..)) (by rw [List.size_toArray, sizeLine_eq]; omega)))
    refine wpAny_pure ⟨rfl, kA ++ [v], _, r1.off fk.1 fk.2.1 fk.2.2 (fun b o hb e => u1.extBut b o hb e), ?_, (u1.extBut a _ (Ne.symm hka) na), by rw [← ea]; exact get?_update_seq nk (·.push v), by rw [List.map_append, q5, ek]; simp [vints, r3]⟩
    have t2 : StepX [kS] L H2 H2 s'' { s'' with heap := s''.heap.update kS (Obj.mapSeq (·.push v)) } := StepX.off (fun b o hb e => u1.extBut b o (fun q => hb (by simp [q])) e)
    have t1 : StepX [a] L H2 H2 s s'' := q2.trans r2.toX
    have t3 : StepX [a, kS] L H2 H2 s { s'' with heap := s''.heap.update kS (Obj.mapSeq (·.push v)) } := (t1.mono (ex' := [a, kS]) (fun b hb o _ => by simp at hb; simp [hb])).trans (t2.mono (ex' := [a, kS]) (fun b hb o _ => by simp at hb; simp [hb]))
    exact t3.mono (ex' := [a]) (fun b hb o e => by
      simp at hb
      rcases hb with q | q
      · simp [q]
      · rw [q, hkn] at e; cases e)
  case done =>
    rintro s' ⟨kA, e, q1, q2, q3, q4, q5⟩
    rw [List.take_of_length_le (by omega)] at q5
    have hkl : kA.length = vs.length := by have := congrArg List.length q5; rw [List.length_map, ints_length] at this; omega
    refine wpAny_bind (listItems_at q4 rfl ?_)
    have hints : IntsAre kA kz := intsAre_of q5
    have fin : ∀ (p : Array Nat) (st' : SortSt), In vs.length p → SP (lx (zlt kz)) p vs.length → arrOf st' = p.map (kas_item (kA.toArray.zip vs.toArray)) → failedOf st' = none → wpAny C.M A (ksk_tail a false e1 (.ref kS) st') P E s' := by
      intro p st' hp hsp har hf
      have hout : (arrOf st').map (·.2) = List.toArray (p.toList.map fun i => vs.getD i Value.none) := by
        apply Array.toList_inj.mp
        rw [har, Array.map_map, Array.toList_map]
        exact List.map_congr_left fun i _ => by show (kas_item (kA.toArray.zip vs.toArray) i).2 = _; rw [zip_getD hkl]
      have hsz : (List.toArray (p.toList.map fun i => vs.getD i Value.none)).size = vs.length := by rw [List.size_toArray, List.length_map, Array.length_toList, hp.size]
      have u1 := Heap.SameBut.update s'.heap kS (Obj.mapSeq fun _ => (#[] : Array Value))
      have na1 := u1.extBut a _ (Ne.symm hka) q3
      have u2 := Heap.SameBut.update (s'.heap.update kS (Obj.mapSeq fun _ => (#[] : Array Value))) a (Obj.mapSeq fun _ => List.toArray (p.toList.map fun i => vs.getD i Value.none))
      unfold ksk_tail
      try dsimp only
      rw [hout]
      refine wpAny_bind (listUpdate_at q4 rfl ?_ (by rw [List.size_toArray, sizeLine_eq]; omega) (Nat.zero_le _))
      refine wpAny_bind (wpAny_letGo ?_)
      refine wpAny_bind (seqEpoch_at na1 rfl ?_)
      refine wpAny_bind (listUpdate_at na1 rfl ?_ (Nat.zero_le _) (Nat.le_trans (Nat.le_of_eq hsz) (by rw [sizeLine_eq]; omega)))
      rw [hf]
      simp only [bne_self_eq_false, Bool.false_eq_true, if_false]
      refine wpAny_pure (h p _ _ hp hsp ((q1.off fk.1 fk.2.1 fk.2.2 (fun b o hb e => u1.extBut b o hb e)).off haH haB haL (fun b o hb e => u2.extBut b o hb e)) ?_ (get?_update_seq na1 fun _ => List.toArray (p.toList.map fun i => vs.getD i Value.none)))
      have t2 : StepX [a, kS] L H H s' { s' with heap := ((s'.heap.update kS (Obj.mapSeq fun _ => (#[] : Array Value))).update a (Obj.mapSeq fun _ => List.toArray (p.toList.map fun i => vs.getD i Value.none))) } := StepX.off (fun b o hb e => u2.extBut b o (fun q => hb (by simp [q])) (u1.extBut b o (fun q => hb (by simp [q])) e))
      have t3 := (q2.mono (ex' := [a, kS]) (fun b hb o _ => by simp at hb; simp [hb])).trans t2
      exact t3.mono (ex' := [a]) (fun b hb o e => by
        simp at hb
        rcases hb with q | q
        · simp [q]
        · rw [q, hkn] at e; cases e)
    unfold ksk_end
    try dsimp only
    show wpAny C.M A (do
      let kind ← if vs.toArray.size < 2 then pure general' else keyKind' kA.toArray
      let ((), s) ← (if vs.toArray.size < 2 then pure () else sortRuns').run (SortSt.mk' kind (kA.toArray.zip vs.toArray) #[] 7 none)
      ksk_tail a false e1 (.ref kS) s) P E s'
    have hzs : (kA.toArray.zip vs.toArray).size = vs.length := by simp; omega
    by_cases h2 : vs.toArray.size < 2
    · rw [if_pos h2, if_pos h2]
      refine wpAny_bind (wpAny_pure ?_)
      dsimp only
      rw [StateT.run_pure]
      refine wpAny_bind (wpAny_pure ?_)
      rw [List.size_toArray] at h2
      refine fin (List.toArray (List.range vs.length)) (SortSt.mk' general' (kA.toArray.zip vs.toArray) #[] 7 none) (in_range _) (sp_small (zlt_ord kz) h2) ?_ rfl
      have e := kas_range (kA.toArray.zip vs.toArray)
      rw [hzs] at e
      exact e.symm
    · rw [if_neg h2, if_neg h2]
      rw [List.size_toArray] at h2
      rw [ksk_kind (keys := kA.toArray) (kz := kz) (by simpa using hints) (by rw [List.size_toArray]; omega)]
      refine wpAny_bind (wpAny_pure ?_)
      dsimp only
      refine wpAny_bind (runs_small (N := vs.length) (lt := zlt kz) (by omega) h64 hzs (zlt_ord kz) (fun i j Q hi hj hq => ?_) fun p st' b1 b2 b3 b4 => fin p st' b1 b2 b3 b4)
      rw [zip_getD hkl, zip_getD hkl]
      have gi : ∀ i, i < vs.length → ∃ t, kA.getD i Value.none = .int (kz.getD i 0) t := fun i hi => by
        obtain ⟨t, ht⟩ := hints.get i (kz.getD i 0) (by rw [List.getD_eq_getElem?_getD, List.getElem?_eq_getElem (by omega : i < kz.length)]; rfl)
        exact ⟨t, by rw [List.getD_eq_getElem?_getD, ht]; rfl⟩
      obtain ⟨t, ht⟩ := gi i hi
      obtain ⟨u, hu⟩ := gi j hj
      show wpAny C.M A (keyLt' oneType' (kA.getD i Value.none) (kA.getD j Value.none)) Q _ _
      rw [ht, hu, keyLt'_oneType]
      exact oneLt_int hq
end
end Mine

set_option maxHeartbeats 1000000
namespace Mine
open PySem PySem.W PyProof.Rows PySem.Calls

/-- the same frame, some units deeper -/
def Nr (A A' : Around) : Prop := A'.depth = A.depth ∧ A'.handled = A.handled ∧ A.units ≤ A'.units ∧ A'.units ≤ A.units + 8
theorem Nr.one (A : Around) : Nr A A.in1 := ⟨rfl, rfl, Nat.le_succ _, by show A.units + 1 ≤ _; omega⟩
theorem Nr.two (A : Around) : Nr A A.in1.in1 := ⟨rfl, rfl, by show _ ≤ A.units + 1 + 1; omega, by show A.units + 1 + 1 ≤ _; omega⟩

/-- what list(v) holds -/
def Coll (C : Cx) (A : Around) (H : AH) (x : V) (R : List V → Prop) : Prop :=
  ∀ L ρ (v : Value) (s : Shared) (E : Value → Shared → Prop) (Q : List Value → Shared → Prop), ab v = x → St C L ρ H s.heap →
    (∀ us s', R (us.map ab) → us.length ≤ sizeLine → St C L ρ H s'.heap → Step L H H s s' → Q us s') → wpAny C.M A (collect v) Q E s
section
variable {C : Cx} {A : Around} {env : Env} {ρ : Lo} {H : AH}
theorem Coll.list {l : Addr} {ob : O} {vs : List V} (hH : H l = some ob) (hl : lst ob = some vs) : Coll C A H (.ref l) (fun us => us = vs) := fun L ρ v s E Q ev hs hq => by
  cases ab_ref ev
  obtain ⟨xs, x1, x2, x3⟩ := hs.list hH hl
  have hlen : xs.toList.length = vs.length := by have := congrArg List.length x2; simpa using this
  refine collect_list (vs := xs.toList) (by rw [Array.toArray_toList]; exact x1) ?_ (by omega)
  have k : ∀ b o, s.heap.get? b = some o → ((s.heap.push (seqObj "list" #[] 0)).update s.heap.objs.size (Obj.mapSeq (· ++ xs.toList.toArray))).get? b = some o := fun b o e => by
    have hlt : b < s.heap.objs.size := Heap.lt_size e
    rw [Heap.get?_update_ne _ _ _ _ (Nat.ne_of_lt hlt)]
    exact Heap.get?_push_of_some _ e
  exact hq xs.toList _ x2 (by omega) (hs.ext k) (Step.ext (tk := s.toks) k)

theorem map_getD {us : List Value} {p : Array Nat} {n : Nat} (hp : In n p) (hn : us.length = n) : ((p.toList.map fun i => us.getD i Value.none).map ab) = p.toList.map fun i => (us.map ab).getD i V.none := by
  rw [List.map_map]
  apply List.map_congr_left
  intro i hi
  have hi' : i < us.length := by rw [hn]; simpa using hp.perm.mem_iff.mp hi
  show ab (us.getD i Value.none) = _
  rw [List.getD_eq_getElem?_getD, List.getD_eq_getElem?_getD, List.getElem?_map, List.getElem?_eq_getElem hi']; rfl
/-- sorted(v, key=f) -/
theorem WCall.sortedKeyC {x : V} {g : Addr} {R : List V → Prop} {kf : V → Int} {Q : V → AH → Prop} (hcol : ∀ A', Nr A A' → Coll C A' H x R) (h64 : ∀ us, R us → us.length < 64)
    (hkey : ∀ A', Nr A A' → ∀ us, R us → ∀ v ∈ us, KeyOk C A' H g v (.int (kf v)))
    (h : ∀ us D p, R us → H D = none → In us.length p → SP (lx (zlt (us.map kf))) p us.length → Q (.ref D) (H.set D (.list (p.toList.map fun i => us.getD i .none)))) : WCall C A (.bi "sorted") [x] [("key", .ref g)] H Q := by
  intro L ρ fv vals kvs e1 e2 e3
  cases ab_bi e1
  obtain ⟨xv, rfl, ex⟩ := vals1 e2
  obtain ⟨⟨kn, kv⟩, rfl, ek⟩ : ∃ q, kvs = [q] ∧ (q.1, ab q.2) = (("key" : Str), V.ref g) := by
    have hl := congrArg List.length e3
    rw [List.length_map] at hl
    obtain ⟨q, rfl⟩ := List.length_eq_one_iff.mp hl
    exact ⟨q, rfl, (List.cons.inj e3).1⟩
  simp only [Prod.mk.injEq] at ek
  obtain ⟨rfl, ek⟩ := ek
  cases ab_ref ek
  intro s hs
  refine call_function_entry_kw kind_sorted plain_sorted entry_sorted (ksk_s1 xv (.ref g)) ?_
  unfold Builtin.«sorted»
  refine wpAny_bind (m := checkCount "sorted" 1 1 _) (wpAny_pure ?_)
  refine wpAny_bind (hcol _ (Nr.one A) L ρ xv s _ _ ex hs fun us s1 hR hsz hs1 st1 => ?_)
  have hl64 := h64 _ hR
  rw [List.length_map] at hl64
  refine wpAny_bind (wpAny_newList ?_ (by rw [sizeLine_eq]; omega))
  have k2 : ∀ b o, s1.heap.get? b = some o → (s1.heap.push (seqObj "list" us.toArray 0)).get? b = some o := fun b o e => Heap.get?_push_of_some _ e
  have hn := get?_size_none s1.heap
  have hf := hs1.fresh hn
  have hs2 : St C L ρ H (s1.heap.push (seqObj "list" us.toArray 0)) := hs1.ext k2
  have hoL : (s1.heap.push (seqObj "list" us.toArray 0)).get? s1.heap.objs.size = some (seqObj "list" us.toArray 0) := Heap.get?_push_size _ rfl
  have hnS : s.heap.get? s1.heap.objs.size = none := by
    cases q : s.heap.get? s1.heap.objs.size with
    | none => rfl
    | some o => obtain ⟨o', e'⟩ := st1.live _ o q; rw [hn] at e'; cases e'
  show wpAny C.M _ _ _ _ { s1 with heap := s1.heap.push (seqObj "list" us.toArray 0) }
  refine wpAny_bind (wpAny_holding (wpAny_call_entry_kw slot_list_sort ⟨_, hoL, rfl⟩ entry_list_sort ?body (ksk_l1 _ (.ref g))))
  case body =>
    show wpAny C.M A.in1.in1 (Builtin.«list.sort» ⟨[.ref s1.heap.objs.size], [(Str.ofString "key", .ref g)]⟩) _ _ _
    rw [ksk_t1]
    refine sort_keyed (C := C) (L := L) (ρ := ρ) (H := H) (kz := (us.map ab).map kf) (vs := us) (s := { s1 with heap := s1.heap.push (seqObj "list" us.toArray 0) }) hs2 hoL hf.1 hf.2.1 hf.2.2 (by simp) hl64 (fun i v k hv hk => ?_) fun p s' c hp hsp hs' st' hD => ⟨.none, rfl, wpAny_pure ⟨.ref s1.heap.objs.size, rfl, ?_⟩⟩
    · have hk' : k = kf (ab v) := by
        rw [List.getElem?_map, List.getElem?_map, hv] at hk
        exact (Option.some.inj hk).symm
      subst hk'
      refine W.mono (hkey _ (Nr.two A) _ hR (ab v) (List.mem_map.mpr ⟨v, List.mem_of_getElem? hv, rfl⟩) L ρ (.ref g) [v] [] rfl rfl rfl) ?_
      rintro r ρ' H' ⟨rfl, e, rfl⟩
      exact ⟨rfl, rfl, e⟩
    · have hlen : (us.map ab).length = us.length := by simp
      refine ⟨ρ, H.set s1.heap.objs.size (.list (p.toList.map fun i => (us.map ab).getD i V.none)), hs'.track hf.1 hf.2.1 hf.2.2 hD ⟨_, _, rfl, by rw [List.toList_toArray]; exact map_getD hp rfl, by rw [List.length_map, Array.length_toList, hp.size]; exact hsz⟩, ?_, rfl, h _ _ p hR hf.1 (by rw [hlen]; exact hp) (by rw [hlen]; exact hsp)⟩
      have t1 : StepX [s1.heap.objs.size] L H H s s' := ((st1.trans (Step.ext (tk := s1.toks) k2) (fun _ _ => hs1.nl)).toX).trans st'
      have ne : ∀ b o, s.heap.get? b = some o → b ∉ [s1.heap.objs.size] := fun b o e q => by rw [List.mem_singleton.mp q, hnS] at e; cases e
      refine ⟨t1.same, fun b o e eb eL => t1.kept b o (ne b o e) e eb eL, fun b o e eb => ?_, fun b o e => t1.live b o (ne b o e) e⟩
      rw [AH.set_ne _ _ (fun q => ne b o e (by simp [q]))]; exact t1.new b o (ne b o e) e eb
/-- sorted(v) of numbers -/
theorem WCall.sortedIntsC {x : V} {R : List Int → Prop} {Q : V → AH → Prop} (hcol : ∀ A', Nr A A' → Coll C A' H x (fun us => ∃ ns, us = vints ns ∧ R ns)) (h64 : ∀ ns, R ns → ns.length < 64)
    (h : ∀ ns D ns', R ns → H D = none → ns'.Perm ns → ns'.Pairwise (fun a b => a ≤ b) → Q (.ref D) (H.set D (.list (vints ns')))) : WCall C A (.bi "sorted") [x] [] H Q := by
  intro L ρ fv vals kvs e1 e2 e3
  cases ab_bi e1
  obtain ⟨xv, rfl, ex⟩ := vals1 e2
  cases ab_nil e3
  intro s hs
  refine Calls.call_function_entry kind_sorted plain_sorted entry_sorted (args_sorted1 _) ?_
  unfold Builtin.«sorted»
  refine wpAny_bind (m := checkCount "sorted" 1 1 _) (wpAny_pure ?_)
  refine wpAny_bind (hcol _ (Nr.one A) L ρ xv s _ _ ex hs fun us s1 hR hsz hs1 st1 => ?_)
  obtain ⟨ns, hus, hR⟩ := hR
  have hul : us.length = ns.length := by have := congrArg List.length hus; simpa using this
  have hl64 := h64 _ hR
  refine wpAny_bind (wpAny_newList ?_ (by rw [sizeLine_eq]; omega))
  have k2 : ∀ b o, s1.heap.get? b = some o → (s1.heap.push (seqObj "list" us.toArray 0)).get? b = some o := fun b o e => Heap.get?_push_of_some _ e
  have hn := get?_size_none s1.heap
  have hf := hs1.fresh hn
  have hs2 : St C L ρ H (s1.heap.push (seqObj "list" us.toArray 0)) := hs1.ext k2
  have hoL : (s1.heap.push (seqObj "list" us.toArray 0)).get? s1.heap.objs.size = some (seqObj "list" us.toArray 0) := Heap.get?_push_size _ rfl
  have hnS : s.heap.get? s1.heap.objs.size = none := by
    cases q : s.heap.get? s1.heap.objs.size with
    | none => rfl
    | some o => obtain ⟨o', e'⟩ := st1.live _ o q; rw [hn] at e'; cases e'
  have hints : IntsAre us ns := intsAre_of hus
  show wpAny C.M _ _ _ _ { s1 with heap := s1.heap.push (seqObj "list" us.toArray 0) }
  refine wpAny_bind (wpAny_holding (wpAny_call_entry slot_list_sort ⟨_, hoL, rfl⟩ entry_list_sort ?body (args_list_sort _)))
  case body =>
    show wpAny C.M A.in1.in1 (Builtin.«list.sort» ⟨[.ref s1.heap.objs.size], []⟩) _ _ _
    refine sort_plain (prog := C.prog) (w := C.w) (κ := oneType') (lt := zlt ns) (vs := us) (s := { s1 with heap := s1.heap.push (seqObj "list" us.toArray 0) }) hoL (by omega) (zlt_ord ns) (fun h2 h' hx Q hq => ?_) (fun h2 h' hx i j Q hi hj hq => ?_) fun p h' c hp hsp hx hD => ⟨.none, rfl, wpAny_pure ⟨.ref s1.heap.objs.size, rfl, ?_⟩⟩
    · rw [ksk_kind (keys := us.toArray) (kz := ns) (by simpa using hints) (by rw [List.size_toArray]; omega)]
      exact wpAny_pure hq
    · have gi : ∀ i, i < us.length → ∃ t, us.getD i Value.none = .int (ns.getD i 0) t := fun i hi => by
        obtain ⟨t, ht⟩ := hints.get i (ns.getD i 0) (by rw [List.getD_eq_getElem?_getD, List.getElem?_eq_getElem (by omega : i < ns.length)]; rfl)
        exact ⟨t, by rw [List.getD_eq_getElem?_getD, ht]; rfl⟩
      obtain ⟨t, ht⟩ := gi i hi
      obtain ⟨u, hu⟩ := gi j hj
      rw [ht, hu, keyLt'_oneType]
      exact oneLt_int hq
    · have hb : ∀ b o, b ≠ s1.heap.objs.size → (s1.heap.push (seqObj "list" us.toArray 0)).get? b = some o → h'.get? b = some o := fun b o hb e => hx b o hb e
      have hs3 : St C L ρ H h' := hs2.off hf.1 hf.2.1 hf.2.2 hb
      have hvs : ((p.toList.map fun i => us.getD i Value.none).map ab) = vints (p.toList.map fun i => ns.getD i 0) := by
        rw [map_getD hp rfl, hus]
        unfold vints
        rw [List.map_map]
        apply List.map_congr_left
        intro i hi
        have hi' : i < ns.length := by rw [← hul]; simpa using hp.perm.mem_iff.mp hi
        show (ns.map V.int).getD i V.none = V.int (ns.getD i 0)
        rw [List.getD_eq_getElem?_getD, List.getD_eq_getElem?_getD, List.getElem?_map, List.getElem?_eq_getElem hi']; rfl
      refine ⟨ρ, H.set s1.heap.objs.size (.list (vints (p.toList.map fun i => ns.getD i 0))), hs3.track hf.1 hf.2.1 hf.2.2 hD ⟨_, _, rfl, by rw [List.toList_toArray]; exact hvs, by rw [ints_length, List.length_map, Array.length_toList, hp.size]; exact hsz⟩, ?_, rfl, h ns _ _ hR hf.1 ?_ ?_⟩
      · have t1 : StepX [s1.heap.objs.size] L H H s { s1 with heap := h' } := ((st1.trans (Step.ext (tk := s1.toks) k2) (fun _ _ => hs1.nl)).toX).trans (StepX.off (fun b o hbm e => hb b o (fun q => hbm (by simp [q])) e))
        have ne : ∀ b o, s.heap.get? b = some o → b ∉ [s1.heap.objs.size] := fun b o e q => by rw [List.mem_singleton.mp q, hnS] at e; cases e
        refine ⟨t1.same, fun b o e eb eL => t1.kept b o (ne b o e) e eb eL, fun b o e eb => ?_, fun b o e => t1.live b o (ne b o e) e⟩
        rw [AH.set_ne _ _ (fun q => ne b o e (by simp [q]))]; exact t1.new b o (ne b o e) e eb
      · refine (hp.perm.map _).trans ?_
        rw [hul]
        have : (List.range ns.length).map (fun i => ns.getD i 0) = ns := by
          apply List.ext_getElem?
          intro i
          by_cases hi : i < ns.length
          · rw [List.getElem?_map, List.getElem?_range hi, Option.map_some, List.getD_eq_getElem?_getD, List.getElem?_eq_getElem hi]; rfl
          · rw [List.getElem?_eq_none (by simp; omega), List.getElem?_eq_none (by omega)]
        rw [this]
      · rw [List.pairwise_map, List.pairwise_iff_getElem]
        intro i j hi hj hij
        have hj' : j < us.length := by rw [← hp.size]; simpa using hj
        have := (lx_false.mp (hsp i j (Nat.le_of_lt hij) hj')).1
        have gi : gP p i = p.toList[i] := by simp [gP, Array.getD, show i < p.size by simpa using hi]
        have gj : gP p j = p.toList[j] := by simp [gP, Array.getD, show j < p.size by simpa using hj]
        rw [gi, gj] at this
        unfold zlt at this
        simpa using this
end
end Mine

set_option maxHeartbeats 1000000
namespace Mine
open PySem PySem.W PyProof.Rows PySem.Calls

/-! ## the table of a set: places rise -/
def Ris (xs : Array Nat) : Prop := xs.toList.Pairwise fun a b => a < b
theorem Ris.lt {xs : Array Nat} (h : Ris xs) {i j : Nat} {u v : Nat} (hij : i < j) (hi : xs[i]? = some u) (hj : xs[j]? = some v) : u < v := by
  have h1 := (Array.getElem?_eq_some_iff.mp hi)
  have h2 := (Array.getElem?_eq_some_iff.mp hj)
  obtain ⟨a1, rfl⟩ := h1
  obtain ⟨a2, rfl⟩ := h2
  exact List.pairwise_iff_getElem.mp h i j (by simpa using a1) (by simpa using a2) hij
theorem below_go {xs : Array Nat} {j : Nat} (h : Ris xs) : ∀ (f lo hi : Nat), lo ≤ hi → hi ≤ xs.size → hi - lo ≤ f → (∀ (i v : Nat), i < lo → xs[i]? = some v → v < j) → (∀ (i v : Nat), hi ≤ i → xs[i]? = some v → j ≤ v) →
    SetTable.below.go xs j f lo hi ≤ xs.size ∧ (∀ (i v : Nat), i < SetTable.below.go xs j f lo hi → xs[i]? = some v → v < j) ∧ (∀ (i v : Nat), SetTable.below.go xs j f lo hi ≤ i → xs[i]? = some v → j ≤ v)
  | 0, lo, hi, h1, h2, h3, h4, h5 => by
    have : lo = hi := by omega
    subst this
    unfold SetTable.below.go
    exact ⟨h2, h4, h5⟩
  | f + 1, lo, hi, h1, h2, h3, h4, h5 => by
    unfold SetTable.below.go
    by_cases q : lo < hi
    · rw [if_pos q]
      have hm : (lo + hi) / 2 < xs.size := by omega
      have hg : xs[(lo + hi) / 2]? = some xs[(lo + hi) / 2] := Array.getElem?_eq_getElem hm
      have hd : xs.getD ((lo + hi) / 2) j = xs[(lo + hi) / 2] := by rw [Array.getD_eq_getD_getElem?, hg]; rfl
      simp only [hd]
      by_cases q2 : xs[(lo + hi) / 2] < j
      · rw [if_pos q2]
        refine below_go h f _ _ (by omega) h2 (by omega) (fun i v hi' hv => ?_) h5
        by_cases q3 : i = (lo + hi) / 2
        · subst q3; rw [hg] at hv; cases hv; exact q2
        · have := h.lt (by omega) hv hg; omega
      · rw [if_neg q2]
        refine below_go h f _ _ (by omega) (by omega) (by omega) h4 (fun i v hi' hv => ?_)
        by_cases q3 : i = (lo + hi) / 2
        · subst q3; rw [hg] at hv; cases hv; omega
        · have := h.lt (by omega) hg hv; omega
    · rw [if_neg q]
      have : lo = hi := by omega
      subst this
      exact ⟨h2, h4, h5⟩
theorem below_ok {xs : Array Nat} (j : Nat) (h : Ris xs) : SetTable.below xs j ≤ xs.size ∧ (∀ (i v : Nat), i < SetTable.below xs j → xs[i]? = some v → v < j) ∧ (∀ (i v : Nat), SetTable.below xs j ≤ i → xs[i]? = some v → j ≤ v) := by
  unfold SetTable.below
  exact below_go h xs.size 0 xs.size (Nat.zero_le _) (Nat.le_refl _) (by omega) (fun i v hi => by omega) (fun i v hi hv => by
    have := (Array.getElem?_eq_some_iff.mp hv).1; omega)
theorem ins_ris {xs : Array Nat} {j : Nat} (h : Ris xs) (hn : xs[SetTable.below xs j]? ≠ some j) : Ris (SetTable.insertAt xs (SetTable.below xs j) j) := by
  obtain ⟨b1, b2, b3⟩ := below_ok j h
  generalize SetTable.below xs j = r at *
  unfold Ris
  rw [SetTable.toList_insertAt]
  have hlt : ∀ v ∈ xs.toList.drop r, j < v := fun v hv => by
    obtain ⟨i, hi⟩ := List.getElem?_of_mem hv
    rw [List.getElem?_drop, Array.getElem?_toList] at hi
    have h1 := b3 _ _ (by omega) hi
    by_cases q : v = j
    · subst q
      by_cases q2 : i = 0
      · subst q2; rw [Nat.add_zero] at hi; exact absurd hi hn
      · have hrl : r < xs.size := by have := (Array.getElem?_eq_some_iff.mp hi).1; omega
        have h2 := h.lt (i := r) (j := r + i) (by omega) (Array.getElem?_eq_getElem hrl) hi
        have h3 := b3 r _ (Nat.le_refl _) (Array.getElem?_eq_getElem hrl)
        omega
    · omega
  have hge : ∀ v ∈ xs.toList.take r, v < j := fun v hv => by
    obtain ⟨i, hi⟩ := List.getElem?_of_mem hv
    rw [List.getElem?_take] at hi
    split at hi
    · rw [Array.getElem?_toList] at hi; exact b2 _ _ (by assumption) hi
    · cases hi
  rw [List.pairwise_append]
  refine ⟨List.Pairwise.sublist (List.take_sublist ..) h, List.pairwise_cons.mpr ⟨hlt, List.Pairwise.sublist (List.drop_sublist ..) h⟩, fun a ha b hb => ?_⟩
  rcases List.mem_cons.mp hb with rfl | hb
  · exact hge a ha
  · have := hge a ha; have := hlt b hb; omega
theorem slot_free {t : SetTable} {j : Nat} (h : t.slot j = .empty ∨ t.slot j = .dummy) : t.place[SetTable.below t.place j]? ≠ some j := fun e => by
  unfold SetTable.slot at h
  simp only [e, beq_self_eq_true, if_true] at h
  rcases h with h | h <;> cases h
theorem advance_dummy (t : SetTable) (p : SetTable.Probe) : (t.advance p).dummy = p.dummy := by
  unfold SetTable.advance; split <;> rfl
theorem probe_go {t : SetTable} {hashAt : Nat → Int} {h : Int} {j : Nat} {d : Option Nat} : ∀ (f : Nat) (p : SetTable.Probe), (∀ x, p.dummy = some x → t.slot x = .dummy) → SetTable.probe.go t hashAt h f p = some (.empty j d) → t.slot j = .empty ∧ ∀ x, d = some x → t.slot x = .dummy
  | 0, p, _, e => by unfold SetTable.probe.go at e; cases e
  | f + 1, p, hp, e => by
    unfold SetTable.probe.go at e
    split at e
    · rename_i hs; cases e; exact ⟨hs, hp⟩
    · rename_i hs
      exact probe_go f _ (fun x hx => by rw [advance_dummy] at hx; cases hx; exact hs) e
    · rename_i i hs
      split at e
      · cases e
      · exact probe_go f _ (fun x hx => by rw [advance_dummy] at hx; exact hp x hx) e
theorem freeSlot_ok {t : SetTable} {h : Int} {slot : Nat} {b : Bool} (e : t.freeSlot h = some (slot, b)) : t.place[SetTable.below t.place slot]? ≠ some slot := by
  unfold SetTable.freeSlot at e
  split at e
  · rename_i j d hp
    unfold SetTable.probe at hp
    obtain ⟨h1, h2⟩ := probe_go _ _ (fun x hx => by cases hx) hp
    cases e
    refine slot_free ?_
    cases d with
    | none => exact .inl h1
    | some x => exact .inr (h2 x rfl)
  · cases e
theorem ris_range (n : Nat) : Ris (Array.range n) := by unfold Ris; rw [Array.toList_range]; exact List.pairwise_lt_range
theorem standIn_ris (t : SetTable) (n : Nat) : Ris (t.standIn n).place ∧ (t.standIn n).led = t.led := ⟨ris_range n, rfl⟩
theorem layNew_ris {t : SetTable} {es : Array (Int × Value)} {h : Int} {x : Value} (hr : Ris t.place) : Ris (layNew t es h x).2.1.place ∧ (layNew t es h x).2.1.led = t.led := by
  unfold layNew
  split
  · rename_i slot wd e
    have h1 : Ris (t.put slot).1.place := ins_ris hr (freeSlot_ok e)
    show Ris (SetTable.orStandIn (t.put slot).1 _).place ∧ (SetTable.orStandIn (t.put slot).1 _).led = t.led
    unfold SetTable.orStandIn
    split
    · exact ⟨h1, rfl⟩
    · exact standIn_ris _ _
  · exact standIn_ris _ _
theorem laid_ris {mask finger moves : Nat} {led plain : Bool} {hs : Array Int} {t : SetTable} {o : Array Nat} (e : SetTable.laid mask finger moves led plain hs = some (t, o)) : Ris t.place ∧ t.led = led := by
  unfold SetTable.laid at e
  cases hc : SetTable.layClean mask hs with
  | none => rw [hc] at e; cases e
  | some owner =>
    rw [hc] at e
    cases e
    refine ⟨?_, rfl⟩
    unfold Ris
    show ((List.map _ _).toArray.toList).Pairwise _
    rw [List.toList_toArray, List.pairwise_map, List.pairwise_filterMap]
    refine List.Pairwise.imp (fun {a b} hab x hx y hy => ?_) List.pairwise_lt_range
    have e1 : x.1 = a := by
      cases q : owner.getD a none with
      | none => rw [q] at hx; cases hx
      | some z => rw [q] at hx; cases hx; rfl
    have e2 : y.1 = b := by
      cases q : owner.getD b none with
      | none => rw [q] at hy; cases hy
      | some z => rw [q] at hy; cases hy; rfl
    rw [e1, e2]; exact hab
theorem relayAll_ris {t : SetTable} {es : Array (Int × Value)} {wanted : Nat} (hr : Ris t.place) : Ris (relayAll t es wanted).2.1.place ∧ (relayAll t es wanted).2.1.led = t.led := by
  unfold relayAll
  split
  · rename_i t' order e
    unfold SetTable.relaid at e
    have := laid_ris e
    dsimp only
    by_cases q : (coversAll order es.size && t'.fits (order.filterMap (es[·]?)).size) = true
    · rw [if_pos q]; exact this
    · rw [if_neg q]; exact standIn_ris _ _
  · exact standIn_ris _ _

/-! ## a set and what it holds -/
def bty (C : Cx) : Bool := C.w.params.followText "set-order"
structure SetAt {K : Type} [DecidableEq K] {prog : Program} {w : World} (knd : PySem.KeyKind prog w K) (bt : Bool) (o : Obj) (es : Array (Int × Value)) (ep : Nat) (t : SetTable) : Prop where
  ex : o.ExactSet
  hd : o.data = .set es ep t
  el : ElemsOf knd es.toList
  sz : es.size < scanBound
  fit : t.fits es.size = true
  ris : Ris t.place
  led : t.led = !bt
  nd : (es.toList.map fun e => ab e.2).Nodup
def SetX {K : Type} [DecidableEq K] {prog : Program} {w : World} (knd : PySem.KeyKind prog w K) (bt : Bool) (h : Heap) (a : Addr) (n : Nat) (S : V → Prop) : Prop :=
  ∃ o es ep t, h.get? a = some o ∧ SetAt knd bt o es ep t ∧ es.size = n ∧ ∀ v, (v ∈ es.toList.map fun e => ab e.2) ↔ S v
section
variable {prog : Program} {w : World} {K : Type} [DecidableEq K] {knd : PySem.KeyKind prog w K} {vk : K → V} {A : Around} {E : Value → Shared → Prop} {s : Shared} {bt : Bool}
theorem SetX.store {h : Heap} {a : Addr} {o : Obj} {es es' : Array (Int × Value)} {ep : Nat} {t t' : SetTable} {S' : V → Prop} (ho : h.get? a = some o) (x : SetAt knd bt o es ep t) (hel : ElemsOf knd es'.toList) (hb : es'.size < scanBound) (hf : t'.fits es'.size = true) (hr : Ris t'.place) (hl : t'.led = !bt) (hn : (es'.toList.map fun e => ab e.2).Nodup) (hS : ∀ v, (v ∈ es'.toList.map fun e => ab e.2) ↔ S' v) :
    (h.update a (Obj.putSet es' t')).get? a = some { o with data := .set es' (ep + 1) t' } ∧ SetAt knd bt { o with data := .set es' (ep + 1) t' } es' (ep + 1) t' ∧ SetX knd bt (h.update a (Obj.putSet es' t')) a es'.size S' := by
  have hg : (h.update a (Obj.putSet es' t')).get? a = some { o with data := .set es' (ep + 1) t' } := by
    have := Heap.get?_update_self (Obj.putSet es' t') ho (by rw [putSet_of es' t' x.hd]; rfl)
    rw [putSet_of es' t' x.hd] at this; exact this
  have y : SetAt knd bt { o with data := .set es' (ep + 1) t' } es' (ep + 1) t' := ⟨x.ex, rfl, hel, hb, hf, hr, hl, hn⟩
  exact ⟨hg, y, _, es', ep + 1, t', hg, y, rfl, hS⟩
theorem addHashed_X {a : Addr} {n : Nat} {S : V → Prop} {k : K} {x : Value} {Q : Bool → Shared → Prop} (hkv : ∀ k v, knd.is k v = true ↔ ab v = vk k) (hkey : knd.is k x = true) (hsc : x.scannable = true) (hX : SetX knd bt s.heap a n S) (hroom : n + 1 < scanBound)
    (h : ∀ h' n' b, Heap.SameBut a s.heap h' → n' ≤ n + 1 → SetX knd bt h' a n' (fun v => S v ∨ v = vk k) → Q b { s with heap := h' }) :
    wpAny (model prog w) A (setAddHashed a x (knd.hash k)) Q E s := by
  obtain ⟨o, es, ep, t, ho, X, hn, hS⟩ := hX
  unfold setAddHashed setAddHashedIn
  refine wpAny_holding (wpAny_bind (wpAny_setState_of ho X.hd X.fit ?_))
  dsimp only
  rw [byScan_of hsc X.sz X.el]
  simp only [if_true]
  unfold setAddByScan
  refine wpAny_bind ?_
  refine wpAny_bind (wpAny_rule ?_)
  refine wpAny_bind (wpAny_setScan_of hkey ho X.hd X.fit X.el ?_)
  cases hr : List.findIdx? (fun e => knd.is k e.2) es.toList with
  | some j =>
    dsimp only
    obtain ⟨hj, hpj, _⟩ := List.findIdx?_eq_some_iff_getElem.mp hr
    have hSk : S (vk k) := (hS _).mp (List.mem_map.mpr ⟨es.toList[j], List.getElem_mem hj, (hkv _ _).mp hpj⟩)
    refine wpAny_pure (wpAny_pure ?_)
    have e : s = { s with heap := s.heap } := by cases s; rfl
    rw [e]
    refine h s.heap n false (Heap.SameBut.refl a s.heap) (by omega) ⟨o, es, ep, t, ho, X, hn, fun v => ?_⟩
    rw [hS]
    exact ⟨.inl, fun q => q.elim id (fun e => e ▸ hSk)⟩
  | none =>
    dsimp only
    have hnot : ∀ e ∈ es.toList, ab e.2 ≠ vk k := fun e he q => by
      have := List.findIdx?_eq_none_iff.mp hr e he
      rw [(hkv _ _).mpr q] at this; cases this
    have hgw : ∀ (b : Bool) {s₁ : Shared} {Q' : Unit → Shared → Prop}, Q' () s₁ → wpAny (model prog w) A (match b with | true => rule "set.scan.the-table-gave-way" | false => pure ()) Q' E s₁ :=
      fun b s₁ Q' hq => by cases b <;> first | exact wpAny_pure hq | exact wpAny_rule hq
    have hperm := layNew_perm t es (knd.hash k) x
    have hfits := layNew_fits t es (knd.hash k) x
    have hris := layNew_ris (es := es) (h := knd.hash k) (x := x) X.ris
    generalize hL : layNew t es (knd.hash k) x = Lw at hperm hfits hris ⊢
    obtain ⟨es1, t1, wasDummy, gave⟩ := Lw
    dsimp only at hperm hfits hris ⊢
    rw [Array.toList_push] at hperm
    have hel1 : ElemsOf knd es1.toList := (X.el.push hkey hsc).perm hperm
    have hsz1 : es1.size = n + 1 := by rw [← Array.length_toList, hperm.length_eq, List.length_append, Array.length_toList, hn]; rfl
    have hb1 : es1.size < scanBound := by rw [hsz1]; exact hroom
    have hmap := hperm.map (fun e : Int × Value => ab e.2)
    rw [List.map_append] at hmap
    have hxk : ab x = vk k := (hkv _ _).mp hkey
    have hnd1 : (es1.toList.map fun e => ab e.2).Nodup := by
      rw [hmap.nodup_iff, List.nodup_append]
      refine ⟨X.nd, by simp, fun v hv u hu q => ?_⟩
      obtain ⟨e, he, rfl⟩ := List.mem_map.mp hv
      simp at hu
      exact hnot e he (by rw [q, hu, hxk])
    have hS1 : ∀ v, (v ∈ es1.toList.map fun e => ab e.2) ↔ (S v ∨ v = vk k) := fun v => by
      rw [hmap.mem_iff, List.mem_append, hS]
      simp [hxk]
    refine wpAny_bind (hgw _ ?_)
    have tail : ∀ t2 : SetTable, t2.fits es1.size = true → Ris t2.place → t2.led = !bt → wpAny (model prog w) A (do
        storeSet a es1 t2
        if (!wasDummy && t2.tooFull) = true then do
            (match (relayAll t2 es1 (SetTable.grown es1.size)).2.2 with | true => rule "set.scan.the-table-gave-way" | false => pure ())
            storeSet a (relayAll t2 es1 (SetTable.grown es1.size)).1 (relayAll t2 es1 (SetTable.grown es1.size)).2.1
            pure (some true)
          else pure (some true)) (fun r s' => wpAny (model prog w) A (match r with | some added => pure added | none => setAddHashedIn a x (knd.hash k) 99999) Q E s') E s := by
      intro t2 f2 r2 l2
      obtain ⟨ho1, X1, hX1⟩ := SetX.store (S' := fun v => S v ∨ v = vk k) ho X hel1 hb1 f2 r2 l2 hnd1 hS1
      refine wpAny_bind (wpAny_storeSet_of ho X.hd ?_ (fits_of_scanBound hb1))
      have hsb1 := Heap.SameBut.update s.heap a (Obj.putSet es1 t2)
      split
      · have hp := relayAll_perm t2 es1 (SetTable.grown es1.size)
        have hfr := relayAll_fits t2 es1 (SetTable.grown es1.size)
        have hrr := relayAll_ris (es := es1) (wanted := SetTable.grown es1.size) r2
        generalize hRl : relayAll t2 es1 (SetTable.grown es1.size) = Rl at hp hfr hrr ⊢
        obtain ⟨es2, t3, gave2⟩ := Rl
        dsimp only at hp hfr hrr ⊢
        have hsz2 : es2.size = es1.size := by rw [← Array.length_toList, hp.length_eq, Array.length_toList]
        refine wpAny_bind (hgw _ ?_)
        refine wpAny_bind (wpAny_storeSet_of ho1 rfl ?_ (fits_of_scanBound (by rw [hsz2]; exact hb1)))
        have hm2 := hp.map (fun e : Int × Value => ab e.2)
        obtain ⟨_, _, hX2⟩ := SetX.store (S' := fun v => S v ∨ v = vk k) ho1 X1 (hel1.perm hp) (by rw [hsz2]; exact hb1) hfr hrr.1 (hrr.2.trans l2) (hm2.nodup_iff.mpr hnd1) (fun v => by rw [hm2.mem_iff, hS1])
        exact wpAny_pure (wpAny_pure (h _ _ true (hsb1.trans (Heap.SameBut.update _ a _)) (by omega) hX2))
      · exact wpAny_pure (wpAny_pure (h _ _ true hsb1 (by omega) hX1))
    have hled : t1.led = !bt := hris.2.trans X.led
    split
    · refine wpAny_bind ?_
      rw [hashByValue_scannable 8 hsc]
      refine wpAny_pure ?_
      cases plainKind x with
      | true => exact tail t1 hfits hris.1 hled
      | false => exact tail { t1 with plain := false } (SetTable.fits_plain_off hfits) hris.1 hled
    · refine wpAny_bind (wpAny_pure ?_)
      exact tail t1 hfits hris.1 hled
end
end Mine

set_option maxHeartbeats 3200000
namespace Mine
open PySem PySem.W PyProof.Rows PySem.Calls

/-! ## set(list) -/
section
variable {prog : Program} {w : World} {K : Type} [DecidableEq K] {knd : PySem.KeyKind prog w K} {vk : K → V} {A : Around} {E : Value → Shared → Prop} {s : Shared} {bt : Bool}
theorem SetX.moved {h h' : Heap} {a : Addr} {n : Nat} {S : V → Prop} (x : SetX knd bt h a n S) (k : ∀ o, h.get? a = some o → h'.get? a = some o) : SetX knd bt h' a n S :=
  let ⟨o, es, ep, t, ho, r⟩ := x; ⟨o, es, ep, t, k o ho, r⟩
theorem SetX.congr {h : Heap} {a : Addr} {n : Nat} {S S' : V → Prop} (x : SetX knd bt h a n S) (k : ∀ v, S v ↔ S' v) : SetX knd bt h a n S' :=
  let ⟨o, es, ep, t, ho, X, hn, hS⟩ := x; ⟨o, es, ep, t, ho, X, hn, fun v => (hS v).trans (k v)⟩
theorem update_loop_X {R : Result → Shared → Prop} {I : Addr} {fp wr : List Addr} {G : Array GenState → Array GenState → Prop} {n : Nat} {P : Nat → Value → Prop} {Sw : Nat → Shared → Prop} (Wk : WalksS prog w A.in1 I fp wr G n P Sw) (Sa : Addr) (hSf : Sa ∉ fp)
    (hkv : ∀ k v, knd.is k v = true ↔ ab v = vk k) (val : Nat → V) (hval : ∀ i v, P i v → ab v = val i ∧ (∃ k, knd.is k v = true) ∧ v.scannable = true) (hb : n + 1 < scanBound) :
    ∀ (k i m : Nat) (s : Shared), n - i = k → i ≤ n → m ≤ i → Sw i s → SetX knd bt s.heap Sa m (fun v => ∃ j, j < i ∧ v = val j) →
      (∀ s' m', Moved (Sa :: wr) G s s' → m' ≤ n → SetX knd bt s'.heap Sa m' (fun v => ∃ j, j < n ∧ v = val j) → R (.ok (.ret .none)) s') →
      codeAny (model prog w) A (.builtin "set.update.loop" ⟨[.ref Sa, .ref I], []⟩) R s := by
  have hSw : Sa ∉ wr := fun h => hSf (Wk.sub _ h)
  have hsub : ∀ b ∈ wr, b ∈ Sa :: wr := fun b hb => List.mem_cons_of_mem _ hb
  intro k
  induction k with
  | zero =>
    intro i m s hk hi hm0 hst hS hR
    have hin : i = n := by omega
    subst hin
    refine codeAny_builtin F.entry_set_update_loop ?_
    rw [Around.under_plainId F.plain_set_update_loop _]
    show wpAny _ A.in1 (pyNext (.ref I) >>= _) _ _ s
    refine wpAny_bind (Wk.done s _ _ hst fun s' hm => ?_)
    show wpAny _ A.in1 (ret Value.none) _ _ s'
    exact wpAny_pure (hR s' m (hm.mono hsub) hm0 (hS.moved fun o e => hm.heap Sa _ hSw e))
  | succ k ih =>
    intro i m s hk hi hm0 hst hS hR
    have hlt : i < n := by omega
    refine codeAny_builtin F.entry_set_update_loop ?_
    rw [Around.under_plainId F.plain_set_update_loop _]
    show wpAny _ A.in1 (pyNext (.ref I) >>= _) _ _ s
    refine wpAny_bind (Wk.item i s _ _ hlt hst fun v s' hP hst' hm => ?_)
    obtain ⟨hv1, ⟨kk, hkk⟩, hsc⟩ := hval i v hP
    have hS' := hS.moved (h' := s'.heap) fun o e => hm.heap Sa _ hSw e
    show wpAny _ A.in1 (holding [v] (setAdd Sa v) >>= _) _ _ s'
    refine wpAny_bind (wpAny_holding ?_)
    unfold setAdd
    refine wpAny_holding ?_
    refine wpAny_bind (knd.pyHash (k := kk) hkk ?_)
    refine addHashed_X (knd := knd) (vk := vk) (bt := bt) (s := { s' with toks := s'.toks + 1 }) hkv hkk hsc hS' (by omega) fun h' n' b hsb hn' hS2 => ?_
    have hvk : vk kk = val i := ((hkv _ _).mp hkk).symm.trans hv1
    have hSi : SetX knd bt h' Sa n' (fun v => ∃ j, j < i + 1 ∧ v = val j) := hS2.congr fun u => by
      constructor
      · rintro (⟨j, hj, e⟩ | e)
        · exact ⟨j, by omega, e⟩
        · exact ⟨i, by omega, e.trans hvk⟩
      · rintro ⟨j, hj, e⟩
        by_cases q : j = i
        · subst q; exact .inr (e.trans hvk.symm)
        · exact .inl ⟨j, by omega, e⟩
    refine wpAny_pure ⟨plainId_quiet F.plain_set_update_loop _, ih (i + 1) n' _ (by omega) hlt (by omega) (Wk.frame _ s' _ _ hst' (Nat.le_succ _) fun b hb o e => ?_) hSi fun s'' m' hm'' hm2 hS'' => ?_⟩
    · rw [hsb.2 b (fun h : b = Sa => hSf (by rw [← h]; exact hb))]; exact e
    · refine hR s'' m' (Moved.trans Wk.gtrans ((hm.mono hsub).then_heap (Nat.le_succ _) fun b o hb e => ?_) hm'') hm2 hS''
      rw [hsb.2 b (fun h : b = Sa => hb (by rw [h]; exact List.mem_cons_self))]; exact e
theorem code_set_new {a : Value} {Q₁ : Value → Shared → Prop}
    (h : Q₁ (.ref s.heap.objs.size) { s with heap := s.heap.push { cls := .type "set", dict := none, data := .set #[] 0 (.fresh 0 0 (!w.params.followText "set-order")) } }) :
    codeAny (model prog w) A (.call (.builtin "set.__new__") ⟨[.type "set", a], []⟩) (wants Q₁ E) s := by
  refine codeAny_of_tree ?_
  show wpAny _ A.in1 (do checkBuiltinCall "set.__new__" ⟨[.type "set", a], []⟩; again (.builtin "set.__new__" ⟨[.type "set", a], []⟩)) _ _ s
  refine wpAny_bind (wpAny_of_eq (PySem.F.newCall_set_1 a) (wpAny_pure ⟨plainId_quiet PySem.F.plain_set_new _, codeAny_builtin PySem.F.entry_set_new ?_⟩))
  rw [Around.under_plainId PySem.F.plain_set_new _]
  unfold Builtin.«set.__new__» Builtin.Frozenset.newClass
  have hsub := sub_set_self
  obtain ⟨hp, g, d, tk, os⟩ := s
  dsimp only
  wp_walk
  refine wpAny_askSetting (wpAny_pure ?_)
  dsimp only
  simp only [newObj]
  refine wpAny_bind (wpAny_alloc (wpAny_pure ?_))
  exact wpAny_pure h
theorem setX_fresh {h : Heap} {a : Addr} {bt : Bool} (ho : h.get? a = some { cls := .type "set", dict := none, data := .set #[] 0 (.fresh 0 0 (!bt)) }) : SetX knd bt h a 0 (fun _ => False) :=
  ⟨_, #[], 0, _, ho, ⟨⟨rfl, rfl, rfl⟩, rfl, fun e he => by simp at he, by unfold scanBound; simp, rfl, by unfold Ris; simp [SetTable.fresh], rfl, by simp⟩, rfl, fun v => by simp⟩
theorem call_set_X {l : Addr} {items : Array Value} {Q : Value → Shared → Prop} (hkv : ∀ k v, knd.is k v = true ↔ ab v = vk k)
    (hh : A.handled = none) (hl : s.heap.IsList l items) (hi : ∀ v ∈ items.toList, (∃ k, knd.is k v = true) ∧ v.scannable = true) (hb : items.size + 1 < scanBound)
    (h : ∀ (h' : Heap) (tk m : Nat), m ≤ items.size → SetX knd (w.params.followText "set-order") h' s.heap.objs.size m (fun v => v ∈ items.toList.map ab) →
      (∀ b o, b < s.heap.objs.size → s.heap.get? b = some o → h'.get? b = some o) → Q (.ref s.heap.objs.size) { s with heap := h', toks := tk }) :
    wpAny (model prog w) A (call (.type "set") [.ref l]) Q E s := by
  obtain ⟨c, tl, hmro⟩ := PySem.F.called_set.mro
  have hmade := PySem.F.called_set.made
  have hsub := PySem.F.called_set.sub
  refine wpAny_call (codeAny_of_tree ?_)
  show wpAny _ _ (callAny (.type "set") _) _ _ _
  refine wpAny_pure ⟨Code.quiet_builtin _ (by decide +kernel), codeAny_builtin PySem.F.entry_type_call ?_⟩
  rw [Around.under_plain (weight_type_call_type "set" [.ref l] []) rfl]
  have h1 := PySem.F.called_set.notType
  have h2 := PySem.F.called_set.canCreate
  have hct := PySem.F.typeCall_set_1 (.ref l)
  repeat (any_goals (first | assumption | wp_step))
  refine codeAny_mono (code_set_new (E := E) (Q₁ := fun obj s₁ => obj = .ref s.heap.objs.size ∧ s₁ = { s with heap := s.heap.push { cls := .type "set", dict := none, data := .set #[] 0 (.fresh 0 0 (!w.params.followText "set-order")) } }) ⟨rfl, rfl⟩) fun r s₁ hr => ?_
  cases r with
  | error e => exact hr
  | ok fl =>
    cases fl with
    | ret obj =>
      obtain ⟨rfl, rfl⟩ := hr
      generalize hled : (!w.params.followText "set-order") = led at *
      have hS : (s.heap.push { cls := .type "set", dict := none, data := .set #[] 0 (.fresh 0 0 led) }).get? s.heap.objs.size = some { cls := .type "set", dict := none, data := .set #[] 0 (.fresh 0 0 led) } := Heap.get?_push_size _ rfl
      have hT : Shared.TypeIs { s with heap := s.heap.push { cls := .type "set", dict := none, data := .set #[] 0 (.fresh 0 0 led) } } (.ref s.heap.objs.size) "set" := ⟨_, hS, rfl⟩
      have hli := PySem.F.called_set.init.lookup
      have hbi := PySem.F.called_set.init.bind (.ref s.heap.objs.size)
      repeat (any_goals (first | assumption | wp_step))
      refine codeAny_mono (codeAny_call_builtin (R := wants (fun r s₂ => r = .none ∧ ∃ h' tk m, s₂ = { s with heap := h', toks := tk } ∧ m ≤ items.size ∧
          SetX knd (w.params.followText "set-order") h' s.heap.objs.size m (fun v => v ∈ items.toList.map ab) ∧
          (∀ b o, b < s.heap.objs.size → s.heap.get? b = some o → h'.get? b = some o)) E) PySem.F.called_set.init.plain PySem.F.entry_set_init (check_set_init_1 hT ?_)) fun r₂ s₂ hr₂ => ?_
      · obtain ⟨ol, hol, hcl, nl, hdl⟩ := hl
        obtain ⟨ocls, odict, odata, oslots⟩ := ol
        simp only at hcl hdl
        subst hcl; subst hdl
        have hol' : (s.heap.push { cls := .type "set", dict := none, data := .set #[] 0 (.fresh 0 0 led) }).get? l = some { cls := .type "list", dict := odict, data := .seq items nl, slots := oslots } := Heap.get?_push_of_some _ hol
        have hsls := PySem.F.sub_list_set
        have hslf := PySem.F.sub_list_frozenset
        have hne : (Value.type "list" == Value.type "dict") = false := by decide
        have hl1 : (s.heap.push { cls := .type "set", dict := none, data := .set #[] 0 (.fresh 0 0 led) }).IsList l items := ⟨_, hol', rfl, nl, rfl⟩
        unfold Builtin.«set.__init__» noKeywords Builtin.Frozenset.updateFrom
        generalize hPI : pyIter = PI
        wp_walk
        subst hPI
        refine wpAny_pyIter_list hl1 ?_
        refine wpAny_bind (wpAny_runValue ?_)
        have hlS : l < s.heap.objs.size := Heap.lt_size hol
        have hh3 : A.in1.in1.in1.handled = none := by simp [hh]
        have hneI : l ≠ (s.heap.push { cls := .type "set", dict := none, data := .set #[] 0 (.fresh 0 0 led) }).objs.size := by
          rw [Heap.size_push]; exact Nat.ne_of_lt (Nat.lt_succ_of_lt hlS)
        have hSf : s.heap.objs.size ∉ [(s.heap.push { cls := .type "set", dict := none, data := .set #[] 0 (.fresh 0 0 led) }).objs.size, l] := by
          rw [Heap.size_push]; simp only [List.mem_cons, List.mem_singleton, List.not_mem_nil, or_false, not_or]
          exact ⟨Nat.ne_of_lt (Nat.lt_succ_self _), Nat.ne_of_gt hlS⟩
        have hval : ∀ (i : Nat) (v : Value), items[i]? = some v → ab v = (items.toList.map ab).getD i V.none ∧ (∃ k, knd.is k v = true) ∧ v.scannable = true := fun i v hv => by
          have hv' : items.toList[i]? = some v := by rw [Array.getElem?_toList]; exact hv
          exact ⟨by rw [List.getD_eq_getElem?_getD, List.getElem?_map, hv']; rfl, hi v (List.mem_of_getElem? hv')⟩
        refine update_loop_X (knd := knd) (vk := vk) (bt := w.params.followText "set-order") ((Walks.list hh3 _ l hneI items).toS) s.heap.objs.size
          hSf hkv (fun i => (items.toList.map ab).getD i V.none) hval hb (items.size - 0) 0 0 _ (by omega) (Nat.zero_le _) (Nat.le_refl _)
          ⟨⟨_, Heap.get?_push_size _ rfl, rfl, rfl⟩, (hl1.push _)⟩ ?hS0 ?hR
        case hS0 =>
          refine (setX_fresh (knd := knd) (bt := w.params.followText "set-order") ?_).congr fun v => ?_
          · rw [hled]; exact Heap.get?_push_of_some _ hS
          · simp
        case hR =>
          intro s' m' hm hm2 hS'
          obtain ⟨h', g', d', tk', os'⟩ := s'
          have eg : g' = s.gens := hm.gens
          have ed : d' = s.drawn := hm.drawn
          have eo : os' = s.os := hm.os
          subst eg; subst ed; subst eo
          show wpAny _ _ _ _ _ _
          refine wpAny_pure ?_
          show wpAny _ _ (ret Value.none) _ _ _
          refine wpAny_pure ⟨rfl, h', tk', m', rfl, hm2, hS'.congr fun v => ?_, fun b o hb e => ?_⟩
          · constructor
            · rintro ⟨j, hj, rfl⟩
              have hj' : j < (items.toList.map ab).length := by simpa using hj
              show (items.toList.map ab).getD j V.none ∈ _
              rw [List.getD_eq_getElem?_getD, List.getElem?_eq_getElem hj']
              exact List.getElem_mem hj'
            · intro hv
              obtain ⟨j, hj⟩ := List.getElem?_of_mem hv
              refine ⟨j, by have := (List.getElem?_eq_some_iff.mp hj).1; simpa using this, ?_⟩
              show v = (items.toList.map ab).getD j V.none
              rw [List.getD_eq_getElem?_getD, hj]; rfl
          · have hb1 : b ≠ s.heap.objs.size := Nat.ne_of_lt hb
            have hb2 : b ≠ (s.heap.push { cls := .type "set", dict := none, data := .set #[] 0 (.fresh 0 0 led) }).objs.size := by
              rw [Heap.size_push]; exact Nat.ne_of_lt (Nat.lt_succ_of_lt hb)
            exact hm.heap b o (by simp only [List.mem_cons, List.mem_singleton, List.not_mem_nil, or_false, not_or]; exact ⟨hb1, hb2⟩) (Heap.get?_push_of_some _ (Heap.get?_push_of_some _ e))
      · cases r₂ with
        | error e => exact hr₂
        | ok fl₂ =>
          cases fl₂ with
          | ret r =>
            obtain ⟨rfl, h', tk, m, rfl, hm, hS', hk'⟩ := hr₂
            repeat (any_goals (first | assumption | wp_step))
            exact h _ _ m hm hS' hk'
          | _ => exact hr₂.elim
    | _ => exact hr.elim
end
end Mine

set_option maxHeartbeats 1000000
namespace Mine
open PySem PySem.W PyProof.Rows PySem.Calls

/-! ## what is drawn, and in which order -/
theorem erase_perm {α : Type} : ∀ {l : List α} {i : Nat} (h : i < l.length), (l[i] :: l.eraseIdx i).Perm l
  | [], i, h => by simp at h
  | x :: r, 0, h => by simp
  | x :: r, i + 1, h => by
    rw [List.eraseIdx_cons_succ, List.getElem_cons_succ]
    exact (List.Perm.swap ..).trans ((erase_perm (by simpa using h)).cons x)
section
variable {M : Model} {A : Around} {E : Value → Shared → Prop} {s : Shared}
theorem wpAny_choose {src : Source} {n : Nat} {Q : Nat → Shared → Prop} (hn : n ≠ 0) (h : ∀ i d, i < n → Q i { s with drawn := d }) : wpAny M A (choose src n) Q E s :=
  fun _ _ _ => ⟨hn, h _ _ (Nat.mod_lt _ (Nat.pos_of_ne_zero hn))⟩
theorem drawOrder_wp {α : Type} : ∀ (n : Nat) (xs : List α) (s : Shared) (Q : List α → Shared → Prop), xs.length = n → (∀ ys d, ys.Perm xs → Q ys { s with drawn := d }) → wpAny M A (drawOrder n xs) Q E s
  | 0, xs, s, Q, hl, hq => by
    have : xs = [] := List.eq_nil_of_length_eq_zero hl
    subst this
    unfold drawOrder
    exact wpAny_pure (by have := hq [] s.drawn (List.Perm.refl _); exact this)
  | n + 1, [], s, Q, hl, hq => by simp at hl
  | n + 1, x :: xs, s, Q, hl, hq => by
    unfold drawOrder
    refine wpAny_bind (wpAny_choose (by simp) fun i d hi => ?_)
    rw [List.getElem?_eq_getElem hi]
    refine wpAny_bind (drawOrder_wp n _ _ _ (by rw [List.length_eraseIdx_of_lt hi, hl]; rfl) fun ys d' hp => wpAny_pure ?_)
    refine hq _ _ ((hp.cons _).trans ?_)
    exact (erase_perm hi)
end
theorem pick_go {α : Type} (next : Nat → Nat) : ∀ (f k : Nat) (left : List α) (out : Array α), f = left.length → (pickOrder.go next f k left out).toList.Perm (out.toList ++ left)
  | 0, k, left, out, h => by
    have : left = [] := List.eq_nil_of_length_eq_zero h.symm
    subst this
    unfold pickOrder.go; simp
  | f + 1, k, left, out, h => by
    unfold pickOrder.go
    have hlt : next k % left.length < left.length := Nat.mod_lt _ (by omega)
    rw [List.getElem?_eq_getElem hlt]
    refine (pick_go next f (k + 1) _ _ (by rw [List.length_eraseIdx_of_lt hlt]; omega)).trans ?_
    rw [Array.toList_push, List.append_assoc]
    exact List.Perm.append_left _ (erase_perm hlt)
theorem pick_perm {α : Type} (next : Nat → Nat) (xs : Array α) : (pickOrder next xs).toList.Perm xs.toList := by
  have := pick_go next xs.size 0 xs.toList #[] (by simp)
  unfold pickOrder
  simpa using this

theorem slot_si_next : Slot "set_iterator" "__next__" "set_iterator.__next__" :=
  .of (owner := "set_iterator") (n := "__next__") (by rw [typeLookup_type, builtinLookup_eq_fast]; kernel_rfl) (by decide +kernel) (by decide +kernel) (by decide +kernel)
    (by first | exact .inl (by decide +kernel) | exact .inr (by decide +kernel)) (by rw [isSubtype_type]; kernel_rfl)
theorem entry_si_next : entryFor PySem.table "set_iterator.__next__" = some Builtin.«set_iterator.__next__» := entryFor_of_tree (by kernel_rfl)
theorem args_si_next (a : Value) : argsOk "set_iterator.__next__" ⟨[a], []⟩ := by unfold argsOk; kernel_rfl
theorem entry_set_iter : entryFor PySem.table "set.__iter__" = some Builtin.«frozenset.__iter__» :=
  entryFor_alias (id' := "frozenset.__iter__") (by kernel_rfl) rfl (by decide +kernel) (by kernel_rfl)

abbrev siObj (f : Value) (i n ep : Nat) (a : Addr) : Obj := { cls := .type "set_iterator", dict := none, data := .fields #[f, rawInt i, .ref a, rawInt n, rawInt ep], slots := #[] }
def dr (es : Array (Int × Value)) (t : SetTable) : Bool := !t.plain && es.size > 1
/-- which of its items comes next -/
inductive Md (p : Params) (a : Addr) (es : Array (Int × Value)) (ep : Nat) (t : SetTable) (vals : List Value) (i : Nat) (f : Value) (h : Heap) : Prop where
  | text (hb : p.followText "set-order" = true) (hf : f = rawInt 0) (hv : vals = (pickOrder (p.setOrder a ep) es).toList.map (·.2))
  | drawn (T : Addr) (pl : List Nat) (n : Nat) (hb : p.followText "set-order" = false) (hd : dr es t = true) (hf : f = .ref T) (hT : h.get? T = some { cls := .type "tuple", dict := none, data := .seq (pl.map fun (j : Nat) => rawInt j).toArray n, slots := #[] }) (hp : pl.Perm (List.range es.size)) (hv : vals = pl.map fun j => (es.getD j (0, .none)).2)
  | slots (sl : Nat) (hb : p.followText "set-order" = false) (hd : dr es t = false) (hf : f = rawInt sl) (hs : SetTable.below t.place sl = i) (hv : vals = es.toList.map (·.2))
section
variable {prog : Program} {w : World} {K : Type} [DecidableEq K] {knd : PySem.KeyKind prog w K} {A : Around} {E : Value → Shared → Prop} {s : Shared}
theorem stop_wp {Q : Option Value → Shared → Prop} {α : Type} {G : α → Shared → Prop} (hh : A.handled = none) {I : Addr} {s0 : Shared} (hx : Heap.ExtBut I s0.heap s.heap)
    (hQ : ∀ h', Heap.ExtBut I s0.heap h' → Q none { s with heap := h' }) :
    wpAny (model prog w) A (newExc (.type "StopIteration") [] >>= fun e => (raiseNew e : Sem α)) G (fun e s' => wpAny (model prog w) A (do if ← isInstance e (.type "StopIteration") then pure none else throw e) Q E s') s := by
  refine wpAny_bind ?_
  simp only [newExc, newTuple]
  refine wpAny_bind (wpAny_newObj_type ?_ (by size_fits))
  refine wpAny_bind (m := firstArgMember _ _) (wpAny_of_eq (a := Value.none) (by first | rfl | (simp only [firstArgMember]; rfl)) ?_)
  refine wpAny_newObj_type ?_ (by size_fits)
  simp only [raiseNew]
  refine wpAny_bind (wpAny_handled ?_)
  rw [hh]
  refine wpAny_bind (wpAny_pure (wpAny_throw ?_))
  refine wpAny_bind (wpAny_isInstance (T := "StopIteration") (b := true) ⟨_, Heap.get?_push_size _ rfl, rfl⟩ isSubtype_stop ?_)
  exact wpAny_pure (hQ _ ((hx.push _).push _))
end
end Mine

set_option maxHeartbeats 1000000
namespace Mine
open PySem PySem.W PyProof.Rows PySem.Calls
section
variable {prog : Program} {w : World} {K : Type} [DecidableEq K] {knd : PySem.KeyKind prog w K} {A : Around} {E : Value → Shared → Prop} {s : Shared}
def SwAt (knd : PySem.KeyKind prog w K) (a I : Addr) (tl : List Addr) (n : Nat) (vals : List Value) (i : Nat) (h : Heap) : Prop :=
  ∃ o es ep t f, h.get? a = some o ∧ SetAt knd (w.params.followText "set-order") o es ep t ∧ es.size = n ∧ vals.length = n ∧ h.get? I = some (siObj f i n ep a) ∧ Md w.params a es ep t vals i f h ∧ ∀ T, f = .ref T → T ≠ I ∧ T ∈ tl
theorem byText_wp {Q : Bool → Shared → Prop} (h : Q (w.params.followText "set-order") s) : wpAny (model prog w) A setsByText Q E s := by
  unfold setsByText; exact wpAny_bind (wpAny_askSetting (wpAny_pure h))
theorem setNext_text {a : Addr} {o : Obj} {es : Array (Int × Value)} {ep : Nat} {t : SetTable} {i sl : Nat} {bt : Bool} {Q : Option (Value × Nat) → Shared → Prop} (ho : s.heap.get? a = some o) (X : SetAt knd bt o es ep t) (hb : w.params.followText "set-order" = true)
    (h : Q (((pickOrder (w.params.setOrder a ep) es)[i]?).map fun e => (e.2, sl)) s) : wpAny (model prog w) A (setNext a sl i ep) Q E s := by
  unfold setNext
  refine wpAny_bind (wpAny_setState_of ho X.hd X.fit ?_)
  refine wpAny_bind (byText_wp ?_)
  rw [hb, if_pos rfl]
  simp only [bne_self_eq_false, Bool.false_eq_true, if_false]
  unfold setWalk
  refine wpAny_bind (wpAny_bind (wpAny_setState_of ho X.hd X.fit ?_))
  refine wpAny_bind (byText_wp ?_)
  rw [hb, if_pos rfl]
  exact wpAny_bind (wpAny_askSetting (wpAny_pure (wpAny_pure h)))
theorem setNext_slots {a : Addr} {o : Obj} {es : Array (Int × Value)} {ep : Nat} {t : SetTable} {i sl : Nat} {Q : Option (Value × Nat) → Shared → Prop} (ho : s.heap.get? a = some o) (X : SetAt knd false o es ep t) (hb : w.params.followText "set-order" = false) (hd : dr es t = false)
    (h : Q (match es[SetTable.below t.place sl]?, t.place[SetTable.below t.place sl]? with | some (_, x), some j => some (x, j + 1) | _, _ => none) s) : wpAny (model prog w) A (setNext a sl i ep) Q E s := by
  unfold setNext
  refine wpAny_bind (wpAny_setState_of ho X.hd X.fit ?_)
  refine wpAny_bind (byText_wp ?_)
  rw [hb, if_neg Bool.false_ne_true]
  show wpAny _ _ (if dr es t = true then _ else _) _ _ _
  rw [hd, if_neg Bool.false_ne_true]
  refine wpAny_bind ?_
  show wpAny _ _ (if (!t.led && !es.isEmpty) = true then _ else _) _ _ _
  rw [X.led]
  simp only [Bool.not_false, Bool.not_true, Bool.false_and, Bool.false_eq_true, if_false]
  exact wpAny_pure (wpAny_pure h)
theorem setNext_drawn {a : Addr} {o : Obj} {es : Array (Int × Value)} {ep : Nat} {t : SetTable} {p : Nat} {bt : Bool} {e : Int × Value} {Q : Value → Shared → Prop} (ho : s.heap.get? a = some o) (X : SetAt knd bt o es ep t) (he : es[p]? = some e) (h : Q e.2 s) : wpAny (model prog w) A (setNextDrawn a p ep) Q E s := by
  unfold setNextDrawn
  refine wpAny_bind (wpAny_setState_of ho X.hd X.fit ?_)
  simp only [bne_self_eq_false, Bool.false_eq_true, if_false]
  rw [he]
  exact wpAny_pure h
/-- the end of both branches that give an item -/
theorem si_put {a I : Addr} {n i ep : Nat} {f f' : Value} {x : Value} {P : PySem.Fin → Shared → Prop} (hi : s.heap.get? I = some (siObj f i n ep a))
    (h : ∀ h', h'.get? I = some (siObj f' (i + 1) n ep a) → Heap.SameBut I s.heap h' → P (.done (.ret x)) { s with heap := h' }) :
    wpAny (model prog w) A (do setField (.ref I) 0 f'; setField (.ref I) 1 (rawInt ((i : Int) + 1)); ret x) P E s := by
  refine wpAny_bind (wpAny_setField_rec hi (by simp) fun h1 g1 s1 => ?_)
  refine wpAny_bind (wpAny_setField_rec g1 (by simp) fun h2 g2 s2 => ?_)
  exact wpAny_pure (h h2 g2 (s1.trans s2))
theorem si_put1 {a I : Addr} {n i ep : Nat} {f : Value} {x : Value} {P : PySem.Fin → Shared → Prop} (hi : s.heap.get? I = some (siObj f i n ep a))
    (h : ∀ h', h'.get? I = some (siObj f (i + 1) n ep a) → Heap.SameBut I s.heap h' → P (.done (.ret x)) { s with heap := h' }) :
    wpAny (model prog w) A (do setField (.ref I) 1 (rawInt ((i : Int) + 1)); ret x) P E s := by
  refine wpAny_bind (wpAny_setField_rec hi (by simp) fun h2 g2 s2 => ?_)
  exact wpAny_pure (h h2 g2 s2)
theorem si_item {a I : Addr} {tl : List Addr} {n : Nat} {vals : List Value} {i : Nat} {Q : Option Value → Shared → Prop} (hin : i < n) (haI : a ≠ I) (hst : SwAt knd a I tl n vals i s.heap)
    (h : ∀ h' v, vals[i]? = some v → SwAt knd a I tl n vals (i + 1) h' → Heap.SameBut I s.heap h' → Q (some v) { s with heap := h' }) : wpAny (model prog w) A (pyNext (.ref I)) Q E s := by
  obtain ⟨o, es, ep, t, f, ho, X, hn, hv, hi, md, hfI⟩ := hst
  have hT : s.TypeIs (.ref I) "set_iterator" := ⟨_, hi, rfl⟩
  unfold pyNext
  refine wpAny_bind (wpAny_attempt (wpAny_callSpecial?_slot (name := Str.ofString "__next__") hT slot_si_next (wpAny_call_entry slot_si_next hT entry_si_next ?_ (args_si_next _))))
  show wpAny _ _ (fieldsOf (.ref I) >>= _) _ _ s
  refine wpAny_bind (wpAny_fieldsOf hi rfl ?_)
  show wpAny _ _ (setEntries a >>= _) _ _ s
  refine wpAny_bind (wpAny_setEntries_of ho X.hd X.fit ?_)
  have hsz : ((es.size : Int) != (n : Int)) = false := by rw [hn]; simp
  rw [hsz]
  rw [if_neg Bool.false_ne_true]
  have fin : ∀ h' f' v, vals[i]? = some v → h'.get? I = some (siObj f' (i + 1) n ep a) → Heap.SameBut I s.heap h' → Md w.params a es ep t vals (i + 1) f' h' → (∀ T, f' = .ref T → T ≠ I ∧ T ∈ tl) → Q (some v) { s with heap := h' } := fun h' f' v hv' hi' hs' md' hf' =>
    h h' v hv' ⟨o, es, ep, t, f', hs'.extBut a o haI ho, X, hn, hv, hi', md', hf'⟩ hs'
  cases md with
  | text hb hf hv' =>
    subst hf
    have hlen : i < (pickOrder (w.params.setOrder a ep) es).size := by
      rw [← Array.length_toList, (pick_perm _ _).length_eq, Array.length_toList, hn]; exact hin
    show wpAny _ _ (setNext a 0 (i : Int).toNat (ep : Int).toNat >>= _) _ _ s
    rw [Int.toNat_natCast, Int.toNat_natCast]
    refine wpAny_bind (setNext_text ho X hb ?_)
    rw [Array.getElem?_eq_getElem hlen]
    refine si_put (f' := rawInt 0) hi fun h' hi' hs' => ⟨_, rfl, wpAny_pure (fin h' _ _ ?_ hi' hs' (.text hb rfl hv') (by intro T e; cases e))⟩
    rw [hv', List.getElem?_map, Array.getElem?_toList, Array.getElem?_eq_getElem hlen]; rfl
  | drawn T pl nn hb hd hf hT2 hp hv' =>
    subst hf
    have hpl : pl.length = n := by rw [hp.length_eq, List.length_range, hn]
    obtain ⟨p, hpi⟩ : ∃ p, pl[i]? = some p := ⟨_, List.getElem?_eq_getElem (by omega)⟩
    have hpn : p < es.size := by simpa using hp.mem_iff.mp (List.mem_of_getElem? hpi)
    show wpAny _ _ (seqItems? (.ref T) >>= _) _ _ s
    refine wpAny_bind (wpAny_seqItems hT2 rfl ?_)
    dsimp only
    rw [Int.toNat_natCast]
    have e1 : (pl.map fun (j : Nat) => rawInt j).toArray[i]? = some (rawInt p) := by rw [List.getElem?_toArray, List.getElem?_map, hpi]; rfl
    rw [e1]
    show wpAny _ _ (setNextDrawn a (p : Int).toNat (ep : Int).toNat >>= _) _ _ s
    rw [Int.toNat_natCast, Int.toNat_natCast]
    refine wpAny_bind (setNext_drawn ho X (Array.getElem?_eq_getElem hpn) ?_)
    have hTI := (hfI T rfl).1
    refine si_put1 hi fun h' hi' hs' => ⟨_, rfl, wpAny_pure (fin h' _ _ ?_ hi' hs' (.drawn T pl nn hb hd rfl (hs'.extBut T _ hTI hT2) hp hv') hfI)⟩
    rw [hv', List.getElem?_map, hpi]
    show some (es.getD p (0, .none)).2 = _
    rw [Array.getD_eq_getD_getElem?, Array.getElem?_eq_getElem hpn]; rfl
  | slots sl hb hd hf hs hv' =>
    subst hf
    have X' : SetAt knd false o es ep t := hb ▸ X
    have hie : i < es.size := by omega
    have hps : t.place.size = es.size := by have := X.fit; simp [SetTable.fits] at this; exact this.1
    have hip : i < t.place.size := by omega
    show wpAny _ _ (setNext a (sl : Int).toNat (i : Int).toNat (ep : Int).toNat >>= _) _ _ s
    rw [Int.toNat_natCast, Int.toNat_natCast, Int.toNat_natCast]
    refine wpAny_bind (setNext_slots ho X' hb hd ?_)
    rw [hs, Array.getElem?_eq_getElem hie, Array.getElem?_eq_getElem hip]
    refine si_put (f' := rawInt ((t.place[i] + 1 : Nat) : Int)) hi fun h' hi' hs' => ⟨_, rfl, wpAny_pure (fin h' _ _ ?_ hi' hs' (.slots (t.place[i] + 1) hb hd rfl ?_ hv') (by intro T e; cases e))⟩
    · rw [hv', List.getElem?_map, Array.getElem?_toList, Array.getElem?_eq_getElem hie]; rfl
    · obtain ⟨b1, b2, b3⟩ := below_ok (t.place[i] + 1) X.ris
      have gi := Array.getElem?_eq_getElem hip
      rcases Nat.lt_trichotomy (SetTable.below t.place (t.place[i] + 1)) (i + 1) with q | q | q
      · have := b3 i _ (by omega) gi; omega
      · exact q
      · by_cases q2 : i + 1 < t.place.size
        · have g2 := Array.getElem?_eq_getElem q2
          have := b2 (i + 1) _ q g2
          have := X.ris.lt (by omega) gi g2
          omega
        · omega
theorem si_done {a I : Addr} {tl : List Addr} {n : Nat} {vals : List Value} {Q : Option Value → Shared → Prop} (hh : A.handled = none) (haI : a ≠ I) (hst : SwAt knd a I tl n vals n s.heap)
    (h : ∀ h', Heap.ExtBut I s.heap h' → Q none { s with heap := h' }) : wpAny (model prog w) A (pyNext (.ref I)) Q E s := by
  obtain ⟨o, es, ep, t, f, ho, X, hn, hv, hi, md, hfI⟩ := hst
  have hT : s.TypeIs (.ref I) "set_iterator" := ⟨_, hi, rfl⟩
  unfold pyNext
  refine wpAny_bind (wpAny_attempt (wpAny_callSpecial?_slot (name := Str.ofString "__next__") hT slot_si_next (wpAny_call_entry slot_si_next hT entry_si_next ?_ (args_si_next _))))
  show wpAny _ _ (fieldsOf (.ref I) >>= _) _ _ s
  refine wpAny_bind (wpAny_fieldsOf hi rfl ?_)
  show wpAny _ _ (setEntries a >>= _) _ _ s
  refine wpAny_bind (wpAny_setEntries_of ho X.hd X.fit ?_)
  have hsz : ((es.size : Int) != (n : Int)) = false := by rw [hn]; simp
  rw [hsz]
  rw [if_neg Bool.false_ne_true]
  have stop : ∀ (s' : Shared) (P : PySem.Fin → Shared → Prop), Heap.ExtBut I s.heap s'.heap → (∃ h', s' = { s with heap := h' }) → wpAny (model prog w) A.in1 (newExc (.type "StopIteration") [] >>= fun e => (raiseNew e : Sem PySem.Fin)) P (fun e s'' => wpAny (model prog w) A (do if ← isInstance e (.type "StopIteration") then pure none else throw e) Q E s'') s' := by
    rintro s' P hx ⟨h1, rfl⟩
    refine wpAny_mono (stop_wp (A := A.in1) (E := E) (Q := Q) (I := I) (s0 := s) hh hx fun h' hx' => ?_) (fun _ _ q => q) fun e s'' q => ?_
    · exact h h' hx'
    · exact wpAny_of_in1 q
  cases md with
  | text hb hf hv' =>
    subst hf
    have hlen : (pickOrder (w.params.setOrder a ep) es).size = n := by
      rw [← Array.length_toList, (pick_perm _ _).length_eq, Array.length_toList, hn]
    show wpAny _ _ (setNext a 0 (n : Int).toNat (ep : Int).toNat >>= _) _ _ s
    rw [Int.toNat_natCast, Int.toNat_natCast]
    refine wpAny_bind (setNext_text ho X hb ?_)
    rw [Array.getElem?_eq_none (by omega)]
    refine wpAny_bind (wpAny_setField_rec hi (by simp) fun h2 g2 s2 => ?_)
    exact stop _ _ (fun b o hb e => s2.extBut b o hb e) ⟨h2, rfl⟩
  | drawn T pl nn hb hd hf hT2 hp hv' =>
    subst hf
    have hpl : pl.length = n := by rw [hp.length_eq, List.length_range, hn]
    show wpAny _ _ (seqItems? (.ref T) >>= _) _ _ s
    refine wpAny_bind (wpAny_seqItems hT2 rfl ?_)
    dsimp only
    rw [Int.toNat_natCast]
    have e1 : (pl.map fun (j : Nat) => rawInt j).toArray[n]? = none := by rw [List.getElem?_toArray, List.getElem?_map, List.getElem?_eq_none (by omega)]; rfl
    rw [e1]
    refine wpAny_bind (wpAny_setField_rec hi (by simp) fun h1 g1 s1 => ?_)
    refine wpAny_bind (wpAny_setField_rec g1 (by simp) fun h2 g2 s2 => ?_)
    exact stop _ _ (fun b o hb e => s2.extBut b o hb (s1.extBut b o hb e)) ⟨h2, rfl⟩
  | slots sl hb hd hf hs hv' =>
    subst hf
    have X' : SetAt knd false o es ep t := hb ▸ X
    show wpAny _ _ (setNext a (sl : Int).toNat (n : Int).toNat (ep : Int).toNat >>= _) _ _ s
    rw [Int.toNat_natCast, Int.toNat_natCast, Int.toNat_natCast]
    refine wpAny_bind (setNext_slots ho X' hb hd ?_)
    rw [hs, Array.getElem?_eq_none (by omega : es.size ≤ n)]
    refine wpAny_bind (wpAny_setField_rec hi (by simp) fun h2 g2 s2 => ?_)
    exact stop _ _ (fun b o hb e => s2.extBut b o hb e) ⟨h2, rfl⟩
end
end Mine

set_option maxHeartbeats 1000000
namespace Mine
open PySem PySem.W PyProof.Rows PySem.Calls
section
variable {prog : Program} {w : World} {K : Type} [DecidableEq K] {knd : PySem.KeyKind prog w K} {A : Around} {E : Value → Shared → Prop} {s : Shared}
theorem SwAt.frame {a I : Addr} {tl : List Addr} {n : Nat} {vals : List Value} {i : Nat} {h h' : Heap} (x : SwAt knd a I tl n vals i h) (k : ∀ b ∈ I :: a :: tl, ∀ o, h.get? b = some o → h'.get? b = some o) : SwAt knd a I tl n vals i h' := by
  obtain ⟨o, es, ep, t, f, ho, X, hn, hv, hi, md, hfI⟩ := x
  refine ⟨o, es, ep, t, f, k a (by simp) o ho, X, hn, hv, k I (by simp) _ hi, ?_, hfI⟩
  cases md with
  | text hb hf hv' => exact .text hb hf hv'
  | drawn T pl nn hb hd hf hT2 hp hv' => exact .drawn T pl nn hb hd hf (k T (by simp [(hfI T hf).2]) _ hT2) hp hv'
  | slots sl hb hd hf hs hv' => exact .slots sl hb hd hf hs hv'
theorem walks_set {a I : Addr} {tl : List Addr} {n : Nat} {vals : List Value} (hh : A.handled = none) (haI : a ≠ I) : WalksS prog w A I (I :: a :: tl) [I] (fun x y => y = x) n (fun i v => vals[i]? = some v) (fun i s => SwAt knd a I tl n vals i s.heap) where
  sub := fun b hb => by rw [List.mem_singleton.mp hb]; simp
  grefl := fun _ => rfl
  gtrans := fun _ _ _ x y => y.trans x
  frame := fun i s h' tk hst _ k => hst.frame k
  item := fun i s Q E hi hst hQ => si_item hi haI hst fun h' v hv hst' hs' => hQ v _ hv hst' ⟨fun b o hb e => hs'.extBut b o (fun q => hb (by simp [q])) e, rfl, rfl, rfl, Nat.le_refl _⟩
  done := fun s Q E hst hQ => si_done hh haI hst fun h' hx => hQ _ ⟨fun b o hb e => hx b o (fun q => hb (by simp [q])) e, rfl, rfl, rfl, Nat.le_refl _⟩
  self := fun i s Q E hst hQ => by
    obtain ⟨o, es, ep, t, f, ho, X, hn, hv, hi, md, hfI⟩ := hst
    have hT : s.TypeIs (.ref I) "set_iterator" := ⟨_, hi, rfl⟩
    exact wpAny_pyIter_slot hT slot_si_iter (wpAny_call_entry slot_si_iter hT entry_si_iter (wpAny_pure ⟨_, rfl, "set_iterator", _, hT, slot_si_next.lookup, hQ⟩) (args_si_iter _))
where
  slot_si_iter : Slot "set_iterator" "__iter__" "set_iterator.__iter__" :=
    .of (owner := "set_iterator") (n := "__iter__") (by rw [typeLookup_type, builtinLookup_eq_fast]; kernel_rfl) (by decide +kernel) (by decide +kernel) (by decide +kernel)
      (by first | exact .inl (by decide +kernel) | exact .inr (by decide +kernel)) (by rw [isSubtype_type]; kernel_rfl)
  entry_si_iter : entryFor PySem.table "set_iterator.__iter__" = some Builtin.«dict_keyiterator.__iter__» :=
    entryFor_alias (id' := "dict_keyiterator.__iter__") (by kernel_rfl) rfl (by decide +kernel) (by kernel_rfl)
  args_si_iter (a : Value) : argsOk "set_iterator.__iter__" ⟨[a], []⟩ := by unfold argsOk; kernel_rfl
theorem pyIter_set {a : Addr} {n : Nat} {S : V → Prop} {Q : Value → Shared → Prop} (hX : SetX knd (w.params.followText "set-order") s.heap a n S)
    (h : ∀ I s' tl vals, SwAt knd a I tl n vals 0 s'.heap → (vals.map ab).Nodup → (∀ v, v ∈ vals.map ab ↔ S v) → (∀ b ∈ I :: tl, s.heap.get? b = none) → a ≠ I → (∀ b o, s.heap.get? b = some o → s'.heap.get? b = some o) → s'.gens = s.gens → s'.os = s.os → (∀ b ∈ I :: a :: tl, ∃ o, s'.heap.get? b = some o) → Q (.ref I) s') :
    wpAny (model prog w) A (pyIter (.ref a)) Q E s := by
  obtain ⟨o, es, ep, t, ho, X, hn, hS⟩ := hX
  have hT : s.TypeIs (.ref a) "set" := ⟨o, ho, X.ex.1⟩
  refine wpAny_pyIter_slot hT PySem.F.slot_set_iter (wpAny_call_entry PySem.F.slot_set_iter hT entry_set_iter ?_ (PySem.F.args_set_iter_1 _))
  show wpAny _ _ (Builtin.Frozenset.sizeOf a >>= _) _ _ s
  refine wpAny_bind ?_
  unfold Builtin.Frozenset.sizeOf
  refine wpAny_bind (wpAny_setEntries_of ho X.hd X.fit (wpAny_pure ?_))
  refine wpAny_bind ?_
  unfold setDrawn
  refine wpAny_bind (wpAny_setState_of ho X.hd X.fit ?_)
  refine wpAny_bind (byText_wp (wpAny_pure ?_))
  have halt : a < s.heap.objs.size := Heap.lt_size ho
  have hnd : ∀ {l : List (Int × Value)}, l.Perm es.toList → ((l.map (·.2)).map ab).Nodup ∧ ∀ v, v ∈ (l.map (·.2)).map ab ↔ S v := fun {l} hp => by
    have e : (l.map (·.2)).map ab = l.map fun e => ab e.2 := by rw [List.map_map]; rfl
    rw [e]
    have hm := hp.map fun e : Int × Value => ab e.2
    exact ⟨hm.nodup_iff.mpr X.nd, fun v => by rw [hm.mem_iff, hS]⟩
  by_cases hd : (!w.params.followText "set-order" && dr es t) = true
  · have hd' := hd
    simp only [Bool.and_eq_true, Bool.not_eq_true'] at hd'
    show wpAny _ _ (if (!w.params.followText "set-order" && dr es t) = true then _ else _) _ _ _
    rw [if_pos hd]
    refine wpAny_bind (drawOrder_wp es.size _ _ _ (by simp) fun pl d hp => ?_)
    have hpl : pl.length = es.size := by rw [hp.length_eq, List.length_range]
    have hsc : es.size < 4096 := X.sz
    refine wpAny_bind (wpAny_newTuple ?_ (by rw [List.length_map, hpl, sizeLine_eq]; omega))
    refine wpAny_bind (wpAny_setEpoch_of (o := o) (Heap.get?_push_of_some _ ho) X.hd X.fit ?_)
    refine wpAny_bind (m := newFields _ _) (wpAny_newObj_type ?_ (by size_fits))
    refine wpAny_pure ?_
    have hsz1 : (s.heap.push (seqObj "tuple" (pl.map fun (i : Nat) => rawInt i).toArray 0)).objs.size = s.heap.objs.size + 1 := size_push' ..
    refine ⟨_, rfl, "set_iterator", _, ⟨_, Heap.get?_push_size _ rfl, rfl⟩, slot_si_next.lookup, ?_⟩
    have hps : (pl.map fun j => (es.getD j (0, .none))).Perm es.toList := by
      refine (hp.map _).trans ?_
      have : (List.range es.size).map (fun j => es.getD j (0, .none)) = es.toList := by
        apply List.ext_getElem?
        intro i
        by_cases hi : i < es.size
        · rw [List.getElem?_map, List.getElem?_range hi, Array.getElem?_toList, Array.getElem?_eq_getElem hi]
          show some (es.getD i (0, .none)) = _
          rw [Array.getD_eq_getD_getElem?, Array.getElem?_eq_getElem hi]; rfl
        · rw [List.getElem?_eq_none (by simp; omega), Array.getElem?_toList, Array.getElem?_eq_none (by omega)]
      rw [this]
    obtain ⟨n1, n2⟩ := hnd hps
    have emap : ((pl.map fun j => (es.getD j (0, .none))).map (·.2)) = pl.map fun j => (es.getD j (0, .none)).2 := by rw [List.map_map]; rfl
    rw [emap] at n1 n2
    refine h _ _ [s.heap.objs.size] (pl.map fun j => (es.getD j (0, .none)).2) ⟨o, es, ep, t, .ref s.heap.objs.size, Heap.get?_push_of_some _ (Heap.get?_push_of_some _ ho), X, hn, by rw [List.length_map, hpl, hn], ?_, .drawn s.heap.objs.size pl 0 hd'.1 hd'.2 rfl (Heap.get?_push_of_some _ (Heap.get?_push_size _ rfl)) hp rfl, fun T e => ?_⟩ n1 n2 (fun b hb => ?_) ?_ (fun b ob e => Heap.get?_push_of_some _ (Heap.get?_push_of_some _ e)) rfl rfl (fun b hb => ?_)
    · rw [← hn]; exact Heap.get?_push_size _ rfl
    · cases e
      exact ⟨by rw [hsz1]; exact Nat.ne_of_lt (Nat.lt_succ_self _), by simp⟩
    · rcases List.mem_cons.mp hb with rfl | hb
      · rw [hsz1]; exact Heap.get?_none_of_le (by omega)
      · rw [List.mem_singleton.mp hb]; exact get?_size_none _
    · rw [hsz1]; exact Nat.ne_of_lt (Nat.lt_succ_of_lt halt)
    · rcases List.mem_cons.mp hb with rfl | hb
      · exact ⟨_, Heap.get?_push_size _ rfl⟩
      · rcases List.mem_cons.mp hb with rfl | hb
        · exact ⟨_, Heap.get?_push_of_some _ (Heap.get?_push_of_some _ ho)⟩
        · rw [List.mem_singleton.mp hb]; exact ⟨_, Heap.get?_push_of_some _ (Heap.get?_push_size _ rfl)⟩
  · show wpAny _ _ (if (!w.params.followText "set-order" && dr es t) = true then _ else _) _ _ _
    rw [if_neg hd]
    refine wpAny_bind (wpAny_pure ?_)
    refine wpAny_bind (wpAny_setEpoch_of ho X.hd X.fit ?_)
    refine wpAny_bind (m := newFields _ _) (wpAny_newObj_type ?_ (by size_fits))
    refine wpAny_pure ?_
    refine ⟨_, rfl, "set_iterator", _, ⟨_, Heap.get?_push_size _ rfl, rfl⟩, slot_si_next.lookup, ?_⟩
    have fin : ∀ vals, vals.length = n → Md w.params a es ep t vals 0 (rawInt 0) (s.heap.push (siObj (rawInt 0) 0 es.size ep a)) → (vals.map ab).Nodup → (∀ v, v ∈ vals.map ab ↔ S v) → Q (.ref s.heap.objs.size) { s with heap := s.heap.push (siObj (rawInt 0) 0 es.size ep a) } := fun vals hv md n1 n2 => by
      refine h _ _ [] vals ⟨o, es, ep, t, rawInt 0, Heap.get?_push_of_some _ ho, X, hn, hv, by rw [← hn]; exact Heap.get?_push_size _ rfl, md, by intro T e; cases e⟩ n1 n2 (fun b hb => ?_) (Nat.ne_of_lt halt) (fun b ob e => Heap.get?_push_of_some _ e) rfl rfl (fun b hb => ?_)
      · rw [List.mem_singleton.mp hb]; exact get?_size_none _
      · rcases List.mem_cons.mp hb with rfl | hb
        · exact ⟨_, Heap.get?_push_size _ rfl⟩
        · rw [List.mem_singleton.mp hb]; exact ⟨_, Heap.get?_push_of_some _ ho⟩
    cases hb : w.params.followText "set-order" with
    | true =>
      have hp := pick_perm (w.params.setOrder a ep) es
      obtain ⟨n1, n2⟩ := hnd hp
      exact fin _ (by rw [List.length_map, hp.length_eq, Array.length_toList, hn]) (.text hb rfl rfl) n1 n2
    | false =>
      obtain ⟨n1, n2⟩ := hnd (List.Perm.refl es.toList)
      refine fin _ (by rw [List.length_map, Array.length_toList, hn]) (.slots 0 hb ?_ rfl ?_ rfl) n1 n2
      · rw [hb] at hd; simpa using hd
      · obtain ⟨b1, b2, b3⟩ := below_ok 0 X.ris
        rcases Nat.eq_zero_or_pos (SetTable.below t.place 0) with q | q
        · exact q
        · have := b2 0 _ q (Array.getElem?_eq_getElem (by omega)); omega
end
end Mine

set_option maxHeartbeats 1000000
namespace Mine
open PySem PySem.W PyProof.Rows PySem.Calls

theorem intKind_ab {prog : Program} {w : World} (k : Int) (v : Value) : (intKind prog w).is k v = true ↔ ab v = .int k := by
  show Value.isInt k v = true ↔ _
  constructor
  · intro h; obtain ⟨t, rfl⟩ := Value.isInt_shape h; rfl
  · intro h; obtain ⟨t, rfl⟩ := ab_int h; exact intKind_is prog w k t
/-- a set that holds what a list held -/
def SetFact {K : Type} [DecidableEq K] {prog : Program} {w : World} (knd : PySem.KeyKind prog w K) (c : Obj) (vs : List V) : Prop :=
  ∃ es ep t, SetAt knd (w.params.followText "set-order") c es ep t ∧ es.size ≤ vs.length ∧ ∀ v, (v ∈ es.toList.map fun e => ab e.2) ↔ v ∈ vs
section
variable {C : Cx} {A : Around} {env : Env} {ρ : Lo} {H : AH} {K : Type} [DecidableEq K] {knd : PySem.KeyKind C.prog C.w K} {vk : K → V}
theorem WCall.set {l : Addr} {ob : O} {vs : List V} {Q : V → AH → Prop} (hh : A.handled = none) (hkv : ∀ k v, knd.is k v = true ↔ ab v = vk k) (hsc : ∀ k v, ab v = vk k → v.scannable = true) (hH : H l = some ob) (hl : lst ob = some vs) (hv : ∀ v ∈ vs, ∃ k, v = vk k) (hz : vs.length < 4000)
    (h : ∀ a c, H a = none → SetFact knd c vs → Q (.ref a) (H.set a (.raw c))) : WCall C A (.ty "set") [.ref l] [] H Q := by
  intro L ρ fv vals kvs e1 e2 e3
  cases ab_ty e1
  obtain ⟨x, rfl, ex⟩ := vals1 e2
  cases ab_ref ex
  cases ab_nil e3
  intro s hs
  obtain ⟨xs, x1, x2, x3⟩ := hs.list hH hl
  have hsz := arr_size x2
  refine call_set_X (knd := knd) (vk := vk) hkv hh x1 (fun v hv' => ?_) (by unfold scanBound; omega) fun h' tk m hm hX hk => ?_
  · have hm : ab v ∈ vs := by rw [← x2]; exact List.mem_map.mpr ⟨v, hv', rfl⟩
    obtain ⟨k, e⟩ := hv _ hm
    exact ⟨⟨k, (hkv _ _).mpr e⟩, hsc k v e⟩
  · obtain ⟨o, es, ep, t, ho, X, hn, hS⟩ := hX
    have k : ∀ b o, s.heap.get? b = some o → h'.get? b = some o := fun b o e => hk b o (Heap.lt_size e) e
    have hnone := get?_size_none s.heap
    exact ⟨ρ, _, hs.alloc (o := .raw o) hnone ho rfl k, .alloc hnone k, rfl, h _ o (hs.fresh hnone).1 ⟨es, ep, t, X, by omega, fun v => by rw [hS, x2]⟩⟩
theorem hint_set {M : Model} {E : Value → Shared → Prop} {s : Shared} {a : Addr} {o : Obj} {Q : Bool → Shared → Prop} (ho : s.heap.get? a = some o) (hc : o.cls = .type "set") (h : Q false s) : wpAny M A (Builtin.List.listLengthHint (.ref a)) Q E s := by
  have hT : s.TypeIs (.ref a) "set" := ⟨o, ho, hc⟩
  unfold Builtin.List.listLengthHint
  refine wpAny_bind (wpAny_specialOf hT PySem.F.slot_set_len.lookup ?_)
  generalize hid : ("set.__len__" : String) = id0
  wp_delta
  rw [show splitId id0 = some ("set", "__len__") from by subst hid; decide +kernel]
  subst hid
  refine wpAny_bind (wpAny_isInstance (T := "set") (b := true) hT (by rw [isSubtype_type]; kernel_rfl) ?_)
  refine wpAny_ite_split (fun hab => absurd hab (by decide)) (fun _ => ?_)
  refine wpAny_ite_split (fun _ => ?_) (fun hab => absurd (by decide +kernel) hab)
  refine wpAny_bind (wpAny_typeOf hT ?_)
  exact wpAny_pure h
theorem Coll.set {a : Addr} {c : Obj} {vs : List V} (hh : A.handled = none) (hH : H a = some (.raw c)) (hf : SetFact knd c vs) : Coll C A H (.ref a) (fun us => us.Nodup ∧ us.length ≤ vs.length ∧ ∀ v, v ∈ us ↔ v ∈ vs) := fun L ρ v s E Q ev hs hq => by
  cases ab_ref ev
  obtain ⟨es, ep, t, X, hle, hS⟩ := hf
  obtain ⟨c', ho, e⟩ := hs.rep a _ hH
  have e' : c' = c := e
  subst e'
  have hX : SetX knd (C.w.params.followText "set-order") s.heap a es.size (fun v => v ∈ vs) := ⟨c', es, ep, t, ho, X, rfl, hS⟩
  unfold collect
  refine wpAny_bind (wpAny_runValue (codeAny_builtin PySem.F.entry_proto_collect ?_))
  rw [Around.under_plainId PySem.F.plain_proto_collect _]
  show wpAny _ A.in1 (newList [] >>= fun l => again (.builtin "list.__iadd__" ⟨[l, .ref a], []⟩)) _ _ s
  refine wpAny_bind (wpAny_newObj_type ?_ (by size_fits))
  refine wpAny_pure ⟨plainId_quiet PySem.F.plain_list_iadd _, codeAny_builtin PySem.F.entry_list_iadd ?_⟩
  rw [Around.under_plainId PySem.F.plain_list_iadd _]
  have hS0 : (s.heap.push { cls := .type "list", data := .seq ([] : List Value).toArray }).get? s.heap.objs.size = some { cls := .type "list", data := .seq ([] : List Value).toArray } := Heap.get?_push_size _ rfl
  have k0 : ∀ b o, s.heap.get? b = some o → (s.heap.push { cls := .type "list", data := .seq ([] : List Value).toArray }).get? b = some o := fun b o e => Heap.get?_push_of_some _ e
  have hn0 := get?_size_none s.heap
  have haS : s.heap.objs.size ≠ a := Nat.ne_of_gt (Heap.lt_size ho)
  generalize hD : s.heap.objs.size = D at *
  generalize hh0 : s.heap.push { cls := .type "list", data := .seq ([] : List Value).toArray } = h0 at *
  show wpAny _ A.in1 (Builtin.List.listExtendWith (.ref D) (.ref a) (.ref D)) _ _ { s with heap := h0 }
  unfold Builtin.List.listExtendWith
  have ho0 := k0 _ _ ho
  refine wpAny_bind (wpAny_typeOf (T := "set") ⟨c', ho0, X.ex.1⟩ ?_)
  have h1 : Builtin.List.listSameRef (.ref D) (.ref a) = false := by simp [Builtin.List.listSameRef, haS]
  have h2 : (Value.type "set" == Value.type "list") = false := by decide
  have h3 : (Value.type "set" == Value.type "tuple") = false := by decide
  simp only [h1, h2, h3, Bool.or_false, Bool.false_eq_true, if_false]
  refine wpAny_bind (pyIter_set (s := { s with heap := h0 }) (knd := knd) (n := es.size) (S := fun v => v ∈ vs) ⟨c', es, ep, t, ho0, X, rfl, hS⟩ fun I s1 tl vals hsw hnd hmem hnew haI k1 hg1 hos1 hlive => ?_)
  refine wpAny_bind (wpAny_holding (hint_set (k1 _ _ ho0) X.ex.1 ?_))
  refine wpAny_ite_split (fun _ => ?_) (fun hab => absurd (by decide +kernel) hab)
  refine wpAny_bind (wpAny_rule ?_)
  refine wpAny_bind ?_
  show wpAny _ A.in1 (updateSeq D (·.push .none) >>= fun _ => updateSeq D (·.pop)) _ _ _
  have hS1 := k1 _ _ hS0
  refine wpAny_bind (wpAny_updateSeq hS1 rfl ?_)
  have hS₂ := Heap.get?_update_self (Obj.mapSeq (·.push Value.none)) hS1 rfl
  refine wpAny_updateSeq (hz := by seq_fits) hS₂ rfl ?_
  have hS₃ := Heap.get?_update_self (Obj.mapSeq (·.pop)) hS₂ rfl
  have oth : ∀ b o, b ≠ D → s1.heap.get? b = some o → ((s1.heap.update D (Obj.mapSeq (·.push Value.none))).update D (Obj.mapSeq (·.pop))).get? b = some o :=
    fun b o hb e => (Heap.get?_update_other _ _ (Ne.symm hb)).trans ((Heap.get?_update_other _ _ (Ne.symm hb)).trans e)
  have hDf : D ∉ I :: a :: tl := fun q => by
    rcases List.mem_cons.mp q with q | q
    · have := hnew I (by simp); rw [← q] at this; change h0.get? D = none at this; rw [hS0] at this; cases this
    · rcases List.mem_cons.mp q with q | q
      · exact haS q
      · have := hnew D (by simp [q]); change h0.get? D = none at this; rw [hS0] at this; cases this
  have hvl : vals.length = es.size := by obtain ⟨_, _, _, _, _, _, _, _, hv, _⟩ := hsw; exact hv
  have hsc : es.size < 4096 := X.sz
  refine wpAny_pure ⟨plainId_quiet PySem.F.plain_extend_loop _, codeAny_extend_loopS (walks_set (knd := knd) (tl := tl) (n := es.size) (vals := vals) (A := A.in1) hh haI) (by rw [sizeLine_eq]; omega) D hDf _ es.size 0 _ _ _ rfl (Nat.zero_le _) (hsw.frame fun b hb o e => oth b o (fun q => hDf (q ▸ hb)) e) hS₃ (ItemsOf.nil _) fun s' acc' c2 hm hS' hacc => ?_⟩
  show wpAny _ A (load D >>= _) _ _ s'
  refine wpAny_bind (wpAny_load hS' ?_)
  have hav : acc'.toList = vals := by
    apply List.ext_getElem?
    intro i
    by_cases hi : i < es.size
    · have h1 := hacc.2 i _ (Array.getElem?_eq_getElem (show i < acc'.size by rw [hacc.1]; exact hi))
      rw [Array.getElem?_toList, Array.getElem?_eq_getElem (show i < acc'.size by rw [hacc.1]; exact hi)]; exact h1.symm
    · rw [Array.getElem?_toList, Array.getElem?_eq_none (by rw [hacc.1]; omega), List.getElem?_eq_none (by omega)]
  have kk : ∀ b o, s.heap.get? b = some o → s'.heap.get? b = some o := fun b o e => by
    have hbD : b ≠ D := fun q => by rw [q, hn0] at e; cases e
    have hbI : b ≠ I := fun q => by
      have := hnew I (by simp); change h0.get? I = none at this; rw [q] at e; rw [k0 _ _ e] at this; cases this
    exact hm.heap b o (by simp [hbD, hbI]) (oth b o hbD (k1 b o (k0 b o e)))
  refine wpAny_pure (hq acc'.toList s' ⟨by rw [hav]; exact hnd, by rw [hav, List.length_map]; omega, fun v => by rw [hav]; exact hmem v⟩ (by rw [Array.length_toList, hacc.1, sizeLine_eq]; omega) (hs.ext kk) ⟨⟨?_, ?_⟩, fun b o e _ _ => kk b o e, fun _ _ _ e => e, fun b o e => ⟨o, kk b o e⟩⟩)
  · exact Eq.trans hm.gens hg1
  · exact Eq.trans hm.os hos1
end
end Mine

set_option maxHeartbeats 1000000
namespace Mine
open PySem PySem.W PyProof.Rows PySem.Calls
open PySem.AutoSeq1 (wpAny_loadPart')
open PySem.MeetsSeq PySem.MeetsSeq3

/-! ## lists of numbers, compared -/
def lexlt : List Int → List Int → Bool
  | x :: xs, y :: ys => if x = y then lexlt xs ys else decide (x < y)
  | _, _ => false
section
variable {C : Cx} {A : Around} {env : Env} {ρ : Lo} {H : AH}
end
end Mine

set_option maxHeartbeats 1000000
namespace Mine
open PySem PySem.W PyProof.Rows PySem.Calls

def itl (p : Int × Int) : List Int := [p.1, p.2]
/-- p comes before q, or they are alike -/
def leI (p q : Int × Int) : Prop := p.1 < q.1 ∨ (p.1 = q.1 ∧ p.2 ≤ q.2)
section
variable {C : Cx} {A : Around} {env : Env} {ρ : Lo} {H : AH}

/-! ## del a[i] -/

/-! ## a <= b < c -/
theorem W.release {L : Addr} {vs ws : List Value} {Q : Unit → Lo → AH → Prop} (h : Q () ρ H) : W C A L (PySem.release vs ws) ρ H Q := fun s hs => wpAny_release ⟨ρ, H, hs, .refl .., h⟩
theorem EvT.chain2 {l m r : Expr} {op1 op2 : CmpOp} {pos : Pos} {a b c : Int} {b1 b2 : Bool} (h1 : Ev C A env ρ H l (.int a)) (h2 : Ev C A env ρ H m (.int b)) (h3 : Ev C A env ρ H r (.int c)) (hc1 : Mine.icmp op1 a b = some b1) (hc2 : Mine.icmp op2 b c = some b2) (hm : behindInMarks op2 r = false := by with_unfolding_all rfl) :
    EvT C A env ρ H (.Compare l [op1, op2] [m, r] pos) (b1 && b2) := by
  unfold EvT
  rw [arm_isTrue_Compare]
  refine W.bind (h1.then fun x ex => ?_)
  show W C A env.locals (do
    let rv ← holding [x] (eval m env)
    standAt pos
    let cc ← holding [x, rv] (compareOp op1 x rv)
    PySem.release [x, rv] [cc]
    if ← holding [cc, rv] (PySem.truthy cc) then testChain pos rv [op2] [markedBehindIn op2 r (eval r env)] else pure false) ρ H _
  refine W.bind (W.holding (h2.then fun y ey => W.bind (W.standAt (W.bind (W.holding (W.icmp ex ey hc1 (W.bind (W.release (W.bind (W.holding (W.truthy_bool ?_))))))))))) 
  cases b1 with
  | false => exact W.pure ⟨rfl, rfl, rfl⟩
  | true =>
    rw [if_pos rfl, markedBehindIn_of_false hm]
    show W C A env.locals (do
      let rv ← holding [y] (eval r env)
      standAt pos
      let cc ← operate [y, rv] (compareOp op2 y rv)
      holding [cc] (PySem.truthy cc)) ρ H _
    refine W.bind (W.holding (h3.then fun z ez => W.bind (W.standAt (W.bind ?_))))
    intro s hs
    exact wpAny_operate' (wpAny_mono (W.icmp ey ez hc2 (W.holding (W.truthy_bool ⟨rfl, rfl, by simp⟩)) s hs) (fun _ _ q => q) fun _ _ e => e)
end
end Mine

set_option maxHeartbeats 4000000
namespace Mine
open PySem PySem.W PyProof.Rows
open_top hd for PySem.Challenge.rw_dm0010_06
end Mine

set_option maxHeartbeats 4000000
namespace Mine
open PySem PySem.W PyProof.Rows

/-- bisect_right, all shapes of call -/
theorem br_core {C : Cx} {A : Around} {H : AH} {P : Params} (hK : (hd.heap_39 P).In C.base) (hlen : C.gl "len" = some (.builtin "len")) (hh : A.handled = none) (hdep : A.depth < recursionLimit)
    {args : List V} {kw : List (Str × V)} {a : Addr} {ob : O} {vs : List V} {x hiV keyV : V} {lo hi : Nat} (f : Nat → Bool)
    (hbind : ∀ vals kvs, vals.map ab = args → kvs.map (fun p => (p.1, ab p.2)) = kw → ∃ binds, (∀ s, Keep C s → BindsTo s (fdOf (hd.heap_39 P) 32) ⟨vals, kvs⟩ binds) ∧ binds.map (fun p => (p.1, ab p.2)) = ([("a", .ref a), ("x", x), ("lo", .int lo), ("hi", hiV), ("key", keyV)] : List (Str × V)))
    (ha : H a = some ob) (hl : lst ob = some vs) (hhi : (hiV = .none ∧ hi = vs.length) ∨ (hiV = .int hi ∧ hi ≤ vs.length))
    (hkey : ∀ A', Nx A A' → (keyV = .none ∧ ∀ i v, lo ≤ i → i < hi → vs[i]? = some v → LtOk C A' H x v (f i)) ∨ (∃ g o fd, keyV = .ref g ∧ FnAt C H g o fd ∧ ∀ i v, lo ≤ i → i < hi → vs[i]? = some v → ∃ kv, KeyOk C A' H g v kv ∧ LtOk C A' H x kv (f i)))
    {Q : V → AH → Prop} (hQ : Q (.int (bis f lo hi)) H) : WCall C A (.ref 32) args kw H Q := by
  refine WCall.def (fn_in hK 32 rfl) hdep rfl (noCell rfl) (fun h k => codeRec_of (hK.keeps k) rfl) (bs := [("a", .ref a), ("x", x), ("lo", .int lo), ("hi", hiV), ("key", keyV)]) hbind (allLocal rfl) ?_
  intro L hL
  have hNx := Nx.of A (callEnv (fdOf (hd.heap_39 P) 32) L 32)
  generalize hA' : A.deeper (callEnv (fdOf (hd.heap_39 P) 32) L 32) = A' at *
  have F : Fx C A' (callEnv (fdOf (hd.heap_39 P) 32) L 32) := ⟨rfl, rfl, rfl, hNx.2.2.trans hh⟩
  generalize hρ : (fun y => List.lookup y (([("a", .ref a), ("x", x), ("lo", .int lo), ("hi", hiV), ("key", keyV)] : List (Str × V)).reverse)) = ρ
  have ra : ρ "a" = some (.ref a) := by rw [← hρ]; rfl
  have rx : ρ "x" = some x := by rw [← hρ]; rfl
  have rlo : ρ "lo" = some (.int lo) := by rw [← hρ]; rfl
  have rhi : ρ "hi" = some hiV := by rw [← hρ]; rfl
  have rk : ρ "key" = some keyV := by rw [← hρ]; rfl
  have hhl : hi ≤ vs.length := by rcases hhi with ⟨_, q⟩ | ⟨_, q⟩ <;> omega
  refine WS.seq (W1.if (WT.of (b := false) (EvT.icmp (Ev.local F rfl rlo) Ev.int (by simp [icmp])) ⟨fun e => by simp at e, fun _ => WS.nil ⟨rfl, ?_⟩⟩))
  refine WS.seq (W1.if (WT.of (EvT.isNone (Ev.local F rfl rhi)) ?_))
  suffices goal : ∀ ρ : Lo, ρ "a" = some (.ref a) → ρ "x" = some x → ρ "lo" = some (.int lo) → ρ "hi" = some (.int hi) → ρ "key" = some keyV → WS C A' (callEnv (fdOf (hd.heap_39 P) 32) L 32) ((bodyOf (fdOf (hd.heap_39 P) 32)).drop 2) ρ H (fun f _ H' => Q (retv f) H') by
    refine ⟨fun e => ?_, fun e => ?_⟩
    · have hn : hiV = .none := by simpa using e
      rcases hhi with ⟨_, q⟩ | ⟨q, _⟩
      · refine WS.seq (W1.asgLocal F rfl (WE.of (Ev.len (Ev.glob F rfl hlen) (Ev.local F rfl ra) ha hl) ⟨rfl, WS.nil ⟨rfl, ?_⟩⟩))
        rw [← q]
        exact goal _ ra rx rlo rfl rk
      · rw [hn] at q; cases q
    · rcases hhi with ⟨q, _⟩ | ⟨q, _⟩
      · rw [q] at e; simp at e
      · refine WS.nil ⟨rfl, ?_⟩
        exact goal _ ra rx rlo (by rw [rhi, q]) rk
  clear rlo rhi ra rx rk hρ
  intro ρ ra rx rlo rhi rk
  have hkey' := hkey A' hNx
  refine WS.seq (W1.if (WT.of (EvT.isNone (Ev.local F rfl rk)) ⟨fun e => ?_, fun e => ?_⟩))
  · have hn : keyV = .none := by simpa using e
    obtain ⟨_, hlt⟩ : keyV = .none ∧ ∀ i v, lo ≤ i → i < hi → vs[i]? = some v → LtOk C A' H x v (f i) := by
      rcases hkey' with q | ⟨g, o, fd, q, _⟩
      · exact q
      · rw [hn] at q; cases q
    refine WS.seq (W1.while F (fun n ρ1 H1 => ∃ l h : Nat, n = h - l ∧ lo ≤ l ∧ h ≤ hi ∧ H1 = H ∧ ρ1 "a" = some (.ref a) ∧ ρ1 "x" = some x ∧ ρ1 "lo" = some (.int l) ∧ ρ1 "hi" = some (.int h) ∧ bis f l h = bis f lo hi) _ ⟨lo, hi, rfl, Nat.le_refl _, Nat.le_refl _, rfl, ra, rx, rlo, rhi, rfl⟩ ?_)
    rintro n ρ1 H1 ⟨l, h, rfl, hle, hhi', rfl, ra, rx, rlo, rhi, hb⟩
    refine WT.of (EvT.icmp (Ev.local F rfl rlo) (Ev.local F rfl rhi) rfl) ⟨fun e => ?_, fun e => ?_⟩
    · have hlt' : l < h := by simpa using e
      have hmid : ((l : Int) + (h : Int)).fdiv 2 = ((l + h) / 2 : Nat) := by
        rw [Int.fdiv_eq_ediv_of_nonneg _ (by decide)]; omega
      refine WS.seq (W1.asgLocal F rfl (WE.of (Ev.fdiv (Ev.add (Ev.local F rfl rlo) (Ev.local F rfl rhi)) Ev.int (by decide) (by decide)) ?_))
      rw [hmid]
      refine ⟨rfl, ?_⟩
      have hm : (l + h) / 2 < vs.length := by omega
      refine WS.seq (W1.if (WT.of (EvT.ltOk (Ev.local F rfl rx) (Ev.item (v := vs[(l + h) / 2]) (Ev.local F rfl ra) (Ev.local F rfl rfl) ha hl (by omega) (by rw [Int.toNat_natCast]; exact List.getElem?_eq_getElem hm)) (hlt _ _ (by omega) (by omega) (List.getElem?_eq_getElem hm))) ⟨fun e2 => ?_, fun e2 => ?_⟩))
      · refine WS.seq (W1.asgLocal F rfl (WE.of (Ev.local F rfl rfl) ⟨rfl, WS.nil ⟨rfl, WS.nil ⟨(l + h) / 2 - l, by omega, l, (l + h) / 2, rfl, by omega, by omega, rfl, ra, rx, rlo, rfl, ?_⟩⟩⟩))
        rw [← hb, bis_true hlt' e2]
      · refine WS.seq (W1.asgLocal F rfl (WE.of (Ev.add (Ev.local F rfl rfl) Ev.int) ⟨rfl, WS.nil ⟨rfl, WS.nil ⟨h - ((l + h) / 2 + 1), by omega, (l + h) / 2 + 1, h, rfl, by omega, by omega, rfl, ra, rx, rfl, rhi, ?_⟩⟩⟩))
        rw [← hb, bis_false hlt' e2]
    · have hge : ¬ l < h := by simpa using e
      rw [← hb, bis_cross (by omega)] at hQ
      exact ⟨rfl, WS.nil ⟨rfl, WS.cons (W1.ret (WE.of (Ev.local F rfl rlo) hQ))⟩⟩
  · have hn : keyV ≠ .none := by simpa using e
    obtain ⟨g, o, fd, rfl, hfn, hlt⟩ : ∃ g o fd, keyV = .ref g ∧ FnAt C H g o fd ∧ ∀ i v, lo ≤ i → i < hi → vs[i]? = some v → ∃ kv, KeyOk C A' H g v kv ∧ LtOk C A' H x kv (f i) := by
      rcases hkey' with ⟨q, _⟩ | q
      · exact absurd q hn
      · exact q
    refine WS.seq (W1.while F (fun n ρ1 H1 => ∃ l h : Nat, n = h - l ∧ lo ≤ l ∧ h ≤ hi ∧ H1 = H ∧ ρ1 "a" = some (.ref a) ∧ ρ1 "x" = some x ∧ ρ1 "key" = some (.ref g) ∧ ρ1 "lo" = some (.int l) ∧ ρ1 "hi" = some (.int h) ∧ bis f l h = bis f lo hi) _ ⟨lo, hi, rfl, Nat.le_refl _, Nat.le_refl _, rfl, ra, rx, rk, rlo, rhi, rfl⟩ ?_)
    rintro n ρ1 H1 ⟨l, h, rfl, hle, hhi', rfl, ra, rx, rk, rlo, rhi, hb⟩
    refine WT.of (EvT.icmp (Ev.local F rfl rlo) (Ev.local F rfl rhi) rfl) ⟨fun e => ?_, fun e => ?_⟩
    · have hlt' : l < h := by simpa using e
      have hmid : ((l : Int) + (h : Int)).fdiv 2 = ((l + h) / 2 : Nat) := by
        rw [Int.fdiv_eq_ediv_of_nonneg _ (by decide)]; omega
      refine WS.seq (W1.asgLocal F rfl (WE.of (Ev.fdiv (Ev.add (Ev.local F rfl rlo) (Ev.local F rfl rhi)) Ev.int (by decide) (by decide)) ?_))
      rw [hmid]
      refine ⟨rfl, ?_⟩
      have hm : (l + h) / 2 < vs.length := by omega
      obtain ⟨kv, hkv, hlk⟩ := hlt _ _ (by omega) (by omega) (List.getElem?_eq_getElem hm)
      refine WS.seq (W1.if (WT.of (EvT.ltOk (Ev.local F rfl rx) (Ev.key (Ev.local F rfl rk) hfn (Ev.item (v := vs[(l + h) / 2]) (Ev.local F rfl ra) (Ev.local F rfl rfl) ha hl (by omega) (by rw [Int.toNat_natCast]; exact List.getElem?_eq_getElem hm)) hkv) hlk) ⟨fun e2 => ?_, fun e2 => ?_⟩))
      · refine WS.seq (W1.asgLocal F rfl (WE.of (Ev.local F rfl rfl) ⟨rfl, WS.nil ⟨rfl, WS.nil ⟨(l + h) / 2 - l, by omega, l, (l + h) / 2, rfl, by omega, by omega, rfl, ra, rx, rk, rlo, rfl, ?_⟩⟩⟩))
        rw [← hb, bis_true hlt' e2]
      · refine WS.seq (W1.asgLocal F rfl (WE.of (Ev.add (Ev.local F rfl rfl) Ev.int) ⟨rfl, WS.nil ⟨rfl, WS.nil ⟨h - ((l + h) / 2 + 1), by omega, (l + h) / 2 + 1, h, rfl, by omega, by omega, rfl, ra, rx, rk, rfl, rhi, ?_⟩⟩⟩))
        rw [← hb, bis_false hlt' e2]
    · have hge : ¬ l < h := by simpa using e
      rw [← hb, bis_cross (by omega)] at hQ
      exact ⟨rfl, WS.nil ⟨rfl, WS.cons (W1.ret (WE.of (Ev.local F rfl rlo) hQ))⟩⟩


theorem WKs.one {C : Cx} {A : Around} {env : Env} {ρ : Lo} {H : AH} {n : Str} {e : Expr} {p : Pos} {Q : List (Str × V) → AH → Prop} (h : WE C A env e ρ H (fun v H1 => Q [(n, v)] H1)) : WKs C A env [⟨some n, e, p⟩] ρ H Q := h
theorem vals4 {vals : List Value} {a b c d : V} (e : vals.map ab = [a, b, c, d]) : ∃ x y z u, vals = [x, y, z, u] ∧ ab x = a ∧ ab y = b ∧ ab z = c ∧ ab u = d := by
  cases vals with
  | nil => simp at e
  | cons x r =>
    simp only [List.map_cons, List.cons.injEq] at e
    obtain ⟨y, z, u, rfl, h⟩ := vals3 e.2
    exact ⟨x, y, z, u, rfl, e.1, h⟩
theorem kw1 {kvs : List (Str × Value)} {n : Str} {v : V} (e : kvs.map (fun p => (p.1, ab p.2)) = [(n, v)]) : ∃ x, kvs = [(n, x)] ∧ ab x = v := by
  cases kvs with
  | nil => simp at e
  | cons p r =>
    cases r with
    | nil => obtain ⟨a, b⟩ := p; simp at e; exact ⟨b, by rw [e.1], e.2⟩
    | cons q r => simp at e

/-- insort_right, all shapes of call -/
theorem ir_core {C : Cx} {A : Around} {H : AH} {P : Params} (hK : (hd.heap_39 P).In C.base) (hlen : C.gl "len" = some (.builtin "len")) (hbr : C.gl "bisect_right" = some (.ref 32)) (hh : A.handled = none) (hdep : A.depth + 2 < recursionLimit)
    {args : List V} {kw : List (Str × V)} {a : Addr} {vs : List V} {x hiV keyV : V} {lo hi : Nat} (f : Nat → Bool)
    (hbind : ∀ vals kvs, vals.map ab = args → kvs.map (fun p => (p.1, ab p.2)) = kw → ∃ binds, (∀ s, Keep C s → BindsTo s (fdOf (hd.heap_39 P) 23) ⟨vals, kvs⟩ binds) ∧ binds.map (fun p => (p.1, ab p.2)) = ([("a", .ref a), ("x", x), ("lo", .int lo), ("hi", hiV), ("key", keyV)] : List (Str × V)))
    (ha : H a = some (.list vs)) (hz : vs.length < sizeLine) (hlh : bis f lo hi ≤ vs.length) (hhi : (hiV = .none ∧ hi = vs.length) ∨ (hiV = .int hi ∧ hi ≤ vs.length))
    (hkey : (keyV = .none ∧ ∀ A' A'', Nx A A' → Nx A' A'' → ∀ i v, lo ≤ i → i < hi → vs[i]? = some v → LtOk C A'' H x v (f i)) ∨ (∃ g o fd kx, keyV = .ref g ∧ FnAt C H g o fd ∧ (∀ A', Nx A A' → KeyOk C A' H g x kx) ∧ ∀ A' A'', Nx A A' → Nx A' A'' → ∀ i v, lo ≤ i → i < hi → vs[i]? = some v → ∃ kv, KeyOk C A'' H g v kv ∧ LtOk C A'' H kx kv (f i)))
    {Q : V → AH → Prop} (hQ : Q .none (H.set a (.list (vs.take (bis f lo hi) ++ x :: vs.drop (bis f lo hi))))) : WCall C A (.ref 23) args kw H Q := by
  refine WCall.def (fn_in hK 23 rfl) (by omega) rfl (noCell rfl) (fun h k => codeRec_of (hK.keeps k) rfl) (bs := [("a", .ref a), ("x", x), ("lo", .int lo), ("hi", hiV), ("key", keyV)]) hbind (allLocal rfl) ?_
  intro L hL
  have hNx := Nx.of A (callEnv (fdOf (hd.heap_39 P) 23) L 23)
  generalize hA' : A.deeper (callEnv (fdOf (hd.heap_39 P) 23) L 23) = A' at *
  have F : Fx C A' (callEnv (fdOf (hd.heap_39 P) 23) L 23) := ⟨rfl, rfl, rfl, hNx.2.2.trans hh⟩
  have hdep' : A'.depth < recursionLimit := by rw [hNx.1]; omega
  generalize hρ : (fun y => List.lookup y (([("a", .ref a), ("x", x), ("lo", .int lo), ("hi", hiV), ("key", keyV)] : List (Str × V)).reverse)) = ρ
  have ra : ρ "a" = some (.ref a) := by rw [← hρ]; rfl
  have rx : ρ "x" = some x := by rw [← hρ]; rfl
  have rlo : ρ "lo" = some (.int lo) := by rw [← hρ]; rfl
  have rhi : ρ "hi" = some hiV := by rw [← hρ]; rfl
  have rk : ρ "key" = some keyV := by rw [← hρ]; rfl
  suffices goal : ∀ ρ : Lo, ρ "a" = some (.ref a) → ρ "x" = some x → ρ "lo" = some (.int (bis f lo hi)) → WS C A' (callEnv (fdOf (hd.heap_39 P) 23) L 23) ((bodyOf (fdOf (hd.heap_39 P) 23)).drop 1) ρ H (fun f _ H' => Q (retv f) H') by
    refine WS.seq (W1.if (WT.of (EvT.isNone (Ev.local F rfl rk)) ⟨fun e => ?_, fun e => ?_⟩))
    · have hn : keyV = .none := by simpa using e
      refine WS.seq (W1.asgLocal F rfl (WE.callB (fun _ => fn_in hK 32 rfl) (Ev.glob F rfl hbr) (WEs.of (.cons (Ev.local F rfl ra) (.cons (Ev.local F rfl rx) (.cons (Ev.local F rfl rlo) (.cons (Ev.local F rfl rhi) .nil)))) (WKs.nil (br_core hK hlen F.hh hdep' (x := x) (keyV := .none) f ?_ ha rfl hhi (fun A'' hA'' => ?_) ⟨rfl, WS.nil ⟨rfl, goal _ ra rx rfl⟩⟩)))))
      · intro vals kvs e1 e2
        obtain ⟨x1, x2, x3, x4, rfl, y1, y2, y3, y4⟩ := vals4 e1
        cases ab_nil e2
        refine ⟨[("a", x1), ("x", x2), ("lo", x3), ("hi", x4), ("key", .none)], fun s hs => kp_binds (hK.keeps hs) (fun S => by kernel_rfl), ?_⟩
        show [(_, ab x1), (_, ab x2), (_, ab x3), (_, ab x4), _] = _
        rw [y1, y2, y3, y4]; rfl
      · rcases hkey with ⟨_, q⟩ | ⟨g, o, fd, kx, q, _⟩
        · exact .inl ⟨rfl, q A' A'' hNx hA''⟩
        · rw [hn] at q; cases q
    · have hn : keyV ≠ .none := by simpa using e
      obtain ⟨g, o, fd, kx, rfl, hfn, hkx, hlt⟩ : ∃ g o fd kx, keyV = .ref g ∧ FnAt C H g o fd ∧ (∀ A', Nx A A' → KeyOk C A' H g x kx) ∧ ∀ A' A'', Nx A A' → Nx A' A'' → ∀ i v, lo ≤ i → i < hi → vs[i]? = some v → ∃ kv, KeyOk C A'' H g v kv ∧ LtOk C A'' H kx kv (f i) := by
        rcases hkey with ⟨q, _⟩ | q
        · exact absurd q hn
        · exact q
      refine WS.seq (W1.asgLocal F rfl (WE.callB (fun _ => fn_in hK 32 rfl) (Ev.glob F rfl hbr) (WEs.of (.cons (Ev.local F rfl ra) (.cons (Ev.key (Ev.local F rfl rk) hfn (Ev.local F rfl rx) (hkx A' hNx)) (.cons (Ev.local F rfl rlo) (.cons (Ev.local F rfl rhi) .nil)))) (WKs.one (WE.of (Ev.local F rfl rk) (br_core hK hlen F.hh hdep' (x := kx) (keyV := .ref g) f ?_ ha rfl hhi (fun A'' hA'' => .inr ⟨g, o, fd, rfl, hfn, hlt A' A'' hNx hA''⟩) ⟨rfl, WS.nil ⟨rfl, goal _ ra rx rfl⟩⟩))))))
      intro vals kvs e1 e2
      obtain ⟨x1, x2, x3, x4, rfl, y1, y2, y3, y4⟩ := vals4 e1
      obtain ⟨x5, rfl, y5⟩ := kw1 e2
      refine ⟨[("a", x1), ("x", x2), ("lo", x3), ("hi", x4), ("key", x5)], fun s hs => kp_binds (hK.keeps hs) (fun S => by kernel_rfl), ?_⟩
      show [(_, ab x1), (_, ab x2), (_, ab x3), (_, ab x4), (_, ab x5)] = _
      rw [y1, y2, y3, y4, y5]
  clear rlo rhi ra rx rk hρ
  intro ρ ra rx rlo
  refine WS.cons (W1.expr F (WE.listMeth PySem.F.slot_list_insert rfl (WE.of (Ev.local F rfl ra) ⟨a, _, rfl, ha, WEs.of (.cons (Ev.local F rfl rlo) (.cons (Ev.local F rfl rx) .nil)) (WCall.insert ha hlh hz ⟨(by intro a e; cases e), WS.nil hQ⟩)⟩)))


end Mine

set_option maxHeartbeats 4000000
namespace Mine
open PySem PySem.W PyProof.Rows

/-! ## the houses that stand, by height and turn -/
def kle (p q : It) : Prop := p.2.2 < q.2.2 ∨ (p.2.2 = q.2.2 ∧ p.2.1 < q.2.1)
structure KO (m : Nat) (hf : Nat → Int) (sel : Nat → Bool) (ks : List It) : Prop where
  srt : ks.Pairwise kle
  mem : ∀ p ∈ ks, ∃ j : Nat, p.2.1 = j ∧ j < m ∧ p.2.2 = hf j ∧ sel j = true
  all : ∀ j, j < m → sel j = true → ∃ p ∈ ks, p.2.1 = (j : Int)
def bef (h : Int) (t : Int) (p : It) : Bool := decide (p.2.2 < h ∨ (p.2.2 = h ∧ p.2.1 < t))
section
variable {m : Nat} {hf : Nat → Int} {sel : Nat → Bool} {ks : List It}
theorem KO.ins (h : KO m hf sel ks) {j : Nat} (hj : j < m) (hlt : ∀ i, i < m → sel i = true → i < j) (I : Addr) : KO m hf (fun i => sel i || decide (i = j)) (Mine.ins ks (ks.countP (fun p => decide (gx p ≤ hf j))) (I, (j : Int), hf j)) := by
  have hs : SrtBy gx ks := List.Pairwise.imp (fun {p q} hpq => by unfold kle at hpq; show p.2.2 ≤ q.2.2; omega) h.srt
  obtain ⟨s1, s2⟩ := split_at (hs.le (hf j))
  generalize ks.countP (fun p => decide (gx p ≤ hf j)) = k at *
  have htk : ∀ p ∈ ks.take k, kle p (I, (j : Int), hf j) := fun p hp => by
    have h1 := s1 p hp
    obtain ⟨a, a1, a2, a3, a4⟩ := h.mem p (List.mem_of_mem_take hp)
    have := hlt a a2 a4
    unfold kle gx at *
    simp at h1 ⊢
    omega
  have hdr : ∀ p ∈ ks.drop k, kle (I, (j : Int), hf j) p := fun p hp => by
    have h1 := s2 p hp
    unfold kle gx at *
    simp at h1 ⊢
    omega
  refine ⟨?_, fun p hp => ?_, fun a ha hsa => ?_⟩
  · unfold Mine.ins
    rw [List.pairwise_append]
    refine ⟨List.Pairwise.sublist (List.take_sublist ..) h.srt, List.pairwise_cons.mpr ⟨hdr, List.Pairwise.sublist (List.drop_sublist ..) h.srt⟩, fun a ha b hb => ?_⟩
    rcases List.mem_cons.mp hb with rfl | hb
    · exact htk a ha
    · have := List.pairwise_append.mp (by rw [List.take_append_drop]; exact h.srt : (ks.take k ++ ks.drop k).Pairwise kle)
      exact this.2.2 a ha b hb
  · rcases mem_ins hp with rfl | hp
    · exact ⟨j, rfl, hj, rfl, by simp⟩
    · obtain ⟨a, a1, a2, a3, a4⟩ := h.mem p hp
      exact ⟨a, a1, a2, a3, by simp [a4]⟩
  · simp at hsa
    unfold Mine.ins
    by_cases q : a = j
    · subst q; exact ⟨(I, (a : Int), hf a), by simp, rfl⟩
    · obtain ⟨p, hp, e⟩ := h.all a ha (hsa.resolve_right q)
      refine ⟨p, ?_, e⟩
      rw [← List.take_append_drop k ks] at hp
      rcases List.mem_append.mp hp with hp | hp
      · exact List.mem_append_left _ hp
      · exact List.mem_append_right _ (List.mem_cons_of_mem _ hp)
theorem KO.turns (h : KO m hf sel ks) : (ks.map fun p => p.2.1.toNat).Nodup := by
  show List.Pairwise _ _
  rw [List.pairwise_map]
  refine List.Pairwise.imp_of_mem (fun {p q} hp hq hpq => ?_) h.srt
  obtain ⟨a, a1, a2, a3, a4⟩ := h.mem p hp
  obtain ⟨b, b1, b2, b3, b4⟩ := h.mem q hq
  intro e
  have : a = b := by rw [a1, b1] at e; simpa using e
  subst this
  unfold kle at hpq; omega
/-- what stands, turn by turn -/
theorem KO.perm (h : KO m hf sel ks) : (ks.map fun p => p.2.1.toNat).Perm ((List.range m).filter sel) := by
  rw [List.perm_ext_iff_of_nodup h.turns (List.Nodup.sublist List.filter_sublist List.nodup_range)]
  intro a
  rw [List.mem_map, List.mem_filter, List.mem_range]
  constructor
  · rintro ⟨p, hp, rfl⟩
    obtain ⟨a, a1, a2, a3, a4⟩ := h.mem p hp
    rw [a1]
    simpa using ⟨a2, a4⟩
  · rintro ⟨ha, hs⟩
    obtain ⟨p, hp, e⟩ := h.all a ha hs
    exact ⟨p, hp, by rw [e]; simp⟩
theorem KO.vals (h : KO m hf sel ks) : (ks.map fun p => ((p.2.2 : Int), (p.2.1 : Int))).Perm (((List.range m).filter sel).map fun t => (hf t, (t : Int))) := by
  have e : (ks.map fun p => ((p.2.2 : Int), (p.2.1 : Int))) = (ks.map fun p => p.2.1.toNat).map fun t => (hf t, (t : Int)) := by
    rw [List.map_map]
    apply List.map_congr_left
    intro p hp
    obtain ⟨a, a1, a2, a3, a4⟩ := h.mem p hp
    show (p.2.2, p.2.1) = (hf p.2.1.toNat, ((p.2.1.toNat : Nat) : Int))
    rw [a1, a3]; simp
  rw [e]
  exact h.perm.map _
theorem KO.count (h : KO m hf sel ks) (P : Int → Bool) : ks.countP (fun p => P p.2.2) = (List.range m).countP (fun t => sel t && P (hf t)) := by
  have h1 := h.vals.countP_eq (fun v : Int × Int => P v.1)
  rw [List.countP_map, List.countP_map, List.countP_filter] at h1
  rw [show (List.range m).countP (fun t => sel t && P (hf t)) = (List.range m).countP (fun a => ((fun v : Int × Int => P v.1) ∘ fun t => (hf t, (t : Int))) a && sel a) from by
    apply List.countP_congr; intro a _; simp [Bool.and_comm]]
  exact h1
end
theorem srt_eq : ∀ {a b : List (Int × Int)}, a.Perm b → a.Pairwise leI → b.Pairwise leI → a = b
  | [], b, hp, _, _ => by have := List.Perm.eq_nil hp.symm; exact this.symm
  | x :: a, [], hp, _, _ => by have := hp.length_eq; simp at this
  | x :: a, y :: b, hp, ha, hb => by
    obtain ⟨h1, h2⟩ := List.pairwise_cons.mp ha
    obtain ⟨h3, h4⟩ := List.pairwise_cons.mp hb
    have hxy : leI x y := by
      rcases List.mem_cons.mp (hp.mem_iff.mpr (List.mem_cons_self (a := y) (l := b))) with e | e
      · subst e; unfold leI; omega
      · exact h1 y e
    have hyx : leI y x := by
      rcases List.mem_cons.mp (hp.mem_iff.mp (List.mem_cons_self (a := x) (l := a))) with e | e
      · subst e; unfold leI; omega
      · exact h3 x e
    have : x = y := by unfold leI at hxy hyx; exact Prod.ext (by omega) (by omega)
    subst this
    rw [srt_eq ((List.perm_cons x).mp hp) h2 h4]
theorem count_range_lt {n t : Nat} (Q : Nat → Bool) (h : t ≤ n) : (List.range n).countP (fun i => decide (i < t) && Q i) = (List.range t).countP Q := by
  induction n with
  | zero =>
    have : t = 0 := by omega
    subst this; rfl
  | succ n ih =>
    by_cases q : t = n + 1
    · subst q
      apply List.countP_congr
      intro i hi
      have : i < n + 1 := by simpa using hi
      simp [this]
    · rw [List.range_succ, List.countP_append, ih (by omega)]
      simp; omega
theorem KO.congr {m : Nat} {hf : Nat → Int} {sel sel' : Nat → Bool} {ks : List It} (h : KO m hf sel ks) (e : ∀ i, i < m → sel i = sel' i) : KO m hf sel' ks :=
  ⟨h.srt, fun p hp => let ⟨j, a, b, c, d⟩ := h.mem p hp; ⟨j, a, b, c, by rw [← e j b]; exact d⟩, fun j hj hs => h.all j hj (by rw [e j hj]; exact hs)⟩
theorem KO.len {m : Nat} {hf : Nat → Int} {sel : Nat → Bool} {ks : List It} (h : KO m hf sel ks) : ks.length ≤ m := by
  have h1 := h.perm.length_eq
  have h2 := List.length_filter_le sel (List.range m)
  rw [List.length_map] at h1
  rw [List.length_range] at h2
  omega
theorem KO.srtBy {m : Nat} {hf : Nat → Int} {sel : Nat → Bool} {ks : List It} (h : KO m hf sel ks) : SrtBy gx ks := List.Pairwise.imp (fun {p q} hpq => by unfold kle at hpq; show p.2.2 ≤ q.2.2; omega) h.srt
section
variable {C : Cx} {A : Around} {env : Env} {ρ : Lo} {H : AH}
theorem map_range_at {α β : Type} (l : List α) (d : α) (f : α → β) : (List.range l.length).map (fun i => f (l.getD i d)) = l.map f := by
  apply List.ext_getElem?
  intro i
  by_cases hi : i < l.length
  · rw [List.getElem?_map, List.getElem?_range hi, List.getElem?_map, List.getElem?_eq_getElem hi]
    show some (f (l.getD i d)) = _
    rw [List.getD_eq_getElem?_getD, List.getElem?_eq_getElem hi]; rfl
  · rw [List.getElem?_eq_none (by simp; omega), List.getElem?_eq_none (by simp; omega)]
end
theorem rangeSize_pos {n : Int} {c : Nat} (hc : 0 < c) : Builtin.Range.rangeSize 0 n c = (((n + (c : Int) - 1) / (c : Int)).toNat : Int) := by
  unfold Builtin.Range.rangeSize
  have hc' : (0 : Int) < (c : Int) := by omega
  rw [if_pos hc']
  have e : (n + (c : Int) - 1) / (c : Int) = (n - 1) / (c : Int) + 1 := by
    rw [show n + (c : Int) - 1 = (n - 1) + (c : Int) * 1 by omega, Int.add_mul_ediv_left _ _ (by omega)]
  by_cases h : 0 < n
  · rw [if_pos h, e]
    have : 0 ≤ (n - 1) / (c : Int) := Int.ediv_nonneg (by omega) (by omega)
    rw [show n - 0 - 1 = n - 1 by omega]; omega
  · rw [if_neg h, e]
    have : (n - 1) / (c : Int) < 0 := Int.ediv_neg_of_neg_of_pos (by omega) hc'
    omega
theorem small_pos {n : Int} {c : Nat} (hc : 0 < c) (hc' : c < 1000) (h1 : -1000 ≤ n) (h2 : n ≤ 1000) : Builtin.Range.small 0 n c = true := by
  unfold Builtin.Range.small
  rw [rangeSize_pos hc]
  have hle : (n + (c : Int) - 1) / (c : Int) ≤ 3000 := by
    by_cases q : 0 ≤ n + (c : Int) - 1
    · have := Int.ediv_le_self (c : Int) q; omega
    · have : (n + (c : Int) - 1) / (c : Int) < 0 := Int.ediv_neg_of_neg_of_pos (by omega) (by omega)
      omega
  simp only [Builtin.Range.rangeFitsLong, Bool.and_eq_true, Bool.or_eq_true, decide_eq_true_eq, beq_iff_eq, show ((c : Int) > 0) by omega, if_true]
  omega
theorem Coll.mono {C : Cx} {A : Around} {H : AH} {x : V} {R R' : List V → Prop} (h : Coll C A H x R) (k : ∀ us, R us → R' us) : Coll C A H x R' :=
  fun L ρ v s E Q ev hs hq => h L ρ v s E Q ev hs fun us s' r => hq us s' (k _ r)
theorem vints_of_all : ∀ {us : List V}, (∀ u ∈ us, ∃ k, u = V.int k) → ∃ ns, us = vints ns
  | [], _ => ⟨[], rfl⟩
  | u :: us, h => by
    obtain ⟨k, rfl⟩ := h u (List.mem_cons_self ..)
    obtain ⟨ns, rfl⟩ := vints_of_all (us := us) fun v hv => h v (List.mem_cons_of_mem _ hv)
    exact ⟨k :: ns, rfl⟩
theorem Sm.nr {A A' : Around} (h : Nr A A') (hh : A.handled = none) (hd : A.depth < recursionLimit) (hu : A.units + 100 < cLine) : Sm A' := ⟨h.2.1.trans hh, by rw [h.1]; exact hd, by have := h.2.2.2; omega⟩
section
variable {C : Cx} {A : Around} {env : Env} {ρ : Lo} {H : AH}
/-- a list of numbers is made -/
theorem comp_nums {n : Nat} {g : Nat → Int} {elt tgt : Expr} {Ok : Nat → AH → Prop} {Pd : Nat → AH → Dv → Prop} {Q : AH → List V → Prop} (hn : n ≤ sizeLine)
    (ht : ∀ i (ρ1 : Lo), i < n → Ok i H ∧ ∀ d, Pd i H d → Asg C A env tgt d ρ1 H (fun ρ2 H3 => H3 = H ∧ Ev C A env ρ2 H elt (.int (g i)))) (hOk : Ok n H) (hQ : Q H (vints ((List.range n).map g))) :
    LoopOk C A env elt tgt [] [] H n Ok Pd (fun _ => none) [] (fun _ H2 zs => Q H2 zs) := by
  refine ⟨fun i ρ1 H1 zs => H1 = H ∧ zs = vints ((List.range i).map g), ⟨rfl, rfl⟩, ?_, ?_⟩
  · rintro i ρ1 H1 zs hi ⟨rfl, rfl⟩
    obtain ⟨ok, t⟩ := ht i ρ1 hi
    refine ⟨ok, fun d hd => Asg.mono (t d hd) ?_⟩
    rintro ρ2 H3 ⟨rfl, v⟩
    exact ⟨fun _ => WE.of v ⟨by rw [ints_length]; simp; omega, rfl, by rw [List.range_succ]; simp [vints]⟩, fun e => by cases e⟩
  · rintro ρ1 H1 zs ⟨rfl, rfl⟩
    exact ⟨hOk, hQ⟩
end
section
variable {C : Cx} {A : Around} {env : Env} {ρ : Lo} {H : AH} {P : Params}
/-- a list of pairs of numbers is made -/
theorem comp_pairs {n : Nat} {g : Nat → Pr} {e1 e2 tgt : Expr} {kk : Nat} {p : Pos} {Ok : Nat → AH → Prop} {Pd : Nat → AH → Dv → Prop} {Q : AH → List V → Prop} (hn : n ≤ sizeLine)
    (ht : ∀ i (ρ1 : Lo) H1, i < n → H.le H1 → Ok i H1 ∧ ∀ d, Pd i H1 d → Asg C A env tgt d ρ1 H1 (fun ρ2 H3 => H3 = H1 ∧ Ev C A env ρ2 H1 e1 (.int (g i).1) ∧ Ev C A env ρ2 H1 e2 (.int (g i).2)))
    (hOk : ∀ H1, H.le H1 → Ok n H1) (hne : noStar [e1, e2] = true)
    (hQ : ∀ (ps : List PA) H2, ps.map (·.2) = (List.range n).map g → H.le H2 → (∀ p ∈ ps, IsPr H2 p) → Q H2 (prefs ps)) :
    LoopOk C A env (.Tuple [e1, e2] kk p) tgt [] [] H n Ok Pd (fun _ => none) [] (fun _ H2 zs => Q H2 zs) := by
  refine ⟨fun i ρ1 H1 zs => ∃ ps : List PA, zs = prefs ps ∧ ps.length = i ∧ ps.map (·.2) = (List.range i).map g ∧ H.le H1 ∧ ∀ p ∈ ps, IsPr H1 p, ⟨[], rfl, rfl, rfl, AH.le_refl _, by simp⟩, ?_, ?_⟩
  · rintro i ρ1 H1 zs hi ⟨ps, rfl, hl, hm, hle, hps⟩
    obtain ⟨ok, t⟩ := ht i ρ1 H1 hi hle
    refine ⟨ok, fun d hd => Asg.mono (t d hd) ?_⟩
    rintro ρ2 H3 ⟨rfl, v1, v2⟩
    refine ⟨fun _ => ?_, fun e => by cases e⟩
    refine WE.tuple hne (by simp) (WEs.of (.cons v1 (.cons v2 .nil)) fun a ha => ⟨by simp [prefs]; omega, ps ++ [(a, g i)], by simp [prefs], by simp [hl], ?_, AH.le_trans hle (AH.le_set (AH.le_refl _) ha), fun p hp => ?_⟩)
    · rw [List.range_succ]; simp [hm]
    · rcases List.mem_append.mp hp with hp | hp
      · exact AH.get_of_set (hps p hp) ha
      · rw [List.mem_singleton.mp hp]; exact AH.set_same ..
  · rintro ρ1 H1 zs ⟨ps, rfl, hl, hm, hle, hps⟩
    exact ⟨hOk _ hle, hQ ps H1 hm hle hps⟩
theorem prefs_at {ps : List PA} {i : Nat} {u : V} (h : (prefs ps)[i]? = some u) : ∃ p, ps[i]? = some p ∧ u = .ref p.1 := by
  unfold prefs at h
  rw [List.getElem?_map] at h
  cases q : ps[i]? with
  | none => rw [q] at h; cases h
  | some p => rw [q] at h; exact ⟨p, rfl, (Option.some.inj h).symm⟩
end
theorem vget {xs : List Int} {i : Nat} (h : i < xs.length) : (vints xs)[i]? = some (.int (xs.getD i 0)) := by
  rw [List.getD_eq_getElem?_getD]; simp [vints, h]
end Mine

set_option maxHeartbeats 4000000
namespace Mine
open PySem PySem.W PyProof.Rows

section
variable {C : Cx} {A : Around} {env : Env} {ρ : Lo} {H : AH}
theorem Ev.band {l r : Expr} {pos : Pos} {a b : Int} (h1 : Ev C A env ρ H l (.int a)) (h2 : Ev C A env ρ H r (.int b)) : Ev C A env ρ H (.BinOp l .BitAnd r pos) (.int (Builtin.bitAnd a b)) :=
  Ev.bin h1 h2 fun x y e e' => by
    obtain ⟨t, rfl⟩ := ab_int e; obtain ⟨u, rfl⟩ := ab_int e'
    exact fun s hs => and_int ⟨ρ, H, hs, .toks, rfl, rfl, rfl⟩
theorem W1.augAddE {x : Str} {p pos : Pos} {e : Expr} {Q : Fl → Lo → AH → Prop} {a : Int} (F : Fx C A env) (hl : env.kindOf x = some .local) (hv : ρ x = some (.int a)) (he : WE C A env e ρ H (fun v H1 => ∃ b, v = .int b ∧ Q .next (ρ.set x (.int (a + b))) H1)) : W1 C A env (.AugAssign (.Name x p) .Add e pos) ρ H Q :=
  W1.augLocal F hl hv (WE.mono he fun v H1 ⟨b, e1, h⟩ y z ey ez => by
    subst e1
    obtain ⟨t, rfl⟩ := ab_int ey; obtain ⟨u, rfl⟩ := ab_int ez
    exact fun s hs => PySem.AutoIntOps.iadd_0 ⟨ρ, H1, hs, .toks, rfl, h⟩)
theorem WT.isNotNone {l : Expr} {k : Nat} {p pos : Pos} {Q : Bool → AH → Prop} (h1 : WE C A env l ρ H (fun v H1 => Q (!decide (v = .none)) H1)) : WT C A env (.Compare l [.IsNot] [.Constant .none k p] pos) ρ H Q :=
  W.isTrue_Compare1 rfl (W.mono h1 (by
    rintro x _ H1 ⟨rfl, q⟩
    refine Ev.none.then fun y e' => ?_
    rw [ab_none e']
    intro s hs
    refine isNot_none ⟨_, _, hs, .refl .., ?_⟩
    rw [beq_none rfl]
    exact W.truthy_bool ⟨rfl, q⟩))
end

/-! ## the last stretch up to k -/
def lb (k : Nat) : Nat := (Builtin.bitAnd (k : Int) (-(k : Int))).toNat
theorem lb_fin : ∀ k : Fin 40, 1 ≤ k.val → Builtin.bitAnd (k.val : Int) (-(k.val : Int)) = (lb k.val : Int) ∧ 1 ≤ lb k.val ∧ lb k.val ≤ k.val := by decide
theorem lb_at {k : Nat} (h : 1 ≤ k) (h' : k < 40) : Builtin.bitAnd (k : Int) (-(k : Int)) = (lb k : Int) ∧ 1 ≤ lb k ∧ lb k ≤ k := lb_fin ⟨k, h'⟩ h

/-! ## the place among the widths -/
def plw (ws : List Int) (x : Int) : Nat := ws.countP (fun w => decide (w ≤ x))
theorem plw_le (ws : List Int) (x : Int) : plw ws x ≤ ws.length := List.countP_le_length
theorem plw_mono {ws : List Int} {x y : Int} (h : x ≤ y) : plw ws x ≤ plw ws y := List.countP_mono_left fun w _ hw => by simp at *; omega
theorem plw_lt : ∀ {ws : List Int} {x y : Int}, x < y → y ∈ ws → plw ws x < plw ws y
  | w :: ws, x, y, h, hm => by
    unfold plw
    rw [List.countP_cons, List.countP_cons]
    have h0 : plw ws x ≤ plw ws y := plw_mono (by omega)
    unfold plw at h0
    rcases List.mem_cons.mp hm with e | e
    · subst e
      have a1 : decide (y ≤ x) = false := decide_eq_false (by omega)
      have a2 : decide (y ≤ y) = true := decide_eq_true (by omega)
      simp only [a1, a2, if_true]
      simp; omega
    · have h1 := plw_lt h e
      unfold plw at h1
      by_cases q : w ≤ x
      · have a1 : decide (w ≤ x) = true := decide_eq_true q
        have a2 : decide (w ≤ y) = true := decide_eq_true (by omega)
        simp only [a1, a2, if_true]; omega
      · have a1 : decide (w ≤ x) = false := decide_eq_false q
        simp only [a1]
        simp; split <;> omega
theorem plw_pos {ws : List Int} {x : Int} (h : x ∈ ws) : 1 ≤ plw ws x := List.countP_pos_iff.mpr ⟨x, h, by simp⟩
theorem plw_iff {ws : List Int} {x y : Int} (h : x ∈ ws) : plw ws x ≤ plw ws y ↔ x ≤ y := by
  constructor
  · intro q
    rcases Int.lt_or_le y x with w | w
    · have := plw_lt w h; omega
    · exact w
  · exact plw_mono
theorem plw_at {ws : List Int} (hs : ws.Pairwise (· < ·)) {j : Nat} {x : Int} (h : ws[j]? = some x) : plw ws x = j + 1 := by
  obtain ⟨hj, rfl⟩ := List.getElem?_eq_some_iff.mp h
  have hm : ws.Pairwise (fun p q => decide (q ≤ ws[j]) = true → decide (p ≤ ws[j]) = true) := List.Pairwise.imp (fun {p q} hpq hq => by simp at *; omega) hs
  have hc := count_split hm
  have pa := List.pairwise_iff_getElem.mp hs
  unfold plw
  have h1 := (hc j ws[j] (List.getElem?_eq_getElem hj)).mp (by simp)
  by_cases q : j + 1 < ws.length
  · have h2 := pa j (j + 1) hj q (by omega)
    have h3 : ¬ (j + 1 < ws.countP (fun w => decide (w ≤ ws[j]))) := fun w => by
      have := (hc (j + 1) ws[j + 1] (List.getElem?_eq_getElem q)).mpr w
      simp at this; omega
    omega
  · have := List.countP_le_length (p := fun w => decide (w ≤ ws[j])) (l := ws)
    omega
/-- a width stands in a stretch if and only if its place does -/
theorem stretch_iff {ws : List Int} (hs : ws.Pairwise (· < ·)) {a b : Nat} {x : Int} (hx : x ∈ ws) (hb : b ≤ ws.length) : x ∈ (ws.take b).drop a ↔ a < plw ws x ∧ plw ws x ≤ b := by
  constructor
  · intro h
    obtain ⟨j, hj⟩ := List.getElem?_of_mem h
    rw [List.getElem?_drop, List.getElem?_take] at hj
    split at hj
    · next w => rw [plw_at hs hj]; omega
    · cases hj
  · rintro ⟨h1, h2⟩
    obtain ⟨j, hj⟩ := List.getElem?_of_mem hx
    rw [plw_at hs hj] at h1 h2
    refine List.mem_of_getElem? (i := j - a) ?_
    rw [List.getElem?_drop, List.getElem?_take, show a + (j - a) = j by omega, if_pos (by omega)]
    exact hj

/-! ## the law's parts -/
def whBody : Stmt → List Stmt
  | .While _ b _ _ => b
  | _ => []
noncomputable abbrev law06 (P : Params) : FuncData := fdOf (hd.heap_39 P) 37
noncomputable abbrev env06 (P : Params) (L : Addr) : Env := callEnvC (law06 P) L 37
noncomputable abbrev lp06 (P : Params) : List Stmt := forBody (stAt (bodyOf (law06 P)) 6)
noncomputable abbrev fin06 (P : Params) : List Stmt := forBody (stAt (bodyOf (law06 P)) 9)
def kwE : Expr → Expr
  | .Call _ _ (k :: _) _ => k.value
  | .Compare _ _ (.Call _ _ (k :: _) _ :: _) _ => k.value
  | _ => .Constant .none 0 ⟨0, 0, 0, 0⟩
def stE : Stmt → Expr
  | .Assign _ e _ => e
  | .AugAssign _ _ e _ => e
  | .Expr e _ => e
  | .If e _ _ _ => e
  | _ => .Constant .none 0 ⟨0, 0, 0, 0⟩
noncomputable def lamW (P : Params) : Expr := kwE (stE (stAt (whBody (stAt (lp06 P) 5)) 0))
noncomputable def lamI (P : Params) : Expr := kwE (stE (stAt (ifThen (stAt (forBody (stAt (lp06 P) 7)) 0)) 0))
noncomputable def lamD (P : Params) : Expr := kwE (stE (stAt (bodyOf (law06 P)) 7))
noncomputable def lamS (P : Params) : Expr := kwE (stE (stAt (fin06 P) 2))
structure Gl06 (C : Cx) : Prop where
  range : C.gl "range" = some (.type "range")
  len : C.gl "len" = some (.builtin "len")
  sorted : C.gl "sorted" = some (.builtin "sorted")
  set : C.gl "set" = some (.type "set")
  br : C.gl "bisect_right" = some (.ref 32)
  ir : C.gl "insort_right" = some (.ref 23)
abbrev PI := Addr × Int
def pref (xs : List PI) : List V := xs.map fun p => V.ref p.1
theorem pref_len (xs : List PI) : (pref xs).length = xs.length := by simp [pref]
theorem pref_at {xs : List PI} {i : Nat} {u : V} (h : (pref xs)[i]? = some u) : ∃ p, xs[i]? = some p ∧ u = .ref p.1 := by
  unfold pref at h
  rw [List.getElem?_map] at h
  cases q : xs[i]? with
  | none => rw [q] at h; cases h
  | some p => rw [q] at h; exact ⟨p, rfl, (Option.some.inj h).symm⟩
abbrev LK := Addr × List It
def lrefs (lk : List LK) : List V := lk.map fun e => V.ref e.1
theorem lrefs_len (lk : List LK) : (lrefs lk).length = lk.length := by simp [lrefs]
theorem lrefs_get {lk : List LK} {i : Nat} {e : LK} (h : lk[i]? = some e) : (lrefs lk)[i]? = some (.ref e.1) := by unfold lrefs; rw [List.getElem?_map, h]; rfl
theorem prefs_get {ps : List PA} {i : Nat} {e : PA} (h : ps[i]? = some e) : (prefs ps)[i]? = some (.ref e.1) := by unfold prefs; rw [List.getElem?_map, h]; rfl
theorem pref_get {ps : List PI} {i : Nat} {e : PI} (h : ps[i]? = some e) : (pref ps)[i]? = some (.ref e.1) := by unfold pref; rw [List.getElem?_map, h]; rfl
theorem prefs_len (ps : List PA) : (prefs ps).length = ps.length := by simp [prefs]
end Mine

set_option maxHeartbeats 4000000
namespace Mine
open PySem PySem.W PyProof.Rows

section
variable {C : Cx} {A : Around} {ρ : Lo} {H : AH} {P : Params} {env : Env}
theorem bind2k (hK : (hd.heap_39 P).In C.base) (f : Addr) (hf : f = 23 ∨ f = 32) {a : Addr} {x keyV : V} : ∀ (vals : List Value) (kvs : List (Str × Value)), vals.map ab = [.ref a, x] → kvs.map (fun p => (p.1, ab p.2)) = ([("key", keyV)] : List (Str × V)) → ∃ binds, (∀ s, Keep C s → BindsTo s (fdOf (hd.heap_39 P) f) ⟨vals, kvs⟩ binds) ∧ binds.map (fun p => (p.1, ab p.2)) = ([("a", .ref a), ("x", x), ("lo", .int (0 : Nat)), ("hi", .none), ("key", keyV)] : List (Str × V)) := by
  intro vals kvs e1 e2
  obtain ⟨x1, x2, rfl, y1, y2⟩ := vals2 e1
  obtain ⟨x5, rfl, y5⟩ := kw1 e2
  have e : ∀ t, ([("a", x1), ("x", x2), ("lo", .int 0 t), ("hi", .none), ("key", x5)] : List (Str × Value)).map (fun p => (p.1, ab p.2)) = ([("a", .ref a), ("x", x), ("lo", .int (0 : Nat)), ("hi", .none), ("key", keyV)] : List (Str × V)) := fun t => by
    show [(_, ab x1), (_, ab x2), _, _, (_, ab x5)] = _
    rw [y1, y2, y5]; rfl
  rcases hf with rfl | rfl
  · exact ⟨[("a", x1), ("x", x2), ("lo", .int 0 189), ("hi", .none), ("key", x5)], fun s hs => kp_binds (hK.keeps hs) (fun S => by kernel_rfl), e _⟩
  · exact ⟨[("a", x1), ("x", x2), ("lo", .int 0 202), ("hi", .none), ("key", x5)], fun s hs => kp_binds (hK.keeps hs) (fun S => by kernel_rfl), e _⟩
theorem bind2n (hK : (hd.heap_39 P).In C.base) (f : Addr) (hf : f = 23 ∨ f = 32) {a : Addr} {x : V} : ∀ (vals : List Value) (kvs : List (Str × Value)), vals.map ab = [.ref a, x] → kvs.map (fun p => (p.1, ab p.2)) = ([] : List (Str × V)) → ∃ binds, (∀ s, Keep C s → BindsTo s (fdOf (hd.heap_39 P) f) ⟨vals, kvs⟩ binds) ∧ binds.map (fun p => (p.1, ab p.2)) = ([("a", .ref a), ("x", x), ("lo", .int (0 : Nat)), ("hi", .none), ("key", .none)] : List (Str × V)) := by
  intro vals kvs e1 e2
  obtain ⟨x1, x2, rfl, y1, y2⟩ := vals2 e1
  have : kvs = [] := by simpa using e2
  subst this
  have e : ∀ t, ([("a", x1), ("x", x2), ("lo", .int 0 t), ("hi", .none), ("key", .none)] : List (Str × Value)).map (fun p => (p.1, ab p.2)) = ([("a", .ref a), ("x", x), ("lo", .int (0 : Nat)), ("hi", .none), ("key", .none)] : List (Str × V)) := fun t => by
    show [(_, ab x1), (_, ab x2), _, _, _] = _
    rw [y1, y2]; rfl
  rcases hf with rfl | rfl
  · exact ⟨[("a", x1), ("x", x2), ("lo", .int 0 189), ("hi", .none), ("key", .none)], fun s hs => kp_binds (hK.keeps hs) (fun S => by kernel_rfl), e _⟩
  · exact ⟨[("a", x1), ("x", x2), ("lo", .int 0 202), ("hi", .none), ("key", .none)], fun s hs => kp_binds (hK.keeps hs) (fun S => by kernel_rfl), e _⟩
theorem dle {x y : Int} : (!decide (x ≤ y)) = decide (y < x) := by rw [← decide_not]; congr 1; apply propext; omega
theorem br_key (hK : (hd.heap_39 P).In C.base) (hlen : C.gl "len" = some (.builtin "len")) (hh : A.handled = none) (hdep : A.depth + 4 < recursionLimit) (hu : A.units + 100 < cLine) {a g : Addr} {o : Obj} {fd : FuncData} {xs : List It} {x : Int} (ha : H a = some (.list (refs xs))) (hs : SrtBy gx xs) (hfn : FnAt C H g o fd) (hkey : ∀ A', Sm A' → ∀ p ∈ xs, KeyOk C A' H g (.ref p.1) (.int p.2.2)) :
    WCall C A (.ref 32) [.ref a, .int x] [("key", .ref g)] H (fun r H' => r = .int (xs.countP (fun p => decide (gx p ≤ x)) : Nat) ∧ H' = H) := by
  have hb : bis (fun i => !((xs[i]?).elim false fun p => decide (gx p ≤ x))) 0 xs.length = xs.countP (fun p => decide (gx p ≤ x)) := by
    have := bis_part (f := fun i => !((xs[i]?).elim false fun p => decide (gx p ≤ x))) (lo := 0) (hi := xs.length) (hs.le x) (by simp) (fun j y hj => by show (!((xs[0 + j]?).elim false fun p => decide (gx p ≤ x))) = _; rw [Nat.zero_add, hj]; rfl)
    rw [this, Nat.zero_add]
  refine br_core hK hlen hh (by omega) (fun i => !((xs[i]?).elim false fun p => decide (gx p ≤ x))) (bind2k hK 32 (by simp)) (hi := xs.length) ha rfl (.inl ⟨rfl, by rw [refs_len]⟩) (fun A' hA' => .inr ⟨g, o, fd, rfl, hfn, fun i v _ _ hv => ?_⟩) ⟨by rw [hb], rfl⟩
  obtain ⟨p, hp, rfl⟩ := refs_at hv
  refine ⟨_, hkey A' (Sm.nx hA' hh hdep hu) p (List.mem_of_getElem? hp), ?_⟩
  show LtOk C A' H _ _ (!((xs[i]?).elim false fun p => decide (gx p ≤ x)))
  rw [hp]
  show LtOk C A' H _ _ (!decide (gx p ≤ x))
  rw [dle]
  exact LtOk.int
theorem br_ints (hK : (hd.heap_39 P).In C.base) (hlen : C.gl "len" = some (.builtin "len")) (hh : A.handled = none) (hdep : A.depth + 4 < recursionLimit) {a : Addr} {ws : List Int} {x : Int} (ha : H a = some (.list (vints ws))) (hs : ws.Pairwise (· < ·)) :
    WCall C A (.ref 32) [.ref a, .int x] [] H (fun r H' => r = .int (plw ws x : Nat) ∧ H' = H) := by
  have hm : ws.Pairwise (fun p q => decide (q ≤ x) = true → decide (p ≤ x) = true) := List.Pairwise.imp (fun {p q} hpq hq => by simp at *; omega) hs
  have hb : bis (fun i => !((ws[i]?).elim false fun p => decide (p ≤ x))) 0 ws.length = plw ws x := by
    have := bis_part (f := fun i => !((ws[i]?).elim false fun p => decide (p ≤ x))) (lo := 0) (hi := ws.length) hm (by simp) (fun j y hj => by show (!((ws[0 + j]?).elim false fun p => decide (p ≤ x))) = _; rw [Nat.zero_add, hj]; rfl)
    rw [this, Nat.zero_add]; rfl
  refine br_core hK hlen hh (by omega) (fun i => !((ws[i]?).elim false fun p => decide (p ≤ x))) (bind2n hK 32 (by simp)) (hi := ws.length) ha rfl (.inl ⟨rfl, by rw [ints_length]⟩) (fun A' hA' => .inl ⟨rfl, fun i v _ _ hv => ?_⟩) ⟨by rw [hb], rfl⟩
  obtain ⟨rfl, hi2⟩ := vints_at hv
  show LtOk C A' H _ _ (!((ws[i]?).elim false fun p => decide (p ≤ x)))
  rw [List.getD_eq_getElem?_getD, List.getElem?_eq_getElem hi2]
  show LtOk C A' H _ _ (!decide (ws[i] ≤ x))
  rw [dle]
  exact LtOk.int
theorem ir_key (hK : (hd.heap_39 P).In C.base) (hlen : C.gl "len" = some (.builtin "len")) (hbr : C.gl "bisect_right" = some (.ref 32)) (hh : A.handled = none) (hdep : A.depth + 4 < recursionLimit) (hu : A.units + 100 < cLine) {a g I : Addr} {o : Obj} {fd : FuncData} {xs : List It} {x : Int} (ha : H a = some (.list (refs xs))) (hz : xs.length < sizeLine) (hs : SrtBy gx xs) (hfn : FnAt C H g o fd) (hkey : ∀ A', Sm A' → ∀ p ∈ xs, KeyOk C A' H g (.ref p.1) (.int p.2.2)) (hkI : ∀ A', Sm A' → KeyOk C A' H g (.ref I) (.int x))
    {Q : V → AH → Prop} (hQ : Q .none (H.set a (.list (ins (refs xs) (xs.countP (fun p => decide (gx p ≤ x))) (.ref I))))) : WCall C A (.ref 23) [.ref a, .ref I] [("key", .ref g)] H Q := by
  have hb : bis (fun i => !((xs[i]?).elim false fun p => decide (gx p ≤ x))) 0 xs.length = xs.countP (fun p => decide (gx p ≤ x)) := by
    have := bis_part (f := fun i => !((xs[i]?).elim false fun p => decide (gx p ≤ x))) (lo := 0) (hi := xs.length) (hs.le x) (by simp) (fun j y hj => by show (!((xs[0 + j]?).elim false fun p => decide (gx p ≤ x))) = _; rw [Nat.zero_add, hj]; rfl)
    rw [this, Nat.zero_add]
  have hc := List.countP_le_length (p := fun p => decide (gx p ≤ x)) (l := xs)
  refine ir_core hK hlen hbr hh (by omega) (fun i => !((xs[i]?).elim false fun p => decide (gx p ≤ x))) (bind2k hK 23 (by simp)) (hi := xs.length) ha (by rw [refs_len]; exact hz) (by rw [hb, refs_len]; exact hc) (.inl ⟨rfl, by rw [refs_len]⟩) (.inr ⟨g, o, fd, .int x, rfl, hfn, fun A' hA' => hkI A' (Sm.nx hA' hh hdep hu), fun A' A'' h1 h2 i v _ _ hv => ?_⟩) (by rw [hb]; exact hQ)
  obtain ⟨p, hp, rfl⟩ := refs_at hv
  refine ⟨_, hkey A'' (Sm.nx2 h1 h2 hh hdep hu) p (List.mem_of_getElem? hp), ?_⟩
  show LtOk C A'' H _ _ (!((xs[i]?).elim false fun p => decide (gx p ≤ x)))
  rw [hp]
  show LtOk C A'' H _ _ (!decide (gx p ≤ x))
  rw [dle]
  exact LtOk.int
abbrev IsOne (H : AH) (p : PI) : Prop := H p.1 = some (.list [.int p.2])
/-- a height alone in a list put among such -/
theorem ir_ones (hK : (hd.heap_39 P).In C.base) (hlen : C.gl "len" = some (.builtin "len")) (hbr : C.gl "bisect_right" = some (.ref 32)) (hh : A.handled = none) (hdep : A.depth + 4 < recursionLimit) (hu : A.units + 100 < cLine) {a : Addr} {xs : List PI} {q : PI} (ha : H a = some (.list (pref xs))) (hz : xs.length < sizeLine) (hs : xs.Pairwise (fun p q => p.2 ≤ q.2)) (hI : ∀ p ∈ xs, IsOne H p) (hq : IsOne H q)
    {Q : V → AH → Prop} (hQ : Q .none (H.set a (.list (ins (pref xs) (xs.countP (fun p => decide (p.2 ≤ q.2))) (.ref q.1))))) : WCall C A (.ref 23) [.ref a, .ref q.1] [] H Q := by
  have hm : xs.Pairwise (fun p r => decide (r.2 ≤ q.2) = true → decide (p.2 ≤ q.2) = true) := List.Pairwise.imp (fun {p r} hpq hq => by simp at *; omega) hs
  have hb : bis (fun i => !((xs[i]?).elim false fun p => decide (p.2 ≤ q.2))) 0 xs.length = xs.countP (fun p => decide (p.2 ≤ q.2)) := by
    have := bis_part (f := fun i => !((xs[i]?).elim false fun p => decide (p.2 ≤ q.2))) (lo := 0) (hi := xs.length) hm (by simp) (fun j y hj => by show (!((xs[0 + j]?).elim false fun p => decide (p.2 ≤ q.2))) = _; rw [Nat.zero_add, hj]; rfl)
    rw [this, Nat.zero_add]
  have hc := List.countP_le_length (p := fun p => decide (p.2 ≤ q.2)) (l := xs)
  refine ir_core hK hlen hbr hh (by omega) (fun i => !((xs[i]?).elim false fun p => decide (p.2 ≤ q.2))) (bind2n hK 23 (by simp)) (hi := xs.length) ha (by rw [pref_len]; exact hz) (by rw [hb, pref_len]; exact hc) (.inl ⟨rfl, by rw [pref_len]⟩) (.inl ⟨rfl, fun A' A'' h1 h2 i v _ _ hv => ?_⟩) (by rw [hb]; exact hQ)
  obtain ⟨p, hp, rfl⟩ := pref_at hv
  show LtOk C A'' H _ _ (!((xs[i]?).elim false fun p => decide (p.2 ≤ q.2)))
  rw [hp]
  show LtOk C A'' H _ _ (!decide (p.2 ≤ q.2))
  rw [dle]
  exact LtOk.one hq (hI p (List.mem_of_getElem? hp)) (by have := (Sm.nx2 h1 h2 hh hdep hu).2.2; omega)
/-! ## the keys -/
theorem keyW {L g c' : Addr} {ctv : Value} {p : It} (hS : Sm A) (hg : H g = some (.fn (lamF C (env06 P L) (lamW P) c' ctv))) (hc : H c' = some (.code ((env06 P L).qual ++ "<lambda>"))) (ha : IsIt H p) : KeyOk C A H g (.ref p.1) (.int p.2.2) := by
  refine WCall.lam (bs := [("one", .ref p.1)]) hg hS.2.1 rfl rfl hc (noCell rfl) ?_ (allLocal rfl) ?_
  · intro vals e
    obtain ⟨x, rfl, ex⟩ := vals1 e
    exact ⟨[("one", x)], by kernel_rfl, by show [(_, ab x)] = _; rw [ex]⟩
  · intro L' hL'
    exact WE.of (Ev.item (k := 1) (Ev.local ⟨rfl, rfl, rfl, hS.1⟩ rfl rfl) Ev.int ha rfl (by omega) rfl) ⟨rfl, rfl⟩
theorem keyI {L g c' : Addr} {ctv : Value} {p : It} (hS : Sm A) (hg : H g = some (.fn (lamF C (env06 P L) (lamI P) c' ctv))) (hc : H c' = some (.code ((env06 P L).qual ++ "<lambda>"))) (ha : IsIt H p) : KeyOk C A H g (.ref p.1) (.int p.2.2) := by
  refine WCall.lam (bs := [("one", .ref p.1)]) hg hS.2.1 rfl rfl hc (noCell rfl) ?_ (allLocal rfl) ?_
  · intro vals e
    obtain ⟨x, rfl, ex⟩ := vals1 e
    exact ⟨[("one", x)], by kernel_rfl, by show [(_, ab x)] = _; rw [ex]⟩
  · intro L' hL'
    exact WE.of (Ev.item (k := 1) (Ev.local ⟨rfl, rfl, rfl, hS.1⟩ rfl rfl) Ev.int ha rfl (by omega) rfl) ⟨rfl, rfl⟩
theorem keyS {L g c' : Addr} {ctv : Value} {p : It} (hS : Sm A) (hg : H g = some (.fn (lamF C (env06 P L) (lamS P) c' ctv))) (hc : H c' = some (.code ((env06 P L).qual ++ "<lambda>"))) (ha : IsIt H p) : KeyOk C A H g (.ref p.1) (.int p.2.2) := by
  refine WCall.lam (bs := [("one", .ref p.1)]) hg hS.2.1 rfl rfl hc (noCell rfl) ?_ (allLocal rfl) ?_
  · intro vals e
    obtain ⟨x, rfl, ex⟩ := vals1 e
    exact ⟨[("one", x)], by kernel_rfl, by show [(_, ab x)] = _; rw [ex]⟩
  · intro L' hL'
    exact WE.of (Ev.item (k := 1) (Ev.local ⟨rfl, rfl, rfl, hS.1⟩ rfl rfl) Ev.int ha rfl (by omega) rfl) ⟨rfl, rfl⟩
theorem keyD {L g c' : Addr} {ctv : Value} {p : PI} (hS : Sm A) (hg : H g = some (.fn (lamF C (env06 P L) (lamD P) c' ctv))) (hc : H c' = some (.code ((env06 P L).qual ++ "<lambda>"))) (ha : IsOne H p) : KeyOk C A H g (.ref p.1) (.int p.2) := by
  refine WCall.lam (bs := [("one", .ref p.1)]) hg hS.2.1 rfl rfl hc (noCell rfl) ?_ (allLocal rfl) ?_
  · intro vals e
    obtain ⟨x, rfl, ex⟩ := vals1 e
    exact ⟨[("one", x)], by kernel_rfl, by show [(_, ab x)] = _; rw [ex]⟩
  · intro L' hL'
    exact WE.of (Ev.item (k := 0) (Ev.local ⟨rfl, rfl, rfl, hS.1⟩ rfl rfl) Ev.int ha rfl (by omega) rfl) ⟨rfl, rfl⟩
end
end Mine

set_option maxHeartbeats 4000000
namespace Mine
open PySem PySem.W PyProof.Rows

/-! ## what stands on the heap -/
def fc06 : List Nat := [2, 5, 7, 8, 9]
structure J06 (P : Params) (L PT WA LA OA RA : Addr) (ps : List PA) (ws : List Int) (lk : List LK) (os rs : List PI) (H : AH) : Prop where
  pt : H PT = some (.list (prefs ps))
  pp : ∀ p ∈ ps, IsPr H p
  wa : H WA = some (.list (vints ws))
  la : H LA = some (.list (lrefs lk))
  lh : ∀ e ∈ lk, H e.1 = some (.list (refs e.2))
  li : ∀ e ∈ lk, ∀ p ∈ e.2, IsIt H p
  oa : H OA = some (.list (pref os))
  oo : ∀ p ∈ os, IsOne H p
  ra : H RA = some (.list (pref rs))
  rr : ∀ p ∈ rs, p ∈ os
  c4 : H (L + 4) = some (.cell (some (.ref PT)))
  c6 : H (L + 6) = some (.cell (some (.ref RA)))
  cf : ∀ i ∈ fc06, ∃ v, H (L + i) = some (.cell v)
  t : Tab H 34 ((env06 P L).qual ++ "<lambda>")
  nd : (PT :: WA :: LA :: OA :: RA :: lk.map (·.1)).Nodup
theorem list_set_self {α : Type} : ∀ {l : List α} {k : Nat} {x : α}, l[k]? = some x → l.set k x = l
  | _ :: _, 0, _, h => by simp at h; simp [h]
  | _ :: l, k + 1, x, h => by simp at h; simp [list_set_self (l := l) (by simpa using h)]
theorem nodup_at {l : List LK} (h : (l.map (·.1)).Nodup) {i j : Nat} (hi : i < l.length) (hj : j < l.length) (e : (l[i]).1 = (l[j]).1) : i = j := by
  have pa := List.pairwise_iff_getElem.mp (List.pairwise_map.mp h)
  rcases Nat.lt_trichotomy i j with w | w | w
  · exact absurd e (pa i j hi hj w)
  · exact w
  · exact absurd e.symm (pa j i hj hi w)
section
variable {P : Params} {H : AH} {L PT WA LA OA RA : Addr} {ps : List PA} {ws : List Int} {lk : List LK} {os rs : List PI}
theorem J06.up {H' : AH} (h : J06 P L PT WA LA OA RA ps ws lk os rs H) (k : ∀ a o, H a = some o → (∀ es, o ≠ .tab es) → H' a = some o) (t : Tab H' 34 ((env06 P L).qual ++ "<lambda>")) : J06 P L PT WA LA OA RA ps ws lk os rs H' :=
  ⟨k _ _ h.pt (by simp), fun p hp => k _ _ (h.pp p hp) (by simp), k _ _ h.wa (by simp), k _ _ h.la (by simp), fun e he => k _ _ (h.lh e he) (by simp), fun e he p hp => k _ _ (h.li e he p hp) (by simp), k _ _ h.oa (by simp), fun p hp => k _ _ (h.oo p hp) (by simp), k _ _ h.ra (by simp), h.rr, k _ _ h.c4 (by simp), k _ _ h.c6 (by simp), fun i hi => let ⟨v, e⟩ := h.cf i hi; ⟨v, k _ _ e (by simp)⟩, t, h.nd⟩
theorem J06.grow {H' : AH} (h : J06 P L PT WA LA OA RA ps ws lk os rs H) (k : H.le H') : J06 P L PT WA LA OA RA ps ws lk os rs H' := h.up (fun a o e _ => k a o e) (h.t.le k)
theorem J06.nt {a : Addr} {o : O} (h : J06 P L PT WA LA OA RA ps ws lk os rs H) (e : H a = some o) (ho : ∀ es, o ≠ .tab es) : a ≠ 34 := fun q => by
  obtain ⟨es, e1, _⟩ := h.t
  rw [q, e1] at e
  exact ho es (Option.some.inj e).symm
theorem J06.cell (h : J06 P L PT WA LA OA RA ps ws lk os rs H) {i : Nat} (hi : i ∈ fc06) {v : Option V} : J06 P L PT WA LA OA RA ps ws lk os rs (H.set (L + i) (.cell v)) := by
  obtain ⟨w, hc⟩ := h.cf i hi
  have s : ∀ {a : Addr} {o : O}, H a = some o → (∀ w, o ≠ .cell w) → (H.set (L + i) (.cell v)) a = some o := fun e hn => by rw [AH.set_ne _ _ (fun q => by rw [q, hc] at e; exact hn _ (Option.some.inj e).symm)]; exact e
  have ne : ∀ j, j ≠ i → L + j ≠ L + i := fun j hj => addr_ne L j i (by simpa using hj)
  have n4 : 4 ≠ i := by rintro rfl; revert hi; decide
  have n6 : 6 ≠ i := by rintro rfl; revert hi; decide
  refine ⟨s h.pt (by simp), fun p hp => s (h.pp p hp) (by simp), s h.wa (by simp), s h.la (by simp), fun e he => s (h.lh e he) (by simp), fun e he p hp => s (h.li e he p hp) (by simp), s h.oa (by simp), fun p hp => s (h.oo p hp) (by simp), s h.ra (by simp), h.rr, by rw [AH.set_ne _ _ (ne 4 n4)]; exact h.c4, by rw [AH.set_ne _ _ (ne 6 n6)]; exact h.c6, fun j hj => ?_, let ⟨es, e1, e2⟩ := h.t; ⟨es, s e1 (by simp), fun e he => s (e2 e he) (by simp)⟩, h.nd⟩
  by_cases q : j = i
  · subst q; exact ⟨_, AH.set_same ..⟩
  · obtain ⟨u, e⟩ := h.cf j hj
    exact ⟨u, by rw [AH.set_ne _ _ (ne j q)]; exact e⟩
theorem J06.rose (h : J06 P L PT WA LA OA RA ps ws lk os rs H) {rs' : List PI} (hr : ∀ p ∈ rs', p ∈ os) : J06 P L PT WA LA OA RA ps ws lk os rs' (H.set RA (.list (pref rs'))) := by
  have s : ∀ {a : Addr} {o : O}, H a = some o → (∀ vs, o ≠ .list vs) → (H.set RA (.list (pref rs'))) a = some o := fun e hn => by rw [AH.set_ne _ _ (fun q => by rw [q, h.ra] at e; exact hn _ (Option.some.inj e).symm)]; exact e
  have nd := h.nd
  simp only [List.nodup_cons, List.mem_cons, not_or] at nd
  obtain ⟨⟨a1, a2, a3, a4, a5⟩, ⟨b1, b2, b3, b4⟩, ⟨c1, c2, c3⟩, ⟨d1, d2⟩, e1, e2⟩ := nd
  have shp : ∀ {a : Addr} {n : Int} {r : List V}, H a = some (.list (.int n :: r)) → a ≠ RA := fun e q => by
    rw [q, h.ra] at e
    have e := Option.some.inj e
    injection e with e
    cases rs with
    | nil => cases e
    | cons p l => injection e with e _; cases e
  refine ⟨by rw [AH.set_ne _ _ a4]; exact h.pt, fun p hp => s (h.pp p hp) (by simp), by rw [AH.set_ne _ _ b3]; exact h.wa, by rw [AH.set_ne _ _ c2]; exact h.la, fun e he => ?_, fun e he p hp => ?_, by rw [AH.set_ne _ _ d1]; exact h.oa, fun p hp => ?_, AH.set_same .., hr, s h.c4 (by simp), s h.c6 (by simp), fun j hj => let ⟨v, e⟩ := h.cf j hj; ⟨v, s e (by simp)⟩, let ⟨es, e1, e2⟩ := h.t; ⟨es, s e1 (by simp), fun e he => s (e2 e he) (by simp)⟩, h.nd⟩
  · rw [AH.set_ne _ _ (fun q => e1 (by rw [← q]; exact List.mem_map_of_mem he))]; exact h.lh e he
  · show (H.set RA _) p.1 = _
    rw [AH.set_ne _ _ (shp (h.li e he p hp))]; exact h.li e he p hp
  · show (H.set RA _) p.1 = _
    rw [AH.set_ne _ _ (shp (h.oo p hp))]; exact h.oo p hp
theorem J06.put (h : J06 P L PT WA LA OA RA ps ws lk os rs H) {k : Nat} {e0 : LK} (hk : lk[k]? = some e0) {ks' : List It} (hI : ∀ p ∈ ks', IsIt H p) : J06 P L PT WA LA OA RA ps ws (lk.set k (e0.1, ks')) os rs (H.set e0.1 (.list (refs ks'))) := by
  have hm := List.mem_of_getElem? hk
  have s : ∀ {a : Addr} {o : O}, H a = some o → (∀ vs, o ≠ .list vs) → (H.set e0.1 (.list (refs ks'))) a = some o := fun e hn => by rw [AH.set_ne _ _ (fun q => by rw [q, h.lh e0 hm] at e; exact hn _ (Option.some.inj e).symm)]; exact e
  have hmap : (lk.set k (e0.1, ks')).map (·.1) = lk.map (·.1) := by
    rw [List.map_set]
    exact list_set_self (by rw [List.getElem?_map, hk]; rfl)
  have hlr : lrefs (lk.set k (e0.1, ks')) = lrefs lk := by
    have := congrArg (List.map V.ref) hmap
    simpa [lrefs, List.map_map, Function.comp_def] using this
  have nd := h.nd
  simp only [List.nodup_cons, List.mem_cons, not_or] at nd
  obtain ⟨⟨a1, a2, a3, a4, a5⟩, ⟨b1, b2, b3, b4⟩, ⟨c1, c2, c3⟩, ⟨d1, d2⟩, e1, e2⟩ := nd
  have im : e0.1 ∈ lk.map (·.1) := List.mem_map_of_mem hm
  have ne : ∀ {a : Addr}, a ∉ lk.map (·.1) → a ≠ e0.1 := fun ha q => ha (q ▸ im)
  have shp : ∀ {a : Addr} {n : Int} {r : List V}, H a = some (.list (.int n :: r)) → a ≠ e0.1 := fun e q => by
    rw [q, h.lh e0 hm] at e
    have e := Option.some.inj e
    injection e with e
    cases hq : e0.2 with
    | nil => rw [hq] at e; cases e
    | cons p l => rw [hq] at e; injection e with e _; cases e
  have cs : ∀ e ∈ lk.set k (e0.1, ks'), e = (e0.1, ks') ∨ (e ∈ lk ∧ e.1 ≠ e0.1) := fun e he => by
    obtain ⟨j, hj⟩ := List.getElem?_of_mem he
    rw [List.getElem?_set] at hj
    split at hj
    · split at hj
      · exact .inl (Option.some.inj hj).symm
      · cases hj
    · next w =>
      refine .inr ⟨List.mem_of_getElem? hj, fun q => w ?_⟩
      obtain ⟨h1, rfl⟩ := List.getElem?_eq_some_iff.mp hj
      obtain ⟨h2, rfl⟩ := List.getElem?_eq_some_iff.mp hk
      exact nodup_at e2 h2 h1 q.symm
  refine ⟨by rw [AH.set_ne _ _ (ne a5)]; exact h.pt, fun p hp => s (h.pp p hp) (by simp), by rw [AH.set_ne _ _ (ne b4)]; exact h.wa, by rw [AH.set_ne _ _ (ne c3), hlr]; exact h.la, fun e he => ?_, fun e he p hp => ?_, by rw [AH.set_ne _ _ (ne d2)]; exact h.oa, fun p hp => ?_, by rw [AH.set_ne _ _ (ne e1)]; exact h.ra, h.rr, s h.c4 (by simp), s h.c6 (by simp), fun j hj => let ⟨v, e⟩ := h.cf j hj; ⟨v, s e (by simp)⟩, let ⟨es, e1, e2⟩ := h.t; ⟨es, s e1 (by simp), fun e he => s (e2 e he) (by simp)⟩, by rw [hmap]; exact h.nd⟩
  · rcases cs e he with rfl | ⟨m, n⟩
    · exact AH.set_same ..
    · rw [AH.set_ne _ _ n]; exact h.lh e m
  · have : IsIt H p := by
      rcases cs e he with rfl | ⟨m, n⟩
      · exact hI p hp
      · exact h.li e m p hp
    show (H.set e0.1 _) p.1 = _
    rw [AH.set_ne _ _ (shp this)]; exact this
  · show (H.set e0.1 _) p.1 = _
    rw [AH.set_ne _ _ (shp (h.oo p hp))]; exact h.oo p hp
end
end Mine

set_option maxHeartbeats 4000000
namespace Mine
open PySem PySem.W PyProof.Rows

def vI : V → Int
  | .int k => k
  | _ => 0
theorem count_vints (ws : List Int) (x : Int) : (vints ws).countP (fun u => decide (vI u ≤ x)) = plw ws x := by
  unfold vints plw; rw [List.countP_map]; rfl
section
variable {C : Cx} {A : Around} {ρ : Lo} {H : AH} {P : Params} {L PT WA LA OA RA : Addr} {ps : List PA} {ws : List Int} {lk : List LK} {os rs : List PI} {x y : Int}
theorem ph1 (hK : (hd.heap_39 P).In C.base) (G : Gl06 C) (F : Fx C A (env06 P L)) (hdep : A.depth + 20 < recursionLimit) (hu : A.units + 300 < cLine) (hw : ws.length ≤ 40) (hws : ws.Pairwise (· < ·))
    (h : J06 P L PT WA LA OA RA ps ws lk os rs H) (hx : H (L + 2) = some (.cell (some (.int x)))) (hy : H (L + 5) = some (.cell (some (.int y)))) (rw' : ρ "widths" = some (.ref WA))
    {Q : Fl → Lo → AH → Prop} (hQ : ∀ H', J06 P L PT WA LA OA RA ps ws lk os rs H' → H' (L + 2) = some (.cell (some (.int x))) → H' (L + 5) = some (.cell (some (.int y))) → Q .next ρ H') :
    W1 C A (env06 P L) (stAt (lp06 P) 1) ρ H Q := by
  have hsz : 1000 ≤ sizeLine := by decide
  refine W1.for (WIt.range2 F (Ev.glob F rfl G.range) (Ev.neg Ev.int) Ev.int (by omega) (by omega) (by omega) (by omega) ?_)
  refine ⟨fun i ρ1 H1 => ρ1 = ρ ∧ J06 P L PT WA LA OA RA ps ws lk os rs H1 ∧ H1 (L + 2) = some (.cell (some (.int x))) ∧ H1 (L + 5) = some (.cell (some (.int y))), ⟨rfl, h, hx, hy⟩, ?_, ?_⟩
  · rintro i ρ1 H1 hi ⟨rfl, h1, hx1, hy1⟩
    refine ⟨trivial, ?_⟩
    rintro d rfl
    obtain ⟨v7, hc7⟩ := h1.cf 7 (by decide)
    refine Asg.cell F rfl rfl hc7 ?_
    generalize (-1 + (i : Int)) = m
    have h2 := h1.cell (i := 7) (by decide) (v := some (.int m))
    have hm2 : (H1.set (L + 7) (.cell (some (.int m)))) (L + 7) = some (.cell (some (.int m))) := AH.set_same ..
    have hx2 : (H1.set (L + 7) (.cell (some (.int m)))) (L + 2) = some (.cell (some (.int x))) := by rw [AH.set_ne _ _ (addr_ne L 2 7 rfl)]; exact hx1
    have hy2 : (H1.set (L + 7) (.cell (some (.int m)))) (L + 5) = some (.cell (some (.int y))) := by rw [AH.set_ne _ _ (addr_ne L 5 7 rfl)]; exact hy1
    generalize H1.set (L + 7) (.cell (some (.int m))) = H2 at *
    refine WS.cons (W1.if (WT.cmp (WE.callB (fun _ => fn_in hK 32 rfl) (Ev.glob F rfl G.br) (WEs.of (.cons (Ev.local F rfl (by exact rw')) (.cons (Ev.add (Ev.cell F rfl rfl hx2) (Ev.cell F rfl rfl hm2)) .nil)) (WKs.nil (WCall.mono (br_ints (x := x + m) hK G.len F.hh (by omega) h2.wa hws) ?_))))))
    rintro v H3 ⟨rfl, rfl⟩
    refine WE.of (Ev.lenFilter (p := fun u => decide (vI u ≤ x + m)) (cl := [("x", L + 2), ("more", L + 7)]) F (Ev.glob F rfl G.len) rfl (Ev.local F rfl (by exact rw')) h2.wa rfl (by rw [ints_length]; omega) (fun _ => rfl) (fun Cn v ρ2 hv hk => ?_)) fun y z ey ez => W.icmp (op := .NotEq) ey ez rfl ⟨rfl, _, rfl, fun e => ?_, fun e => WS.nil (WS.nil ⟨rfl, h2, hx2, hy2⟩)⟩
    · obtain ⟨k, hk', rfl⟩ := List.mem_map.mp hv
      exact EvT.icmp (op := .LtE) (Ev.local (F.comp rfl) rfl hk) (Ev.add (Ev.cell (F.comp rfl) rfl rfl hx2) (Ev.cell (F.comp rfl) rfl rfl hm2)) rfl
    · rw [count_vints] at e
      simp at e
  · rintro ρ1 H1 ⟨rfl, h1, hx1, hy1⟩
    exact ⟨trivial, hQ H1 h1 hx1 hy1⟩
theorem map_insP (xs : List PI) (k : Nat) (x : PI) : ins (pref xs) k (.ref x.1) = pref (ins xs k x) := by unfold ins pref; simp
theorem ph2 (hK : (hd.heap_39 P).In C.base) (G : Gl06 C) (F : Fx C A (env06 P L)) (hdep : A.depth + 20 < recursionLimit) (hu : A.units + 300 < cLine) (hr : rs.length ≤ 40) (hrs : rs.Pairwise (fun p q => p.2 ≤ q.2))
    (h : J06 P L PT WA LA OA RA ps ws lk os rs H) (hx : H (L + 2) = some (.cell (some (.int x)))) (hy : H (L + 5) = some (.cell (some (.int y)))) {i : Nat} {q : PI} (ri : ρ "i" = some (.int i)) (ro : ρ "ones" = some (.ref OA)) (hq : os[i]? = some q)
    {Q : Fl → Lo → AH → Prop} (hQ : ∀ H', J06 P L PT WA LA OA RA ps ws lk os (ins rs (rs.countP (fun p => decide (p.2 ≤ q.2))) q) H' → H' (L + 2) = some (.cell (some (.int x))) → H' (L + 5) = some (.cell (some (.int y))) → Q .next ρ H') :
    W1 C A (env06 P L) (stAt (lp06 P) 2) ρ H Q := by
  have hsz : 1000 ≤ sizeLine := by decide
  refine W1.if (WT.isNotNone (WE.callB (fun _ => fn_in hK 23 rfl) (Ev.glob F rfl G.ir) (WEs.of (.cons (Ev.cell F rfl rfl h.c6) (.cons (Ev.item (v := .ref q.1) (Ev.local F rfl ro) (Ev.local F rfl ri) h.oa rfl (by omega) (by rw [Int.toNat_natCast]; exact pref_get hq)) .nil)) (WKs.nil (ir_ones hK G.len G.br F.hh (by omega) (by omega) h.ra (by omega) hrs (fun p hp => h.oo p (h.rr p hp)) (h.oo q (List.mem_of_getElem? hq)) ?_)))))
  refine ⟨fun e => by simp at e, fun _ => WS.nil ?_⟩
  rw [map_insP]
  have s : ∀ {a : Addr} {v : Option V}, H a = some (.cell v) → (H.set RA (.list (pref (ins rs (rs.countP (fun p => decide (p.2 ≤ q.2))) q)))) a = some (.cell v) := fun e => by rw [AH.set_ne _ _ (fun w => by rw [w, h.ra] at e; cases e)]; exact e
  refine hQ _ (h.rose fun p hp => ?_) (s hx) (s hy)
  rcases mem_ins hp with rfl | hp
  · exact List.mem_of_getElem? hq
  · exact h.rr p hp
end
end Mine

set_option maxHeartbeats 4000000
namespace Mine
open PySem PySem.W PyProof.Rows

section
variable {C : Cx} {A : Around} {env : Env} {ρ : Lo} {H : AH}
/-- numbers told for those that pass -/
theorem comp_cnt {n : Nat} {b : Nat → Bool} {elt tgt c : Expr} {Ok : Nat → AH → Prop} {Pd : Nat → AH → Dv → Prop} {Q : AH → List V → Prop} (hn : n ≤ sizeLine) (hOk : ∀ i, Ok i H)
    (ht : ∀ i (ρ1 : Lo), i < n → ∀ d, Pd i H d → Asg C A env tgt d ρ1 H (fun ρ2 H3 => H3 = H ∧ EvT C A env ρ2 H c (b i) ∧ ∃ k, Ev C A env ρ2 H elt (.int k)))
    (hQ : ∀ ns : List Int, ns.length = (List.range n).countP b → Q H (vints ns)) :
    LoopOk C A env elt tgt [c] [] H n Ok Pd (fun _ => none) [] (fun _ H2 zs => Q H2 zs) := by
  refine ⟨fun i ρ1 H1 zs => H1 = H ∧ ∃ ns : List Int, zs = vints ns ∧ ns.length = (List.range i).countP b, ⟨rfl, [], rfl, rfl⟩, ?_, ?_⟩
  · rintro i ρ1 H1 zs hi ⟨rfl, ns, rfl, hl⟩
    refine ⟨hOk i, fun d hd => Asg.mono (ht i ρ1 hi d hd) ?_⟩
    rintro ρ2 H3 ⟨rfl, w1, k, w2⟩
    have hle := List.countP_le_length (p := b) (l := List.range i)
    rw [List.length_range] at hle
    refine WT.of w1 ⟨fun e => ⟨fun _ => WE.of w2 ⟨by rw [ints_length]; omega, rfl, ns ++ [k], by simp [vints], ?_⟩, fun e => (by cases e)⟩, fun e => ⟨fun e => (by cases e), fun _ => ⟨rfl, ns, rfl, ?_⟩⟩⟩
    · rw [List.range_succ, List.countP_append, List.length_append, hl]; simp [e]
    · rw [List.range_succ, List.countP_append, hl]; simp [e]
  · rintro ρ1 H1 zs ⟨rfl, ns, rfl, hl⟩
    exact ⟨hOk _, hQ ns hl⟩
end
def pX (ps : List PA) (t : Nat) : Int := (ps.getD t (0, 0, 0)).2.1
def pY (ps : List PA) (t : Nat) : Int := (ps.getD t (0, 0, 0)).2.2
theorem at_ps {ps : List PA} {i : Nat} {p : PA} (h : ps[i]? = some p) : pX ps i = p.2.1 ∧ pY ps i = p.2.2 := by
  unfold pX pY; rw [List.getD_eq_getElem?_getD, h]; exact ⟨rfl, rfl⟩
/-- of the points that came ahead those of the stretch -/
def sel6 (ps : List PA) (ws : List Int) (i k : Nat) (t : Nat) : Bool := decide (t < i) && (decide (k - lb k < plw ws (pX ps t)) && decide (plw ws (pX ps t) ≤ k))
def AllKO (ps : List PA) (ws : List Int) (i : Nat) (lk : List LK) : Prop := ∀ (k : Nat) e, lk[k]? = some e → 1 ≤ k → KO ps.length (pY ps) (sel6 ps ws i k) e.2
structure Lo6 (WA LA OA : Addr) (i : Nat) (ρ : Lo) : Prop where
  w : ρ "widths" = some (.ref WA)
  l : ρ "lists" = some (.ref LA)
  o : ρ "ones" = some (.ref OA)
  i : ρ "i" = some (.int i)
def cnt6 (ps : List PA) (ws : List Int) (i n p : Nat) (y : Int) : Nat := (List.range ps.length).countP fun t => decide (t < i) && (decide (n < plw ws (pX ps t)) && (decide (plw ws (pX ps t) ≤ p) && decide (pY ps t ≤ y)))
theorem cnt6_step {ps : List PA} {ws : List Int} {i n p : Nat} {y : Int} {ks : List It} (h : KO ps.length (pY ps) (sel6 ps ws i n) ks) (hn : n ≤ p) : cnt6 ps ws i n p y + ks.countP (fun q => decide (gx q ≤ y)) = cnt6 ps ws i (n - lb n) p y := by
  have h1 := h.count (fun z => decide (z ≤ y))
  unfold gx
  rw [h1]
  unfold cnt6 sel6
  rw [countP_or]
  · apply List.countP_congr
    intro t _
    simp only [Bool.and_eq_true, Bool.or_eq_true, decide_eq_true_eq]
    omega
  · intro t _ a b
    simp only [Bool.and_eq_true, decide_eq_true_eq] at a b
    omega
theorem cnt6_zero (ps : List PA) (ws : List Int) (i p : Nat) (y : Int) : cnt6 ps ws i p p y = 0 := by
  unfold cnt6
  rw [List.countP_eq_zero]
  intro t _
  simp only [Bool.and_eq_true, decide_eq_true_eq]
  omega
theorem cnt6_all {ps : List PA} {ws : List Int} {i : Nat} {x y : Int} (hi : i ≤ ps.length) (hm : ∀ p ∈ ps, p.2.1 ∈ ws) : cnt6 ps ws i 0 (plw ws x) y = (List.range i).countP (fun t => decide (pX ps t ≤ x) && (decide (pY ps t ≤ y) && true)) := by
  unfold cnt6
  rw [← count_range_lt (n := ps.length) _ hi]
  apply List.countP_congr
  intro t ht
  have ht' : t < ps.length := by simpa using ht
  obtain ⟨p, hp⟩ : ∃ p, ps[t]? = some p := ⟨_, List.getElem?_eq_getElem ht'⟩
  have hx : pX ps t ∈ ws := by rw [(at_ps hp).1]; exact hm p (List.mem_of_getElem? hp)
  have h1 := plw_pos hx
  have h2 := plw_iff (y := x) hx
  simp only [Bool.and_eq_true, decide_eq_true_eq, h2, and_true]
  omega
section
variable {C : Cx} {A : Around} {ρ : Lo} {H : AH} {P : Params} {L PT WA LA OA RA : Addr} {ps : List PA} {ws : List Int} {lk : List LK} {os rs : List PI} {x y : Int}
theorem ph3 (hK : (hd.heap_39 P).In C.base) (G : Gl06 C) (F : Fx C A (env06 P L)) (hdep : A.depth + 20 < recursionLimit) (hu : A.units + 300 < cLine) (hbm : Bm C) (hC : CodeHd C.base 36 34) (hp40 : ps.length ≤ 36) (hw : ws.length ≤ 36) (hll : lk.length = ws.length + 1) (hws : ws.Pairwise (· < ·)) (hm : ∀ p ∈ ps, p.2.1 ∈ ws)
    (h : J06 P L PT WA LA OA RA ps ws lk os rs H) (hx : H (L + 2) = some (.cell (some (.int x)))) (hy : H (L + 5) = some (.cell (some (.int y)))) {i : Nat} (hi : i ≤ ps.length) (hr : Lo6 WA LA OA i ρ) (hko : AllKO ps ws i lk)
    {Q : Fl → Lo → AH → Prop} (hQ : ∀ ρ' H', J06 P L PT WA LA OA RA ps ws lk os rs H' → H' (L + 2) = some (.cell (some (.int x))) → H' (L + 5) = some (.cell (some (.int y))) → Lo6 WA LA OA i ρ' → ρ' "place" = some (.int (plw ws x : Nat)) → WS C A (env06 P L) ((lp06 P).drop 7) ρ' H' Q) :
    WS C A (env06 P L) ((lp06 P).drop 3) ρ H Q := by
  have hsz : 1000 ≤ sizeLine := by decide
  have hpw := plw_le ws x
  generalize hpl : plw ws x = pl at *
  refine WS.seq (W1.asg2 (WE.callB (fun _ => fn_in hK 32 rfl) (Ev.glob F rfl G.br) (WEs.of (.cons (Ev.local F rfl hr.w) (.cons (Ev.cell F rfl rfl hx) .nil)) (WKs.nil (WCall.mono (br_ints (x := x) hK G.len F.hh (by omega) h.wa hws) ?_)))))
  rintro v H1 ⟨rfl, rfl⟩
  rw [hpl]
  refine Asg.local F rfl (Asg.local F rfl ⟨rfl, ?_⟩)
  refine WS.seq (W1.asgLocal F rfl (WE.of Ev.int ⟨rfl, ?_⟩))
  refine WS.seq (W1.while F (fun n ρ1 H2 => ∃ c : Nat, ρ1 "k" = some (.int (n : Nat)) ∧ ρ1 "count" = some (.int (c : Nat)) ∧ ρ1 "place" = some (.int (pl : Nat)) ∧ Lo6 WA LA OA i ρ1 ∧ J06 P L PT WA LA OA RA ps ws lk os rs H2 ∧ H2 (L + 2) = some (.cell (some (.int x))) ∧ H2 (L + 5) = some (.cell (some (.int y))) ∧ n ≤ pl ∧ c = cnt6 ps ws i n pl y) pl ⟨0, rfl, rfl, rfl, ⟨hr.w, hr.l, hr.o, hr.i⟩, h, hx, hy, Nat.le_refl _, (cnt6_zero ..).symm⟩ ?_)
  rintro n ρ1 H2 ⟨c, rk, rc, rp, hr1, h2, hx2, hy2, hn, hc⟩
  refine WT.of (EvT.icmp (op := .Gt) (Ev.local F rfl rk) Ev.int rfl) ⟨fun e => ?_, fun e => ?_⟩
  · have hn1 : 0 < n := by simpa using e
    obtain ⟨b1, b2, b3⟩ := lb_at hn1 (by omega)
    obtain ⟨e0, he0⟩ : ∃ e0, lk[n]? = some e0 := ⟨_, List.getElem?_eq_getElem (by omega)⟩
    have hko0 := hko n e0 he0 hn1
    have hm0 := List.mem_of_getElem? he0
    refine WS.seq (W1.augAddE F rfl rc (WE.callB (fun _ => fn_in hK 32 rfl) (Ev.glob F rfl G.br) (WEs.of (.cons (Ev.item (v := .ref e0.1) (Ev.local F rfl hr1.l) (Ev.local F rfl rk) h2.la rfl (by omega) (by rw [Int.toNat_natCast]; exact lrefs_get he0)) (.cons (Ev.cell F rfl rfl hy2) .nil)) (WKs.one (WE.lamT F hbm rfl hC h2.t fun H3 g c' ctv up tb hg hc' hgn nn => ?_)))))
    have h3 : J06 P L PT WA LA OA RA ps ws lk os rs H3 := h2.up (fun a o e hn => up a o e (h2.nt e hn)) tb
    have hx3 := up _ _ hx2 (h2.nt hx2 (by simp))
    have hy3 := up _ _ hy2 (h2.nt hy2 (by simp))
    refine WCall.mono (br_key (x := y) hK G.len F.hh (by omega) (by omega) (h3.lh e0 hm0) hko0.srtBy ⟨rfl, .inr ⟨hg, rfl⟩⟩ (fun A' hS q hq => keyW hS hg hc' (h3.li e0 hm0 q hq))) ?_
    rintro v H4 ⟨rfl, rfl⟩
    refine ⟨_, rfl, rfl, ?_⟩
    refine WS.cons (W1.augSub F rfl (by exact rk) (Ev.band (Ev.local F rfl (by exact rk)) (Ev.neg (Ev.local F rfl (by exact rk)))) ?_)
    rw [b1]
    refine WS.nil ⟨n - lb n, by omega, c + e0.2.countP (fun q => decide (gx q ≤ y)), ?_, ?_, rp, ⟨hr1.w, hr1.l, hr1.o, hr1.i⟩, h3, hx3, hy3, by omega, ?_⟩
    · show some (V.int ((n : Int) - (lb n : Int))) = _
      rw [Int.ofNat_sub b3]
    · show some (V.int ((c : Int) + (e0.2.countP (fun q => decide (gx q ≤ y)) : Nat))) = _
      rw [Int.natCast_add]
    · rw [hc]; exact cnt6_step hko0 hn
  · have hn0 : n = 0 := by have : ¬ ((n : Int) > 0) := by simpa using e
                           omega
    subst hn0
    refine ⟨rfl, ?_⟩
    rw [← hpl, cnt6_all hi hm] at hc
    -- the test
    refine WS.cons (W1.if (WT.cmp (WE.of (Ev.local F rfl rc) (WE.callBi (Ev.glob F rfl G.len) (WEs.cons (WE.listComp (cl := [("y", L + 5), ("x", L + 2)]) rfl (WIt.list F (WE.slice (lo := Option.none) (hi := some (i : Int)) (WE.of (Ev.cell F rfl rfl h2.c4) ⟨PT, _, _, rfl, h2.pt, rfl, .none, .some (Ev.local F rfl hr1.i), fun cc hcc => ⟨cc, _, _, rfl, AH.set_same .., rfl, fun Cn hCn => ?_⟩⟩)))))))))
    have hslc : slc none (some (i : Int)) (prefs ps) = prefs (ps.take i) := by
      rw [slc_take _ _ (by rw [prefs_len]; omega)]; unfold prefs; rw [List.map_take]
    have leC : H2.le (H2.set cc (.list (slc none (some (i : Int)) (prefs ps)))) := AH.le_set (AH.le_refl _) hcc
    have eC : (H2.set cc (.list (slc none (some (i : Int)) (prefs ps)))) cc = some (.list (slc none (some (i : Int)) (prefs ps))) := AH.set_same ..
    rw [hslc] at *
    have h3 := h2.grow leC
    have hx3 := leC _ _ hx2
    have hy3 := leC _ _ hy2
    generalize H2.set cc (.list (prefs (ps.take i))) = H3 at *
    have hlt : (prefs (ps.take i)).length = i := by rw [prefs_len, List.length_take]; omega
    refine comp_cnt (b := fun t => decide (pX ps t ≤ x) && (decide (pY ps t ≤ y) && true)) (by rw [hlt]; omega) (fun _ => eC) (fun j ρ2 hj d hd => ?_) (fun ns hns => ?_)
    · obtain ⟨u, hu1, rfl⟩ := hd
      obtain ⟨p, hp, rfl⟩ := prefs_at hu1
      rw [hlt] at hj
      rw [List.getElem?_take, if_pos hj] at hp
      rw [(at_ps hp).1, (at_ps hp).2]
      refine Asg.of_tup (h3.pp p (List.mem_of_getElem? hp)) (Asg.tuple (F.comp rfl) rfl rfl (Asg.local (F.comp rfl) rfl (Asg.local (F.comp rfl) rfl ⟨rfl, ?_, _, Ev.local (F.comp rfl) rfl rfl⟩)))
      exact EvT.boolop (AllT.and_cons (EvT.icmp (op := .LtE) (Ev.local (F.comp rfl) rfl rfl) (Ev.cell (F.comp rfl) rfl rfl hx3) rfl) fun _ => AllT.and_cons (EvT.icmp (op := .LtE) (Ev.local (F.comp rfl) rfl rfl) (Ev.cell (F.comp rfl) rfl rfl hy3) rfl) fun _ => AllT.and_nil)
    intro D hD
    have leD : H3.le (H3.set D (.list (vints ns))) := AH.le_set (AH.le_refl _) hD
    refine WEs.nil (WKs.nil (WCall.len (AH.set_same ..) rfl ?_))
    rw [ints_length, hns, hlt, ← hc]
    intro y' z ey ez
    refine W.icmp (op := .NotEq) ey ez rfl ⟨rfl, _, rfl, fun e => by simp at e, fun _ => WS.nil ?_⟩
    exact hQ _ _ (h3.grow leD) (leD _ _ hx3) (leD _ _ hy3) hr1 rp
end
end Mine

set_option maxHeartbeats 4000000
namespace Mine
open PySem PySem.W PyProof.Rows

section
variable {C : Cx} {A : Around} {ρ : Lo} {H : AH} {P : Params} {L PT WA LA OA RA : Addr} {ps : List PA} {ws : List Int} {lk : List LK} {os rs : List PI} {x y : Int}
theorem ph4 (hK : (hd.heap_39 P).In C.base) (G : Gl06 C) (F : Fx C A (env06 P L)) (hdep : A.depth + 20 < recursionLimit) (hu : A.units + 300 < cLine) (hbm : Bm C) (hC : CodeHd C.base 36 34) (hp40 : ps.length ≤ 36) (hw : ws.length ≤ 36) (hll : lk.length = ws.length + 1)
    (h : J06 P L PT WA LA OA RA ps ws lk os rs H) {i : Nat} (hi : i < ps.length) (hxi : pX ps i = x) (hyi : pY ps i = y) (hy : H (L + 5) = some (.cell (some (.int y)))) (hr : Lo6 WA LA OA i ρ) (rp : ρ "place" = some (.int (plw ws x : Nat))) (hko : AllKO ps ws i lk)
    {Q : Fl → Lo → AH → Prop} (hQ : ∀ ρ' H' lk', J06 P L PT WA LA OA RA ps ws lk' os rs H' → lk'.length = ws.length + 1 → AllKO ps ws (i + 1) lk' → Lo6 WA LA OA i ρ' → Q .next ρ' H') :
    WS C A (env06 P L) ((lp06 P).drop 7) ρ H Q := by
  have hsz : 1000 ≤ sizeLine := by decide
  have hpw := plw_le ws x
  generalize hpl : plw ws x = pl at *
  refine WS.seq (W1.for (WIt.range2 (a := 1) (b := ((ws.length + 1 : Nat) : Int)) F (Ev.glob F rfl G.range) Ev.int (Ev.as (Ev.len (Ev.glob F rfl G.len) (Ev.local F rfl hr.l) h.la rfl) (by rw [lrefs_len, hll])) (by omega) (by omega) (by omega) (by omega) ?_))
  have hcnt : (((ws.length + 1 : Nat) : Int) - 1).toNat = ws.length := by omega
  rw [hcnt]
  refine ⟨fun j ρ1 H1 => ∃ lk', J06 P L PT WA LA OA RA ps ws lk' os rs H1 ∧ lk'.length = ws.length + 1 ∧ (∀ (k : Nat) e, lk'[k]? = some e → 1 ≤ k → KO ps.length (pY ps) (sel6 ps ws (if k < 1 + j then i + 1 else i) k) e.2) ∧ H1 (L + 5) = some (.cell (some (.int y))) ∧ Lo6 WA LA OA i ρ1 ∧ ρ1 "place" = some (.int (pl : Nat)), ⟨lk, h, hll, fun k e he hk => by rw [if_neg (by omega)]; exact hko k e he hk, hy, hr, rp⟩, ?_, ?_⟩
  · rintro j ρ1 H1 hj ⟨lk1, h1, hl1, ho1, hy1, hr1, rp1⟩
    refine ⟨trivial, ?_⟩
    rintro d rfl
    refine Asg.local F rfl ?_
    rw [show (1 : Int) + (j : Int) = ((1 + j : Nat) : Int) by omega]
    generalize hkk : 1 + j = k at *
    obtain ⟨b1, b2, b3⟩ := lb_at (k := k) (by omega) (by omega)
    obtain ⟨e0, he0⟩ : ∃ e0, lk1[k]? = some e0 := ⟨_, List.getElem?_eq_getElem (by omega)⟩
    have hm0 := List.mem_of_getElem? he0
    have hko0 : KO ps.length (pY ps) (sel6 ps ws i k) e0.2 := by have := ho1 k e0 he0 (by omega); rw [if_neg (by omega)] at this; exact this
    have hkl := hko0.len
    have hoth : ∀ (k' : Nat), k' ≠ k → (if k' < 1 + (j + 1) then i + 1 else i) = (if k' < k then i + 1 else i) := fun k' hk' => by
      by_cases q : k' < k
      · rw [if_pos q, if_pos (by omega)]
      · rw [if_neg q, if_neg (by omega)]
    refine WS.cons (W1.if (WT.of (EvT.chain2 (op1 := .Lt) (op2 := .LtE) (Ev.sub (Ev.local F rfl rfl) (Ev.as (Ev.band (Ev.local F rfl rfl) (Ev.neg (Ev.local F rfl rfl))) (congrArg V.int b1))) (Ev.local F rfl (by exact rp1)) (Ev.local F rfl rfl) rfl rfl) ⟨fun e => ?_, fun e => WS.nil (WS.nil ⟨lk1, h1, hl1, fun k' e' he' hk' => ?_, hy1, ⟨hr1.w, hr1.l, hr1.o, hr1.i⟩, rp1⟩)⟩))
    · simp only [Bool.and_eq_true, decide_eq_true_eq] at e
      refine WS.cons (W1.expr F (WE.callB (fun _ => fn_in hK 23 rfl) (Ev.glob F rfl G.ir) (WEs.cons (WE.of (Ev.item (v := .ref e0.1) (Ev.local F rfl (by exact hr1.l)) (Ev.local F rfl rfl) h1.la rfl (by omega) (by rw [Int.toNat_natCast]; exact lrefs_get he0)) (WEs.cons (WE.list rfl (by decide) (WEs.of (.cons (Ev.local F rfl (by exact hr1.i)) (.cons (Ev.cell F rfl rfl hy1) .nil)) fun I hI => WEs.nil (WKs.one (WE.lamT F hbm rfl hC (h1.grow (AH.le_set (AH.le_refl _) hI)).t fun H2 g c' ctv up tb hg hc' hgn nn => ?_)))))))))
      have leI : H1.le (H1.set I (.list [.int i, .int y])) := AH.le_set (AH.le_refl _) hI
      have h2 := h1.grow leI
      have h3 : J06 P L PT WA LA OA RA ps ws lk1 os rs H2 := h2.up (fun a o e hn => up a o e (h2.nt e hn)) tb
      have hI3 : H2 I = some (.list [.int i, .int y]) := up _ _ (AH.set_same ..) (h2.nt (AH.set_same ..) (by simp))
      have hy3 := up _ _ (leI _ _ hy1) (h2.nt (leI _ _ hy1) (by simp))
      refine ir_key (x := y) (xs := e0.2) (I := I) hK G.len G.br F.hh (by omega) (by omega) (h3.lh e0 hm0) (by omega) hko0.srtBy ⟨rfl, .inr ⟨hg, rfl⟩⟩ (fun A' hS q hq => keyI hS hg hc' (h3.li e0 hm0 q hq)) (fun A' hS => keyI (p := (I, (i : Int), y)) hS hg hc' hI3) ⟨(by intro a e; cases e), ?_⟩
      have hins := hko0.ins hi (fun t ht hst => by
        unfold sel6 at hst
        simp only [Bool.and_eq_true, decide_eq_true_eq] at hst
        exact hst.1) I
      rw [hyi] at hins
      rw [show V.ref I = V.ref (I, (i : Int), y).1 from rfl, ins_refs]
      refine WS.nil (WS.nil ⟨_, h3.put he0 (fun q hq => ?_), by rw [List.length_set]; exact hl1, fun k' e' he' hk' => ?_, ?_, ⟨hr1.w, hr1.l, hr1.o, hr1.i⟩, rp1⟩)
      · rcases mem_ins hq with rfl | hq
        · exact hI3
        · exact h3.li e0 hm0 q hq
      · rw [List.getElem?_set] at he'
        by_cases q : k' = k
        · subst q
          rw [if_pos rfl, if_pos (by omega)] at he'
          cases he'
          rw [if_pos (by omega)]
          refine hins.congr fun t ht => ?_
          unfold sel6
          by_cases q : t = i
          · subst q
            rw [hxi, hpl]
            have c1 : decide (t < t + 1) = true := decide_eq_true (by omega)
            have c2 : decide (k' - lb k' < pl) = true := decide_eq_true (by omega)
            have c3 : decide (pl ≤ k') = true := decide_eq_true (by omega)
            rw [c1, c2, c3]; simp
          · have : decide (t < i + 1) = decide (t < i) := by congr 1; apply propext; omega
            rw [this]; simp [q]
        · rw [if_neg (fun w => q w.symm)] at he'
          rw [hoth k' q]
          exact ho1 k' e' he' hk'
      · rw [AH.set_ne _ _ (fun q => by rw [q, h3.lh e0 hm0] at hy3; cases hy3)]; exact hy3
    · have e' : ¬ (((k : Int) - (lb k : Int) < (pl : Int)) ∧ (pl : Int) ≤ (k : Int)) := by
        intro w
        rw [decide_eq_true w.1, decide_eq_true w.2] at e; cases e
      by_cases q : k' = k
      · subst q
        rw [he0] at he'; cases he'
        rw [if_pos (by omega)]
        refine hko0.congr fun t ht => ?_
        unfold sel6
        by_cases q : t = i
        · subst q
          rw [hxi, hpl]
          have c1 : decide (t < t) = false := decide_eq_false (by omega)
          have c2 : (decide (k' - lb k' < pl) && decide (pl ≤ k')) = false := by
            rw [Bool.and_eq_false_iff]
            by_cases w : k' - lb k' < pl
            · exact .inr (decide_eq_false (by omega))
            · exact .inl (decide_eq_false w)
          rw [c1, c2]; simp
        · have : decide (t < i + 1) = decide (t < i) := by congr 1; apply propext; omega
          rw [this]
      · rw [hoth k' q]
        exact ho1 k' _ he' hk'
  · rintro ρ1 H1 ⟨lk1, h1, hl1, ho1, hy1, hr1, rp1⟩
    refine ⟨trivial, rfl, WS.nil (hQ ρ1 H1 lk1 h1 hl1 (fun k e he hk => ?_) hr1)⟩
    have := ho1 k e he hk
    have hk2 : k < lk1.length := (List.getElem?_eq_some_iff.mp he).1
    rw [if_pos (by omega)] at this
    exact this
end
end Mine

set_option maxHeartbeats 4000000
namespace Mine
open PySem PySem.W PyProof.Rows

/-- the heights laid so far, each in its own list -/
def RS (ps : List PA) (os : List PI) (i : Nat) (rs : List PI) : Prop := ∃ its : List It, rs = its.map (fun p => (p.1, p.2.2)) ∧ KO ps.length (pY ps) (fun t => decide (t < i)) its ∧ ∀ p ∈ its, os[p.2.1.toNat]? = some (p.1, p.2.2)
theorem RS.ins {ps : List PA} {os rs : List PI} {i : Nat} {q : PI} (h : RS ps os i rs) (hi : i < ps.length) (hq : os[i]? = some q) (hy : pY ps i = q.2) : RS ps os (i + 1) (Mine.ins rs (rs.countP (fun p => decide (p.2 ≤ q.2))) q) := by
  obtain ⟨its, rfl, ho, hm⟩ := h
  have hins := ho.ins hi (fun t _ ht => by simpa using ht) q.1
  rw [hy] at hins
  refine ⟨_, ?_, hins.congr fun t ht => ?_, fun p hp => ?_⟩
  · have hc : (its.map (fun p : It => ((p.1, p.2.2) : PI))).countP (fun p => decide (p.2 ≤ q.2)) = its.countP (fun p => decide (gx p ≤ q.2)) := by rw [List.countP_map]; rfl
    rw [hc]
    unfold Mine.ins
    simp
  · by_cases q' : t = i
    · subst q'; simp
    · have : decide (t < i + 1) = decide (t < i) := by congr 1; apply propext; omega
      rw [this]; simp [q']
  · rcases mem_ins hp with rfl | hp
    · show os[((i : Int)).toNat]? = _
      rw [Int.toNat_natCast, hq]
    · exact hm p hp
theorem RS.len {ps : List PA} {os rs : List PI} {i : Nat} (h : RS ps os i rs) : rs.length ≤ ps.length := by
  obtain ⟨its, rfl, ho, hm⟩ := h
  rw [List.length_map]; exact ho.len
theorem RS.srt {ps : List PA} {os rs : List PI} {i : Nat} (h : RS ps os i rs) : rs.Pairwise (fun p q => p.2 ≤ q.2) := by
  obtain ⟨its, rfl, ho, hm⟩ := h
  rw [List.pairwise_map]
  exact ho.srtBy
section
variable {C : Cx} {A : Around} {ρ : Lo} {H : AH} {P : Params} {L PT WA LA OA RA : Addr} {ps : List PA} {ws : List Int} {lk : List LK} {os rs : List PI}
theorem loop6 (hK : (hd.heap_39 P).In C.base) (G : Gl06 C) (F : Fx C A (env06 P L)) (hdep : A.depth + 20 < recursionLimit) (hu : A.units + 300 < cLine) (hbm : Bm C) (hC : CodeHd C.base 36 34) (hp40 : ps.length ≤ 36) (hw : ws.length ≤ 36) (hll : lk.length = ws.length + 1) (hws : ws.Pairwise (· < ·)) (hm : ∀ p ∈ ps, p.2.1 ∈ ws)
    (hol : os.length = ps.length) (hoy : ∀ (i : Nat) q, os[i]? = some q → pY ps i = q.2)
    (h : J06 P L PT WA LA OA RA ps ws lk os rs H) (rw' : ρ "widths" = some (.ref WA)) (rl : ρ "lists" = some (.ref LA)) (ro : ρ "ones" = some (.ref OA)) (hko : AllKO ps ws 0 lk) (hrs : RS ps os 0 rs)
    {Q : Fl → Lo → AH → Prop} (hQ : ∀ ρ' H' lk' rs', J06 P L PT WA LA OA RA ps ws lk' os rs' H' → lk'.length = ws.length + 1 → AllKO ps ws ps.length lk' → RS ps os ps.length rs' → ρ' "widths" = some (.ref WA) → ρ' "lists" = some (.ref LA) → ρ' "ones" = some (.ref OA) → Q .next ρ' H') :
    W1 C A (env06 P L) (stAt (bodyOf (law06 P)) 6) ρ H Q := by
  refine W1.for (WIt.range1 F (Ev.glob F rfl G.range) (Ev.as (Ev.len (Ev.glob F rfl G.len) (Ev.cell F rfl rfl h.c4) h.pt rfl) (by rw [prefs_len])) (by omega) (by omega) ?_)
  rw [Int.toNat_natCast]
  refine ⟨fun i ρ1 H1 => ∃ lk' rs', J06 P L PT WA LA OA RA ps ws lk' os rs' H1 ∧ lk'.length = ws.length + 1 ∧ AllKO ps ws i lk' ∧ RS ps os i rs' ∧ ρ1 "widths" = some (.ref WA) ∧ ρ1 "lists" = some (.ref LA) ∧ ρ1 "ones" = some (.ref OA), ⟨lk, rs, h, hll, hko, hrs, rw', rl, ro⟩, ?_, ?_⟩
  · rintro i ρ1 H1 hi ⟨lk1, rs1, h1, hl1, hk1, hr1, w1, w2, w3⟩
    refine ⟨trivial, ?_⟩
    rintro d rfl
    refine Asg.local F rfl ?_
    obtain ⟨p, hp⟩ : ∃ p, ps[i]? = some p := ⟨_, List.getElem?_eq_getElem hi⟩
    obtain ⟨ex, ey⟩ := at_ps hp
    have hpm := h1.pp p (List.mem_of_getElem? hp)
    obtain ⟨q, hq⟩ : ∃ q, os[i]? = some q := ⟨_, List.getElem?_eq_getElem (by omega)⟩
    obtain ⟨v2, hc2⟩ := h1.cf 2 (by decide)
    obtain ⟨v5, hc5⟩ := h1.cf 5 (by decide)
    have hc5' : (H1.set (L + 2) (.cell (some (.int p.2.1)))) (L + 5) = some (.cell v5) := by rw [AH.set_ne _ _ (addr_ne L 5 2 rfl)]; exact hc5
    refine WS.seq (W1.asg (WE.of (Ev.item (v := .ref p.1) (Ev.cell F rfl rfl h1.c4) (Ev.local F rfl rfl) h1.pt rfl (by omega) (by rw [Int.toNat_natCast]; exact prefs_get hp)) (Asg.of_tup hpm (Asg.tuple F rfl rfl (Asg.cell F rfl rfl hc2 (Asg.cell F rfl rfl hc5' ⟨rfl, ?_⟩))))))
    have h2 := (h1.cell (i := 2) (by decide) (v := some (.int p.2.1))).cell (i := 5) (by decide) (v := some (.int p.2.2))
    have hx2 : ((H1.set (L + 2) (.cell (some (.int p.2.1)))).set (L + 5) (.cell (some (.int p.2.2)))) (L + 2) = some (.cell (some (.int p.2.1))) := by rw [AH.set_ne _ _ (addr_ne L 2 5 rfl)]; exact AH.set_same ..
    have hy2 : ((H1.set (L + 2) (.cell (some (.int p.2.1)))).set (L + 5) (.cell (some (.int p.2.2)))) (L + 5) = some (.cell (some (.int p.2.2))) := AH.set_same ..
    generalize (H1.set (L + 2) (.cell (some (.int p.2.1)))).set (L + 5) (.cell (some (.int p.2.2))) = H2 at *
    have hrl := hr1.len
    refine WS.seq (ph1 hK G F hdep hu (by omega) hws h2 hx2 hy2 (by exact w1) fun H3 h3 hx3 hy3 => ⟨rfl, ?_⟩)
    refine WS.seq (ph2 (q := q) (i := i) hK G F hdep hu (by omega) hr1.srt h3 hx3 hy3 rfl (by exact w3) hq fun H4 h4 hx4 hy4 => ⟨rfl, ?_⟩)
    refine ph3 (i := i) hK G F hdep hu hbm hC hp40 hw hl1 hws hm h4 hx4 hy4 (by omega) ⟨by exact w1, by exact w2, by exact w3, rfl⟩ hk1 fun ρ5 H5 h5 hx5 hy5 hr5 rp5 => ?_
    refine ph4 (i := i) hK G F hdep hu hbm hC hp40 hw hl1 h5 hi ex ey hy5 hr5 rp5 hk1 fun ρ6 H6 lk6 h6 hl6 hk6 hr6 => ?_
    exact ⟨lk6, _, h6, hl6, hk6, hr1.ins hi hq (hoy i q hq), hr6.w, hr6.l, hr6.o⟩
  · rintro ρ1 H1 ⟨lk1, rs1, h1, hl1, hk1, hr1, w1, w2, w3⟩
    exact ⟨trivial, hQ ρ1 H1 lk1 rs1 h1 hl1 hk1 hr1 w1 w2 w3⟩
end
end Mine

set_option maxHeartbeats 4000000
namespace Mine
open PySem PySem.W PyProof.Rows

theorem slc_mid (ws : List Int) {a b : Nat} (hab : a ≤ b) (hb : b ≤ ws.length) : slc (some (a : Int)) (some (b : Int)) (vints ws) = vints ((ws.take b).drop a) := by
  unfold slc
  have h1 : (some (a : Int)).elim 0 (clipAt (vints ws).length) = a := by rw [ints_length]; simp [clipAt]; omega
  have h2 : (some (b : Int)).elim (vints ws).length (clipAt (vints ws).length) = b := by rw [ints_length]; simp [clipAt]; omega
  rw [h1, h2]
  unfold vints
  rw [List.map_drop, List.map_take, List.drop_take]
/-- what is sorted by a key is in order, like ones as they stood -/
theorem pairs_of {kz : List Int} {n : Nat} {p : Array Nat} (hp : In n p) (hs : SP (lx (zlt kz)) p n) : (p.toList.map fun t => (kz.getD t 0, (t : Int))).Pairwise leI := by
  rw [List.pairwise_map, List.pairwise_iff_getElem]
  intro i j hi hj hij
  have hj' : j < n := by rw [← hp.size]; simpa using hj
  have hi' : i < n := by omega
  have e : ∀ k, k < n → ∀ (hk : k < p.toList.length), gP p k = p.toList[k] := fun k hk hk' => by simp [gP, Array.getD, hp.size, hk]
  have h := lx_false.mp (hs i j (by omega) hj')
  rw [e i hi' hi, e j hj' hj] at h
  generalize p.toList[i] = a at *
  generalize p.toList[j] = b at *
  unfold zlt at h
  unfold leI
  obtain ⟨h1, h2⟩ := h
  have h1' := of_decide_eq_false h1
  rcases h2 with h2 | h2
  · have := of_decide_eq_true h2
    exact .inl this
  · simp only
    omega
theorem In.map_perm {n : Nat} {p : Array Nat} (hp : In n p) {α : Type} (f : Nat → α) : (p.toList.map f).Perm ((List.range n).map f) := hp.perm.map f
/-- the heights that were laid are those that are due -/
theorem RS.due {ps : List PA} {os rs : List PI} {p : Array Nat} (h : RS ps os ps.length rs) (hol : os.length = ps.length) (hoy : ∀ (i : Nat) q, os[i]? = some q → pY ps i = q.2) (hp : In os.length p) (hs : SP (lx (zlt (os.map (·.2)))) p os.length) : (p.toList.map fun i => os.getD i (0, 0)) = rs := by
  obtain ⟨its, rfl, ho, hm⟩ := h
  have hk : ∀ t, t < os.length → (os.map (·.2)).getD t 0 = pY ps t := fun t ht => by
    rw [List.getD_eq_getElem?_getD, List.getElem?_map, List.getElem?_eq_getElem ht]
    exact (hoy t _ (List.getElem?_eq_getElem ht)).symm
  have e : its.map (fun q => ((q.2.2 : Int), (q.2.1 : Int))) = p.toList.map fun t => ((os.map (·.2)).getD t 0, (t : Int)) := by
    refine srt_eq ?_ ?_ (pairs_of hp hs)
    · refine ho.vals.trans ?_
      refine List.Perm.trans ?_ (hp.map_perm _).symm
      rw [List.filter_eq_self.mpr (fun t ht => by simpa using ht), hol]
      refine List.Perm.of_eq (List.map_congr_left fun t ht => ?_)
      rw [hk t (by rw [hol]; simpa using ht)]
    · rw [List.pairwise_map]
      exact List.Pairwise.imp (fun {p q} hpq => by unfold kle at hpq; unfold leI; simp; omega) ho.srt
  have e2 := congrArg (List.map fun z : Int × Int => os.getD z.2.toNat (0, 0)) e
  rw [List.map_map, List.map_map] at e2
  have e3 : (its.map fun p => ((p.1, p.2.2) : PI)) = its.map ((fun z : Int × Int => os.getD z.2.toNat (0, 0)) ∘ fun q => ((q.2.2 : Int), (q.2.1 : Int))) := List.map_congr_left fun q hq => by
    show _ = os.getD q.2.1.toNat (0, 0)
    rw [List.getD_eq_getElem?_getD, hm q hq]; rfl
  rw [e3, e2]
  exact List.map_congr_left fun t ht => by simp
/-- what lies in a list is what is due there -/
theorem KO.due {m : Nat} {hf : Nat → Int} {sel : Nat → Bool} {ks ds : List It} {p : Array Nat} (h : KO m hf sel ks) (hd : ds.map (·.2) = ((List.range m).filter sel).map fun (t : Nat) => ((t : Int), hf t)) (hp : In ds.length p) (hs : SP (lx (zlt (ds.map (·.2.2)))) p ds.length) : ks.map (·.2) = (p.toList.map fun i => ds.getD i (0, 0, 0)).map (·.2) := by
  have hb : ∀ t ∈ p.toList, t < ds.length := fun t ht => by simpa using hp.perm.mem_iff.mp ht
  have hinc : ds.Pairwise (fun a b => a.2.1 < b.2.1) := by
    have h1 : (ds.map (·.2)).Pairwise (fun a b => a.1 < b.1) := by
      rw [hd, List.pairwise_map]
      exact List.Pairwise.imp (fun {a b} w => by show (a : Int) < (b : Int); omega) (List.Pairwise.sublist List.filter_sublist List.pairwise_lt_range)
    rw [List.pairwise_map] at h1
    exact h1
  have e : ks.map (fun q => ((q.2.2 : Int), (q.2.1 : Int))) = (p.toList.map fun i => ds.getD i (0, 0, 0)).map (fun q => ((q.2.2 : Int), (q.2.1 : Int))) := by
    refine srt_eq ?_ ?_ ?_
    · refine h.vals.trans ?_
      have e1 : ((p.toList.map fun i => ds.getD i (0, 0, 0)).map (fun q => ((q.2.2 : Int), (q.2.1 : Int)))).Perm (ds.map fun q => ((q.2.2 : Int), (q.2.1 : Int))) := by
        refine ((hp.map_perm _).map _).trans (List.Perm.of_eq ?_)
        rw [List.map_map]
        exact map_range_at ds (0, 0, 0) (fun q => ((q.2.2 : Int), (q.2.1 : Int)))
      refine List.Perm.trans ?_ e1.symm
      have e2 := congrArg (List.map fun z : Int × Int => (z.2, z.1)) hd
      rw [List.map_map, List.map_map] at e2
      exact List.Perm.of_eq e2.symm
    · rw [List.pairwise_map]
      exact List.Pairwise.imp (fun {p q} hpq => by unfold kle at hpq; unfold leI; simp; omega) h.srt
    · have h1 := List.pairwise_map.mp (pairs_of hp hs)
      rw [List.map_map, List.pairwise_map]
      refine List.Pairwise.imp_of_mem (fun {a b} ha hb' hab => ?_) h1
      have ha' := hb a ha
      have hb' := hb b hb'
      have g1 : ∀ t, t < ds.length → (ds.map (·.2.2)).getD t 0 = (ds.getD t (0, 0, 0)).2.2 := fun t ht => by
        rw [List.getD_eq_getElem?_getD, List.getD_eq_getElem?_getD, List.getElem?_map, List.getElem?_eq_getElem ht]; rfl
      rw [g1 a ha', g1 b hb'] at hab
      have g2 : a ≤ b → (ds.getD a (0, 0, 0)).2.1 ≤ (ds.getD b (0, 0, 0)).2.1 := fun w => by
        rcases Nat.lt_or_ge a b with q | q
        · have := List.pairwise_iff_getElem.mp hinc a b ha' hb' q
          rw [List.getD_eq_getElem?_getD, List.getD_eq_getElem?_getD, List.getElem?_eq_getElem ha', List.getElem?_eq_getElem hb']
          show (ds[a]).2.1 ≤ (ds[b]).2.1
          omega
        · have : a = b := by omega
          subst this; omega
      unfold leI at *
      simp only [Function.comp] at hab ⊢
      omega
  have e2 := congrArg (List.map fun z : Int × Int => (z.2, z.1)) e
  rw [List.map_map, List.map_map] at e2
  exact e2
section
variable {C : Cx} {A : Around} {env : Env} {ρ : Lo} {H : AH}
/-- lists of two numbers are made for those that pass -/
theorem comp_itsF {n : Nat} {b : Nat → Bool} {g : Nat → Int × Int} {elt tgt c : Expr} {Ok : Nat → AH → Prop} {Pd : Nat → AH → Dv → Prop} {Q : AH → List V → Prop} (hn : n ≤ sizeLine)
    (ht : ∀ i (ρ1 : Lo) H1, i < n → H.le H1 → Ok i H1 ∧ ∀ d, Pd i H1 d → Asg C A env tgt d ρ1 H1 (fun ρ2 H3 => H3 = H1 ∧ EvT C A env ρ2 H1 c (b i) ∧ WE C A env elt ρ2 H1 (fun v H4 => ∃ a, v = .ref a ∧ H1 a = none ∧ H4 = H1.set a (.list [.int (g i).1, .int (g i).2]))))
    (hOk : ∀ H1, H.le H1 → Ok n H1)
    (hQ : ∀ (ps : List It) H2, ps.map (·.2) = ((List.range n).filter b).map g → H.le H2 → (∀ p ∈ ps, IsIt H2 p) → Q H2 (refs ps)) :
    LoopOk C A env elt tgt [c] [] H n Ok Pd (fun _ => none) [] (fun _ H2 zs => Q H2 zs) := by
  refine ⟨fun i ρ1 H1 zs => ∃ ps : List It, zs = refs ps ∧ ps.map (·.2) = ((List.range i).filter b).map g ∧ H.le H1 ∧ ∀ p ∈ ps, IsIt H1 p, ⟨[], rfl, rfl, AH.le_refl _, by simp⟩, ?_, ?_⟩
  · rintro i ρ1 H1 zs hi ⟨ps, rfl, hm, hle, hps⟩
    obtain ⟨ok, t⟩ := ht i ρ1 H1 hi hle
    refine ⟨ok, fun d hd => Asg.mono (t d hd) ?_⟩
    rintro ρ2 H3 ⟨rfl, w1, w⟩
    refine WT.of w1 ⟨fun e => ⟨fun _ => WE.mono w ?_, fun e => (by cases e)⟩, fun e => ⟨fun e => (by cases e), fun _ => ⟨ps, rfl, ?_, hle, hps⟩⟩⟩
    · rintro v H4 ⟨a, rfl, ha, rfl⟩
      have hl : ps.length ≤ i := by
        have h1 := congrArg List.length hm
        have h2 := List.length_filter_le b (List.range i)
        rw [List.length_map, List.length_map] at h1
        rw [List.length_range] at h2
        omega
      refine ⟨by rw [refs_len]; omega, ps ++ [(a, g i)], by simp [refs], by rw [List.range_succ, List.filter_append]; simp [hm, e], AH.le_trans hle (AH.le_set (AH.le_refl _) ha), fun p hp => ?_⟩
      rcases List.mem_append.mp hp with hp | hp
      · exact AH.get_of_set (hps p hp) ha
      · rw [List.mem_singleton.mp hp]; exact AH.set_same ..
    · rw [List.range_succ, List.filter_append]; simp [hm, e]
  · rintro ρ1 H1 zs ⟨ps, rfl, hm, hle, hps⟩
    exact ⟨hOk _ hle, hQ ps H1 hm hle hps⟩
end
/-! the keys' values -/
def kf1 (H : AH) : V → Int
  | .ref a => (match H a with | some (.list [.int k]) => k | _ => 0)
  | _ => 0
theorem kf1_ref {H : AH} {p : PI} (h : IsOne H p) : kf1 H (.ref p.1) = p.2 := by
  show (match H p.1 with | some (.list [.int k]) => k | _ => 0) = _
  rw [h]
def kf2 (H : AH) : V → Int
  | .ref a => (match H a with | some (.list [_, .int k]) => k | _ => 0)
  | _ => 0
theorem kf2_ref {H : AH} {p : It} (h : IsIt H p) : kf2 H (.ref p.1) = p.2.2 := by
  show (match H p.1 with | some (.list [_, .int k]) => k | _ => 0) = _
  rw [h]
end Mine

set_option maxHeartbeats 4000000
namespace Mine
open PySem PySem.W PyProof.Rows

section
variable {C : Cx} {A : Around} {ρ : Lo} {H : AH} {P : Params} {L PT WA LA OA RA : Addr} {ps : List PA} {ws : List Int} {lk : List LK} {os rs : List PI}
theorem endA (hK : (hd.heap_39 P).In C.base) (G : Gl06 C) (F : Fx C A (env06 P L)) (hdep : A.depth + 20 < recursionLimit) (hu : A.units + 300 < cLine) (hbm : Bm C) (hC : CodeHd C.base 36 34) (hp40 : ps.length ≤ 36)
    (hol : os.length = ps.length) (hoy : ∀ (i : Nat) q, os[i]? = some q → pY ps i = q.2)
    (h : J06 P L PT WA LA OA RA ps ws lk os rs H) (ro : ρ "ones" = some (.ref OA)) (hrs : RS ps os ps.length rs)
    {Q : Fl → Lo → AH → Prop} (hQ : ∀ H', J06 P L PT WA LA OA RA ps ws lk os rs H' → WS C A (env06 P L) ((bodyOf (law06 P)).drop 9) ρ H' Q) :
    WS C A (env06 P L) ((bodyOf (law06 P)).drop 7) ρ H Q := by
  refine WS.seq (W1.asg (WE.callBi (Ev.glob F rfl G.sorted) (WEs.of (.cons (Ev.local F rfl ro) .nil) (WKs.one (WE.lamT F hbm rfl hC h.t fun H1 g c' ctv up tb hg hc' hgn nn => ?_)))))
  have h1 : J06 P L PT WA LA OA RA ps ws lk os rs H1 := h.up (fun a o e hn => up a o e (h.nt e hn)) tb
  refine WCall.sortedKeyC (R := fun us => us = pref os) (kf := kf1 H1) (fun A' hA' => Coll.list h1.oa rfl) (fun us hus => by rw [hus, pref_len]; omega) (fun A' hA' us hus v hv => ?_) fun us D p hus hD hp hsp => ?_
  · subst hus
    obtain ⟨q, hq, rfl⟩ := List.mem_map.mp hv
    rw [kf1_ref (h1.oo q hq)]
    exact keyD (Sm.nr hA' F.hh (by omega) (by omega)) hg hc' (h1.oo q hq)
  subst hus
  rw [pref_len] at hp hsp
  have hkz : (pref os).map (kf1 H1) = os.map (·.2) := by
    unfold pref
    rw [List.map_map]
    exact List.map_congr_left fun q hq => kf1_ref (h1.oo q hq)
  rw [hkz] at hsp
  have hmap : (p.toList.map fun i => (pref os).getD i V.none) = pref rs := by
    rw [← hrs.due hol hoy hp hsp]
    unfold pref
    rw [List.map_map]
    apply List.map_congr_left
    intro i hi
    have hi' : i < os.length := by simpa using hp.perm.mem_iff.mp hi
    show (os.map _).getD i V.none = V.ref (os.getD i (0, 0)).1
    rw [List.getD_eq_getElem?_getD, List.getD_eq_getElem?_getD, List.getElem?_map, List.getElem?_eq_getElem hi']; rfl
  rw [hmap]
  obtain ⟨v8, hc8⟩ := h1.cf 8 (by decide)
  refine Asg.cell F rfl rfl (AH.get_of_set hc8 hD) ⟨rfl, ?_⟩
  have h2 := (h1.grow (AH.le_set (o := .list (pref rs)) (AH.le_refl _) hD)).cell (i := 8) (by decide) (v := some (.ref D))
  have e8 : ((H1.set D (.list (pref rs))).set (L + 8) (.cell (some (.ref D)))) (L + 8) = some (.cell (some (.ref D))) := AH.set_same ..
  have eD : ((H1.set D (.list (pref rs))).set (L + 8) (.cell (some (.ref D)))) D = some (.list (pref rs)) := by
    rw [AH.set_ne _ _ (fun q => by rw [q, hc8] at hD; cases hD)]; exact AH.set_same ..
  generalize (H1.set D (.list (pref rs))).set (L + 8) (.cell (some (.ref D))) = H2 at *
  have hrl := hrs.len
  refine WS.cons (W1.if (WT.of (b := false) (EvT.boolop ?_) ⟨fun e => by simp at e, fun _ => WS.nil (hQ H2 h2)⟩))
  refine AllT.or_cons (b := false) (c := false) (EvT.icmp (Ev.len (Ev.glob F rfl G.len) (Ev.cell F rfl rfl h2.c6) h2.ra rfl) (Ev.len (Ev.glob F rfl G.len) (Ev.cell F rfl rfl e8) eD rfl) (by simp [icmp])) fun _ => AllT.or_cons (b := false) (c := false) ?_ fun _ => AllT.or_nil
  refine WT.ev (WT.drop (WT.neD (by omega) (WE.listComp (cl := [("rises", L + 6), ("due", L + 8)]) rfl (WIt.range1 F (Ev.glob F rfl G.range) (Ev.len (Ev.glob F rfl G.len) (Ev.cell F rfl rfl e8) eD rfl) (by omega) (by rw [pref_len]; omega) fun Cn hCn => ?_))))
  refine comp_none (g := fun i => .int (i : Int)) (F.comp rfl) rfl (fun _ => trivial) (fun i d h => h) ?_ ?_
  · intro i ρ6 hi hk6
    have hi' : i < (pref rs).length := by omega
    obtain ⟨p, hp, hp'⟩ := pref_at (List.getElem?_eq_getElem hi')
    have hg : (pref rs)[i]? = some (.ref p.1) := by rw [List.getElem?_eq_getElem hi', hp']
    exact EvT.isNotSelf (Ev.item (Ev.cell (F.comp rfl) rfl rfl h2.c6) (Ev.local (F.comp rfl) rfl hk6) h2.ra rfl (by omega) (by rw [Int.toNat_natCast]; exact hg)) (Ev.item (Ev.cell (F.comp rfl) rfl rfl e8) (Ev.local (F.comp rfl) rfl hk6) eD rfl (by omega) (by rw [Int.toNat_natCast]; exact hg))
  intro X1 hX1
  exact WE.list rfl (by decide) (WEs.nil fun X2 hX2 => ⟨dints [], dints [], Rd_ints (AH.get_of_set (AH.set_same ..) hX2) rfl, Rd_ints (AH.set_same ..) rfl, shaped_ints _, shaped_ints _, H2, AH.le_trans (AH.le_set (AH.le_refl _) hX1) (AH.le_set (AH.le_refl _) hX2), by rw [eqv_ints]; rfl, rfl⟩)
theorem endB (hK : (hd.heap_39 P).In C.base) (G : Gl06 C) (F : Fx C A (env06 P L)) (hdep : A.depth + 20 < recursionLimit) (hu : A.units + 300 < cLine) (hbm : Bm C) (hC : CodeHd C.base 36 34) (hp40 : ps.length ≤ 36) (hw : ws.length ≤ 36) (hll : lk.length = ws.length + 1) (hws : ws.Pairwise (· < ·)) (hm : ∀ p ∈ ps, p.2.1 ∈ ws)
    (h : J06 P L PT WA LA OA RA ps ws lk os rs H) (hko : AllKO ps ws ps.length lk) (rw' : ρ "widths" = some (.ref WA)) (rl : ρ "lists" = some (.ref LA)) :
    WS C A (env06 P L) ((bodyOf (law06 P)).drop 9) ρ H (fun f _ H' => retv f = .bool true ∧ (∃ es, H' 34 = some (.tab es))) := by
  have hsz : 1000 ≤ sizeLine := by decide
  refine WS.seq (W1.for (WIt.range2 (a := 1) (b := ((ws.length + 1 : Nat) : Int)) F (Ev.glob F rfl G.range) Ev.int (Ev.as (Ev.len (Ev.glob F rfl G.len) (Ev.local F rfl rl) h.la rfl) (by rw [lrefs_len, hll])) (by omega) (by omega) (by omega) (by omega) ?_))
  have hcnt : (((ws.length + 1 : Nat) : Int) - 1).toNat = ws.length := by omega
  rw [hcnt]
  refine ⟨fun j ρ1 H1 => J06 P L PT WA LA OA RA ps ws lk os rs H1 ∧ ρ1 "widths" = some (.ref WA) ∧ ρ1 "lists" = some (.ref LA), ⟨h, rw', rl⟩, ?_, ?_⟩
  · rintro j ρ1 H1 hj ⟨h1, w1, w2⟩
    refine ⟨trivial, ?_⟩
    rintro d rfl
    refine Asg.local F rfl ?_
    rw [show (1 : Int) + (j : Int) = ((1 + j : Nat) : Int) by omega]
    generalize hkk : 1 + j = k at *
    obtain ⟨b1, b2, b3⟩ := lb_at (k := k) (by omega) (by omega)
    obtain ⟨e0, he0⟩ : ∃ e0, lk[k]? = some e0 := ⟨_, List.getElem?_eq_getElem (by omega)⟩
    have hm0 := List.mem_of_getElem? he0
    have hko0 := hko k e0 he0 (by omega)
    have hkl := hko0.len
    obtain ⟨v9, hc9⟩ := h1.cf 9 (by decide)
    -- stretch
    refine WS.seq (W1.asg (WE.slice (lo := some ((k - lb k : Nat) : Int)) (hi := some (k : Int)) (WE.of (Ev.local F rfl (by exact w1)) ⟨WA, _, _, rfl, h1.wa, rfl, .some (Ev.as (Ev.sub (Ev.local F rfl rfl) (Ev.band (Ev.local F rfl rfl) (Ev.neg (Ev.local F rfl rfl)))) (congrArg V.int (by rw [b1]; omega))), .some (Ev.local F rfl rfl), fun S hS => Asg.cell F rfl rfl (AH.get_of_set hc9 hS) ⟨rfl, ?_⟩⟩)))
    rw [slc_mid ws (by omega) (by omega)]
    generalize hst : (ws.take k).drop (k - lb k) = st at *
    have h2 := (h1.grow (AH.le_set (o := .list (vints st)) (AH.le_refl _) hS)).cell (i := 9) (by decide) (v := some (.ref S))
    have e9 : ((H1.set S (.list (vints st))).set (L + 9) (.cell (some (.ref S)))) (L + 9) = some (.cell (some (.ref S))) := AH.set_same ..
    have eS : ((H1.set S (.list (vints st))).set (L + 9) (.cell (some (.ref S)))) S = some (.list (vints st)) := by
      rw [AH.set_ne _ _ (fun q => by rw [q, hc9] at hS; cases hS)]; exact AH.set_same ..
    generalize (H1.set S (.list (vints st))).set (L + 9) (.cell (some (.ref S))) = H2 at *
    -- due
    refine WS.seq (W1.asg (WE.listComp (cl := [("stretch", L + 9), ("points", L + 4)]) rfl (WIt.range1 F (Ev.glob F rfl G.range) (Ev.as (Ev.len (Ev.glob F rfl G.len) (Ev.cell F rfl rfl h2.c4) h2.pt rfl) (by rw [prefs_len])) (by omega) (by omega) fun Cn hCn => ?_)))
    rw [Int.toNat_natCast]
    refine comp_itsF (b := fun t => decide (pX ps t ∈ st)) (g := fun t => ((t : Int), pY ps t)) (by omega) (fun i ρ2 H3 hi hle => ⟨trivial, ?_⟩) (fun _ _ => trivial) ?_
    · rintro d rfl
      obtain ⟨p, hp⟩ : ∃ p, ps[i]? = some p := ⟨_, List.getElem?_eq_getElem hi⟩
      obtain ⟨ex, ey⟩ := at_ps hp
      have h3 := h2.grow hle
      have hpm := h3.pp p (List.mem_of_getElem? hp)
      refine Asg.local (F.comp rfl) rfl ⟨rfl, ?_, ?_⟩
      · rw [ex]
        exact EvT.inInts (by omega) (Ev.titem (k := 0) (v := .int p.2.1) (Ev.item (v := .ref p.1) (Ev.cell (F.comp rfl) rfl rfl h3.c4) (Ev.local (F.comp rfl) rfl rfl) h3.pt rfl (by omega) (by rw [Int.toNat_natCast]; exact prefs_get hp)) Ev.int hpm (by decide) rfl) (Ev.cell (F.comp rfl) rfl rfl (hle _ _ e9)) (hle _ _ eS) rfl
      · rw [ey]
        exact WE.list rfl (by decide) (WEs.of (.cons (Ev.local (F.comp rfl) rfl rfl) (.cons (Ev.titem (k := 1) (v := .int p.2.2) (Ev.item (v := .ref p.1) (Ev.cell (F.comp rfl) rfl rfl h3.c4) (Ev.local (F.comp rfl) rfl rfl) h3.pt rfl (by omega) (by rw [Int.toNat_natCast]; exact prefs_get hp)) Ev.int hpm (by decide) rfl) .nil)) fun a ha => ⟨a, rfl, ha, rfl⟩)
    intro ds H3 hds hle3 hI3 D hD
    have h3 := h2.grow hle3
    obtain ⟨v8, hc8⟩ := h3.cf 8 (by decide)
    refine Asg.cell F rfl rfl (AH.get_of_set hc8 hD) ⟨rfl, ?_⟩
    have leD : H3.le (H3.set D (.list (refs ds))) := AH.le_set (AH.le_refl _) hD
    have h4 := (h3.grow leD).cell (i := 8) (by decide) (v := some (.ref D))
    have e8 : ((H3.set D (.list (refs ds))).set (L + 8) (.cell (some (.ref D)))) (L + 8) = some (.cell (some (.ref D))) := AH.set_same ..
    have s8 : ∀ {a : Addr} {vs : List V}, (H3.set D (.list (refs ds))) a = some (.list vs) → ((H3.set D (.list (refs ds))).set (L + 8) (.cell (some (.ref D)))) a = some (.list vs) := fun e => by
      rw [AH.set_ne _ _ (fun q => by rw [q, AH.get_of_set hc8 hD] at e; cases e)]; exact e
    have eD : ((H3.set D (.list (refs ds))).set (L + 8) (.cell (some (.ref D)))) D = some (.list (refs ds)) := s8 (AH.set_same ..)
    have hI4 : ∀ p ∈ ds, IsIt ((H3.set D (.list (refs ds))).set (L + 8) (.cell (some (.ref D)))) p := fun p hp => s8 (leD _ _ (hI3 p hp))
    generalize (H3.set D (.list (refs ds))).set (L + 8) (.cell (some (.ref D))) = H4 at *
    have hdl : ds.length ≤ ps.length := by
      have q1 := congrArg List.length hds
      have q2 := List.length_filter_le (fun t => decide (pX ps t ∈ st)) (List.range ps.length)
      rw [List.length_map, List.length_map] at q1
      rw [List.length_range] at q2
      omega
    -- the test
    refine WS.cons (W1.if (WT.neD (by omega) (WE.of (Ev.item (v := .ref e0.1) (Ev.local F rfl (by exact w2)) (Ev.local F rfl rfl) h4.la rfl (by omega) (by rw [Int.toNat_natCast]; exact lrefs_get he0)) (WE.callBi (Ev.glob F rfl G.sorted) (WEs.of (.cons (Ev.cell F rfl rfl e8) .nil) (WKs.one (WE.lamT F hbm rfl hC h4.t fun H5 g c' ctv up tb hg hc' hgn nn => ?_)))))))
    have h5 : J06 P L PT WA LA OA RA ps ws lk os rs H5 := h4.up (fun a o e hn => up a o e (h4.nt e hn)) tb
    have eD5 := up _ _ eD (h4.nt eD (by simp))
    have hI5 : ∀ p ∈ ds, IsIt H5 p := fun p hp => up _ _ (hI4 p hp) (h4.nt (hI4 p hp) (by simp))
    refine WCall.sortedKeyC (R := fun us => us = refs ds) (kf := kf2 H5) (fun A' hA' => Coll.list eD5 rfl) (fun us hus => by rw [hus, refs_len]; omega) (fun A' hA' us hus v hv => ?_) fun us D2 p hus hD2 hp hsp => ?_
    · subst hus
      obtain ⟨q, hq, rfl⟩ := List.mem_map.mp hv
      rw [kf2_ref (hI5 q hq)]
      exact keyS (Sm.nr hA' F.hh (by omega) (by omega)) hg hc' (hI5 q hq)
    subst hus
    rw [refs_len] at hp hsp
    have hkz : (refs ds).map (kf2 H5) = ds.map (·.2.2) := by
      unfold refs
      rw [List.map_map]
      exact List.map_congr_left fun q hq => kf2_ref (hI5 q hq)
    rw [hkz] at hsp
    have hmap : (p.toList.map fun i => (refs ds).getD i V.none) = refs (p.toList.map fun i => ds.getD i (0, 0, 0)) := by
      unfold refs
      rw [List.map_map]
      apply List.map_congr_left
      intro i hi
      have hi' : i < ds.length := by simpa using hp.perm.mem_iff.mp hi
      show (ds.map _).getD i V.none = V.ref (ds.getD i (0, 0, 0)).1
      rw [List.getD_eq_getElem?_getD, List.getD_eq_getElem?_getD, List.getElem?_map, List.getElem?_eq_getElem hi']; rfl
    rw [hmap]
    have hqm : ∀ q ∈ (p.toList.map fun i => ds.getD i (0, 0, 0)), q ∈ ds := fun q hq => by
      obtain ⟨i, hi, rfl⟩ := List.mem_map.mp hq
      have hi' : i < ds.length := by simpa using hp.perm.mem_iff.mp hi
      rw [List.getD_eq_getElem?_getD, List.getElem?_eq_getElem hi']; exact List.getElem_mem hi'
    have hfin := (hko0.congr (sel' := fun t => decide (pX ps t ∈ st)) fun t ht => ?_).due (p := p) hds hp hsp
    · generalize (p.toList.map fun i => ds.getD i (0, 0, 0)) = qs at *
      have le6 : H5.le (H5.set D2 (.list (refs qs))) := AH.le_set (AH.le_refl _) hD2
      refine ⟨dPart e0.2, dPart qs, Rd_part (le6 _ _ (h5.lh e0 hm0)) rfl (fun p hp => le6 _ _ (h5.li e0 hm0 p hp)), Rd_part (AH.set_same ..) rfl (fun p hp => le6 _ _ (hI5 p (hqm p hp))), (Dp_part _).shaped (by decide), (Dp_part _).shaped (by decide), ?_⟩
      rw [eqv_part, hfin]
      exact ⟨fun e => by simp at e, fun _ => WS.nil (WS.nil ⟨h5.grow le6, w1, w2⟩)⟩
    · obtain ⟨p, hp⟩ : ∃ p, ps[t]? = some p := ⟨_, List.getElem?_eq_getElem ht⟩
      have hx : pX ps t ∈ ws := by rw [(at_ps hp).1]; exact hm p (List.mem_of_getElem? hp)
      have hs := stretch_iff hws (a := k - lb k) (b := k) hx (by omega)
      rw [hst] at hs
      unfold sel6
      rw [decide_eq_true ht, Bool.true_and, ← Bool.decide_and]
      congr 1
      exact propext hs.symm
  · rintro ρ1 H1 ⟨h1, w1, w2⟩
    obtain ⟨es, e1, _⟩ := h1.t
    exact ⟨trivial, rfl, WS.cons (W1.ret (WE.of Ev.bool ⟨rfl, es, e1⟩))⟩
end
end Mine

set_option maxHeartbeats 4000000
namespace Mine
open PySem PySem.W PyProof.Rows

theorem cs_set {H : AH} {L : Addr} {S S' : List Nat} {i : Nat} {o : O} (h : ∀ j ∈ S, H (L + j) = some (.cell none)) (hs : ∀ j ∈ S', j ∈ S ∧ j ≠ i) : ∀ j ∈ S', (H.set (L + i) o) (L + j) = some (.cell none) := fun j hj => by
  rw [AH.set_ne _ _ (addr_ne L j i (by simpa using (hs j hj).2))]; exact h j (hs j hj).1
theorem cs_le {H H' : AH} {L : Addr} {S : List Nat} (h : ∀ j ∈ S, H (L + j) = some (.cell none)) (k : H.le H') : ∀ j ∈ S, H' (L + j) = some (.cell none) := fun j hj => k _ _ (h j hj)
section
variable {C : Cx} {A : Around} {env : Env} {ρ : Lo} {H : AH}
/-- empty lists are made -/
theorem comp_nils {n : Nat} {tgt : Expr} {p : Pos} {Ok : Nat → AH → Prop} {Pd : Nat → AH → Dv → Prop} {Q : AH → List V → Prop} (hn : n ≤ sizeLine)
    (ht : ∀ i (ρ1 : Lo) H1, i < n → Ok i H1 ∧ ∀ d, Pd i H1 d → Asg C A env tgt d ρ1 H1 (fun ρ2 H3 => H3 = H1)) (hOk : ∀ H1, Ok n H1)
    (hQ : ∀ (lk : List LK) H2, lk.length = n → (∀ e ∈ lk, e.2 = [] ∧ H2 e.1 = some (.list []) ∧ H e.1 = none) → (lk.map (·.1)).Nodup → H.le H2 → Q H2 (lrefs lk)) :
    LoopOk C A env (.List [] p) tgt [] [] H n Ok Pd (fun _ => none) [] (fun _ H2 zs => Q H2 zs) := by
  refine ⟨fun i ρ1 H1 zs => ∃ lk : List LK, zs = lrefs lk ∧ lk.length = i ∧ (∀ e ∈ lk, e.2 = [] ∧ H1 e.1 = some (.list []) ∧ H e.1 = none) ∧ (lk.map (·.1)).Nodup ∧ H.le H1, ⟨[], rfl, rfl, by simp, by simp, AH.le_refl _⟩, ?_, ?_⟩
  · rintro i ρ1 H1 zs hi ⟨lk, rfl, hl, he, hnd, hle⟩
    obtain ⟨ok, t⟩ := ht i ρ1 H1 hi
    refine ⟨ok, fun d hd => Asg.mono (t d hd) ?_⟩
    rintro ρ2 H3 rfl
    refine ⟨fun _ => WE.list rfl (by decide) (WEs.nil fun a ha => ?_), fun e => (by cases e)⟩
    have hHa : H a = none := by
      cases q : H a with
      | none => rfl
      | some o => rw [hle _ _ q] at ha; cases ha
    refine ⟨by rw [lrefs_len]; omega, lk ++ [(a, [])], by simp [lrefs], by simp [hl], fun e he' => ?_, ?_, AH.le_trans hle (AH.le_set (AH.le_refl _) ha)⟩
    · rcases List.mem_append.mp he' with w | w
      · exact ⟨(he e w).1, AH.get_of_set (he e w).2.1 ha, (he e w).2.2⟩
      · rw [List.mem_singleton.mp w]; exact ⟨rfl, AH.set_same .., hHa⟩
    · rw [List.map_append, List.nodup_append]
      refine ⟨hnd, by simp, fun x hx y hy => ?_⟩
      obtain ⟨e, he', rfl⟩ := List.mem_map.mp hx
      have : y = a := by simpa using hy
      rw [this]
      intro q
      have := (he e he').2.1
      rw [q, ha] at this; cases this
  · rintro ρ1 H1 zs ⟨lk, rfl, hl, he, hnd, hle⟩
    exact ⟨hOk _, hQ lk H1 hl he hnd hle⟩
/-- numbers, each in a list of its own -/
theorem comp_ones {n : Nat} {g : Nat → Int} {e1 tgt : Expr} {p : Pos} {Ok : Nat → AH → Prop} {Pd : Nat → AH → Dv → Prop} {Q : AH → List V → Prop} (hn : n ≤ sizeLine)
    (ht : ∀ i (ρ1 : Lo) H1, i < n → H.le H1 → Ok i H1 ∧ ∀ d, Pd i H1 d → Asg C A env tgt d ρ1 H1 (fun ρ2 H3 => H3 = H1 ∧ Ev C A env ρ2 H1 e1 (.int (g i))))
    (hOk : ∀ H1, H.le H1 → Ok n H1) (hne : noStar [e1] = true)
    (hQ : ∀ (ps : List PI) H2, ps.map (·.2) = (List.range n).map g → H.le H2 → (∀ p ∈ ps, IsOne H2 p) → Q H2 (pref ps)) :
    LoopOk C A env (.List [e1] p) tgt [] [] H n Ok Pd (fun _ => none) [] (fun _ H2 zs => Q H2 zs) := by
  refine ⟨fun i ρ1 H1 zs => ∃ ps : List PI, zs = pref ps ∧ ps.length = i ∧ ps.map (·.2) = (List.range i).map g ∧ H.le H1 ∧ ∀ p ∈ ps, IsOne H1 p, ⟨[], rfl, rfl, rfl, AH.le_refl _, by simp⟩, ?_, ?_⟩
  · rintro i ρ1 H1 zs hi ⟨ps, rfl, hl, hm, hle, hps⟩
    obtain ⟨ok, t⟩ := ht i ρ1 H1 hi hle
    refine ⟨ok, fun d hd => Asg.mono (t d hd) ?_⟩
    rintro ρ2 H3 ⟨rfl, v1⟩
    refine ⟨fun _ => ?_, fun e => by cases e⟩
    refine WE.list hne (by simp) (WEs.of (.cons v1 .nil) fun a ha => ⟨by simp [pref]; omega, ps ++ [(a, g i)], by simp [pref], by simp [hl], ?_, AH.le_trans hle (AH.le_set (AH.le_refl _) ha), fun p hp => ?_⟩)
    · rw [List.range_succ]; simp [hm]
    · rcases List.mem_append.mp hp with hp | hp
      · exact AH.get_of_set (hps p hp) ha
      · rw [List.mem_singleton.mp hp]; exact AH.set_same ..
  · rintro ρ1 H1 zs ⟨ps, rfl, hl, hm, hle, hps⟩
    exact ⟨hOk _ hle, hQ ps H1 hm hle hps⟩
end
section
variable {C : Cx} {A : Around} {ρ : Lo} {H : AH} {P : Params} {L : Addr}
/-- from the widths on -/
theorem law_rest (hK : (hd.heap_39 P).In C.base) (G : Gl06 C) (F : Fx C A (env06 P L)) (hdep : A.depth + 20 < recursionLimit) (hu : A.units + 300 < cLine) (hbm : Bm C) (hC : CodeHd C.base 36 34) {PT : Addr} {ps : List PA} (hp : ps.length ≤ 36)
    (hpt : H PT = some (.list (prefs ps))) (hpp : ∀ p ∈ ps, IsPr H p) (c4 : H (L + 4) = some (.cell (some (.ref PT)))) (cs : ∀ j ∈ [2, 5, 6, 7, 8, 9], H (L + j) = some (.cell none)) (hT : H 34 = some (.tab [])) :
    WS C A (env06 P L) ((bodyOf (law06 P)).drop 3) ρ H (fun f _ H' => retv f = .bool true ∧ (∃ es, H' 34 = some (.tab es))) := by
  have hsz : 1000 ≤ sizeLine := by decide
  -- widths
  refine WS.seq (W1.asgLocal F rfl (WE.callBi (Ev.glob F rfl G.sorted) (WEs.cons (WE.callTy (Ev.glob F rfl G.set) (WEs.cons (WE.listComp (cl := []) rfl (WIt.list F (WE.of (Ev.cell F rfl rfl c4) ⟨PT, _, _, rfl, hpt, rfl, fun Cn hCn => ?_⟩))))))))
  refine comp_nums (g := fun i => pX ps i) (by rw [prefs_len]; omega) (fun i ρ1 hi => ⟨hpt, ?_⟩) hpt ?_
  · rintro d ⟨u, hu1, rfl⟩
    obtain ⟨p, hp1, rfl⟩ := prefs_at hu1
    refine Asg.of_tup (hpp p (List.mem_of_getElem? hp1)) (Asg.tuple (F.comp rfl) rfl rfl (Asg.local (F.comp rfl) rfl (Asg.local (F.comp rfl) rfl ⟨rfl, ?_⟩)))
    rw [(at_ps hp1).1]
    exact Ev.local (F.comp rfl) rfl rfl
  intro l0 hl0
  rw [prefs_len] at *
  generalize hall : (List.range ps.length).map (fun i => pX ps i) = all at *
  have hal : all.length = ps.length := by rw [← hall]; simp
  have le0 : H.le (H.set l0 (.list (vints all))) := AH.le_set (AH.le_refl _) hl0
  have el0 : (H.set l0 (.list (vints all))) l0 = some (.list (vints all)) := AH.set_same ..
  generalize H.set l0 (.list (vints all)) = H1 at *
  refine WEs.nil (WCall.set (knd := intKind C.prog C.w) (vk := V.int) F.hh intKind_ab (fun k v e => by obtain ⟨t, rfl⟩ := ab_int e; rfl) el0 rfl (fun v hv => by obtain ⟨z, _, rfl⟩ := List.mem_map.mp hv; exact ⟨z, rfl⟩) (by rw [ints_length]; omega) fun sa c hsa hf => WEs.nil (WKs.nil ?_))
  have le3 : H1.le (H1.set sa (.raw c)) := AH.le_set (AH.le_refl _) hsa
  have esa : (H1.set sa (.raw c)) sa = some (.raw c) := AH.set_same ..
  generalize H1.set sa (.raw c) = H2 at *
  refine WCall.sortedIntsC (R := fun ns => ns.Nodup ∧ ns.length ≤ all.length ∧ ∀ z, z ∈ ns ↔ z ∈ all) (fun A' hA' => (Coll.set (hA'.2.1.trans F.hh) esa hf).mono fun us hus => ?_) (fun ns hns => by omega) fun ns WA ws hR hWA hperm hsrt' => ⟨rfl, ?_⟩
  · obtain ⟨n1, n2, n3⟩ := hus
    obtain ⟨ns, rfl⟩ := vints_of_all (us := us) fun u hu' => by
      obtain ⟨z, _, rfl⟩ := List.mem_map.mp ((n3 u).mp hu')
      exact ⟨z, rfl⟩
    refine ⟨ns, rfl, ?_, by rw [ints_length, ints_length] at n2; exact n2, fun z => ?_⟩
    · have : (vints ns).Pairwise (· ≠ ·) := n1
      unfold vints at this
      rw [List.pairwise_map] at this
      exact List.Pairwise.imp (fun {a b} hab e => hab (by rw [e])) this
    · have := n3 (.int z)
      unfold vints at this
      rw [List.mem_map, List.mem_map] at this
      constructor
      · intro hz; obtain ⟨y, hy, e⟩ := this.mp ⟨z, hz, rfl⟩; cases e; exact hy
      · intro hz; obtain ⟨y, hy, e⟩ := this.mpr ⟨z, hz, rfl⟩; cases e; exact hy
  obtain ⟨r1, r2, r3⟩ := hR
  have hlt : ws.Pairwise (fun a b => a < b) := by
    have nd : ws.Pairwise (· ≠ ·) := hperm.nodup_iff.mpr r1
    exact List.Pairwise.imp (fun {a b} h => by obtain ⟨h1, h2⟩ := h; omega) (List.Pairwise.and hsrt' nd)
  have hwl : ws.length ≤ ps.length := by have := hperm.length_eq; omega
  have hmem : ∀ p ∈ ps, p.2.1 ∈ ws := fun p hp1 => by
    rw [hperm.mem_iff, r3, ← hall]
    obtain ⟨i, hi⟩ := List.getElem?_of_mem hp1
    exact List.mem_map.mpr ⟨i, by simpa using (List.getElem?_eq_some_iff.mp hi).1, (at_ps hi).1⟩
  clear hperm hsrt' r1 r2 r3 ns
  have le4 : H2.le (H2.set WA (.list (vints ws))) := AH.le_set (AH.le_refl _) hWA
  have eWA : (H2.set WA (.list (vints ws))) WA = some (.list (vints ws)) := AH.set_same ..
  have leB : H.le (H2.set WA (.list (vints ws))) := AH.le_trans le0 (AH.le_trans le3 le4)
  have n1 : PT ≠ WA := fun q => by rw [← q, (AH.le_trans le0 le3) _ _ hpt] at hWA; cases hWA
  generalize H2.set WA (.list (vints ws)) = H3 at *
  -- lists
  refine WS.seq (W1.asgComp F rfl (cl := []) rfl (WIt.range1 (b := ((ws.length + 1 : Nat) : Int)) F (Ev.glob F rfl G.range) (Ev.as (Ev.add (Ev.len (Ev.glob F rfl G.len) (Ev.local F rfl rfl) eWA rfl) Ev.int) (congrArg V.int (by rw [ints_length]; omega))) (by omega) (by omega) fun Cn hCn => ?_) rfl)
  rw [Int.toNat_natCast]
  refine comp_nils (by omega) (fun i ρ1 H4 hi => ⟨trivial, fun d hd => ?_⟩) (fun _ => trivial) fun lk H4 hll hlk hnd hle4 => ?_
  · rw [hd]; exact Asg.local (F.comp rfl) rfl rfl
  intro LA hLA
  refine ⟨rfl, ?_⟩
  have leL : H4.le (H4.set LA (.list (lrefs lk))) := AH.le_set (AH.le_refl _) hLA
  have eLA : (H4.set LA (.list (lrefs lk))) LA = some (.list (lrefs lk)) := AH.set_same ..
  have ePT4 := hle4 _ _ (leB _ _ hpt)
  have eWA4 := hle4 _ _ eWA
  have m1 : ∀ {a : Addr} {o : O}, H4 a = some o → a ≠ LA := fun e q => by rw [q, hLA] at e; cases e
  have m2 : ∀ {a : Addr} {o : O}, H3 a = some o → a ∉ lk.map (·.1) := fun e q => by
    obtain ⟨z, hz, rfl⟩ := List.mem_map.mp q
    rw [(hlk z hz).2.2] at e; cases e
  have m3 : LA ∉ lk.map (·.1) := fun q => by
    obtain ⟨z, hz, e⟩ := List.mem_map.mp q
    exact m1 (hlk z hz).2.1 e
  have m4 := m1 ePT4
  have m5 := m1 eWA4
  have hlk5 : ∀ e ∈ lk, e.2 = [] ∧ (H4.set LA (.list (lrefs lk))) e.1 = some (.list []) := fun e he => ⟨(hlk e he).1, leL _ _ (hlk e he).2.1⟩
  have m6 := m2 (leB _ _ hpt)
  have m7 := m2 eWA
  have le5 : H3.le (H4.set LA (.list (lrefs lk))) := AH.le_trans hle4 leL
  generalize H4.set LA (.list (lrefs lk)) = H5 at *
  have le05 := AH.le_trans leB le5
  have cs5 := cs_le cs le05
  have c45 := le05 _ _ c4
  have hpt5 := le05 _ _ hpt
  have hpp5 : ∀ p ∈ ps, IsPr H5 p := fun p hp1 => le05 _ _ (hpp p hp1)
  have hT5 := le05 _ _ hT
  have eWA5 := le5 _ _ eWA
  clear hle4 leL hLA hlk le4 le3 esa hsa
  -- rises, ones
  refine WS.seq (W1.asgTup F (WEs.cons (WE.list rfl (by decide) (WEs.nil fun RA hRA => WEs.cons (WE.listComp (cl := []) rfl (WIt.list F (WE.of (Ev.cell F rfl rfl (AH.get_of_set c45 hRA)) ⟨PT, _, _, rfl, AH.get_of_set hpt5 hRA, rfl, fun Cn2 hCn2 => ?_⟩)))))))
  have leR : H5.le (H5.set RA (.list [])) := AH.le_set (AH.le_refl _) hRA
  have eRA : (H5.set RA (.list [])) RA = some (.list []) := AH.set_same ..
  have k1 : ∀ {a : Addr} {o : O}, H5 a = some o → a ≠ RA := fun e q => by rw [q, hRA] at e; cases e
  have q1 := k1 hpt5
  have q2 := k1 eWA5
  have q3 := k1 eLA
  have q4 : RA ∉ lk.map (·.1) := fun q => by
    obtain ⟨z, hz, e⟩ := List.mem_map.mp q
    exact k1 (hlk5 z hz).2 e
  generalize H5.set RA (.list []) = H6 at *
  have hpt6 := leR _ _ hpt5
  refine comp_ones (g := fun i => pY ps i) (by rw [prefs_len]; omega) (fun i ρ1 H7 hi hle => ⟨hle _ _ hpt6, ?_⟩) (fun H7 hle => hle _ _ hpt6) rfl ?_
  · rintro d ⟨u, hu1, rfl⟩
    obtain ⟨p, hp1, rfl⟩ := prefs_at hu1
    refine Asg.of_tup (hle _ _ (leR _ _ (hpp5 p (List.mem_of_getElem? hp1)))) (Asg.tuple (F.comp rfl) rfl rfl (Asg.local (F.comp rfl) rfl (Asg.local (F.comp rfl) rfl ⟨rfl, ?_⟩)))
    rw [(at_ps hp1).2]
    exact Ev.local (F.comp rfl) rfl rfl
  intro os H7 hos hle7 hI7 OA hOA
  rw [prefs_len] at hos
  have hol : os.length = ps.length := by have := congrArg List.length hos; simpa using this
  have hoy : ∀ (i : Nat) q, os[i]? = some q → pY ps i = q.2 := fun i q hq => by
    have h1 : (os.map (·.2))[i]? = some q.2 := by rw [List.getElem?_map, hq]; rfl
    have hi : i < ps.length := by have := (List.getElem?_eq_some_iff.mp hq).1; omega
    rw [hos, List.getElem?_map, List.getElem?_range hi] at h1
    exact Option.some.inj h1
  have leO : H7.le (H7.set OA (.list (pref os))) := AH.le_set (AH.le_refl _) hOA
  have le57 : H5.le H7 := AH.le_trans leR hle7
  have k2 : ∀ {a : Addr} {o : O}, H7 a = some o → a ≠ OA := fun e q => by rw [q, hOA] at e; cases e
  have p1 := k2 (le57 _ _ hpt5)
  have p2 := k2 (le57 _ _ eWA5)
  have p3 := k2 (le57 _ _ eLA)
  have p4 := k2 (hle7 _ _ eRA)
  have p5 : OA ∉ lk.map (·.1) := fun q => by
    obtain ⟨z, hz, e⟩ := List.mem_map.mp q
    exact k2 (le57 _ _ (hlk5 z hz).2) e
  have eOA : (H7.set OA (.list (pref os))) OA = some (.list (pref os)) := AH.set_same ..
  have hI8 : ∀ p ∈ os, IsOne (H7.set OA (.list (pref os))) p := fun p hp1 => leO _ _ (hI7 p hp1)
  have le58 : H5.le (H7.set OA (.list (pref os))) := AH.le_trans le57 leO
  have eRA8 := leO _ _ (hle7 _ _ eRA)
  generalize H7.set OA (.list (pref os)) = H8 at *
  have cs8 := cs_le cs5 le58
  refine WEs.nil (Asg.cell F rfl rfl (cs8 6 (by decide)) (Asg.local F rfl ⟨rfl, ?_⟩))
  have c6 : (H8.set (L + 6) (.cell (some (.ref RA)))) (L + 6) = some (.cell (some (.ref RA))) := AH.set_same ..
  have cs9 := cs_set (S' := fc06) (i := 6) (o := .cell (some (.ref RA))) cs8 (by decide)
  have s6 : ∀ {a : Addr} {o : O}, H8 a = some o → (∀ w, o ≠ .cell w) → (H8.set (L + 6) (.cell (some (.ref RA)))) a = some o := fun e hn => by rw [AH.set_ne _ _ (fun q => by rw [q, cs8 6 (by decide)] at e; exact hn _ (Option.some.inj e).symm)]; exact e
  have hJ : J06 P L PT WA LA OA RA ps ws lk os [] (H8.set (L + 6) (.cell (some (.ref RA)))) :=
    { pt := s6 (le58 _ _ hpt5) (by simp)
      pp := fun p hp1 => s6 (le58 _ _ (hpp5 p hp1)) (by simp)
      wa := s6 (le58 _ _ eWA5) (by simp)
      la := s6 (le58 _ _ eLA) (by simp)
      lh := fun e he => by rw [(hlk5 e he).1]; exact s6 (le58 _ _ (hlk5 e he).2) (by simp)
      li := fun e he p hp1 => by rw [(hlk5 e he).1] at hp1; cases hp1
      oa := s6 eOA (by simp)
      oo := fun p hp1 => s6 (hI8 p hp1) (by simp)
      ra := s6 eRA8 (by simp)
      rr := by simp
      c4 := by rw [AH.set_ne _ _ (addr_ne L 4 6 rfl)]; exact le58 _ _ c45
      c6 := c6
      cf := fun j hj => ⟨_, cs9 j hj⟩
      t := ⟨[], s6 (le58 _ _ hT5) (by simp), by simp⟩
      nd := by
        simp only [List.nodup_cons, List.mem_cons, not_or]
        exact ⟨⟨n1, m4, p1, q1, m6⟩, ⟨m5, p2, q2, m7⟩, ⟨p3, q3, m3⟩, ⟨Ne.symm p4, p5⟩, q4, hnd⟩ }
  refine WS.seq (loop6 hK G F hdep hu hbm hC hp (by omega) hll hlt hmem hol hoy hJ rfl rfl rfl (fun k e he hk => ?_) ⟨[], rfl, ⟨List.Pairwise.nil, by simp, fun j hj hs => by simp at hs⟩, by simp⟩ fun ρ' H' lk' rs' h' hl' hk' hr' w1 w2 w3 => ⟨rfl, ?_⟩)
  · rw [(hlk5 e (List.mem_of_getElem? he)).1]
    exact ⟨List.Pairwise.nil, by simp, fun j hj hs => by unfold sel6 at hs; simp at hs⟩
  exact endA hK G F hdep hu hbm hC hp hol hoy h' w3 hr' fun H'' h'' => endB hK G F hdep hu hbm hC hp (by omega) hl' hlt hmem h'' hk' w1 w2
end
end Mine

set_option maxHeartbeats 4000000
namespace Mine
open PySem PySem.W PyProof.Rows

section
variable {C : Cx} {A : Around} {ρ : Lo} {H : AH} {P : Params} {L : Addr}
theorem law_body (hK : (hd.heap_39 P).In C.base) (G : Gl06 C) {L : Addr} (F : Fx C A (env06 P L)) (hdep : A.depth + 20 < recursionLimit) (hu : A.units + 300 < cLine) (hbm : Bm C) (hC : CodeHd C.base 36 34)
    {sc : Addr} {ns : List Int} {ρ : Lo} (rs : ρ "script" = some (.ref sc)) (hsc : H sc = some (.scr (vints ns))) (hns : ns.length ≤ 63) (hT1 : H 34 = some (.tab []))
    (c1 : H (L + 1) = some (.cell none)) (c2 : H (L + 2) = some (.cell none)) (c3 : H (L + 3) = some (.cell none)) (c4 : H (L + 4) = some (.cell none)) (c5 : H (L + 5) = some (.cell none)) (c6 : H (L + 6) = some (.cell none)) (c7 : H (L + 7) = some (.cell none)) (c8 : H (L + 8) = some (.cell none)) (c9 : H (L + 9) = some (.cell none)) :
    WS C A (env06 P L) (bodyOf (law06 P)) ρ H (fun f _ H' => retv f = .bool true ∧ (∃ es, H' 34 = some (.tab es))) := by
  have hsz : 1000 ≤ sizeLine := by decide
  have cs : ∀ j ∈ [1, 2, 3, 4, 5, 6, 7, 8, 9], H (L + j) = some (.cell none) := by
    intro j hj
    simp only [List.mem_cons, List.not_mem_nil, or_false] at hj
    rcases hj with rfl | rfl | rfl | rfl | rfl | rfl | rfl | rfl | rfl <;> assumption
  clear c2 c3 c4 c5 c6 c7 c8 c9
  refine WS.seq (W1.asg (WE.of (v := .int (if ns = [] then 0 else (ns.headD 0).fmod 8)) (Ev.ifexp (c := !(vints ns).isEmpty) (EvT.of (Ev.local F rfl rs) (by simp [truth, hsc]) (by intro x e; cases e)) (fun e => ?_) (fun e => ?_)) (Asg.cell F rfl rfl c1 ⟨rfl, ?_⟩)))
  · cases ns with
    | nil => simp [vints] at e
    | cons x r => rw [if_neg (by simp)]; exact Ev.mod (Ev.item (Ev.local F rfl rs) Ev.int hsc rfl (by decide) rfl) Ev.int (by decide)
  · cases ns with
    | nil => rw [if_pos rfl]; exact Ev.int
    | cons x r => simp [vints] at e
  obtain ⟨way, hway⟩ : ∃ z : Nat, (if ns = [] then (0 : Int) else (ns.headD 0).fmod 8) = (z : Int) := by
    split
    · exact ⟨0, rfl⟩
    · exact ⟨((ns.headD 0).fmod 8).toNat, by have := (div_as (ns.headD 0) 8 (by decide)).2; omega⟩
  rw [hway]
  have d1 : (H.set (L + 1) (.cell (some (.int way)))) (L + 1) = some (.cell (some (.int way))) := AH.set_same ..
  have cs1 := cs_set (S' := [2, 3, 4, 5, 6, 7, 8, 9]) (i := 1) (o := .cell (some (.int way))) cs (by decide)
  have d3 : (H.set (L + 1) (.cell (some (.int way)))) sc = some (.scr (vints ns)) := set_at hsc c1 (by simp)
  have dT : (H.set (L + 1) (.cell (some (.int way)))) 34 = some (.tab []) := set_at hT1 c1 (by simp)
  generalize H.set (L + 1) (.cell (some (.int way))) = H1 at *
  clear cs
  -- numbers
  refine WS.seq (W1.asg (WE.listComp (cl := [("way", L + 1)]) rfl (WIt.list F (WE.addList (WE.slice (lo := some 1) (hi := none) (WE.of (Ev.local F rfl rs) ⟨sc, _, _, rfl, d3, rfl, .some Ev.int, .none, fun S0 hS0 => WE.list rfl (by decide) (WEs.of (.cons Ev.int (.cons Ev.int .nil)) fun l0 hl0 => ⟨S0, l0, _, _, _, _, rfl, rfl, AH.get_of_set (AH.set_same ..) hl0, AH.set_same .., rfl, rfl, ?_, fun N0 hN0 => ⟨N0, _, _, rfl, AH.set_same .., rfl, fun Cn hCn => ?_⟩⟩)⟩))))))
  · have := slc_len (some 1) none (vints ns)
    rw [ints_length] at this
    simp; omega
  have hvs : slc (some 1) none (vints ns) ++ [V.int 0, V.int 0] = vints (ns.drop 1 ++ [0, 0]) := by
    rw [show (1 : Int) = ((1 : Nat) : Int) from rfl, slc_drop]; simp [vints]
  have le1 : H1.le (((H1.set S0 (.list (slc (some 1) none (vints ns)))).set l0 (.list [.int 0, .int 0])).set N0 (.list (slc (some 1) none (vints ns) ++ [V.int 0, V.int 0]))) := AH.le_trans (AH.le_set (AH.le_refl _) hS0) (AH.le_trans (AH.le_set (AH.le_refl _) hl0) (AH.le_set (AH.le_refl _) hN0))
  have el0 : (((H1.set S0 (.list (slc (some 1) none (vints ns)))).set l0 (.list [.int 0, .int 0])).set N0 (.list (slc (some 1) none (vints ns) ++ [V.int 0, V.int 0]))) N0 = some (.list (slc (some 1) none (vints ns) ++ [V.int 0, V.int 0])) := AH.set_same ..
  generalize ((H1.set S0 (.list (slc (some 1) none (vints ns)))).set l0 (.list [.int 0, .int 0])).set N0 (.list (slc (some 1) none (vints ns) ++ [V.int 0, V.int 0])) = H2 at *
  rw [hvs] at *
  generalize hys : ns.drop 1 ++ [0, 0] = ys at *
  have hyl : ys.length ≤ 64 := by rw [← hys]; simp; omega
  have hyl2 : 2 ≤ ys.length := by rw [← hys]; simp
  have e1 := le1 _ _ d1
  have cs2 := cs_le cs1 le1
  have eT := le1 _ _ dT
  obtain ⟨gf, hgf⟩ : ∃ gf : Int → Int, gf = fun y : Int => if (way : Int) > 0 then y.fmod (way + 1) else y := ⟨_, rfl⟩
  refine comp_list (f := fun i => .int (gf (ys.getD i 0))) (F.comp rfl) rfl (by rw [ints_length]; omega) (fun _ => el0) ?_ ?_
  · intro i v ρ2 hv hk
    obtain ⟨rfl, _⟩ := vints_at hv
    rw [hgf]
    refine Ev.ifexp (EvT.icmp (op := .Gt) (Ev.cell (F.comp rfl) rfl rfl e1) Ev.int rfl) (fun e => ?_) (fun e => ?_)
    · have e' : (way : Int) > 0 := by simpa using e
      show Ev _ _ _ _ _ _ (.int (if (way : Int) > 0 then _ else _))
      rw [if_pos e']
      exact Ev.mod (Ev.local (F.comp rfl) rfl hk) (Ev.add (Ev.cell (F.comp rfl) rfl rfl e1) Ev.int) (by omega)
    · have e' : ¬ (way : Int) > 0 := by simpa using e
      show Ev _ _ _ _ _ _ (.int (if (way : Int) > 0 then _ else _))
      rw [if_neg e']
      exact Ev.local (F.comp rfl) rfl hk
  rw [map_range_vints gf]
  generalize hxs : ys.map gf = xs
  have hxl : xs.length ≤ 64 := by rw [← hxs, List.length_map]; exact hyl
  have hxl2 : 2 ≤ xs.length := by rw [← hxs, List.length_map]; exact hyl2
  intro N hN
  have leN : H2.le (H2.set N (.list (vints xs))) := AH.le_set (AH.le_refl _) hN
  have cs3 := cs_le cs2 leN
  have hc3 := cs3 3 (by decide)
  refine Asg.cell F rfl rfl hc3 ⟨rfl, ?_⟩
  have cs4 := cs_set (S' := [2, 4, 5, 6, 7, 8, 9]) (i := 3) (o := .cell (some (.ref N))) cs3 (by decide)
  have f2 : ((H2.set N (.list (vints xs))).set (L + 3) (.cell (some (.ref N)))) (L + 3) = some (.cell (some (.ref N))) := AH.set_same ..
  have fN : ((H2.set N (.list (vints xs))).set (L + 3) (.cell (some (.ref N)))) N = some (.list (vints xs)) := set_at (AH.set_same ..) hc3 (by simp)
  have fT : ((H2.set N (.list (vints xs))).set (L + 3) (.cell (some (.ref N)))) 34 = some (.tab []) := set_at (leN _ _ eT) hc3 (by simp)
  generalize (H2.set N (.list (vints xs))).set (L + 3) (.cell (some (.ref N))) = H3 at *
  -- points
  generalize hcn : ((((xs.length : Int) - 1) + ((2 : Nat) : Int) - 1) / ((2 : Nat) : Int)).toNat = cn
  refine WS.seq (W1.asg (WE.listComp (cl := [("numbers", L + 3)]) rfl (WIt.range3 (a := 0) (b := (xs.length : Int) - 1) (c := ((2 : Nat) : Int)) (n := cn) F (Ev.glob F rfl G.range) Ev.int (Ev.sub (Ev.as (Ev.len (Ev.glob F rfl G.len) (Ev.cell F rfl rfl f2) fN rfl) (by rw [ints_length])) Ev.int) Ev.int (by decide) (by decide) (small_pos (by decide) (by decide) (by omega) (by omega)) (by rw [rangeSize_pos (by decide), hcn]) fun Cn hCn => ?_)))
  refine comp_pairs (g := fun i => (xs.getD (2 * i) 0, xs.getD (2 * i + 1) 0)) (by omega) (fun i ρ1 H4 hi hle => ⟨trivial, ?_⟩) (fun _ _ => trivial) rfl ?_
  · rintro d rfl
    have hi2 : 2 * i + 1 < xs.length := by omega
    refine Asg.local (F.comp rfl) rfl ⟨rfl, ?_, ?_⟩
    · exact Ev.item (Ev.cell (F.comp rfl) rfl rfl (hle _ _ f2)) (Ev.local (F.comp rfl) rfl rfl) (hle _ _ fN) rfl (by omega) (by
        rw [show ((0 : Int) + (i : Int) * ((2 : Nat) : Int)).toNat = 2 * i by omega]
        exact vget (by omega))
    · exact Ev.item (Ev.cell (F.comp rfl) rfl rfl (hle _ _ f2)) (Ev.add (Ev.local (F.comp rfl) rfl rfl) Ev.int) (hle _ _ fN) rfl (by omega) (by
        rw [show ((0 : Int) + (i : Int) * ((2 : Nat) : Int) + 1).toNat = 2 * i + 1 by omega]
        exact vget hi2)
  intro ps H4 hps hle hI PT hPT
  have hpl : ps.length = cn := by have := congrArg List.length hps; simpa using this
  have hcn2 : cn ≤ 36 := by omega
  have leP : H4.le (H4.set PT (.list (prefs ps))) := AH.le_set (AH.le_refl _) hPT
  have leQ := AH.le_trans hle leP
  have cs5 := cs_le cs4 leQ
  have hc4 := cs5 4 (by decide)
  refine Asg.cell F rfl rfl hc4 ⟨rfl, ?_⟩
  have cs6 := cs_set (S' := [2, 5, 6, 7, 8, 9]) (i := 4) (o := .cell (some (.ref PT))) cs5 (by decide)
  exact law_rest (PT := PT) (ps := ps) hK G F hdep hu hbm hC (by omega) (set_at (AH.set_same ..) hc4 (by simp)) (fun p hp => set_at (leP _ _ (hI p hp)) hc4 (by simp)) (AH.set_same ..) cs6 (set_at (leQ _ _ fT) hc4 (by simp))
end
end Mine

open PySem PySem.W PyProof.Rows Mine in
set_option maxRecDepth 100000 in
set_option maxHeartbeats 8000000 in
theorem PySem.Challenge.cw_dm0010_06_holds : PySem.Challenge.rw_dm0010_06.Holds :=
  Mine.hd (by
  w_strict (
  k_fill
  intro w s₀ s₁ mg mb G Y fa o pm cd doc dV kV ho hd hcd hD hmg hg args vals as hpre hlay hrd hwl hlo
  have KX := km_in_of Y
  refine Ground.open G ?_
  intro T B D TE TW
  clear ho hd hcd hD
  wrow_args hpre hlay hrd hwl hlo
  rename_i ns _ _ _ _ _ _ _ sc vs _ hL _ _ _ hI _ hlen _
  have hfa : fa = 37 := by
    have h1 : mg "law" = some (.ref 37) := mg_of KX T.g rfl
    have h2 : mg "law" = some (.ref fa) := hmg
    rw [h1] at h2; cases h2; rfl
  subst hfa
  have hTb1 : CodeHd s₁.heap 36 34 ∧ s₁.heap.get? 34 = some (tabObj #[]) := ⟨codeHd_of_K KX (by kernel_rfl), km_tabs_of Y 34 (by simp)⟩
  have hTA : TabsAt [(36, 34)] s₁.heap := fun q hq => by
    rw [List.mem_singleton.mp hq]; exact hTb1
  have hTt : ∀ b ∈ ([34] : List Addr), s₁.heap.get? b = some (tabObj #[]) ∧ ∃ c, CodeHd s₁.heap c b := fun b hb => by
    rw [List.mem_singleton.mp hb]; exact ⟨hTb1.2, _, hTb1.1⟩
  let C : Cx := { prog := Challenge.rw_dm0010_06.row.prog, w := w, base := ghostOf s₁.heap [(36, 34)], mg := mg, mb := mb, hg := ghost_ns hTA T.g, hb := ghost_ns hTA T.b, lim := (ghost_top hTA T).nolimit }
  have KX' : (Mine.hd.heap_39 w.params).In C.base := ghost_K hTA KX rfl
  have bt : ∀ x : Str, x ≠ "__name__" → C.mb x = bootBuiltins x := T.builtins
  have hBm : Bm C := by
    obtain ⟨bm, ob, b1, b2, b3, b4, b5, b6⟩ := (ghost_top hTA T).bmain
    refine ⟨bm, ob, b1, b2, fun q => ?_, b3, b4, b5, b6⟩
    obtain ⟨o, es, ep, e, hd, _⟩ := C.hg
    have b3' : C.base.get? mainGlobals = some ob := q ▸ b3
    rw [b3'] at e; cases e; rw [b6] at hd; cases hd
  have hns : ns.length ≤ 63 := by omega
  have hmap : vs.map ab = vints ns := ints_of hI
  have hscT : ∀ b ∈ ([34] : List Addr), sc ≠ b := fun b hb q => by
    obtain ⟨o, ho, hc, _⟩ := hL
    rw [q, (hTt b hb).1] at ho; cases ho; cases hc
  have key := top_call2 (C := C) (A := callerA) (H := (fun b => if b = sc then some (.scr (vints ns)) else if b ∈ ([34] : List Addr) then some (.tab []) else none)) (Q := fun v H' => v = .bool true ∧ (∃ es, H' 34 = some (.tab es))) (s := s₁) (a := 37) (fd := fdOf (Mine.hd.heap_39 w.params) 37) (vals := [.ref sc]) (bs := [("script", .ref sc)]) (fun b o e => of_hideAll _ e) ?_ ?_ (KX 37 ⟨.type "function", none, .func (fdOf (Mine.hd.heap_39 w.params) 37), #[]⟩ rfl) rfl (by decide) rfl rfl (codeRec_of KX rfl) (binds := [("script", .ref sc)]) rfl rfl rfl (show (["stretch", "due", "more", "rises", "y", "points", "numbers", "x", "way"] : List Str).Nodup by decide) (aL (kinds (fdOf (Mine.hd.heap_39 w.params) 37)) [("script", .ref sc)] fun _ => none) (aC (kinds (fdOf (Mine.hd.heap_39 w.params) 37)) [("script", .ref sc)] fun _ => none) (fun L x => bindL_ab (fun _ => rfl) x) (fun L x => bindC_ab (fun _ => rfl) x) ?_
  · refine wpAny_mono key (fun v s' ⟨⟨H', ⟨hv, hes1⟩, hrep⟩, hbk, hk, hlv, hgn, hos⟩ => ?_) fun _ _ e => e.elim
    cases ab_bool hv
    refine law_end2 (H := H') (H' := H') (tabs := [34]) rfl (by wrow_post) (fun P hP => ?_) hrep (fun b o hb e => hbk b o (ghost_ne e hb)) hlv (hgn.trans hg) hos
    refine ⟨?_, ?_⟩
    · obtain ⟨h1, c, h2⟩ := hTt P hP
      exact ⟨c, h2.tab h1⟩
    · skip
      rw [List.mem_singleton.mp hP]; exact hes1
  · intro b ob hb
    by_cases q : b = sc
    · subst q
      rw [if_pos rfl] at hb; cases hb
      obtain ⟨o, ho, hc, n, hd⟩ := hL
      exact ⟨o, ho, hc, _, n, hd, hmap, by rw [ints_length]; exact Nat.le_trans hns (by decide)⟩
    · rw [if_neg q] at hb
      by_cases q2 : b ∈ ([34] : List Addr)
      · rw [if_pos q2] at hb; cases hb
        exact ⟨_, (hTt b q2).1, rfl⟩
      · rw [if_neg q2] at hb; cases hb
  · intro b ob hb hm
    by_cases q : b = sc
    · subst q
      rw [if_pos rfl] at hb; cases hb; cases hm
    · rw [if_neg q] at hb
      by_cases q2 : b ∈ ([34] : List Addr)
      · exact hideAll_none _ q2
      · rw [if_neg q2] at hb; cases hb
  · intro L hL0 hcs
    have hscL : ∀ p ∈ cellsFrom (L + 1) (fdOf (Mine.hd.heap_39 w.params) 37).scope.names [], sc ≠ p.2 ∧ p.2 ∉ ([34] : List Addr) := fun p hp => by
      have := (hcs p hp).1
      refine ⟨fun q => ?_, fun q => ?_⟩
      · rw [if_pos q.symm] at this; cases this
      · have hne : ¬ p.2 = sc := fun e => hscT p.2 q e.symm
        rw [if_neg hne, if_pos q] at this; cases this
    have hTH : ∀ b ∈ ([34] : List Addr), ((fun b => if b = sc then some (.scr (vints ns)) else if b ∈ ([34] : List Addr) then some (.tab []) else none) : AH) b = some (.tab []) := fun b hb => (if_neg (fun e => hscT b hb e.symm)).trans (if_pos hb)
    obtain ⟨n1, t1⟩ := hscL ("way", L + 1) (.tail _ (.tail _ (.tail _ (.tail _ (.tail _ (.tail _ (.tail _ (.tail _ (.head _)))))))))
    obtain ⟨n2, t2⟩ := hscL ("x", L + 2) (.tail _ (.tail _ (.tail _ (.tail _ (.tail _ (.tail _ (.tail _ (.head _))))))))
    obtain ⟨n3, t3⟩ := hscL ("numbers", L + 3) (.tail _ (.tail _ (.tail _ (.tail _ (.tail _ (.tail _ (.head _)))))))
    obtain ⟨n4, t4⟩ := hscL ("points", L + 4) (.tail _ (.tail _ (.tail _ (.tail _ (.tail _ (.head _))))))
    obtain ⟨n5, t5⟩ := hscL ("y", L + 5) (.tail _ (.tail _ (.tail _ (.tail _ (.head _)))))
    obtain ⟨n6, t6⟩ := hscL ("rises", L + 6) (.tail _ (.tail _ (.tail _ (.head _))))
    obtain ⟨n7, t7⟩ := hscL ("more", L + 7) (.tail _ (.tail _ (.head _)))
    obtain ⟨n8, t8⟩ := hscL ("due", L + 8) (.tail _ (.head _))
    obtain ⟨n9, t9⟩ := hscL ("stretch", L + 9) (.head _)
    refine law_body (C := C) (sc := sc) (ns := ns) KX' ⟨(gl_boot KX' rfl ((bt _ (by decide)).trans (by decide +kernel))), (gl_boot KX' rfl ((bt _ (by decide)).trans (by decide +kernel))), (gl_boot KX' rfl ((bt _ (by decide)).trans (by decide +kernel))), (gl_boot KX' rfl ((bt _ (by decide)).trans (by decide +kernel))), (gl_own KX' rfl), (gl_own KX' rfl)⟩ ⟨rfl, rfl, rfl, rfl⟩ (show callerA.depth + 1 + 20 < recursionLimit by decide) (show callerA.units + 3 + 300 < cLine by decide) hBm (ghost_code hTA).1 rfl ?_ hns ?_ ?_ ?_ ?_ ?_ ?_ ?_ ?_ ?_ ?_
    · show ((AH.set (AH.set (AH.set (AH.set (AH.set (AH.set (AH.set (AH.set (AH.set _ (L + 1) (.cell none)) (L + 2) (.cell none)) (L + 3) (.cell none)) (L + 4) (.cell none)) (L + 5) (.cell none)) (L + 6) (.cell none)) (L + 7) (.cell none)) (L + 8) (.cell none)) (L + 9) (.cell none)) sc) = _
      rw [AH.set_ne _ _ n9, AH.set_ne _ _ n8, AH.set_ne _ _ n7, AH.set_ne _ _ n6, AH.set_ne _ _ n5, AH.set_ne _ _ n4, AH.set_ne _ _ n3, AH.set_ne _ _ n2, AH.set_ne _ _ n1]; exact if_pos rfl
    · show ((AH.set (AH.set (AH.set (AH.set (AH.set (AH.set (AH.set (AH.set (AH.set _ (L + 1) (.cell none)) (L + 2) (.cell none)) (L + 3) (.cell none)) (L + 4) (.cell none)) (L + 5) (.cell none)) (L + 6) (.cell none)) (L + 7) (.cell none)) (L + 8) (.cell none)) (L + 9) (.cell none)) 34) = _
      rw [AH.set_ne _ _ (fun e : 34 = L + 9 => t9 (e ▸ by simp)), AH.set_ne _ _ (fun e : 34 = L + 8 => t8 (e ▸ by simp)), AH.set_ne _ _ (fun e : 34 = L + 7 => t7 (e ▸ by simp)), AH.set_ne _ _ (fun e : 34 = L + 6 => t6 (e ▸ by simp)), AH.set_ne _ _ (fun e : 34 = L + 5 => t5 (e ▸ by simp)), AH.set_ne _ _ (fun e : 34 = L + 4 => t4 (e ▸ by simp)), AH.set_ne _ _ (fun e : 34 = L + 3 => t3 (e ▸ by simp)), AH.set_ne _ _ (fun e : 34 = L + 2 => t2 (e ▸ by simp)), AH.set_ne _ _ (fun e : 34 = L + 1 => t1 (e ▸ by simp))]; exact hTH 34 (by simp)
    · show ((AH.set (AH.set (AH.set (AH.set (AH.set (AH.set (AH.set (AH.set (AH.set _ (L + 1) (.cell none)) (L + 2) (.cell none)) (L + 3) (.cell none)) (L + 4) (.cell none)) (L + 5) (.cell none)) (L + 6) (.cell none)) (L + 7) (.cell none)) (L + 8) (.cell none)) (L + 9) (.cell none)) (L + 1)) = _
      rw [AH.set_ne _ _ (addr_ne L 1 9 rfl), AH.set_ne _ _ (addr_ne L 1 8 rfl), AH.set_ne _ _ (addr_ne L 1 7 rfl), AH.set_ne _ _ (addr_ne L 1 6 rfl), AH.set_ne _ _ (addr_ne L 1 5 rfl), AH.set_ne _ _ (addr_ne L 1 4 rfl), AH.set_ne _ _ (addr_ne L 1 3 rfl), AH.set_ne _ _ (addr_ne L 1 2 rfl), AH.set_same]
    · show ((AH.set (AH.set (AH.set (AH.set (AH.set (AH.set (AH.set (AH.set (AH.set _ (L + 1) (.cell none)) (L + 2) (.cell none)) (L + 3) (.cell none)) (L + 4) (.cell none)) (L + 5) (.cell none)) (L + 6) (.cell none)) (L + 7) (.cell none)) (L + 8) (.cell none)) (L + 9) (.cell none)) (L + 2)) = _
      rw [AH.set_ne _ _ (addr_ne L 2 9 rfl), AH.set_ne _ _ (addr_ne L 2 8 rfl), AH.set_ne _ _ (addr_ne L 2 7 rfl), AH.set_ne _ _ (addr_ne L 2 6 rfl), AH.set_ne _ _ (addr_ne L 2 5 rfl), AH.set_ne _ _ (addr_ne L 2 4 rfl), AH.set_ne _ _ (addr_ne L 2 3 rfl), AH.set_same]
    · show ((AH.set (AH.set (AH.set (AH.set (AH.set (AH.set (AH.set (AH.set (AH.set _ (L + 1) (.cell none)) (L + 2) (.cell none)) (L + 3) (.cell none)) (L + 4) (.cell none)) (L + 5) (.cell none)) (L + 6) (.cell none)) (L + 7) (.cell none)) (L + 8) (.cell none)) (L + 9) (.cell none)) (L + 3)) = _
      rw [AH.set_ne _ _ (addr_ne L 3 9 rfl), AH.set_ne _ _ (addr_ne L 3 8 rfl), AH.set_ne _ _ (addr_ne L 3 7 rfl), AH.set_ne _ _ (addr_ne L 3 6 rfl), AH.set_ne _ _ (addr_ne L 3 5 rfl), AH.set_ne _ _ (addr_ne L 3 4 rfl), AH.set_same]
    · show ((AH.set (AH.set (AH.set (AH.set (AH.set (AH.set (AH.set (AH.set (AH.set _ (L + 1) (.cell none)) (L + 2) (.cell none)) (L + 3) (.cell none)) (L + 4) (.cell none)) (L + 5) (.cell none)) (L + 6) (.cell none)) (L + 7) (.cell none)) (L + 8) (.cell none)) (L + 9) (.cell none)) (L + 4)) = _
      rw [AH.set_ne _ _ (addr_ne L 4 9 rfl), AH.set_ne _ _ (addr_ne L 4 8 rfl), AH.set_ne _ _ (addr_ne L 4 7 rfl), AH.set_ne _ _ (addr_ne L 4 6 rfl), AH.set_ne _ _ (addr_ne L 4 5 rfl), AH.set_same]
    · show ((AH.set (AH.set (AH.set (AH.set (AH.set (AH.set (AH.set (AH.set (AH.set _ (L + 1) (.cell none)) (L + 2) (.cell none)) (L + 3) (.cell none)) (L + 4) (.cell none)) (L + 5) (.cell none)) (L + 6) (.cell none)) (L + 7) (.cell none)) (L + 8) (.cell none)) (L + 9) (.cell none)) (L + 5)) = _
      rw [AH.set_ne _ _ (addr_ne L 5 9 rfl), AH.set_ne _ _ (addr_ne L 5 8 rfl), AH.set_ne _ _ (addr_ne L 5 7 rfl), AH.set_ne _ _ (addr_ne L 5 6 rfl), AH.set_same]
    · show ((AH.set (AH.set (AH.set (AH.set (AH.set (AH.set (AH.set (AH.set (AH.set _ (L + 1) (.cell none)) (L + 2) (.cell none)) (L + 3) (.cell none)) (L + 4) (.cell none)) (L + 5) (.cell none)) (L + 6) (.cell none)) (L + 7) (.cell none)) (L + 8) (.cell none)) (L + 9) (.cell none)) (L + 6)) = _
      rw [AH.set_ne _ _ (addr_ne L 6 9 rfl), AH.set_ne _ _ (addr_ne L 6 8 rfl), AH.set_ne _ _ (addr_ne L 6 7 rfl), AH.set_same]
    · show ((AH.set (AH.set (AH.set (AH.set (AH.set (AH.set (AH.set (AH.set (AH.set _ (L + 1) (.cell none)) (L + 2) (.cell none)) (L + 3) (.cell none)) (L + 4) (.cell none)) (L + 5) (.cell none)) (L + 6) (.cell none)) (L + 7) (.cell none)) (L + 8) (.cell none)) (L + 9) (.cell none)) (L + 7)) = _
      rw [AH.set_ne _ _ (addr_ne L 7 9 rfl), AH.set_ne _ _ (addr_ne L 7 8 rfl), AH.set_same]
    · show ((AH.set (AH.set (AH.set (AH.set (AH.set (AH.set (AH.set (AH.set (AH.set _ (L + 1) (.cell none)) (L + 2) (.cell none)) (L + 3) (.cell none)) (L + 4) (.cell none)) (L + 5) (.cell none)) (L + 6) (.cell none)) (L + 7) (.cell none)) (L + 8) (.cell none)) (L + 9) (.cell none)) (L + 8)) = _
      rw [AH.set_ne _ _ (addr_ne L 8 9 rfl), AH.set_same]
    · show ((AH.set (AH.set (AH.set (AH.set (AH.set (AH.set (AH.set (AH.set (AH.set _ (L + 1) (.cell none)) (L + 2) (.cell none)) (L + 3) (.cell none)) (L + 4) (.cell none)) (L + 5) (.cell none)) (L + 6) (.cell none)) (L + 7) (.cell none)) (L + 8) (.cell none)) (L + 9) (.cell none)) (L + 9)) = _
      rw [AH.set_same]))

