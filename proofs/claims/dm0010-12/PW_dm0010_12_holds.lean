import PyProof.Rows.All
import Wide.All
import OpenK.AllK
import Wide.FinOn
import PySem.Challenge.RW_dm0010_12
set_option Elab.async false
set_option linter.unusedVariables false
set_option maxRecDepth 100000
namespace Mine
open PySem PySem.W PyProof.Rows

/-! ## abstract values, objects, heaps -/
inductive V where
  | none | bool (b : Bool) | int (i : Int) | str (x : Str) | ref (a : Addr) | bi (id : String) | ty (n : String) | oth
  deriving DecidableEq

noncomputable def ab : Value → V
  | .none => .none
  | .bool b => .bool b
  | .int i _ => .int i
  | .str x _ => .str x
  | .ref a => .ref a
  | .builtin i => .bi i
  | .type n => .ty n
  | _ => .oth

theorem ab_none {v : Value} (h : ab v = .none) : v = .none := by cases v <;> simp_all [ab]
theorem ab_bool {v : Value} {b} (h : ab v = .bool b) : v = .bool b := by cases v <;> simp_all [ab]
theorem ab_int {v : Value} {i} (h : ab v = .int i) : ∃ t, v = .int i t := by cases v <;> simp_all [ab]
theorem ab_str {v : Value} {x} (h : ab v = .str x) : ∃ t, v = .str x t := by cases v <;> simp_all [ab]
theorem ab_ref {v : Value} {a} (h : ab v = .ref a) : v = .ref a := by cases v <;> simp_all [ab]
theorem ab_bi {v : Value} {a} (h : ab v = .bi a) : v = .builtin a := by cases v <;> simp_all [ab]
theorem ab_ty {v : Value} {a} (h : ab v = .ty a) : v = .type a := by cases v <;> simp_all [ab]

inductive O where
  | list (vs : List V)
  | scr (vs : List V)
  | tup (vs : List V)
  | cell (v : Option V)
  | fn (fd : FuncData)
  | rng (a n c : Int)
  | tab (es : List (Nat × Nat × Addr))
  | code (q : Str)
  | raw (c : Obj)

noncomputable def O.mut : O → Bool
  | .list _ => true
  | .cell _ => true
  | .tab _ => true
  | _ => false

noncomputable def tabItems (es : List (Nat × Nat × Addr)) : List Value := es.flatMap fun e => [rawInt e.1, rawInt e.2.1, .ref e.2.2]

noncomputable def Rep : O → Obj → Prop
  | .list vs, c => ∃ xs n, c = { cls := .type "list", data := .seq xs n } ∧ xs.toList.map ab = vs ∧ vs.length ≤ sizeLine
  | .scr vs, c => c.cls = .type "list" ∧ ∃ xs n, c.data = .seq xs n ∧ xs.toList.map ab = vs ∧ vs.length ≤ sizeLine
  | .tup vs, c => ∃ xs n, c = { cls := .type "tuple", data := .seq xs n } ∧ xs.toList.map ab = vs ∧ vs.length ≤ sizeLine
  | .cell v, c => ∃ u, c.data = .cell u ∧ u.map ab = v
  | .fn fd, c => c = { cls := .type "function", data := .func fd }
  | .rng a n d, c => c.cls = .type "range" ∧ c.data = .fields #[.int a 0, .int (a + n * d) 0, .int d 0]
  | .tab es, c => c = { cls := .none, data := .fields (tabItems es).toArray }
  | .code q, c => ∃ vs t, c.data = .fields vs ∧ vs[1]? = some (.str q t)
  | .raw c', c => c = c'

noncomputable abbrev AH := Addr → Option O
noncomputable abbrev Lo := Str → Option V

noncomputable def AH.set (H : AH) (a : Addr) (o : O) : AH := fun b => if b = a then some o else H b
@[simp] theorem AH.set_same (H : AH) (a : Addr) (o : O) : (H.set a o) a = some o := by simp [AH.set]
theorem AH.set_ne (H : AH) {a b : Addr} (o : O) (h : b ≠ a) : (H.set a o) b = H b := by simp [AH.set, h]
noncomputable def Lo.set (ρ : Lo) (x : Str) (v : V) : Lo := fun y => if y = x then some v else ρ y
@[simp] theorem Lo.set_same (ρ : Lo) (x : Str) (v : V) : (ρ.set x v) x = some v := by simp [Lo.set]
theorem Lo.set_ne (ρ : Lo) {x y : Str} (v : V) (h : y ≠ x) : (ρ.set x v) y = ρ y := by simp [Lo.set, h]

structure Cx where
  prog : Program
  w : World
  base : Heap
  mg : Str → Option Value
  mb : Str → Option Value
  hg : base.Ns mainGlobals mg
  hb : base.Ns builtinsNs mb
  lim : base.NoLimit

noncomputable def Cx.gl (C : Cx) (x : Str) : Option Value := match C.mg x with | some v => some v | none => C.mb x
noncomputable abbrev Cx.M (C : Cx) : Model := model C.prog C.w

structure St (C : Cx) (L : Addr) (ρ : Lo) (H : AH) (h : Heap) : Prop where
  keep : ∀ b o, C.base.get? b = some o → h.get? b = some o
  rep : ∀ a o, H a = some o → ∃ c, h.get? a = some c ∧ Rep o c
  own : ∀ a o, H a = some o → o.mut = true → C.base.get? a = none
  loc : ∃ m, h.Ns L m ∧ ∀ x, (m x).map ab = ρ x
  nl : H L = none
  bl : C.base.get? L = none

structure Step (L : Addr) (H H' : AH) (s s' : Shared) : Prop where
  same : s'.gens = s.gens ∧ s'.os = s.os
  kept : ∀ b o, s.heap.get? b = some o → H b = none → b ≠ L → s'.heap.get? b = some o
  new : ∀ b o, s.heap.get? b = some o → H b = none → H' b = none
  live : ∀ b o, s.heap.get? b = some o → ∃ o', s'.heap.get? b = some o'

theorem Step.refl (L : Addr) (H : AH) (s : Shared) : Step L H H s s := ⟨⟨rfl, rfl⟩, fun _ _ e _ _ => e, fun _ _ _ e => e, fun _ o e => ⟨o, e⟩⟩
theorem Step.trans {L : Addr} {H H' H'' : AH} {s s' s'' : Shared} (x : Step L H H' s s') (y : Step L H' H'' s' s'') (hL : H L = none → H' L = none → H'' L = none) : Step L H H'' s s'' := by
  obtain ⟨m1, k1, n1, l1⟩ := x
  obtain ⟨m2, k2, n2, l2⟩ := y
  refine ⟨⟨m2.1.trans m1.1, m2.2.trans m1.2⟩, fun b o e eH eL => k2 b o (k1 b o e eH eL) (n1 b o e eH) eL, fun b o e eH => ?_, fun b o e => let ⟨o', e'⟩ := l1 b o e; l2 b o' e'⟩
  by_cases hb : b = L
  · subst hb; exact hL eH (n1 _ o e eH)
  · exact n2 b o (k1 b o e eH hb) (n1 b o e eH)

noncomputable abbrev False2 : Value → Shared → Prop := fun _ _ => False

noncomputable def Post {α : Type} (C : Cx) (L : Addr) (H : AH) (s : Shared) (Q : α → Lo → AH → Prop) (a : α) (s' : Shared) : Prop := ∃ ρ' H', St C L ρ' H' s'.heap ∧ Step L H H' s s' ∧ Q a ρ' H'

noncomputable def W {α : Type} (C : Cx) (A : Around) (L : Addr) (t : Sem α) (ρ : Lo) (H : AH) (Q : α → Lo → AH → Prop) : Prop :=
  ∀ s : Shared, St C L ρ H s.heap → wpAny C.M A t (Post C L H s Q) False2 s

section
variable {α β : Type} {C : Cx} {A : Around} {L : Addr} {ρ : Lo} {H : AH}

theorem W.pure {a : α} {Q : α → Lo → AH → Prop} (h : Q a ρ H) : W C A L (Pure.pure a) ρ H Q := fun s hs => wpAny_pure ⟨ρ, H, hs, .refl .., h⟩
theorem W.mono {t : Sem α} {Q Q' : α → Lo → AH → Prop} (h : W C A L t ρ H Q) (hq : ∀ a ρ' H', Q a ρ' H' → Q' a ρ' H') : W C A L t ρ H Q' := fun s hs =>
  wpAny_mono (h s hs) (fun a s' ⟨ρ', H', x, y, z⟩ => ⟨ρ', H', x, y, hq _ _ _ z⟩) fun _ _ e => e
theorem W.bind {t : Sem α} {f : α → Sem β} {Q : β → Lo → AH → Prop} (h : W C A L t ρ H (fun a ρ' H' => W C A L (f a) ρ' H' Q)) : W C A L (t >>= f) ρ H Q := fun s hs =>
  wpAny_bind (wpAny_mono (h s hs) (fun a s' ⟨ρ', H', x, y, z⟩ => wpAny_mono (z s' x) (fun b s'' ⟨ρ'', H'', x', y', z'⟩ =>
    ⟨ρ'', H'', x', y.trans y' (fun _ _ => x'.nl), z'⟩) fun _ _ e => e) fun _ _ e => e)
theorem W.holding {vs : List Value} {t : Sem α} {Q : α → Lo → AH → Prop} (h : W C A L t ρ H Q) : W C A L (PySem.holding vs t) ρ H Q := fun s hs => wpAny_holding (h s hs)
theorem W.standAt {p : Pos} {Q : Unit → Lo → AH → Prop} (h : Q () ρ H) : W C A L (PySem.standAt p) ρ H Q := fun s hs => wpAny_standAt ⟨ρ, H, hs, .refl .., h⟩

/-- continue behind a step of a library rule -/
theorem W.at {t : Sem α} {Q : α → Lo → AH → Prop} {s s' : Shared} {ρ' : Lo} {H' : AH} (h : W C A L t ρ' H' Q) (hs : St C L ρ' H' s'.heap) (hst : Step L H H' s s') :
    wpAny C.M A t (Post C L H s Q) False2 s' :=
  wpAny_mono (h s' hs) (fun a s'' ⟨ρ'', H'', x', y', z'⟩ => ⟨ρ'', H'', x', hst.trans y' (fun _ _ => x'.nl), z'⟩) fun _ _ e => e
theorem W.at2 {t : Sem α} {f : α → Sem β} {Q : β → Lo → AH → Prop} {s s' : Shared} {ρ' : Lo} {H' : AH} (h : W C A L t ρ' H' (fun a ρ2 H2 => W C A L (f a) ρ2 H2 Q)) (hs : St C L ρ' H' s'.heap) (hst : Step L H H' s s') :
    wpAny C.M A t (fun a s2 => wpAny C.M A (f a) (Post C L H s Q) False2 s2) False2 s' :=
  wpAny_mono (h s' hs) (fun a s'' ⟨ρ'', H'', x', y', z'⟩ => z'.at x' (hst.trans y' (fun _ _ => x'.nl))) fun _ _ e => e
theorem W.at3 {γ : Type} {t : Sem α} {f : α → Sem β} {g : α → β → Sem γ} {Q : γ → Lo → AH → Prop} {s s' : Shared} {ρ' : Lo} {H' : AH} (h : W C A L t ρ' H' (fun a ρ2 H2 => W C A L (f a) ρ2 H2 (fun b ρ3 H3 => W C A L (g a b) ρ3 H3 Q))) (hs : St C L ρ' H' s'.heap) (hst : Step L H H' s s') :
    wpAny C.M A t (fun a s2 => wpAny C.M A (f a) (fun b s3 => wpAny C.M A (g a b) (Post C L H s Q) False2 s3) False2 s2) False2 s' :=
  wpAny_mono (h s' hs) (fun a s'' ⟨ρ'', H'', x', y', z'⟩ => z'.at2 x' (hst.trans y' (fun _ _ => x'.nl))) fun _ _ e => e

/-- only tokens, or new untracked objects -/
theorem St.ext {h h' : Heap} (x : St C L ρ H h) (k : ∀ b o, h.get? b = some o → h'.get? b = some o) : St C L ρ H h' where
  keep := fun b o e => k _ _ (x.keep b o e)
  rep := fun a o e => let ⟨c, e1, e2⟩ := x.rep a o e; ⟨c, k _ _ e1, e2⟩
  own := x.own
  loc := let ⟨m, e1, e2⟩ := x.loc; ⟨m, e1.keeps k, e2⟩
  nl := x.nl
  bl := x.bl
theorem Step.ext {s : Shared} {h' : Heap} {tk : Nat} (k : ∀ b o, s.heap.get? b = some o → h'.get? b = some o) : Step L H H s { s with heap := h', toks := tk } :=
  ⟨⟨rfl, rfl⟩, fun b o e _ _ => k b o e, fun _ _ _ e => e, fun b o e => ⟨o, k b o e⟩⟩
theorem Step.toks {s : Shared} {tk : Nat} : Step L H H s { s with toks := tk } := ⟨⟨rfl, rfl⟩, fun _ _ e _ _ => e, fun _ _ _ e => e, fun _ o e => ⟨o, e⟩⟩

/-- an address that is not tracked, not the base's and not the locals' may change -/
theorem St.off {h h' : Heap} {I : Addr} (x : St C L ρ H h) (hI : H I = none) (hB : C.base.get? I = none) (hL : I ≠ L) (k : ∀ b o, b ≠ I → h.get? b = some o → h'.get? b = some o) : St C L ρ H h' where
  keep := fun b o e => k _ _ (fun q => by rw [q, hB] at e; cases e) (x.keep b o e)
  rep := fun a o e => let ⟨c, e1, e2⟩ := x.rep a o e; ⟨c, k _ _ (fun q => by rw [q, hI] at e; cases e) e1, e2⟩
  own := x.own
  loc := let ⟨m, e1, e2⟩ := x.loc; ⟨m, e1.extBut (b := I) (fun b o hb e => k b o hb e) (Ne.symm hL), e2⟩
  nl := x.nl
  bl := x.bl

theorem St.fresh {h : Heap} (x : St C L ρ H h) {a : Addr} (ha : h.get? a = none) : H a = none ∧ C.base.get? a = none ∧ a ≠ L := by
  refine ⟨?_, ?_, ?_⟩
  · cases e : H a with
    | none => rfl
    | some o => obtain ⟨c, e1, _⟩ := x.rep a o e; rw [ha] at e1; cases e1
  · cases e : C.base.get? a with
    | none => rfl
    | some o => have := x.keep a o e; rw [ha] at this; cases this
  · rintro rfl
    obtain ⟨m, ⟨o, _, _, ho, _⟩, _⟩ := x.loc
    rw [ha] at ho; cases ho

theorem get?_size_none (h : Heap) : h.get? h.objs.size = none := by
  cases e : h.get? h.objs.size with
  | none => rfl
  | some o => exact absurd (Heap.lt_size e) (Nat.lt_irrefl _)

/-- a new tracked object -/
theorem St.alloc {h h' : Heap} {a : Addr} {c : Obj} {o : O} (x : St C L ρ H h) (ha : h.get? a = none) (hc : h'.get? a = some c) (hr : Rep o c) (k : ∀ b o, h.get? b = some o → h'.get? b = some o) : St C L ρ (H.set a o) h' where
  keep := fun b o e => k _ _ (x.keep b o e)
  rep := fun b o' e => by
    by_cases q : b = a
    · subst q; rw [AH.set_same] at e; cases e; exact ⟨c, hc, hr⟩
    · rw [AH.set_ne _ _ q] at e; obtain ⟨c, e1, e2⟩ := x.rep b o' e; exact ⟨c, k _ _ e1, e2⟩
  own := fun b o' e hm => by
    by_cases q : b = a
    · subst q; exact (x.fresh ha).2.1
    · rw [AH.set_ne _ _ q] at e; exact x.own b o' e hm
  loc := let ⟨m, e1, e2⟩ := x.loc; ⟨m, e1.keeps k, e2⟩
  nl := by rw [AH.set_ne _ _ (Ne.symm (x.fresh ha).2.2)]; exact x.nl
  bl := x.bl
theorem Step.alloc {s : Shared} {h' : Heap} {tk : Nat} {a : Addr} {o : O} (ha : s.heap.get? a = none) (k : ∀ b o, s.heap.get? b = some o → h'.get? b = some o) : Step L H (H.set a o) s { s with heap := h', toks := tk } :=
  ⟨⟨rfl, rfl⟩, fun b o e _ _ => k b o e, fun b o e hb => by rw [AH.set_ne _ _ (fun q => by rw [q, ha] at e; cases e)]; exact hb, fun b o e => ⟨o, k b o e⟩⟩

/-- a tracked object changed -/
theorem St.upd {h h' : Heap} {a : Addr} {c : Obj} {o₀ o : O} (x : St C L ρ H h) (hH : H a = some o₀) (hm : o₀.mut = true) (hc : h'.get? a = some c) (hr : Rep o c) (k : ∀ b o, b ≠ a → h.get? b = some o → h'.get? b = some o) : St C L ρ (H.set a o) h' where
  keep := fun b o e => k _ _ (fun q => by rw [q, x.own a o₀ hH hm] at e; cases e) (x.keep b o e)
  rep := fun b o' e => by
    by_cases q : b = a
    · subst q; rw [AH.set_same] at e; cases e; exact ⟨c, hc, hr⟩
    · rw [AH.set_ne _ _ q] at e; obtain ⟨c, e1, e2⟩ := x.rep b o' e; exact ⟨c, k _ _ q e1, e2⟩
  own := fun b o' e hm' => by
    by_cases q : b = a
    · subst q; exact x.own _ _ hH hm
    · rw [AH.set_ne _ _ q] at e; exact x.own b o' e hm'
  loc := let ⟨m, e1, e2⟩ := x.loc; ⟨m, e1.extBut (b := a) (fun b o hb e => k b o hb e) (fun q => by rw [← q, x.nl] at hH; cases hH), e2⟩
  nl := by rw [AH.set_ne _ _ (fun q => by rw [← q, x.nl] at hH; cases hH)]; exact x.nl
  bl := x.bl
theorem Step.upd {s : Shared} {h' : Heap} {tk : Nat} {a : Addr} {c : Obj} {o₀ o : O} (hH : H a = some o₀) (hc : h'.get? a = some c) (k : ∀ b o, b ≠ a → s.heap.get? b = some o → h'.get? b = some o) : Step L H (H.set a o) s { s with heap := h', toks := tk } :=
  ⟨⟨rfl, rfl⟩, fun b o e hb _ => k b o (fun q => by rw [q, hH] at hb; cases hb) e, fun b o e hb => by rw [AH.set_ne _ _ (fun q => by rw [q, hH] at hb; cases hb)]; exact hb, fun b o e => by
    by_cases q : b = a
    · subst q; exact ⟨c, hc⟩
    · exact ⟨o, k b o q e⟩⟩

/-- a local stored -/
theorem St.store {h h' : Heap} {x : Str} {v : Value} {m : Str → Option Value} (X : St C L ρ H h) (hm : ∀ x, (m x).map ab = ρ x) (hn : h'.Ns L (fun y => if y = x then some v else m y)) (hs : Heap.SameBut L h h') : St C L (ρ.set x (ab v)) H h' where
  keep := fun b o e => hs.extBut b o (fun q => by rw [q, X.bl] at e; cases e) (X.keep b o e)
  rep := fun a o e => let ⟨c, e1, e2⟩ := X.rep a o e; ⟨c, hs.extBut _ _ (fun q => by rw [q, X.nl] at e; cases e) e1, e2⟩
  own := X.own
  loc := ⟨_, hn, fun y => by
    unfold Lo.set
    by_cases q : y = x
    · simp [q]
    · simp [q, hm]⟩
  nl := X.nl
  bl := X.bl
theorem Step.store {s : Shared} {h' : Heap} {tk : Nat} {m : Str → Option Value} (hn : h'.Ns L m) (hs : Heap.SameBut L s.heap h') : Step L H H s { s with heap := h', toks := tk } :=
  ⟨⟨rfl, rfl⟩, fun b o e _ hb => hs.extBut b o hb e, fun _ _ _ e => e, fun b o e => by
    by_cases q : b = L
    · subst q; obtain ⟨o', _, _, ho, _⟩ := hn; exact ⟨o', ho⟩
    · exact ⟨o, hs.extBut b o q e⟩⟩

end
end Mine

namespace Mine
open PySem PySem.W PyProof.Rows

/-! ## facts of tracked objects -/
noncomputable def lst : O → Option (List V)
  | .list vs => some vs
  | .scr vs => some vs
  | _ => none

section
variable {C : Cx} {A : Around} {L : Addr} {ρ : Lo} {H : AH} {h : Heap} {a : Addr} {vs : List V}

theorem St.list (x : St C L ρ H h) {o : O} (e : H a = some o) (hl : lst o = some vs) : ∃ xs : Array Value, h.IsList a xs ∧ xs.toList.map ab = vs ∧ vs.length ≤ sizeLine := by
  obtain ⟨c, hc, r⟩ := x.rep a o e
  cases o <;> simp only [lst] at hl <;> try cases hl
  · obtain ⟨xs, n, rfl, e2, e3⟩ := r; exact ⟨xs, ⟨_, hc, rfl, n, rfl⟩, e2, e3⟩
  · obtain ⟨e1, xs, n, ed, e2, e3⟩ := r; exact ⟨xs, ⟨_, hc, e1, n, ed⟩, e2, e3⟩
theorem St.plist (x : St C L ρ H h) (e : H a = some (.list vs)) : ∃ xs : Array Value, h.PlainList a xs ∧ xs.toList.map ab = vs ∧ vs.length ≤ sizeLine := by
  obtain ⟨c, hc, xs, n, rfl, e2, e3⟩ := x.rep a _ e
  exact ⟨xs, ⟨n, hc⟩, e2, e3⟩
theorem St.tup (x : St C L ρ H h) (e : H a = some (.tup vs)) : ∃ xs : Array Value, IsTup h a xs ∧ xs.toList.map ab = vs ∧ vs.length ≤ sizeLine := by
  obtain ⟨c, hc, xs, n, rfl, e2, e3⟩ := x.rep a _ e
  exact ⟨xs, ⟨_, hc, rfl, n, rfl⟩, e2, e3⟩
theorem St.cell (x : St C L ρ H h) {v : Option V} (e : H a = some (.cell v)) : ∃ u, h.IsCell a u ∧ u.map ab = v := by
  obtain ⟨c, hc, u, e1, e2⟩ := x.rep a _ e
  exact ⟨u, ⟨c, hc, e1⟩, e2⟩
theorem St.func (x : St C L ρ H h) {fd : FuncData} (e : H a = some (.fn fd)) : h.get? a = some { cls := .type "function", data := .func fd } := by
  obtain ⟨c, hc, e1⟩ := x.rep a _ e
  rw [hc, e1]

theorem arr_get {xs : Array Value} {i : Nat} {v : V} (e : xs.toList.map ab = vs) (hi : vs[i]? = some v) : ∃ x, xs[i]? = some x ∧ ab x = v := by
  subst e
  rw [List.getElem?_map] at hi
  cases hx : xs.toList[i]? with
  | none => rw [hx] at hi; cases hi
  | some x => rw [hx] at hi; exact ⟨x, by rw [← Array.getElem?_toList]; exact hx, by simpa using hi⟩
theorem arr_size {xs : Array Value} (e : xs.toList.map ab = vs) : xs.size = vs.length := by subst e; simp
end

structure Fx (C : Cx) (A : Around) (env : Env) : Prop where
  kind : env.scope.kind = .function
  gl : env.globals = mainGlobals
  bu : env.builtins = builtinsNs
  hh : A.handled = none

section
variable {C : Cx} {A : Around} {env : Env} {ρ : Lo} {H : AH}


theorem W.BinOp {l r : Expr} {op : Operator} {pos : Pos} {Q : Value → Lo → AH → Prop} {L : Addr}
    (h : W C A L (eval l env) ρ H (fun a ρ1 H1 => W C A L (eval r env) ρ1 H1 (fun b ρ2 H2 => W C A L (binaryOp op a b) ρ2 H2 Q))) :
    W C A L (eval (.BinOp l op r pos) env) ρ H Q := fun s hs => wpAny_BinOp (h.at3 hs (.refl ..))
theorem W.UnaryOp {x : Expr} {op : UnaryOp} {pos : Pos} {Q : Value → Lo → AH → Prop} {L : Addr}
    (h : W C A L (eval x env) ρ H (fun a ρ1 H1 => W C A L (unaryOp op a) ρ1 H1 Q)) :
    W C A L (eval (.UnaryOp op x pos) env) ρ H Q := fun s hs => wpAny_UnaryOp (h.at2 hs (.refl ..))
theorem W.Subscript {o i : Expr} {pos : Pos} {Q : Value → Lo → AH → Prop} {L : Addr}
    (h : W C A L (eval o env) ρ H (fun a ρ1 H1 => W C A L (eval i env) ρ1 H1 (fun b ρ2 H2 => W C A L (subscriptTail o i a b) ρ2 H2 Q))) :
    W C A L (eval (.Subscript o i pos) env) ρ H Q := fun s hs => Subscript_ (h.at3 hs (.refl ..))

/-! ## pure evaluation -/
noncomputable def Ev (C : Cx) (A : Around) (env : Env) (ρ : Lo) (H : AH) (e : Expr) (v : V) : Prop :=
  W C A env.locals (eval e env) ρ H (fun x ρ' H' => ρ' = ρ ∧ H' = H ∧ ab x = v)
noncomputable def EvT (C : Cx) (A : Around) (env : Env) (ρ : Lo) (H : AH) (e : Expr) (b : Bool) : Prop :=
  W C A env.locals (isTrue e env (eval e env)) ρ H (fun x ρ' H' => ρ' = ρ ∧ H' = H ∧ x = b)

theorem Ev.then {e : Expr} {v : V} {f : Value → Sem β} {Q : β → Lo → AH → Prop} (h : Ev C A env ρ H e v) (k : ∀ x, ab x = v → W C A env.locals (f x) ρ H Q) :
    W C A env.locals (eval e env) ρ H (fun x ρ1 H1 => W C A env.locals (f x) ρ1 H1 Q) :=
  W.mono h (by rintro x _ _ ⟨rfl, rfl, e⟩; exact k x e)

theorem Ev.local {x : Str} {pos : Pos} {v : V} (F : Fx C A env) (hl : env.kindOf x = some .local) (hv : ρ x = some v) (hd : (x == ("__debug__" : Str)) = false := by decide) : Ev C A env ρ H (.Name x pos) v := fun s hs => by
  obtain ⟨m, hn, hm⟩ := hs.loc
  have := hm x
  rw [hv] at this
  cases hx : m x with
  | none => rw [hx] at this; cases this
  | some y =>
    rw [hx] at this
    exact wpAny_Name (wpAny_loadName_local F.kind hl hn hx ⟨ρ, H, hs, .refl .., rfl, rfl, by simpa using this⟩) hd
theorem Ev.cell {x : Str} {pos : Pos} {v : V} {c : Addr} (F : Fx C A env) (hl : env.kindOf x = some .cell) (hc : env.cells.lookup x = some c) (hv : H c = some (.cell (some v))) (hd : (x == ("__debug__" : Str)) = false := by decide) : Ev C A env ρ H (.Name x pos) v := fun s hs => by
  obtain ⟨u, h1, h2⟩ := hs.cell hv
  cases u with
  | none => cases h2
  | some y => exact wpAny_Name (wpAny_loadName_cell F.kind hl hc h1 ⟨ρ, H, hs, .refl .., rfl, rfl, by simpa using h2⟩) hd
theorem Ev.free {x : Str} {pos : Pos} {v : V} {c : Addr} (F : Fx C A env) (hl : env.kindOf x = some .free) (hc : env.cells.lookup x = some c) (hv : H c = some (.cell (some v))) (hd : (x == ("__debug__" : Str)) = false := by decide) (hn : (x == ("__classdict__" : Str)) = false := by decide) : Ev C A env ρ H (.Name x pos) v := fun s hs => by
  obtain ⟨u, h1, h2⟩ := hs.cell hv
  cases u with
  | none => cases h2
  | some y => exact wpAny_Name (wpAny_loadName_free F.kind hl hc h1 ⟨ρ, H, hs, .refl .., rfl, rfl, by simpa using h2⟩ hn) hd
theorem Ev.glob {x : Str} {pos : Pos} {v : Value} (F : Fx C A env) (hl : env.kindOf x = some .globalImplicit) (hv : C.gl x = some v) (hd : (x == ("__debug__" : Str)) = false := by decide) : Ev C A env ρ H (.Name x pos) (ab v) := fun s hs => by
  refine wpAny_Name ?_ hd
  rw [loadName_read F.kind hl]
  unfold loadGlobal
  unfold Cx.gl at hv
  refine wpAny_bind (wpAny_nsGet (by rw [F.gl]; exact C.hg.keeps hs.keep) ?_)
  cases hm : C.mg x with
  | some y =>
    rw [hm] at hv; cases hv
    exact wpAny_pure ⟨ρ, H, hs, .refl .., rfl, rfl, rfl⟩
  | none =>
    rw [hm] at hv
    dsimp only
    refine wpAny_bind (wpAny_nsGet (by rw [F.bu]; exact C.hb.keeps hs.keep) ?_)
    dsimp only at hv
    rw [hv]
    exact wpAny_pure ⟨ρ, H, hs, .refl .., rfl, rfl, rfl⟩

theorem Ev.int {i : Int} {k : Nat} {pos : Pos} : Ev C A env ρ H (.Constant (.int i) k pos) (.int i) := fun s hs => wpAny_Constant_int ⟨ρ, H, hs, .toks, rfl, rfl, rfl⟩
theorem Ev.str {x : Str} {k : Nat} {pos : Pos} : Ev C A env ρ H (.Constant (.str x) k pos) (.str x) := fun s hs => wpAny_Constant_str ⟨ρ, H, hs, .toks, rfl, rfl, rfl⟩
theorem Ev.none {k : Nat} {pos : Pos} : Ev C A env ρ H (.Constant .none k pos) .none := fun s hs => wpAny_Constant_none ⟨ρ, H, hs, .refl .., rfl, rfl, rfl⟩
theorem Ev.bool {b : Bool} {k : Nat} {pos : Pos} : Ev C A env ρ H (.Constant (.bool b) k pos) (.bool b) := fun s hs => wpAny_Constant_bool ⟨ρ, H, hs, .refl .., rfl, rfl, rfl⟩

theorem Ev.bin {l r : Expr} {op : Operator} {pos : Pos} {a b v : V} (h1 : Ev C A env ρ H l a) (h2 : Ev C A env ρ H r b)
    (h : ∀ x y, ab x = a → ab y = b → W C A env.locals (binaryOp op x y) ρ H (fun z ρ' H' => ρ' = ρ ∧ H' = H ∧ ab z = v)) : Ev C A env ρ H (.BinOp l op r pos) v :=
  W.BinOp (W.mono h1 (by rintro x _ _ ⟨rfl, rfl, e⟩; exact h2.then fun y e' => h x y e e'))
theorem Ev.add {l r : Expr} {pos : Pos} {a b : Int} (h1 : Ev C A env ρ H l (.int a)) (h2 : Ev C A env ρ H r (.int b)) : Ev C A env ρ H (.BinOp l .Add r pos) (.int (a + b)) :=
  Ev.bin h1 h2 fun x y e e' => by
    obtain ⟨t, rfl⟩ := ab_int e; obtain ⟨u, rfl⟩ := ab_int e'
    exact fun s hs => add_int ⟨ρ, H, hs, .toks, rfl, rfl, rfl⟩
theorem Ev.mod {l r : Expr} {pos : Pos} {a b : Int} (h1 : Ev C A env ρ H l (.int a)) (h2 : Ev C A env ρ H r (.int b)) (hb : b ≠ 0) : Ev C A env ρ H (.BinOp l .Mod r pos) (.int (a.fmod b)) :=
  Ev.bin h1 h2 fun x y e e' => by
    obtain ⟨t, rfl⟩ := ab_int e; obtain ⟨u, rfl⟩ := ab_int e'
    exact fun s hs => mod_int' hb ⟨ρ, H, hs, .toks, rfl, rfl, rfl⟩
theorem Ev.fdiv {l r : Expr} {pos : Pos} {a b : Int} (h1 : Ev C A env ρ H l (.int a)) (h2 : Ev C A env ρ H r (.int b)) (hb : 0 < b) (hb' : b < 1000000) : Ev C A env ρ H (.BinOp l .FloorDiv r pos) (.int (a.fdiv b)) :=
  Ev.bin h1 h2 fun x y e e' => by
    obtain ⟨t, rfl⟩ := ab_int e; obtain ⟨u, rfl⟩ := ab_int e'
    exact fun s hs => floordiv_int (by lia) ⟨ρ, H, hs, .toks, rfl, rfl, rfl⟩ (Or.inl (PyProof.noPylong_small (by omega)))
theorem Ev.neg {x : Expr} {pos : Pos} {a : Int} (h1 : Ev C A env ρ H x (.int a)) : Ev C A env ρ H (.UnaryOp .USub x pos) (.int (-a)) :=
  W.UnaryOp (h1.then fun y e => by
    obtain ⟨t, rfl⟩ := ab_int e
    exact fun s hs => neg_int ⟨ρ, H, hs, .toks, rfl, rfl, rfl⟩)

/-! comparisons of ints -/
noncomputable def icmp : CmpOp → Int → Int → Option Bool
  | .Lt, a, b => some (decide (a < b))
  | .LtE, a, b => some (decide (a ≤ b))
  | .Gt, a, b => some (decide (b < a))
  | .GtE, a, b => some (decide (b ≤ a))
  | .Eq, a, b => some (a == b)
  | .NotEq, a, b => some (a != b)
  | _, _, _ => none

theorem W.icmp {L : Addr} {op : CmpOp} {a b : Int} {c : Bool} {x y : Value} {Q : Value → Lo → AH → Prop} (hx : ab x = .int a) (hy : ab y = .int b) (hc : icmp op a b = some c) (h : Q (.bool c) ρ H) : W C A L (compareOp op x y) ρ H Q := by
  obtain ⟨t, rfl⟩ := ab_int hx; obtain ⟨u, rfl⟩ := ab_int hy
  intro s hs
  have k : Post C L H s Q (Value.bool c) s := ⟨ρ, H, hs, .refl .., h⟩
  cases op <;> simp only [Mine.icmp] at hc <;> cases hc
  · exact eq_int k
  · exact ne_int k
  · exact lt_int k
  · exact le_int k
  · exact gt_int k
  · exact ge_int k

theorem W.isTrue_Compare1 {l r : Expr} {op : CmpOp} {pos : Pos} {whole : Sem Value} {Q : Bool → Lo → AH → Prop} {L : Addr} (hm : behindInMarks op r = false)
    (h : W C A L (eval l env) ρ H (fun a ρ1 H1 => W C A L (eval r env) ρ1 H1 (fun b ρ2 H2 => W C A L (compareOp op a b) ρ2 H2 (fun c ρ3 H3 => W C A L (truthy c) ρ3 H3 Q)))) :
    W C A L (isTrue (.Compare l [op] [r] pos) env whole) ρ H Q := fun s hs => by
  refine wpAny_isTrue_Compare1 ?_ hm
  exact wpAny_mono (h s hs) (fun a s1 ⟨ρ1, H1, x1, y1, z1⟩ => z1.at3 x1 y1) fun _ _ e => e
theorem W.truthy_bool {L : Addr} {b : Bool} {Q : Bool → Lo → AH → Prop} (h : Q b ρ H) : W C A L (truthy (.bool b)) ρ H Q := fun s hs => wpAny_truthy_bool ⟨ρ, H, hs, .refl .., h⟩
theorem EvT.icmp {l r : Expr} {op : CmpOp} {pos : Pos} {a b : Int} {c : Bool} (h1 : Ev C A env ρ H l (.int a)) (h2 : Ev C A env ρ H r (.int b)) (hc : Mine.icmp op a b = some c) (hm : behindInMarks op r = false := by with_unfolding_all rfl) :
    EvT C A env ρ H (.Compare l [op] [r] pos) c :=
  W.isTrue_Compare1 hm (W.mono h1 (by rintro x _ _ ⟨rfl, rfl, e⟩; exact h2.then fun y e' => W.icmp e e' hc (W.truthy_bool ⟨rfl, rfl, rfl⟩)))

/-! is None -/
theorem beq_none {x : Value} {a : V} (h : ab x = a) : (x == Value.none) = decide (a = .none) := by
  subst h
  cases x <;> simp [ab]
theorem EvT.isNone {l : Expr} {k : Nat} {p pos : Pos} {a : V} (h1 : Ev C A env ρ H l a) : EvT C A env ρ H (.Compare l [.Is] [.Constant .none k p] pos) (decide (a = .none)) :=
  W.isTrue_Compare1 rfl (W.mono h1 (by
    rintro x _ _ ⟨rfl, rfl, e⟩
    refine Ev.none.then fun y e' => ?_
    rw [ab_none e']
    intro s hs
    refine is_none_gen ⟨_, _, hs, .refl .., ?_⟩
    rw [beq_none e]
    exact W.truthy_bool ⟨rfl, rfl, rfl⟩))

/-! truth -/
noncomputable def truth (H : AH) : V → Option Bool
  | .none => some false
  | .bool b => some b
  | .int i => some (i != 0)
  | .str x => some (decide (x.length ≠ 0))
  | .ref a => match H a with
    | some (.list vs) => some (!vs.isEmpty)
    | some (.scr vs) => some (!vs.isEmpty)
    | some (.tup vs) => some (!vs.isEmpty)
    | _ => none
  | _ => none

theorem W.truthy {L : Addr} {x : Value} {b : Bool} {Q : Bool → Lo → AH → Prop} (hb : truth H (ab x) = some b) (hx : ∀ y t, x = .str y t → y.length ≤ sizeLine) (h : Q b ρ H) : W C A L (PySem.truthy x) ρ H Q := fun s hs => by
  have hsl : (sizeLine : Int) < 2 ^ 63 := by decide
  cases x with
  | none => cases hb; exact truthy_none ⟨ρ, H, hs, .refl .., h⟩
  | bool c => cases hb; exact wpAny_truthy_bool ⟨ρ, H, hs, .refl .., h⟩
  | int i t => cases hb; exact truthy_int ⟨ρ, H, hs, .refl .., h⟩
  | str y t =>
    cases hb
    have := hx y t rfl
    refine P.truthy_str (by lia) ⟨ρ, H, hs, .toks, ?_⟩
    have e : ((y.length : Int) != 0) = decide (y.length ≠ 0) := by
      by_cases q : y.length = 0 <;> simp [q]
    rw [e]; exact h
  | ref a =>
    simp only [ab, truth] at hb
    split at hb
    · rename_i vs e; cases hb
      obtain ⟨xs, h1, h2, h3⟩ := hs.list e (vs := vs) rfl
      refine wpAny_truthy_list h1 (by rw [arr_size h2]; lia) ⟨ρ, H, hs, .toks, ?_⟩
      have e : xs.isEmpty = vs.isEmpty := by subst h2; obtain ⟨l⟩ := xs; cases l <;> simp
      rw [e]; exact h
    · rename_i vs e; cases hb
      obtain ⟨xs, h1, h2, h3⟩ := hs.list e (vs := vs) rfl
      refine wpAny_truthy_list h1 (by rw [arr_size h2]; lia) ⟨ρ, H, hs, .toks, ?_⟩
      have e : xs.isEmpty = vs.isEmpty := by subst h2; obtain ⟨l⟩ := xs; cases l <;> simp
      rw [e]; exact h
    · rename_i vs e; cases hb
      obtain ⟨xs, h1, h2, h3⟩ := hs.tup e
      refine truthy_tuple h1 (by rw [arr_size h2]; lia) ⟨ρ, H, hs, .toks, ?_⟩
      have e : xs.isEmpty = vs.isEmpty := by subst h2; obtain ⟨l⟩ := xs; cases l <;> simp
      rw [e]; exact h
    · cases hb
  | _ => cases hb

theorem EvT.of {e : Expr} {v : V} {b : Bool} (h : Ev C A env ρ H e v) (hb : truth H v = some b) (hs : ∀ x, v = .str x → x.length ≤ sizeLine)
    (he : isTrue e env (eval e env) = (do let v ← eval e env; standAt e.pos; holding [v] (PySem.truthy v)) := by rfl) : EvT C A env ρ H e b := by
  unfold EvT
  rw [he]
  exact W.bind (h.then fun x ex => W.bind (W.standAt (W.holding (W.truthy (by rw [ex]; exact hb) (fun y t ey => hs y (by rw [← ex, ey]; rfl)) ⟨rfl, rfl, rfl⟩))))


theorem Ev.ifexp {t b o : Expr} {pos : Pos} {c : Bool} {v : V} (h : EvT C A env ρ H t c) (h1 : c = true → Ev C A env ρ H b v) (h2 : c = false → Ev C A env ρ H o v) : Ev C A env ρ H (.IfExp t b o pos) v := fun s hs =>
  wpAny_IfExp (wpAny_mono (h s hs) (fun x s1 ⟨ρ1, H1, x1, y1, e1, e2, e3⟩ => by
    subst e1 e2 e3
    cases x with
    | true => exact (h1 rfl).at x1 y1
    | false => exact (h2 rfl).at x1 y1) fun _ _ e => e)

/-! items -/
theorem Ev.item {o i : Expr} {pos : Pos} {a : Addr} {ob : O} {vs : List V} {k : Int} {v : V} (h1 : Ev C A env ρ H o (.ref a)) (h2 : Ev C A env ρ H i (.int k)) (hH : H a = some ob) (hl : lst ob = some vs) (h0 : 0 ≤ k) (hx : vs[k.toNat]? = some v)
    (hs : ∀ t, subscripted i false (.ref a) (.int k t) = operate [.ref a, .int k t] (getItem (.ref a) (.int k t)) := by intro _; with_unfolding_all rfl) : Ev C A env ρ H (.Subscript o i pos) v :=
  W.Subscript (W.mono h1 (by
    rintro x _ _ ⟨rfl, rfl, e⟩
    refine h2.then fun y e' => ?_
    cases ab_ref e
    obtain ⟨t, rfl⟩ := ab_int e'
    intro s hst
    obtain ⟨xs, q1, q2, q3⟩ := hst.list hH hl
    obtain ⟨y, y1, y2⟩ := arr_get q2 hx
    have hlt : k.toNat < vs.length := (List.getElem?_eq_some_iff.mp hx).1
    have hsl : (sizeLine : Int) < 2 ^ 63 := by decide
    exact tail_any q1.typeIs slot_list_getitem.lookup (wpAny_getItem_list q1 h0 (by lia) y1 ⟨_, _, hst, .refl .., rfl, rfl, y2⟩) (hs t)))
end
end Mine

namespace Mine
open PySem PySem.W PyProof.Rows

inductive Fl where
  | next | brk | cont | ret (v : V)
noncomputable def abF : Flow → Fl
  | .next => .next
  | .brk => .brk
  | .cont => .cont
  | .ret v => .ret (ab v)

noncomputable def WE (C : Cx) (A : Around) (env : Env) (e : Expr) (ρ : Lo) (H : AH) (Q : V → AH → Prop) : Prop :=
  W C A env.locals (eval e env) ρ H (fun v ρ' H' => ρ' = ρ ∧ Q (ab v) H')
noncomputable def WT (C : Cx) (A : Around) (env : Env) (e : Expr) (ρ : Lo) (H : AH) (Q : Bool → AH → Prop) : Prop :=
  W C A env.locals (isTrue e env (eval e env)) ρ H (fun b ρ' H' => ρ' = ρ ∧ Q b H')
noncomputable def WS (C : Cx) (A : Around) (env : Env) (ss : List Stmt) (ρ : Lo) (H : AH) (Q : Fl → Lo → AH → Prop) : Prop :=
  W C A env.locals (execs ss env) ρ H (fun f ρ' H' => Q (abF f) ρ' H')
noncomputable def W1 (C : Cx) (A : Around) (env : Env) (st : Stmt) (ρ : Lo) (H : AH) (Q : Fl → Lo → AH → Prop) : Prop :=
  W C A env.locals (exec st env) ρ H (fun f ρ' H' => Q (abF f) ρ' H')
noncomputable def WCall (C : Cx) (A : Around) (f : V) (args : List V) (kw : List (Str × V)) (H : AH) (Q : V → AH → Prop) : Prop :=
  ∀ L ρ (fv : Value) (vals : List Value) (kvs : List (Str × Value)), ab fv = f → vals.map ab = args → kvs.map (fun p => (p.1, ab p.2)) = kw →
    W C A L (call fv vals kvs) ρ H (fun v ρ' H' => ρ' = ρ ∧ Q (ab v) H')
theorem WCall.mono {C : Cx} {A : Around} {f : V} {args : List V} {kw : List (Str × V)} {H : AH} {Q Q' : V → AH → Prop} (h : WCall C A f args kw H Q) (hq : ∀ v H', Q v H' → Q' v H') : WCall C A f args kw H Q' :=
  fun L ρ fv vals kvs a b c => W.mono (h L ρ fv vals kvs a b c) fun _ _ _ q => ⟨q.1, hq _ _ q.2⟩

section
variable {C : Cx} {A : Around} {env : Env} {ρ : Lo} {H : AH}

theorem WE.of {e : Expr} {v : V} {Q : V → AH → Prop} (h : Ev C A env ρ H e v) (q : Q v H) : WE C A env e ρ H Q := W.mono h (by rintro x _ _ ⟨rfl, rfl, rfl⟩; exact ⟨rfl, q⟩)
theorem WE.mono {e : Expr} {Q Q' : V → AH → Prop} (h : WE C A env e ρ H Q) (hq : ∀ v H', Q v H' → Q' v H') : WE C A env e ρ H Q' := W.mono h fun _ _ _ q => ⟨q.1, hq _ _ q.2⟩
theorem WE.ev {e : Expr} {v : V} (h : WE C A env e ρ H (fun v' H' => v' = v ∧ H' = H)) : Ev C A env ρ H e v := W.mono h (by rintro x _ _ ⟨rfl, rfl, rfl⟩; exact ⟨rfl, rfl, rfl⟩)
theorem WT.of {e : Expr} {b : Bool} {Q : Bool → AH → Prop} (h : EvT C A env ρ H e b) (q : Q b H) : WT C A env e ρ H Q := W.mono h (by rintro x _ _ ⟨rfl, rfl, rfl⟩; exact ⟨rfl, q⟩)
theorem WE.then {β : Type} {e : Expr} {f : Value → Sem β} {Q : β → Lo → AH → Prop} (h : WE C A env e ρ H (fun v H1 => ∀ x, ab x = v → W C A env.locals (f x) ρ H1 Q)) :
    W C A env.locals (eval e env) ρ H (fun x ρ1 H1 => W C A env.locals (f x) ρ1 H1 Q) := W.mono h (by rintro x _ _ ⟨rfl, q⟩; exact q x rfl)
theorem W1.mono {ss : Stmt} {Q Q' : Fl → Lo → AH → Prop} (h : W1 C A env ss ρ H Q) (hq : ∀ f ρ' H', Q f ρ' H' → Q' f ρ' H') : W1 C A env ss ρ H Q' := W.mono h fun _ _ _ q => hq _ _ _ q

theorem WS.nil {Q : Fl → Lo → AH → Prop} (h : Q .next ρ H) : WS C A env [] ρ H Q := fun s hs => wpAny_execs_nil ⟨ρ, H, hs, .refl .., h⟩
theorem WS.cons {st : Stmt} {rest : List Stmt} {Q : Fl → Lo → AH → Prop} (h : W1 C A env st ρ H (fun f ρ1 H1 => match f with | .next => WS C A env rest ρ1 H1 Q | f => Q f ρ1 H1)) : WS C A env (st :: rest) ρ H Q := fun s hs =>
  wpAny_execs_cons (wpAny_mono (h s hs) (fun f s' ⟨ρ', H', x, y, z⟩ => by
    cases f with
    | next => exact W.at z x y
    | brk => exact ⟨ρ', H', x, y, z⟩
    | cont => exact ⟨ρ', H', x, y, z⟩
    | ret v => exact ⟨ρ', H', x, y, z⟩) fun _ _ e => e)
/-- a statement that goes on -/
theorem WS.seq {st : Stmt} {rest : List Stmt} {Q : Fl → Lo → AH → Prop} (h : W1 C A env st ρ H (fun f ρ1 H1 => f = .next ∧ WS C A env rest ρ1 H1 Q)) : WS C A env (st :: rest) ρ H Q :=
  WS.cons (W1.mono h fun f ρ' H' q => by obtain ⟨rfl, q⟩ := q; exact q)

theorem W1.ret {e : Expr} {pos : Pos} {Q : Fl → Lo → AH → Prop} (h : WE C A env e ρ H (fun v H1 => Q (.ret v) ρ H1)) : W1 C A env (.Return (some e) pos) ρ H Q := fun s hs =>
  wpAny_Return_some (wpAny_mono (h s hs) (fun v s' ⟨ρ', H', x, y, z⟩ => ⟨ρ', H', x, y, by rw [z.1]; exact z.2⟩) fun _ _ e => e)
theorem W1.if {t : Expr} {b o : List Stmt} {pos : Pos} {Q : Fl → Lo → AH → Prop} (h : WT C A env t ρ H (fun c H1 => (c = true → WS C A env b ρ H1 Q) ∧ (c = false → WS C A env o ρ H1 Q))) : W1 C A env (.If t b o pos) ρ H Q := fun s hs =>
  wpAny_If (wpAny_mono (h s hs) (fun c s' ⟨ρ', H', x, y, z1, z2⟩ => by
    subst z1
    cases c with
    | true => exact W.at (z2.1 rfl) x y
    | false => exact W.at (z2.2 rfl) x y) fun _ _ e => e)

/-! ## stores -/
theorem W.storeLocal {x : Str} {v : Value} {Q : Unit → Lo → AH → Prop} (F : Fx C A env) (hl : env.kindOf x = some .local) (h : Q () (ρ.set x (ab v)) H) : W C A env.locals (storeName env x v) ρ H Q := fun s hs => by
  obtain ⟨m, hn, hm⟩ := hs.loc
  exact wpAny_storeName_local hl hn (fun h' hn' hsb => ⟨_, H, hs.store hm hn' hsb, .store hn' hsb, h⟩) (by simp [F.kind])
theorem W.storeCell {x : Str} {v : Value} {c : Addr} {o : Option V} {Q : Unit → Lo → AH → Prop} (F : Fx C A env) (hl : env.kindOf x = some .cell) (hc : env.cells.lookup x = some c) (hH : H c = some (.cell o)) (h : Q () ρ (H.set c (.cell (some (ab v))))) :
    W C A env.locals (storeName env x v) ρ H Q := fun s hs => by
  obtain ⟨u, h1, h2⟩ := hs.cell hH
  exact wpAny_storeName_cell F.kind hl hc h1 (fun h' hc' hsb => by
    obtain ⟨oc, e1, e2⟩ := hc'
    exact ⟨_, _, hs.upd (o := .cell (some (ab v))) hH rfl e1 ⟨some v, e2, rfl⟩ (fun b o hb e => hsb.extBut b o hb e), .upd hH e1 (fun b o hb e => hsb.extBut b o hb e), h⟩)

/-- what is drawn: a value, or a tuple of values -/
inductive Dv where
  | one (v : V) | tup (vs : List V)
noncomputable def Dv.Is (h : Heap) : Dv → Value → Prop
  | .one v, x => ab x = v
  | .tup vs, x => ∃ T xs, x = .ref T ∧ IsTup h T xs ∧ xs.toList.map ab = vs

noncomputable def Asg (C : Cx) (A : Around) (env : Env) (tgt : Expr) (d : Dv) (ρ : Lo) (H : AH) (Q : Lo → AH → Prop) : Prop :=
  ∀ s x, St C env.locals ρ H s.heap → d.Is s.heap x → wpAny C.M A (assign tgt env x) (Post C env.locals H s (fun _ => Q)) False2 s
noncomputable def AsgL (C : Cx) (A : Around) (env : Env) (ts : List Expr) (vs : List V) (ρ : Lo) (H : AH) (Q : Lo → AH → Prop) : Prop :=
  match ts, vs with
  | [], [] => Q ρ H
  | t :: ts, v :: vs => Asg C A env t (.one v) ρ H (fun ρ1 H1 => AsgL C A env ts vs ρ1 H1 Q)
  | _, _ => False

theorem Asg.mono {tgt : Expr} {d : Dv} {Q Q' : Lo → AH → Prop} (h : Asg C A env tgt d ρ H Q) (hq : ∀ ρ' H', Q ρ' H' → Q' ρ' H') : Asg C A env tgt d ρ H Q' := fun s x hs hd =>
  wpAny_mono (h s x hs hd) (fun _ s' ⟨ρ', H', x, y, z⟩ => ⟨ρ', H', x, y, hq _ _ z⟩) fun _ _ e => e
theorem Asg.local {x : Str} {pos : Pos} {v : V} {Q : Lo → AH → Prop} (F : Fx C A env) (hl : env.kindOf x = some .local) (h : Q (ρ.set x v) H) : Asg C A env (.Name x pos) (.one v) ρ H Q := fun s y hs hd => by
  have e : ab y = v := hd
  subst e
  exact wpAny_assign_Name (W.storeLocal F hl h s hs)
theorem Asg.cell {x : Str} {pos : Pos} {v : V} {c : Addr} {o : Option V} {Q : Lo → AH → Prop} (F : Fx C A env) (hl : env.kindOf x = some .cell) (hc : env.cells.lookup x = some c) (hH : H c = some (.cell o)) (h : Q ρ (H.set c (.cell (some v)))) : Asg C A env (.Name x pos) (.one v) ρ H Q := fun s y hs hd => by
  have e : ab y = v := hd
  subst e
  exact wpAny_assign_Name (W.storeCell F hl hc hH h s hs)
noncomputable def noStar : List Expr → Bool
  | [] => true
  | .Starred _ _ :: _ => false
  | _ :: r => noStar r
theorem assignEach_plain : ∀ {ts : List Expr}, noStar ts = true → assignEach ts env = ts.map (fun t => (false, assign t env))
  | [], _ => rfl
  | t :: r, h => by
    have hr : noStar r = true := by
      unfold noStar at h; split at h <;> simp_all
    have e : assignEach (t :: r) env = (false, assign t env) :: assignEach r env := by
      cases t <;> first | rfl | (simp [noStar] at h)
    rw [e, assignEach_plain hr]; rfl
theorem Asg.inOrder : ∀ {ts : List Expr} {vs : List V} {ρ : Lo} {H : AH} {Q : Lo → AH → Prop} (xs : List Value), xs.map ab = vs → AsgL C A env ts vs ρ H Q →
    W C A env.locals (assignInOrder (ts.map fun t => assign t env) xs) ρ H (fun _ => Q)
  | [], [], _, _, _, [], _, h => W.pure h
  | [], _ :: _, _, _, _, _, _, h => h.elim
  | _ :: _, [], _, _, _, _, _, h => h.elim
  | t :: ts, v :: vs, ρ, H, Q, x :: xs, e, h => by
    simp only [List.map_cons, List.cons.injEq] at e
    show W C A env.locals (holding xs (assign t env x) >>= fun _ => assignInOrder (ts.map fun t => assign t env) xs) ρ H _
    refine W.bind (W.holding (fun s hs => ?_))
    exact wpAny_mono (h s x hs e.1) (fun _ s' ⟨ρ', H', a, b, c⟩ => ⟨ρ', H', a, b, Asg.inOrder xs e.2 c⟩) fun _ _ e => e
theorem Asg.tuple {ts : List Expr} {k : Nat} {pos : Pos} {vs : List V} {Q : Lo → AH → Prop} (F : Fx C A env) (hst : noStar ts = true) (hlen : ts.length = vs.length) (h : AsgL C A env ts vs ρ H Q) : Asg C A env (.Tuple ts k pos) (.tup vs) ρ H Q := fun s x hs hd => by
  obtain ⟨T, xs, rfl, hT, e⟩ := hd
  have hsz : xs.size = vs.length := by rw [← e]; simp
  refine assign_Tuple_tuple F.hh hT (by rw [assignEach_plain hst, List.length_map, hlen, hsz]) (by rw [assignEach_plain hst]; simp) fun h' hx => ?_
  have k : ∀ b o, s.heap.get? b = some o → h'.get? b = some o := fun b o eb => hx b o (Nat.ne_of_lt (Heap.lt_size eb)) eb
  have := Asg.inOrder (C := C) (A := A) (env := env) xs.toList e h
  rw [assignEach_plain hst, List.map_map]
  exact this.at (hs.ext k) (.ext k)
end
end Mine

namespace Mine
open PySem PySem.W PyProof.Rows

section
variable {C : Cx} {A : Around} {env : Env} {ρ : Lo} {H : AH}



/-! ## assignment statements -/
theorem W1.asg {tgt e : Expr} {pos : Pos} {Q : Fl → Lo → AH → Prop} (h : WE C A env e ρ H (fun v H1 => Asg C A env tgt (.one v) ρ H1 (fun ρ2 H2 => Q .next ρ2 H2)))
    (hs : swapsWithSole [tgt] e pos.line env = pure false := by rfl) (hw : swappedStores [tgt] e env = pure none := by rfl) (hn : noStar [tgt] = true := by rfl) : W1 C A env (.Assign [tgt] e pos) ρ H Q := by
  show W C A env.locals (standAt pos >>= fun _ => swapsWithSole [tgt] e pos.line env >>= fun b => if b then (evalThenUse e env (fun v => assignAll v ((assignEach [tgt] env).map (·.2))) >>= fun _ => pure .next) else
    (eval e env >>= fun v => swappedStores [tgt] e env >>= fun sw => assignStores env v sw ((assignEach [tgt] env).map (·.2)))) ρ H _
  refine W.bind (W.standAt ?_)
  rw [hs]
  refine W.bind (W.pure ?_)
  rw [if_neg Bool.false_ne_true]
  refine W.bind (WE.then (WE.mono h fun v H1 k x ex => ?_))
  rw [hw, assignEach_plain hn]
  refine W.bind (W.pure ?_)
  show W C A env.locals (assign tgt env x >>= fun _ => pure Flow.next) ρ H1 _
  refine W.bind (fun s hs => wpAny_mono (k s x hs ex) (fun _ s' ⟨ρ', H', a, b, c⟩ => ⟨ρ', H', a, b, W.pure c⟩) fun _ _ e => e)

theorem W1.asgLocal {x : Str} {p pos : Pos} {e : Expr} {Q : Fl → Lo → AH → Prop} (F : Fx C A env) (hl : env.kindOf x = some .local) (h : WE C A env e ρ H (fun v H1 => Q .next (ρ.set x v) H1))
    (hs : swapsWithSole [.Name x p] e pos.line env = pure false := by rfl) (hw : swappedStores [.Name x p] e env = pure none := by rfl) : W1 C A env (.Assign [.Name x p] e pos) ρ H Q :=
  W1.asg (WE.mono h fun v H1 q => Asg.local F hl q) hs hw rfl


/-! ## argument lists, displays -/
noncomputable def WEs (C : Cx) (A : Around) (env : Env) : List Expr → Lo → AH → (List V → AH → Prop) → Prop
  | [], _, H, Q => Q [] H
  | e :: es, ρ, H, Q => WE C A env e ρ H (fun v H1 => WEs C A env es ρ H1 (fun vs H2 => Q (v :: vs) H2))
theorem starEach_plain : ∀ {es : List Expr}, noStar es = true → starEach es env = es.map fun e => (false, eval e env)
  | [], _ => rfl
  | t :: r, h => by
    have hr : noStar r = true := by
      unfold noStar at h; split at h <;> simp_all
    have e : starEach (t :: r) env = (false, eval t env) :: starEach r env := by
      cases t <;> first | rfl | (simp [noStar] at h)
    rw [e, starEach_plain hr]; rfl
theorem backTo_plain {pos : Pos} {es : List Expr} (h : noStar es = true) : backTo pos (starEach es env) = es.map fun e => (false, eval e env) := by
  rw [starEach_plain h]
  unfold backTo
  rw [List.map_map]
  rfl
theorem WEs.run : ∀ {es : List Expr} {ρ : Lo} {H : AH} {Q : List V → AH → Prop}, WEs C A env es ρ H Q → W C A env.locals (spliced (es.map fun e => (false, eval e env))) ρ H (fun vs ρ' H' => ρ' = ρ ∧ Q (vs.map ab) H')
  | [], ρ, H, Q, h => W.pure ⟨rfl, h⟩
  | e :: es, ρ, H, Q, h => fun s hs => PySem.Calls.spliced_cons (wpAny_mono (h s hs) (fun v s1 ⟨ρ1, H1, a1, b1, c1, d1⟩ => by
      subst c1
      exact wpAny_mono (WEs.run d1 s1 a1) (fun vs s2 ⟨ρ2, H2, a2, b2, c2, d2⟩ => ⟨ρ2, H2, a2, b1.trans b2 (fun _ _ => a2.nl), c2, d2⟩) fun _ _ e => e) fun _ _ e => e)
theorem WEs.mono : ∀ {es : List Expr} {ρ : Lo} {H : AH} {Q Q' : List V → AH → Prop}, WEs C A env es ρ H Q → (∀ vs H', Q vs H' → Q' vs H') → WEs C A env es ρ H Q'
  | [], _, _, _, _, h, k => k _ _ h
  | _ :: es, _, _, _, _, h, k => WE.mono h fun _ _ q => WEs.mono q fun _ _ r => k _ _ r
/-- all pure -/
inductive Evs (C : Cx) (A : Around) (env : Env) (ρ : Lo) (H : AH) : List Expr → List V → Prop
  | nil : Evs C A env ρ H [] []
  | cons {e : Expr} {es : List Expr} {v : V} {vs : List V} : Ev C A env ρ H e v → Evs C A env ρ H es vs → Evs C A env ρ H (e :: es) (v :: vs)
theorem WEs.of {es : List Expr} {vs : List V} {Q : List V → AH → Prop} (h : Evs C A env ρ H es vs) (q : Q vs H) : WEs C A env es ρ H Q := by
  induction h generalizing Q with
  | nil => exact q
  | cons h1 _ ih => exact WE.of h1 (ih q)

theorem WE.list {es : List Expr} {pos : Pos} {Q : V → AH → Prop} (hn : noStar es = true) (hlen : es.length ≤ 1000) (h : WEs C A env es ρ H (fun vs H1 => ∀ a, H1 a = none → Q (.ref a) (H1.set a (.list vs)))) : WE C A env (.List es pos) ρ H Q := fun s hs => by
  refine wpAny_List ?_
  rw [backTo_plain hn]
  have hl : ∀ {es : List Expr} {ρ : Lo} {H : AH} {Q : List V → AH → Prop}, WEs C A env es ρ H Q → WEs C A env es ρ H (fun vs H' => vs.length = es.length ∧ Q vs H') := by
    intro es
    induction es with
    | nil => intro ρ H Q h; exact ⟨rfl, h⟩
    | cons e es ih => intro ρ H Q h; exact WE.mono h fun v H1 q => WEs.mono (ih q) fun vs H2 r => ⟨by simp [r.1], r.2⟩
  refine wpAny_mono (WEs.run (hl h) s hs) (fun vs s1 ⟨ρ1, H1, a1, b1, c1, d1⟩ => ?_) fun _ _ e => e
  subst c1
  obtain ⟨d0, d1⟩ := d1
  rw [List.length_map] at d0
  have hz : vs.length ≤ sizeLine := by rw [d0]; exact Nat.le_trans hlen (by decide)
  have ha := get?_size_none s1.heap
  refine ⟨hz, _, _, a1.alloc (o := .list (vs.map ab)) ha (Heap.get?_push_size _ rfl) ⟨vs.toArray, 0, rfl, rfl, by simpa using hz⟩ (fun b o e => Heap.get?_push_of_some _ e), ?_, rfl, d1 _ (a1.fresh ha).1⟩
  exact b1.trans (Step.alloc (tk := s1.toks) ha (fun b o e => Heap.get?_push_of_some _ e)) (fun _ _ => by rw [AH.set_ne _ _ (Ne.symm (a1.fresh ha).2.2)]; exact a1.nl)

theorem WE.tuple {es : List Expr} {k : Nat} {pos : Pos} {Q : V → AH → Prop} (hn : noStar es = true) (hlen : es.length ≤ 1000) (h : WEs C A env es ρ H (fun vs H1 => ∀ a, H1 a = none → Q (.ref a) (H1.set a (.tup vs)))) : WE C A env (.Tuple es k pos) ρ H Q := fun s hs => by
  refine wpAny_Tuple ?_
  rw [backTo_plain hn]
  have hl : ∀ {es : List Expr} {ρ : Lo} {H : AH} {Q : List V → AH → Prop}, WEs C A env es ρ H Q → WEs C A env es ρ H (fun vs H' => vs.length = es.length ∧ Q vs H') := by
    intro es
    induction es with
    | nil => intro ρ H Q h; exact ⟨rfl, h⟩
    | cons e es ih => intro ρ H Q h; exact WE.mono h fun v H1 q => WEs.mono (ih q) fun vs H2 r => ⟨by simp [r.1], r.2⟩
  refine wpAny_mono (WEs.run (hl h) s hs) (fun vs s1 ⟨ρ1, H1, a1, b1, c1, d1⟩ => ?_) fun _ _ e => e
  subst c1
  obtain ⟨d0, d1⟩ := d1
  rw [List.length_map] at d0
  have hz : vs.length ≤ sizeLine := by rw [d0]; exact Nat.le_trans hlen (by decide)
  have ha := get?_size_none s1.heap
  refine ⟨hz, _, _, a1.alloc (o := .tup (vs.map ab)) ha (Heap.get?_push_size _ rfl) ⟨vs.toArray, 0, rfl, rfl, by simpa using hz⟩ (fun b o e => Heap.get?_push_of_some _ e), ?_, rfl, d1 _ (a1.fresh ha).1⟩
  exact b1.trans (Step.alloc (tk := s1.toks) ha (fun b o e => Heap.get?_push_of_some _ e)) (fun _ _ => by rw [AH.set_ne _ _ (Ne.symm (a1.fresh ha).2.2)]; exact a1.nl)

/-! a tuple display unpacked at once: the tuple is not tracked -/
theorem WEs.hidden {es : List Expr} {k : Nat} {pos : Pos} {s : Shared} {R : List V → AH → Prop} (hn : noStar es = true) (hlen : es.length ≤ 1000) (hs : St C env.locals ρ H s.heap) (h : WEs C A env es ρ H R) {Q : Value → Shared → Prop}
    (hq : ∀ T (xs : Array Value) s1 H1, IsTup s1.heap T xs → St C env.locals ρ H1 s1.heap → Step env.locals H H1 s s1 → xs.size = es.length → R (xs.toList.map ab) H1 → Q (.ref T) s1) :
    wpAny C.M A (eval (.Tuple es k pos) env) Q False2 s := by
  refine wpAny_Tuple ?_
  rw [backTo_plain hn]
  have hl : ∀ {es : List Expr} {ρ : Lo} {H : AH} {Q : List V → AH → Prop}, WEs C A env es ρ H Q → WEs C A env es ρ H (fun vs H' => vs.length = es.length ∧ Q vs H') := by
    intro es
    induction es with
    | nil => intro ρ H Q h; exact ⟨rfl, h⟩
    | cons e es ih => intro ρ H Q h; exact WE.mono h fun v H1 q => WEs.mono (ih q) fun vs H2 r => ⟨by simp [r.1], r.2⟩
  refine wpAny_mono (WEs.run (hl h) s hs) (fun vs s1 ⟨ρ1, H1, a1, b1, c1, d1⟩ => ?_) fun _ _ e => e
  subst c1
  obtain ⟨d0, d1⟩ := d1
  rw [List.length_map] at d0
  have hz : vs.length ≤ sizeLine := by rw [d0]; exact Nat.le_trans hlen (by decide)
  have k' : ∀ b o, s1.heap.get? b = some o → (s1.heap.push { cls := .type "tuple", data := .seq vs.toArray }).get? b = some o := fun b o e => Heap.get?_push_of_some _ e
  refine ⟨hz, hq _ vs.toArray _ H1 ⟨_, Heap.get?_push_size _ rfl, rfl, _, rfl⟩ (a1.ext k') (b1.trans (Step.ext (tk := s1.toks) k') (fun _ _ => a1.nl)) (by simp [d0]) d1⟩

theorem W1.asgTup {ts es : List Expr} {k k' : Nat} {p p' pos : Pos} {Q : Fl → Lo → AH → Prop} (F : Fx C A env) (h : WEs C A env es ρ H (fun vs H1 => AsgL C A env ts vs ρ H1 (fun ρ2 H2 => Q .next ρ2 H2)))
    (hs : swapsWithSole [.Tuple ts k p] (.Tuple es k' p') pos.line env = pure false := by rfl) (hw : swappedStores [.Tuple ts k p] (.Tuple es k' p') env = pure none := by rfl) (hn : noStar es = true := by rfl) (hnt : noStar ts = true := by rfl) (hlen : es.length = ts.length := by rfl) (hl : es.length ≤ 1000 := by decide) :
    W1 C A env (.Assign [.Tuple ts k p] (.Tuple es k' p') pos) ρ H Q := fun s hs' => by
  refine Assign_Tuple ?_ hs hw
  refine WEs.hidden hn hl hs' h fun T xs s1 H1 hT a1 b1 hz r => ?_
  refine wpAny_mono (Asg.tuple F hnt (by simp [← hlen, ← hz]) r s1 (.ref T) a1 ⟨T, xs, rfl, hT, rfl⟩) (fun _ s2 ⟨ρ2, H2, a2, b2, c2⟩ => ⟨ρ2, H2, a2, b1.trans b2 (fun _ _ => a2.nl), c2⟩) fun _ _ e => e


/-! ## expression statements -/
theorem W1.expr {e : Expr} {pos : Pos} {Q : Fl → Lo → AH → Prop} (F : Fx C A env) (h : WE C A env e ρ H (fun v H1 => (∀ a, v ≠ .ref a) ∧ Q .next ρ H1)) (hs : swapsWith e none pos.line env = pure false := by rfl) : W1 C A env (.Expr e pos) ρ H Q := fun s hs' => by
  refine wpAny_Expr (wpAny_mono (h s hs') (fun v s1 ⟨ρ1, H1, a1, b1, c1, d1, d2⟩ => ?_) fun _ _ e => e) (by simp [interactive, F.kind]) hs
  subst c1
  cases v <;> first | exact ⟨ρ1, H1, a1, b1, d2⟩ | exact absurd rfl (d1 _)
end
end Mine

namespace Mine
open PySem PySem.W PyProof.Rows

section
variable {C : Cx} {A : Around} {env : Env} {ρ : Lo} {H : AH}

/-! ## calls by a name -/
noncomputable def FnAt (C : Cx) (H : AH) (a : Addr) (o : Obj) (fd : FuncData) : Prop := o.data = .func fd ∧ (C.base.get? a = some o ∨ (H a = some (.fn fd) ∧ o = { cls := .type "function", data := .func fd }))
theorem FnAt.obj {a : Addr} {o : Obj} {fd : FuncData} {L : Addr} {h : Heap} (f : FnAt C H a o fd) (hs : St C L ρ H h) : h.get? a = some o ∧ o.data = .func fd := by
  obtain ⟨e, e1 | ⟨e1, rfl⟩⟩ := f
  · exact ⟨hs.keep _ _ e1, e⟩
  · exact ⟨hs.func e1, e⟩

noncomputable def WKs (C : Cx) (A : Around) (env : Env) : List Keyword → Lo → AH → (List (Str × V) → AH → Prop) → Prop
  | [], _, H, Q => Q [] H
  | ⟨some n, e, _⟩ :: ks, ρ, H, Q => WE C A env e ρ H (fun v H1 => WKs C A env ks ρ H1 (fun vs H2 => Q ((n, v) :: vs) H2))
  | ⟨none, _, _⟩ :: _, _, _, _ => False
theorem WKs.nil {Q : List (Str × V) → AH → Prop} (h : Q [] H) : WKs C A env [] ρ H Q := h
theorem WKs.run {pos : Pos} : ∀ {ks : List Keyword} {ρ : Lo} {H : AH} {Q : List (Str × V) → AH → Prop}, WKs C A env ks ρ H Q →
    W C A env.locals (evalAll ((backToKw pos (keywordEach ks env)).map (·.2))) ρ H (fun vs ρ' H' => ρ' = ρ ∧ Q ((((backToKw pos (keywordEach ks env)).filterMap (·.1)).zip vs).map fun p => (p.1, ab p.2)) H')
  | [], ρ, H, Q, h => W.pure ⟨rfl, h⟩
  | ⟨none, e, p⟩ :: ks, ρ, H, Q, h => h.elim
  | ⟨some n, e, p⟩ :: ks, ρ, H, Q, h => fun s hs => by
    show wpAny C.M A (evalAll ((do let v ← eval e env; standAt pos; pure v) :: (backToKw pos (keywordEach ks env)).map (·.2))) _ _ s
    refine wpAny_evalAll_cons (wpAny_bind (wpAny_mono (h s hs) (fun v s1 ⟨ρ1, H1, a1, b1, c1, d1⟩ => ?_) fun _ _ e => e))
    subst c1
    refine wpAny_bind (wpAny_standAt (wpAny_pure ?_))
    exact wpAny_mono (WKs.run (pos := pos) d1 s1 a1) (fun vs s2 ⟨ρ2, H2, a2, b2, c2, d2⟩ => ⟨ρ2, H2, a2, b1.trans b2 (fun _ _ => a2.nl), c2, d2⟩) fun _ _ e => e
theorem WKs.all {pos : Pos} : ∀ {ks : List Keyword} {ρ : Lo} {H : AH} {Q : List (Str × V) → AH → Prop}, ks.all (·.arg.isSome) = true → (backToKw pos (keywordEach ks env)).all (·.1.isSome) = true
  | [], _, _, _, _ => rfl
  | ⟨none, e, p⟩ :: ks, _, _, _, h => by simp at h
  | ⟨some n, e, p⟩ :: ks, ρ, H, Q, h => by
    have := WKs.all (pos := pos) (ks := ks) (ρ := ρ) (H := H) (Q := Q) (by simpa using h)
    simpa [backToKw, keywordEach] using this

theorem evalArgs_run {f : Value} {pos : Pos} {es : List Expr} {ks : List Keyword} {Q : List V → List (Str × V) → AH → Prop} (hn : noStar es = true) (hk : ks.all (·.arg.isSome) = true) (h : WEs C A env es ρ H (fun vs H1 => WKs C A env ks ρ H1 (fun kv H2 => Q vs kv H2))) :
    W C A env.locals (evalArgs f true (backTo pos (starEach es env)) (backToKw pos (keywordEach ks env))) ρ H (fun a ρ' H' => ρ' = ρ ∧ Q (a.pos.map ab) (a.kw.map fun p => (p.1, ab p.2)) H') := fun s hs => by
  have hall := WKs.all (env := env) (pos := pos) (ks := ks) (ρ := ρ) (H := H) (Q := fun _ _ => True) hk
  rw [backTo_plain hn]
  cases es with
  | nil =>
    refine evalArgs_kw_nil hall ?_
    exact wpAny_mono (WKs.run (pos := pos) h s hs) (fun vs s2 ⟨ρ2, H2, a2, b2, c2, d2⟩ => ⟨ρ2, H2, a2, b2, c2, d2⟩) fun _ _ e => e
  | cons e es =>
    refine evalArgs_kw hall ?_
    refine wpAny_mono (WEs.run h s hs) (fun vs s1 ⟨ρ1, H1, a1, b1, c1, d1⟩ => ?_) fun _ _ e => e
    subst c1
    exact wpAny_mono (WKs.run (pos := pos) d1 s1 a1) (fun vs s2 ⟨ρ2, H2, a2, b2, c2, d2⟩ => ⟨ρ2, H2, a2, b1.trans b2 (fun _ _ => a2.nl), c2, d2⟩) fun _ _ e => e

theorem WE.callFn {id : Str} {p pos : Pos} {a : Addr} {o : Obj} {fd : FuncData} {es : List Expr} {ks : List Keyword} {Q : V → AH → Prop} (hf : Ev C A env ρ H (.Name id p) (.ref a))
    (h : WEs C A env es ρ H (fun vs H1 => WKs C A env ks ρ H1 (fun kv H2 => FnAt C H2 a o fd ∧ WCall C A (.ref a) vs kv H2 Q))) (hn : noStar es = true := by rfl) (hk : ks.all (·.arg.isSome) = true := by rfl) :
    WE C A env (.Call (.Name id p) es ks pos) ρ H Q := fun s hs => by
  refine wpAny_Call_Name_kw ?_
  refine wpAny_mono (hf s hs) (fun f s1 ⟨ρ1, H1, a1, b1, c1, c2, c3⟩ => ?_) fun _ _ e => e
  subst c1 c2
  cases ab_ref c3
  refine callWith_function_kw (o := o) (fd := fd) ?_
  refine wpAny_mono (evalArgs_run hn hk h s1 a1) (fun x s2 ⟨ρ2, H2, a2, b2, c2, hfn, d2⟩ => ⟨hfn.obj a2, ?_⟩) fun _ _ e => e
  subst c2
  exact wpAny_mono (d2 env.locals ρ2 (.ref a) x.pos x.kw rfl rfl rfl s2 a2) (fun v s3 ⟨ρ3, H3, a3, b3, c3, d3⟩ => ⟨ρ3, H3, a3, (b1.trans b2 (fun _ _ => a2.nl)).trans b3 (fun _ _ => a3.nl), c3, d3⟩) fun _ _ e => e

theorem backTo_any {pos : Pos} {es : List Expr} (h : noStar es = true) : (backTo pos (starEach es env)).any (·.1) = false := by
  rw [backTo_plain h]; induction es with
  | nil => rfl
  | cons e es ih =>
    have : noStar es = true := by unfold noStar at h; split at h <;> simp_all
    simp
theorem WE.callBi {id : Str} {p pos : Pos} {b : String} {es : List Expr} {ks : List Keyword} {Q : V → AH → Prop} (hf : Ev C A env ρ H (.Name id p) (.bi b))
    (h : WEs C A env es ρ H (fun vs H1 => WKs C A env ks ρ H1 (fun kv H2 => WCall C A (.bi b) vs kv H2 Q))) (hn : noStar es = true := by rfl) (hk : ks.all (·.arg.isSome) = true := by rfl) :
    WE C A env (.Call (.Name id p) es ks pos) ρ H Q := fun s hs => by
  refine wpAny_Call_Name_kw ?_
  refine wpAny_mono (hf s hs) (fun f s1 ⟨ρ1, H1, a1, b1, c1, c2, c3⟩ => ?_) fun _ _ e => e
  subst c1 c2
  cases ab_bi c3
  have hall := WKs.all (env := env) (pos := pos) (ks := ks) (ρ := ρ1) (H := H1) (Q := fun _ _ => True) hk
  refine callWith_builtin_kwB (backTo_any hn) ?_ ?_
  · rw [List.any_eq_false]
    intro x hx
    have := List.all_eq_true.mp hall x hx
    cases hx1 : x.1 <;> simp_all
  refine wpAny_mono (evalArgs_run hn hk h s1 a1) (fun x s2 ⟨ρ2, H2, a2, b2, c2, d2⟩ => ?_) fun _ _ e => e
  subst c2
  exact wpAny_mono (d2 env.locals ρ2 (.builtin b) x.pos x.kw rfl rfl rfl s2 a2) (fun v s3 ⟨ρ3, H3, a3, b3, c3, d3⟩ => ⟨ρ3, H3, a3, (b1.trans b2 (fun _ _ => a2.nl)).trans b3 (fun _ _ => a3.nl), c3, d3⟩) fun _ _ e => e
theorem WE.callTy {id : Str} {p pos : Pos} {b : String} {es : List Expr} {Q : V → AH → Prop} (hf : Ev C A env ρ H (.Name id p) (.ty b))
    (h : WEs C A env es ρ H (fun vs H1 => WCall C A (.ty b) vs [] H1 Q)) (hn : noStar es = true := by rfl) :
    WE C A env (.Call (.Name id p) es [] pos) ρ H Q := fun s hs => by
  refine wpAny_Call_Name_kw ?_
  refine wpAny_mono (hf s hs) (fun f s1 ⟨ρ1, H1, a1, b1, c1, c2, c3⟩ => ?_) fun _ _ e => e
  subst c1 c2
  cases ab_ty c3
  refine PySem.callWith_type (backTo_any hn) ?_
  refine wpAny_mono (evalArgs_run (ks := []) (Q := fun vs kv H2 => kv = [] ∧ WCall C A (.ty b) vs [] H2 Q) hn rfl (WEs.mono h fun vs H1 q => ⟨rfl, q⟩) s1 a1) (fun x s2 ⟨ρ2, H2, a2, b2, c2, d1, d2⟩ => ?_) fun _ _ e => e
  subst c2
  have hkw : x.kw = [] := by simpa using d1
  rw [hkw]
  exact wpAny_mono (d2 env.locals ρ2 (.type b) x.pos [] rfl rfl rfl s2 a2) (fun v s3 ⟨ρ3, H3, a3, b3, c3, d3⟩ => ⟨ρ3, H3, a3, (b1.trans b2 (fun _ _ => a2.nl)).trans b3 (fun _ _ => a3.nl), c3, d3⟩) fun _ _ e => e

theorem vals1 {vals : List Value} {a : V} (e : vals.map ab = [a]) : ∃ x, vals = [x] ∧ ab x = a := by
  cases vals with
  | nil => simp at e
  | cons x r => cases r with
    | nil => simp at e; exact ⟨x, rfl, e⟩
    | cons => simp at e
theorem vals2 {vals : List Value} {a b : V} (e : vals.map ab = [a, b]) : ∃ x y, vals = [x, y] ∧ ab x = a ∧ ab y = b := by
  cases vals with
  | nil => simp at e
  | cons x r =>
    simp only [List.map_cons, List.cons.injEq] at e
    obtain ⟨y, rfl, h⟩ := vals1 e.2
    exact ⟨x, y, rfl, e.1, h⟩
theorem vals3 {vals : List Value} {a b c : V} (e : vals.map ab = [a, b, c]) : ∃ x y z, vals = [x, y, z] ∧ ab x = a ∧ ab y = b ∧ ab z = c := by
  cases vals with
  | nil => simp at e
  | cons x r =>
    simp only [List.map_cons, List.cons.injEq] at e
    obtain ⟨y, z, rfl, h⟩ := vals2 e.2
    exact ⟨x, y, z, rfl, e.1, h⟩

/-! ## methods of lists -/
theorem WE.listMeth {o : Expr} {name : Str} {id : String} {apos pos : Pos} {es : List Expr} {Q : V → AH → Prop} (slot : Slot "list" name id) (hty : typeOf (.builtin id) = pure (.type "method_descriptor"))
    (h : WE C A env o ρ H (fun v H1 => ∃ a vs, v = .ref a ∧ H1 a = some (.list vs) ∧ WEs C A env es ρ H1 (fun ws H2 => WCall C A (.bi id) (.ref a :: ws) [] H2 Q)))
    (hbase : attributeBase o name env (eval o env) = eval o env := by rfl) (hfew : ((backTo pos (starEach es env)).all (fun x => !x.1) && (backToKw pos (keywordEach [] env)).all (fun x => x.1.isSome) && decide (es.length + ([] : List Keyword).length + (if ([] : List Keyword).isEmpty then 0 else 1) < 30)) = true := by rfl)
    (hline : (apos.endLine == pos.line) = true := by rfl) (hn : noStar es = true := by rfl) : WE C A env (.Call (.Attribute o name apos) es [] pos) ρ H Q := fun s hs => by
  refine wpAny_Call_method hbase hfew hline PySem.F.plainAttrs_list slot hty ?_
  refine wpAny_mono (h s hs) (fun v s1 ⟨ρ1, H1, a1, b1, c1, a, vs, d1, d2, d3⟩ => ?_) fun _ _ e => e
  subst c1
  cases ab_ref d1
  obtain ⟨xs, ⟨n, e1⟩, e2, e3⟩ := a1.plist d2
  refine ⟨⟨_, e1, rfl⟩, fun b hb => ⟨_, by cases hb; exact e1, rfl⟩, ?_⟩
  refine PySem.Calls.callWith_builtin (backTo_any hn) ?_
  refine wpAny_mono (evalArgs_run (ks := []) (Q := fun ws kv H2 => kv = [] ∧ WCall C A (.bi id) (.ref a :: ws) [] H2 Q) hn rfl (WEs.mono d3 fun vs H1 q => ⟨rfl, q⟩) s1 a1) (fun x s2 ⟨ρ2, H2, a2, b2, c2, d1, d2⟩ => ?_) fun _ _ e => e
  subst c2
  have hkw : x.kw = [] := by simpa using d1
  rw [hkw]
  exact wpAny_mono (d2 env.locals ρ2 (.builtin id) (.ref a :: x.pos) [] rfl rfl rfl s2 a2) (fun v s3 ⟨ρ3, H3, a3, b3, c3, d3⟩ => ⟨ρ3, H3, a3, (b1.trans b2 (fun _ _ => a2.nl)).trans b3 (fun _ _ => a3.nl), c3, d3⟩) fun _ _ e => e


/-! ## built-in functions -/
theorem WCall.len {a : Addr} {o : O} {vs : List V} {Q : V → AH → Prop} (hH : H a = some o) (hl : lst o = some vs) (h : Q (.int vs.length) H) : WCall C A (.bi "len") [.ref a] [] H Q := by
  intro L ρ fv vals kvs e1 e2 e3
  cases ab_bi e1
  obtain ⟨x, rfl, ex⟩ := vals1 e2
  cases ab_ref ex
  have : kvs = [] := by simpa using e3
  subst this
  intro s hs
  obtain ⟨xs, h1, h2, h3⟩ := hs.list hH hl
  have hsl : (sizeLine : Int) < 2 ^ 63 := by decide
  refine len_list h1 (by rw [arr_size h2]; lia) ⟨ρ, H, hs, .toks, rfl, ?_⟩
  show Q (.int xs.size) H
  rw [arr_size h2]; exact h
theorem WCall.lenStr {x : Str} {Q : V → AH → Prop} (hz : x.length ≤ sizeLine) (h : Q (.int x.length) H) : WCall C A (.bi "len") [.str x] [] H Q := by
  intro L ρ fv vals kvs e1 e2 e3
  cases ab_bi e1
  obtain ⟨y, rfl, ex⟩ := vals1 e2
  obtain ⟨t, rfl⟩ := ab_str ex
  have : kvs = [] := by simpa using e3
  subst this
  intro s hs
  have hsl : (sizeLine : Int) < 2 ^ 63 := by decide
  exact len_str (by lia) ⟨ρ, H, hs, .toks, rfl, h⟩
/-- len(e) as a pure expression -/
theorem Ev.len {e : Expr} {p pos : Pos} {a : Addr} {o : O} {vs : List V} {id : Str} (hf : Ev C A env ρ H (.Name id p) (.bi "len")) (h : Ev C A env ρ H e (.ref a)) (hH : H a = some o) (hl : lst o = some vs) (hn : noStar [e] = true := by rfl) : Ev C A env ρ H (.Call (.Name id p) [e] [] pos) (.int vs.length) :=
  WE.ev (WE.callBi hf (WEs.of (.cons h .nil) (WKs.nil (WCall.len hH hl ⟨rfl, rfl⟩))) hn)
theorem Ev.lenStr {e : Expr} {p pos : Pos} {x : Str} {id : Str} (hf : Ev C A env ρ H (.Name id p) (.bi "len")) (h : Ev C A env ρ H e (.str x)) (hz : x.length ≤ sizeLine) (hn : noStar [e] = true := by rfl) : Ev C A env ρ H (.Call (.Name id p) [e] [] pos) (.int x.length) :=
  WE.ev (WE.callBi hf (WEs.of (.cons h .nil) (WKs.nil (WCall.lenStr hz ⟨rfl, rfl⟩))) hn)
end
end Mine

namespace Mine
open PySem PySem.W PyProof.Rows

section
variable {C : Cx} {A : Around} {env : Env} {ρ : Lo} {H : AH}

/-! ## a def called -/
noncomputable def retv : Fl → V
  | .ret v => v
  | _ => .none
noncomputable def Keep (C : Cx) (s : Shared) : Prop := ∀ b o, C.base.get? b = some o → s.heap.get? b = some o
theorem lookup_ab (x : Str) (l : List (Str × Value)) : (l.lookup x).map ab = (l.map fun p => (p.1, ab p.2)).lookup x := by
  induction l with
  | nil => rfl
  | cons p r ih =>
    obtain ⟨n, v⟩ := p
    rw [List.map_cons, List.lookup_cons, List.lookup_cons]
    cases x == n
    · exact ih
    · rfl
/-- the frame left -/
theorem St.back {L L' : Addr} {s s1 s' : Shared} {ρ' : Lo} {H1 H' : AH} (hs : St C L ρ H s.heap) (hk : ∀ b o, s.heap.get? b = some o → s1.heap.get? b = some o) (hL' : s.heap.get? L' = none) (h1 : ∀ b o, s.heap.get? b = some o → H b = none → H1 b = none) (x : St C L' ρ' H' s'.heap) (y : Step L' H1 H' s1 s') :
    St C L ρ H' s'.heap ∧ (∀ b o, s.heap.get? b = some o → H b = none → s'.heap.get? b = some o) ∧ (∀ b o, s.heap.get? b = some o → H b = none → H' b = none) ∧ (∀ b o, s.heap.get? b = some o → ∃ o', s'.heap.get? b = some o') := by
  obtain ⟨m, ⟨o, es, ep, ho, r⟩, hm⟩ := hs.loc
  have ne : ∀ b o, s.heap.get? b = some o → b ≠ L' := fun b o e q => by rw [q, hL'] at e; cases e
  have kept : ∀ b o, s.heap.get? b = some o → H b = none → s'.heap.get? b = some o := fun b o e eb => y.kept b o (hk b o e) (h1 b o e eb) (ne b o e)
  have new : ∀ b o, s.heap.get? b = some o → H b = none → H' b = none := fun b o e eb => y.new b o (hk b o e) (h1 b o e eb)
  exact ⟨⟨x.keep, x.rep, x.own, ⟨m, ⟨o, es, ep, kept L o ho hs.nl, r⟩, hm⟩, new L o ho hs.nl, hs.bl⟩, kept, new, fun b o e => y.live b o (hk b o e)⟩

theorem WCall.def {a : Addr} {o : Obj} {fd : FuncData} {body : List Stmt} {args : List V} {kw bs : List (Str × V)} {Q : V → AH → Prop} (hfn : FnAt C H a o fd) (hdep : A.depth < recursionLimit)
    (hb : fd.body = .stmts body) (hcell : ∀ x ∈ fd.scope.names, x.2 ≠ .cell) (hcd : ∀ h : Heap, (∀ b o, C.base.get? b = some o → h.get? b = some o) → h.CodeRec fd.code fd.qualname)
    (hbind : ∀ vals kvs, vals.map ab = args → kvs.map (fun p => (p.1, ab p.2)) = kw → ∃ binds, (∀ s, Keep C s → BindsTo s fd ⟨vals, kvs⟩ binds) ∧ binds.map (fun p => (p.1, ab p.2)) = bs)
    (hloc : ∀ x ∈ bs, fd.scope.names.lookup x.1 = some .local)
    (h : ∀ L, H L = none → WS C (A.deeper (callEnv fd L a)) (callEnv fd L a) body (fun y => bs.reverse.lookup y) H (fun f _ H' => Q (retv f) H'))
    (hco : fd.scope.isCoroutine = false := by rfl) (hgen : fd.scope.isGenerator = false := by rfl) (hk : fd.scope.kind = .function := by rfl) : WCall C A (.ref a) args kw H Q := by
  intro L ρ fv vals kvs e1 e2 e3
  cases ab_ref e1
  obtain ⟨binds, hbt, hbs⟩ := hbind vals kvs e2 e3
  intro s hs
  obtain ⟨ho, hd⟩ := hfn.obj hs
  have hnone := get?_size_none s.heap
  refine wpAny_call (codeAny_call_def hdep ho hd (C.lim.keeps hs.keep) (hcd _ hs.keep) hb (hbt s hs.keep) hcell (fun x hx => hloc (x.1, ab x.2) (by rw [← hbs]; exact List.mem_map.mpr ⟨x, hx, rfl⟩)) (fun h₀ hn hk0 => ?_) hco hgen hk)
  have hst : St C s.heap.objs.size (fun y => bs.reverse.lookup y) H h₀ := by
    refine ⟨fun b o e => hk0 _ _ (hs.keep b o e), fun a o e => let ⟨c, e1, e2⟩ := hs.rep a o e; ⟨c, hk0 _ _ e1, e2⟩, hs.own, ⟨_, hn, fun x => ?_⟩, (hs.fresh hnone).1, (hs.fresh hnone).2.1⟩
    rw [← hbs, ← List.map_reverse]
    exact lookup_ab x binds.reverse
  have henv : (callEnv fd s.heap.objs.size a).locals = s.heap.objs.size := rfl
  refine wpAny_mono (h s.heap.objs.size (hs.fresh hnone).1 { s with heap := h₀, toks := s.toks + binds.length } hst) (fun f s' ⟨ρ', H', x, y, z⟩ => ?_) fun _ _ e => e.elim
  obtain ⟨q1, q2, q3, q4⟩ := hs.back (s1 := { s with heap := h₀, toks := s.toks + binds.length }) (L' := s.heap.objs.size) hk0 hnone (fun _ _ _ e => e) x y
  refine ⟨ρ, H', q1, ⟨?_, fun b o e eb _ => q2 b o e eb, q3, q4⟩, rfl, by cases f <;> exact z⟩
  exact y.same

/-! with cells -/
noncomputable def cellH (cm : Str → Option V) : List (Str × Addr) → AH → AH
  | [], H => H
  | (n, c) :: r, H => (cellH cm r H).set c (.cell (cm n))
theorem cellH_get {cm : Str → Option V} : ∀ {cs : List (Str × Addr)} {H : AH} {b : Addr}, (∀ p ∈ cs, p.2 ≠ b) → cellH cm cs H b = H b
  | [], _, _, _ => rfl
  | (n, c) :: r, H, b, h => by
    rw [cellH, AH.set_ne _ _ (Ne.symm (h (n, c) (List.mem_cons_self ..)))]
    exact cellH_get fun p hp => h p (List.mem_cons_of_mem _ hp)
theorem cellH_some {cm : Str → Option V} : ∀ {cs : List (Str × Addr)} {H : AH} {b : Addr} {o : O}, cellH cm cs H b = some o → (∃ n, (n, b) ∈ cs ∧ o = .cell (cm n)) ∨ H b = some o
  | [], _, _, _, h => .inr h
  | (n, c) :: r, H, b, o, h => by
    rw [cellH] at h
    by_cases q : b = c
    · subst q; rw [AH.set_same] at h; cases h; exact .inl ⟨n, List.mem_cons_self .., rfl⟩
    · rw [AH.set_ne _ _ q] at h
      rcases cellH_some h with ⟨m, hm, e⟩ | e
      · exact .inl ⟨m, List.mem_cons_of_mem _ hm, e⟩
      · exact .inr e


/-! ## while -/
theorem W1.while {t : Expr} {body : List Stmt} {pos : Pos} {Q : Fl → Lo → AH → Prop} (F : Fx C A env) (I : Nat → Lo → AH → Prop) (n : Nat) (h0 : I n ρ H)
    (turn : ∀ n ρ1 H1, I n ρ1 H1 → WT C A env t ρ1 H1 (fun c H2 => (c = true → WS C A env body ρ1 H2 (fun f ρ3 H3 => match f with | .next => ∃ m, m < n ∧ I m ρ3 H3 | .cont => ∃ m, m < n ∧ I m ρ3 H3 | .brk => Q .next ρ3 H3 | .ret v => Q (.ret v) ρ3 H3)) ∧ (c = false → Q .next ρ1 H2))) :
    W1 C A env (.While t body [] pos) ρ H Q := fun s hs => by
  refine wpAny_While ?_
  refine codeAny_whileLoop (fun k s' => ∃ ρ1 H1, St C env.locals ρ1 H1 s'.heap ∧ Step env.locals H H1 s s' ∧ I k ρ1 H1) ?_ n ⟨ρ, H, hs, .refl .., h0⟩
  rintro k s1 ⟨ρ1, H1, a1, b1, c1⟩
  refine wpAny_mono (turn k ρ1 H1 c1 s1 a1) (fun c s2 ⟨ρ2, H2, a2, b2, c2, d2⟩ => ?_) fun _ _ e => e.elim
  subst c2
  have b12 := b1.trans b2 (fun _ _ => a2.nl)
  cases c with
  | true =>
    refine wpAny_mono (d2.1 rfl s2 a2) (fun f s3 ⟨ρ3, H3, a3, b3, c3⟩ => ?_) fun _ _ e => e.elim
    have b13 := b12.trans b3 (fun _ _ => a3.nl)
    cases f with
    | next => obtain ⟨m, hm, hI⟩ := c3; exact ⟨m, hm, ρ3, H3, a3, b13, hI⟩
    | cont => obtain ⟨m, hm, hI⟩ := c3; exact ⟨m, hm, ρ3, H3, a3, b13, hI⟩
    | brk => exact ⟨ρ3, H3, a3, b13, c3⟩
    | ret v => exact ⟨ρ3, H3, a3, b13, c3⟩
  | false => exact wpAny_execs_nil ⟨ρ2, H2, a2, b12, d2.2 rfl⟩
end
end Mine

namespace Mine
open PySem PySem.W PyProof.Rows

/-! ## iterators (their own objects are not tracked) -/
noncomputable def Drawn (C : Cx) (A : Around) (tgt : Expr) (I : Addr) (Q : Option Value → Shared → Prop) (r : Option Value) (s₁ : Shared) : Prop :=
  match r with
  | none => Q none s₁
  | some v => wpAny C.M A (letOwnedTupleGo tgt (.ref I) v) (fun _ s₂ => Q (some v) s₂) False2 s₁

noncomputable def Off (C : Cx) (L : Addr) (H : AH) (wr : List Addr) : Prop := ∀ b ∈ wr, H b = none ∧ C.base.get? b = none ∧ b ≠ L

structure Itr (C : Cx) (A : Around) (I : Addr) (wr : List Addr) (tgt : Expr) (n : Nat) (Rr : Nat → Heap → Prop) (Ok : Nat → AH → Prop) (P : Nat → AH → Dv → Prop) : Prop where
  live : ∀ i h, Rr i h → ∀ b ∈ wr, ∃ o, h.get? b = some o
  frame : ∀ i h h', Rr i h → (∀ b ∈ wr, ∀ o, h.get? b = some o → h'.get? b = some o) → Rr i h'
  item : ∀ i (s : Shared) L ρ H (Q : Option Value → Shared → Prop), i < n → Rr i s.heap → St C L ρ H s.heap → Off C L H wr → Ok i H →
    (∀ v d h' tk, P i H d → d.Is h' v → St C L ρ H h' → Rr (i + 1) h' → (∀ b o, b ∉ wr → s.heap.get? b = some o → h'.get? b = some o) → Q (some v) { s with heap := h', toks := tk }) →
    wpAny C.M A (pyNext (.ref I)) (Drawn C A tgt I Q) False2 s
  done : ∀ (s : Shared) L ρ H (Q : Option Value → Shared → Prop), Rr n s.heap → St C L ρ H s.heap → Off C L H wr → Ok n H →
    (∀ h' tk, St C L ρ H h' → (∀ b o, b ∉ wr → s.heap.get? b = some o → h'.get? b = some o) → Q none { s with heap := h', toks := tk }) →
    wpAny C.M A (pyNext (.ref I)) (Drawn C A tgt I Q) False2 s
  self : ∀ i (s : Shared) (Q : Value → Shared → Prop), Rr i s.heap → Q (.ref I) s → wpAny C.M A (pyIter (.ref I)) Q False2 s

noncomputable def WIt (C : Cx) (A : Around) (env : Env) (e tgt : Expr) (ρ : Lo) (H : AH) (K : AH → Nat → (Nat → AH → Prop) → (Nat → AH → Dv → Prop) → Prop) : Prop :=
  ∀ s : Shared, St C env.locals ρ H s.heap → ∀ Q : Value → Shared → Prop,
    (∀ H1 n Ok P I wr Rr s', K H1 n Ok P → Itr C A I wr tgt n Rr Ok P → Rr 0 s'.heap → St C env.locals ρ H1 s'.heap → Step env.locals H H1 s s' → (∀ b ∈ wr, s.heap.get? b = none ∧ H1 b = none) → Q (.ref I) s') →
    wpAny C.M A (eval e env) (fun x s₁ => wpAny C.M A (pyIter x) Q False2 s₁) False2 s

section
variable {C : Cx} {A : Around} {env : Env} {ρ : Lo} {H : AH}

theorem St.offL {L : Addr} {h h' : Heap} {wr : List Addr} (x : St C L ρ H h) (hw : Off C L H wr) (k : ∀ b o, b ∉ wr → h.get? b = some o → h'.get? b = some o) : St C L ρ H h' where
  keep := fun b o e => k _ _ (fun q => by rw [(hw b q).2.1] at e; cases e) (x.keep b o e)
  rep := fun a o e => let ⟨c, e1, e2⟩ := x.rep a o e; ⟨c, k _ _ (fun q => by rw [(hw a q).1] at e; cases e) e1, e2⟩
  own := x.own
  loc := let ⟨m, ⟨o, es, ep, e1, r⟩, e2⟩ := x.loc; ⟨m, ⟨o, es, ep, k L o (fun q => (hw L q).2.2 rfl) e1, r⟩, e2⟩
  nl := x.nl
  bl := x.bl

theorem Step.offL {L : Addr} {H H' : AH} {s s2 : Shared} {h' : Heap} {tk : Nat} {wr : List Addr} (x : Step L H H' s s2) (hw : ∀ b ∈ wr, s.heap.get? b = none) (k : ∀ b o, b ∉ wr → s2.heap.get? b = some o → h'.get? b = some o) : Step L H H' s { s2 with heap := h', toks := tk } := by
  obtain ⟨m1, k1, n1, l1⟩ := x
  exact ⟨m1, fun b o e eb eL => k b o (fun q => by rw [hw b q] at e; cases e) (k1 b o e eb eL), n1, fun b o e => let ⟨o', e'⟩ := l1 b o e; ⟨o', k b o' (fun q => by rw [hw b q] at e; cases e) e'⟩⟩
/-! the loop itself -/
theorem forLoop_run {tgt : Expr} {it : Addr} {body : List Stmt} {R : Result → Shared → Prop} {s : Shared} (I : Nat → Shared → Prop)
    (turn : ∀ n s, I n s → wpAny C.M A (pyNext (.ref it)) (Drawn C A tgt it (fun r s₁ => match r with
      | none => R (.ok .next) s₁
      | some v => wpAny C.M A (PySem.assign tgt env v) (fun _ s₂ => wpAny C.M A (execs body env) (fun f s₃ => match f with
          | .next | .cont => ∃ m, m < n ∧ I m s₃
          | .brk => R (.ok .next) s₃
          | .ret v => R (.ok (.ret v)) s₃) False2 s₂) False2 s₁)) False2 s)
    (n : Nat) (h : I n s) : codeAny C.M A (.forLoop tgt (.ref it) body [] env) R s := by
  refine codeAny_loop' rfl I (fun n s hI => ?_) n h
  show wpAny _ _ ((forTurn tgt (.ref it) body [] env).onRaise (fun x => do noteFrame x env; theTreesLotGoes x)) _ _ s
  refine wpAny_noted ?_
  simp only [forTurn]
  refine wpAny_bind (wpAny_standAt (wpAny_bind (wpAny_onRaise (wpAny_mono (turn n s hI) (fun r s₁ h₁ => ?_) fun _ _ e => e.elim))))
  cases r with
  | none => exact wpAny_pure (.inr ⟨rfl, codeAny_block (wpAny_execs_nil h₁)⟩)
  | some v =>
    refine wpAny_bind (wpAny_mono h₁ (fun _ s₁' h₁' => ?_) fun _ _ e => e.elim)
    refine wpAny_bind (wpAny_mono h₁' (fun _ s₂ h₂ => wpAny_bind (wpAny_mono h₂ (fun f s₃ h₃ => ?_) fun _ _ e => e.elim)) fun _ _ e => e.elim)
    cases f with
    | next => exact wpAny_pure (.inl ⟨rfl, h₃⟩)
    | cont => exact wpAny_pure (.inl ⟨rfl, h₃⟩)
    | brk => exact wpAny_pure h₃
    | ret v => exact wpAny_pure h₃

theorem Off.step {L : Addr} {H H' : AH} {wr : List Addr} {s s' : Shared} (x : Off C L H wr) (hl : ∀ b ∈ wr, ∃ o, s.heap.get? b = some o) (y : Step L H H' s s') : Off C L H' wr := fun b hb =>
  ⟨let ⟨o, e⟩ := hl b hb; y.new b o e (x b hb).1, (x b hb).2⟩

theorem W1.for {tgt iter : Expr} {body : List Stmt} {pos : Pos} {Q : Fl → Lo → AH → Prop}
    (h : WIt C A env iter tgt ρ H (fun H1 n Ok P => ∃ Inv : Nat → Lo → AH → Prop, Inv 0 ρ H1 ∧
      (∀ i ρ1 H2, i < n → Inv i ρ1 H2 → Ok i H2 ∧ ∀ d, P i H2 d → Asg C A env tgt d ρ1 H2 (fun ρ2 H3 => WS C A env body ρ2 H3 (fun f ρ3 H4 => match f with
        | .next => Inv (i + 1) ρ3 H4
        | .cont => Inv (i + 1) ρ3 H4
        | .brk => Q .next ρ3 H4
        | .ret v => Q (.ret v) ρ3 H4))) ∧
      (∀ ρ1 H2, Inv n ρ1 H2 → Ok n H2 ∧ Q .next ρ1 H2)))
    (hs : ∀ x, foldedSetIterable iter env x = pure x := by intro _; rfl) : W1 C A env (.For tgt iter body [] pos) ρ H Q := fun s hst => by
  refine wpAny_For ?_ hs
  refine h s hst _ (fun H1 n Ok P I wr Rr s' ⟨Inv, h0, turn, fin⟩ it r0 a1 b1 hw => ?_)
  have hoff : Off C env.locals H1 wr := fun b hb => ⟨(hw b hb).2, (hst.fresh (hw b hb).1).2⟩
  refine forLoop_run (fun k s2 => ∃ i ρ2 H2, i ≤ n ∧ k = n - i ∧ St C env.locals ρ2 H2 s2.heap ∧ Step env.locals H H2 s s2 ∧ Rr i s2.heap ∧ Off C env.locals H2 wr ∧ Inv i ρ2 H2) ?_ n ⟨0, ρ, H1, Nat.zero_le _, rfl, a1, b1, r0, hoff, h0⟩
  rintro k s2 ⟨i, ρ2, H2, hi, rfl, a2, b2, r2, o2, i2⟩
  by_cases hlt : i < n
  · obtain ⟨ok, t⟩ := turn i ρ2 H2 hlt i2
    refine it.item i s2 env.locals ρ2 H2 _ hlt r2 a2 o2 ok fun v d h' tk hP hd a3 r3 k3 => ?_
    have b3 : Step env.locals H H2 s { s2 with heap := h', toks := tk } := b2.offL (fun b hb => (hw b hb).1) k3
    refine wpAny_mono (t d hP { s2 with heap := h', toks := tk } v a3 hd) (fun _ s4 ⟨ρ4, H4, a4, b4, c4⟩ => ?_) fun _ _ e => e
    have b14 := b3.trans b4 (fun _ _ => a4.nl)
    have r4 : Rr (i + 1) s4.heap := it.frame _ _ _ r3 fun b hb o e => b4.kept b o e (o2 b hb).1 (o2 b hb).2.2
    have o4 : Off C env.locals H4 wr := o2.step (it.live _ _ r3) b4
    refine wpAny_mono (c4 s4 a4) (fun f s5 ⟨ρ5, H5, a5, b5, c5⟩ => ?_) fun _ _ e => e
    have b15 := b14.trans b5 (fun _ _ => a5.nl)
    have r5 : Rr (i + 1) s5.heap := it.frame _ _ _ r4 fun b hb o e => b5.kept b o e (o4 b hb).1 (o4 b hb).2.2
    have o5 : Off C env.locals H5 wr := o4.step (it.live _ _ r4) b5
    cases f with
    | next => exact ⟨n - (i + 1), by omega, i + 1, ρ5, H5, hlt, rfl, a5, b15, r5, o5, c5⟩
    | cont => exact ⟨n - (i + 1), by omega, i + 1, ρ5, H5, hlt, rfl, a5, b15, r5, o5, c5⟩
    | brk => exact ⟨ρ5, H5, a5, b15, c5⟩
    | ret v => exact ⟨ρ5, H5, a5, b15, c5⟩
  · have hin : i = n := by lia
    subst hin
    obtain ⟨ok, q⟩ := fin ρ2 H2 i2
    exact it.done s2 env.locals ρ2 H2 _ r2 a2 o2 ok fun h' tk a3 k3 => ⟨ρ2, H2, a3, b2.offL (fun b hb => (hw b hb).1) k3, q⟩

/-! ## lists, ranges -/
theorem letOwned_list {tgt : Expr} {I l : Addr} {i : Nat} {v : Value} {s : Shared} {Q : Unit → Shared → Prop} (h : s.heap.IsListIter I l i) (q : Q () s) : wpAny C.M A (letOwnedTupleGo tgt (.ref I) v) Q False2 s := by
  obtain ⟨o, ho, hc, hd⟩ := h
  cases tgt <;> first | exact wpAny_pure q | skip
  all_goals
    cases v <;> first | exact wpAny_pure q | skip
    refine wpAny_bind (wpAny_load ho ?_)
    rw [hc, hd]
    show wpAny _ _ (if _ then _ else _) _ _ _
    rw [if_neg (by simp)]
    exact wpAny_pure q

theorem Itr.list {I l : Addr} {tgt : Expr} {ob : O} {vs : List V} (hh : A.handled = none) (hne : l ≠ I) (hl : lst ob = some vs) :
    Itr C A I [I] tgt vs.length (fun i h => h.IsListIter I l i) (fun _ H => H l = some ob) (fun i H d => ∃ v, vs[i]? = some v ∧ d = .one v) where
  live := fun i h ⟨o, ho, _⟩ b hb => by rw [List.mem_singleton.mp hb]; exact ⟨o, ho⟩
  frame := fun i h h' ⟨o, ho, r⟩ k => ⟨o, k I (List.mem_singleton.mpr rfl) o ho, r⟩
  item := fun i s L ρ H Q hi hr hs hw hok hq => by
    obtain ⟨xs, h1, h2, h3⟩ := hs.list hok hl
    obtain ⟨x, x1, x2⟩ := arr_get (i := i) (v := vs[i]) h2 (by simp [hi])
    refine wpAny_pyNext_list_item hr h1 x1 fun h' hit' hs' => ?_
    refine letOwned_list hit' ?_
    have k : ∀ b o, b ∉ [I] → s.heap.get? b = some o → h'.get? b = some o := fun b o hb e => hs'.extBut b o (fun q => hb (by simp [q])) e
    exact hq x (.one vs[i]) h' s.toks ⟨_, by simp [hi], rfl⟩ x2 (hs.offL hw k) hit' k
  done := fun s L ρ H Q hr hs hw hok hq => by
    obtain ⟨xs, h1, h2, h3⟩ := hs.list hok hl
    refine wpAny_pyNext_list_end hh hr h1 (by rw [← arr_size h2]; simp) fun h' he' => ?_
    have k : ∀ b o, b ∉ [I] → s.heap.get? b = some o → h'.get? b = some o := fun b o hb e => he' b o (fun q => hb (by simp [q])) e
    exact hq h' s.toks (hs.offL hw k) k
  self := fun i s Q hr hq => wpAny_pyIter_listiter hr hq

theorem WIt.list {e tgt : Expr} {K : AH → Nat → (Nat → AH → Prop) → (Nat → AH → Dv → Prop) → Prop} (F : Fx C A env)
    (h : WE C A env e ρ H (fun v H1 => ∃ l ob vs, v = .ref l ∧ H1 l = some ob ∧ lst ob = some vs ∧ K H1 vs.length (fun _ H2 => H2 l = some ob) (fun i _ d => ∃ v, vs[i]? = some v ∧ d = .one v))) : WIt C A env e tgt ρ H K := fun s hs Q hq => by
  refine wpAny_mono (h s hs) (fun x s1 ⟨ρ1, H1, a1, b1, c1, l, ob, vs, d1, d2, d3, d4⟩ => ?_) fun _ _ e => e
  subst c1
  cases ab_ref d1
  obtain ⟨xs, h1, h2, h3⟩ := a1.list d2 d3
  refine wpAny_pyIter_list h1 ?_
  have hn := get?_size_none s1.heap
  have hne : l ≠ s1.heap.objs.size := fun q => by obtain ⟨o, ho, _⟩ := h1; rw [q, hn] at ho; cases ho
  have k : ∀ b o, s1.heap.get? b = some o → (s1.heap.push { cls := .type "list_iterator", data := .fields #[.ref l, .int 0 0] }).get? b = some o := fun b o e => Heap.get?_push_of_some _ e
  refine hq H1 _ _ _ s1.heap.objs.size [s1.heap.objs.size] _ _ d4 (Itr.list F.hh hne d3) ⟨_, Heap.get?_push_size _ rfl, rfl, rfl⟩ (a1.ext k) (b1.trans (Step.ext (tk := s1.toks) k) (fun _ _ => a1.nl)) fun b hb => ?_
  rw [List.mem_singleton.mp hb]
  refine ⟨?_, (a1.fresh hn).1⟩
  cases e : s.heap.get? s1.heap.objs.size with
  | none => rfl
  | some o =>
    obtain ⟨o', e'⟩ := b1.live _ o e
    rw [hn] at e'; cases e'
end
end Mine

namespace Mine
open PySem PySem.W PyProof.Rows

section
variable {C : Cx} {A : Around} {env : Env} {ρ : Lo} {H : AH}

theorem letOwned_range {tgt : Expr} {I : Addr} {x left step : Int} {i : Int} {t : Tok} {s : Shared} {Q : Unit → Shared → Prop} (q : Q () s) : wpAny C.M A (letOwnedTupleGo tgt (.ref I) (.int i t)) Q False2 s := by
  cases tgt <;> exact wpAny_pure q

theorem Itr.range {I : Addr} {tgt : Expr} {a c : Int} {n : Nat} (hh : A.handled = none) :
    Itr C A I [I] tgt n (fun i h => IsRangeIter h I (a + (i : Nat) * c) ((n : Int) - (i : Nat)) c) (fun _ _ => True) (fun i H d => d = .one (.int (a + (i : Nat) * c))) where
  live := fun i h ho b hb => by rw [List.mem_singleton.mp hb]; exact ⟨_, ho⟩
  frame := fun i h h' ho k => k I (List.mem_singleton.mpr rfl) _ ho
  item := fun i s L ρ H Q hi hr hs hw hok hq => by
    refine wpAny_pyNext_range_item hr (by lia) fun h' hit' hs' => ?_
    refine letOwned_range (x := 0) (left := 0) (step := 0) ?_
    have k : ∀ b o, b ∉ [I] → s.heap.get? b = some o → h'.get? b = some o := fun b o hb e => hs'.extBut b o (fun q => hb (by simp [q])) e
    refine hq (.int (a + (i : Nat) * c) s.toks) _ h' (s.toks + 1) rfl rfl (hs.offL hw k) ?_ k
    have e1 : a + ((i + 1 : Nat) : Int) * c = a + (i : Int) * c + c := by push_cast; rw [Int.add_mul, Int.one_mul, Int.add_assoc]
    have e2 : (n : Int) - ((i + 1 : Nat) : Int) = (n : Int) - (i : Int) - 1 := by push_cast; lia
    rw [e1, e2]; exact hit'
  done := fun s L ρ H Q hr hs hw hok hq => by
    refine wpAny_pyNext_range_end hh hr (by lia) fun h' he' => ?_
    have k : ∀ b o, b ∉ [I] → s.heap.get? b = some o → h'.get? b = some o := fun b o hb e => he' b o (fun q => hb (by simp [q])) e
    exact hq h' s.toks (hs.offL hw k) k
  self := fun i s Q hr hq => wpAny_pyIter_rangeiter hr hq

/-- behind the call of range -/
theorem WIt.range_core {r : Addr} {tgt : Expr} {a b c : Int} {t u v : Tok} {n : Nat} {s s1 : Shared} {H1 : AH} {K : AH → Nat → (Nat → AH → Prop) → (Nat → AH → Dv → Prop) → Prop} (hh : A.handled = none)
    (hr : IsRange s1.heap r a b c t u v) (hsm : Builtin.Range.small a b c = true) (hn : Builtin.Range.rangeSize a b c = (n : Int)) (a1 : St C env.locals ρ H1 s1.heap) (b1 : Step env.locals H H1 s s1)
    (hK : K H1 n (fun _ _ => True) (fun i H d => d = .one (.int (a + (i : Nat) * c)))) {Q : Value → Shared → Prop}
    (hq : ∀ H1 n Ok P I wr Rr s', K H1 n Ok P → Itr C A I wr tgt n Rr Ok P → Rr 0 s'.heap → St C env.locals ρ H1 s'.heap → Step env.locals H H1 s s' → (∀ b ∈ wr, s.heap.get? b = none ∧ H1 b = none) → Q (.ref I) s') :
    wpAny C.M A (pyIter (.ref r)) Q False2 s1 := by
  refine wpAny_pyIter_range hr hsm ?_
  have hnn := get?_size_none s1.heap
  have k : ∀ b' o, s1.heap.get? b' = some o → (s1.heap.push { cls := .type "range_iterator", data := .fields #[rawInt a, rawInt (Builtin.Range.rangeSize a b c), rawInt c] }).get? b' = some o := fun b' o e => Heap.get?_push_of_some _ e
  refine hq H1 n _ _ s1.heap.objs.size [s1.heap.objs.size] _ _ hK (Itr.range (a := a) (c := c) hh) ?_ (a1.ext k) (b1.trans (Step.ext (tk := s1.toks) k) (fun _ _ => a1.nl)) fun b hb => ?_
  · have := Heap.get?_push_size s1.heap (o := { cls := .type "range_iterator", data := .fields #[rawInt a, rawInt (Builtin.Range.rangeSize a b c), rawInt c] }) rfl
    rw [hn] at this
    have e : a + ((0 : Nat) : Int) * c = a := by simp
    have e' : (n : Int) - ((0 : Nat) : Int) = n := by simp
    show IsRangeIter _ _ (a + ((0 : Nat) : Int) * c) ((n : Int) - ((0 : Nat) : Int)) c
    rw [e, e', hn]; exact this
  · rw [List.mem_singleton.mp hb]
    refine ⟨?_, (a1.fresh hnn).1⟩
    cases e : s.heap.get? s1.heap.objs.size with
    | none => rfl
    | some o =>
      obtain ⟨o', e'⟩ := b1.live _ o e
      rw [hnn] at e'; cases e'

theorem WIt.range1 {e tgt : Expr} {id : Str} {p pos : Pos} {b : Int} {K : AH → Nat → (Nat → AH → Prop) → (Nat → AH → Dv → Prop) → Prop} (F : Fx C A env) (hf : Ev C A env ρ H (.Name id p) (.ty "range")) (he : Ev C A env ρ H e (.int b)) (hb : -(2 ^ 62) ≤ b) (hb' : b < 2 ^ 62)
    (hK : K H b.toNat (fun _ _ => True) (fun i _ d => d = .one (.int i))) (hn : noStar [e] = true := by rfl) : WIt C A env (.Call (.Name id p) [e] [] pos) tgt ρ H K := fun s hs Q hq => by
  refine wpAny_Call_Name_kw (wpAny_mono (hf s hs) (fun f s1 ⟨ρ1, H1, a1, b1, c1, c2, c3⟩ => ?_) fun _ _ e => e)
  subst c1 c2
  cases ab_ty c3
  refine PySem.callWith_type (backTo_any hn) (wpAny_mono (evalArgs_run (ks := []) (Q := fun vs kv H2 => vs = [.int b] ∧ kv = [] ∧ H2 = H1) hn rfl (WEs.of (.cons he .nil) ⟨rfl, rfl, rfl⟩) s1 a1) (fun x s2 ⟨ρ2, H2, a2, b2, c2, d1, d2, d3⟩ => ?_) fun _ _ e => e)
  subst c2 d3
  have hkw : x.kw = [] := by simpa using d2
  obtain ⟨y, ey, ey'⟩ := vals1 d1
  obtain ⟨t, rfl⟩ := ab_int ey'
  rw [hkw, ey]
  have k : ∀ b' o, s2.heap.get? b' = some o → (s2.heap.push { cls := .type "range", data := .fields #[.int 0 s2.toks, .int b t, .int 1 (s2.toks + 1)] }).get? b' = some o := fun b' o e => Heap.get?_push_of_some _ e
  refine call_range_1 (WIt.range_core (n := b.toNat) F.hh (IsRange.new _ _ _ _ _ _ _) (small_one (by decide) (by decide) hb hb') (by rw [rangeSize_nat]; simp) (a2.ext k) ((b1.trans b2 (fun _ _ => a2.nl)).trans (Step.ext (tk := s2.toks + 1 + 1) k) (fun _ _ => a2.nl)) ?_ hq)
  have e : (fun (i : Nat) (H : AH) (d : Dv) => d = Dv.one (V.int (0 + (i : Int) * 1))) = fun i _ d => d = .one (.int i) := by funext i _ d; simp
  rw [e]; exact hK
end
end Mine

namespace Mine
open PySem PySem.W PyProof.Rows

section
variable {C : Cx} {A : Around} {env : Env} {ρ : Lo} {H : AH}

/-! ## tests of a clause -/
noncomputable def WIf (C : Cx) (A : Around) (env : Env) : List Expr → Lo → AH → (Bool → AH → Prop) → Prop
  | [], _, H, Q => Q true H
  | c :: cs, ρ, H, Q => WT C A env c ρ H (fun b H1 => (b = true → WIf C A env cs ρ H1 Q) ∧ (b = false → Q false H1))
theorem ifs_false {env : Env} : ∀ (ifs : List Expr), (forIn ifs false fun c r => if r = true then do let ok ← isTrue c env (eval c env); pure (ForInStep.yield ok) else pure (ForInStep.yield r) : Sem Bool) = pure false
  | [] => rfl
  | c :: cs => by
    rw [List.forIn_cons]
    show (if false = true then _ else pure (ForInStep.yield false) : Sem (ForInStep Bool)) >>= _ = _
    rw [if_neg Bool.false_ne_true]
    exact ifs_false cs
theorem WIf.run : ∀ {ifs : List Expr} {ρ : Lo} {H : AH} {Q : Bool → AH → Prop}, WIf C A env ifs ρ H Q →
    W C A env.locals (forIn ifs true fun c r => if r = true then do let ok ← isTrue c env (eval c env); pure (ForInStep.yield ok) else pure (ForInStep.yield r)) ρ H (fun b ρ' H' => ρ' = ρ ∧ Q b H')
  | [], ρ, H, Q, h => W.pure ⟨rfl, h⟩
  | c :: cs, ρ, H, Q, h => by
    rw [List.forIn_cons]
    refine W.bind (W.bind (W.mono h ?_))
    rintro b ρ1 H1 ⟨rfl, h1, h2⟩
    refine W.pure ?_
    cases b with
    | true => exact WIf.run (h1 rfl)
    | false =>
      show W C A env.locals (forIn cs false _) ρ1 H1 _
      rw [ifs_false]
      exact W.pure ⟨rfl, h2 rfl⟩

/-! ## comprehensions -/
structure StepX (ex : List Addr) (L : Addr) (H H' : AH) (s s' : Shared) : Prop where
  same : s'.gens = s.gens ∧ s'.os = s.os
  kept : ∀ b o, b ∉ ex → s.heap.get? b = some o → H b = none → b ≠ L → s'.heap.get? b = some o
  new : ∀ b o, b ∉ ex → s.heap.get? b = some o → H b = none → H' b = none
  live : ∀ b o, b ∉ ex → s.heap.get? b = some o → ∃ o', s'.heap.get? b = some o'
theorem Step.toX {ex : List Addr} {L : Addr} {H H' : AH} {s s' : Shared} (x : Step L H H' s s') : StepX ex L H H' s s' := ⟨x.same, fun b o _ e eb eL => x.kept b o e eb eL, fun b o _ => x.new b o, fun b o _ => x.live b o⟩
theorem StepX.trans {ex : List Addr} {L : Addr} {H H' H'' : AH} {s s' s'' : Shared} (x : StepX ex L H H' s s') (y : StepX ex L H' H'' s' s'') : StepX ex L H H'' s s'' := by
  obtain ⟨m1, k1, n1, l1⟩ := x
  obtain ⟨m2, k2, n2, l2⟩ := y
  exact ⟨⟨m2.1.trans m1.1, m2.2.trans m1.2⟩, fun b o hb e eH eL => k2 b o hb (k1 b o hb e eH eL) (n1 b o hb e eH) eL, fun b o hb e eH => let ⟨o', e'⟩ := l1 b o hb e; n2 b o' hb e' (n1 b o hb e eH), fun b o hb e => let ⟨o', e'⟩ := l1 b o hb e; l2 b o' hb e'⟩
/-- changes at untracked places -/
theorem StepX.off {ex : List Addr} {L : Addr} {H : AH} {s : Shared} {h' : Heap} {tk : Nat} (k : ∀ b o, b ∉ ex → s.heap.get? b = some o → h'.get? b = some o) : StepX ex L H H s { s with heap := h', toks := tk } :=
  ⟨⟨rfl, rfl⟩, fun b o hb e _ _ => k b o hb e, fun _ _ _ _ e => e, fun b o hb e => ⟨o, k b o hb e⟩⟩
theorem StepX.mono {ex ex' : List Addr} {L : Addr} {H H' : AH} {s s' : Shared} (x : StepX ex L H H' s s') (h : ∀ b ∈ ex, ∀ o, s.heap.get? b = some o → b ∈ ex') : StepX ex' L H H' s s' :=
  ⟨x.same, fun b o hb e eb eL => x.kept b o (fun q => hb (h b q o e)) e eb eL, fun b o hb e => x.new b o (fun q => hb (h b q o e)) e, fun b o hb e => x.live b o (fun q => hb (h b q o e)) e⟩

/-- the accumulator, not tracked -/
structure Acc (C : Cx) (L : Addr) (D : Addr) (H : AH) (ys : List V) (h : Heap) : Prop where
  off : H D = none ∧ C.base.get? D = none ∧ D ≠ L
  arr : ∃ xs : Array Value, h.PlainList D xs ∧ xs.toList.map ab = ys
  sz : ys.length ≤ sizeLine
theorem Acc.step {L D : Addr} {H H' : AH} {ys : List V} {s s' : Shared} (x : Acc C L D H ys s.heap) (y : Step L H H' s s') : Acc C L D H' ys s'.heap := by
  obtain ⟨o, ⟨xs, ⟨n, hp⟩, e⟩, z⟩ := x
  exact ⟨⟨y.new _ _ hp o.1, o.2⟩, ⟨xs, ⟨n, y.kept _ _ hp o.1 o.2.2⟩, e⟩, z⟩

noncomputable def CompR (C : Cx) (L D : Addr) (ex : List Addr) (H : AH) (s : Shared) (Q : Lo → AH → List V → Prop) (r : Result) (s' : Shared) : Prop :=
  match r with
  | .ok .next => ∃ ρ' H' zs, St C L ρ' H' s'.heap ∧ Acc C L D H' zs s'.heap ∧ StepX ex L H H' s s' ∧ Q ρ' H' zs
  | _ => False

/-- what is done for each item of the clauses behind -/
noncomputable def CompI (C : Cx) (A : Around) (env : Env) (elt : Expr) : List Comprehension → Lo → AH → List V → (Lo → AH → List V → Prop) → Prop
  | [], ρ, H, ys, Q => WE C A env elt ρ H (fun v H1 => ys.length < sizeLine ∧ Q ρ H1 (ys ++ [v]))
  | ⟨tgt, iter, ifs, _⟩ :: gs, ρ, H, ys, Q => WIt C A env iter tgt ρ H (fun H1 n Ok P => ∃ Inv : Nat → Lo → AH → List V → Prop, Inv 0 ρ H1 ys ∧
      (∀ i ρ1 H2 zs, i < n → Inv i ρ1 H2 zs → Ok i H2 ∧ ∀ d, P i H2 d → Asg C A env tgt d ρ1 H2 (fun ρ2 H3 => WIf C A env ifs ρ2 H3 (fun b H4 => (b = true → CompI C A env elt gs ρ2 H4 zs (fun ρ5 H5 us => Inv (i + 1) ρ5 H5 us)) ∧ (b = false → Inv (i + 1) ρ2 H4 zs)))) ∧
      (∀ ρ1 H2 zs, Inv n ρ1 H2 zs → Ok n H2 ∧ Q ρ1 H2 zs))

/-- the loop of one clause, given what is done inside -/
noncomputable def LoopOk (C : Cx) (A : Around) (env : Env) (elt tgt : Expr) (ifs : List Expr) (gs : List Comprehension) (H1 : AH) (n : Nat) (Ok : Nat → AH → Prop) (P : Nat → AH → Dv → Prop) (ρ : Lo) (ys : List V) (Q : Lo → AH → List V → Prop) : Prop :=
  ∃ Inv : Nat → Lo → AH → List V → Prop, Inv 0 ρ H1 ys ∧
      (∀ i ρ1 H2 zs, i < n → Inv i ρ1 H2 zs → Ok i H2 ∧ ∀ d, P i H2 d → Asg C A env tgt d ρ1 H2 (fun ρ2 H3 => WIf C A env ifs ρ2 H3 (fun b H4 => (b = true → CompI C A env elt gs ρ2 H4 zs (fun ρ5 H5 us => Inv (i + 1) ρ5 H5 us)) ∧ (b = false → Inv (i + 1) ρ2 H4 zs)))) ∧
      (∀ ρ1 H2 zs, Inv n ρ1 H2 zs → Ok n H2 ∧ Q ρ1 H2 zs)

theorem compTurn_last (elt : Expr) (gens : List Comprehension) (scope : Scope) (pos : Pos) (d : Nat) (tgt iter : Expr) (ifs : List Expr) (it acc : Value) (cenv : Env) (hd : gens[d]? = some ⟨tgt, iter, ifs, 0⟩) (hl : gens[d + 1]? = none) :
    compTurn (.ListComp elt gens scope pos) d it acc cenv = (standAt iter.pos >>= fun _ => pyNext it >>= fun r => match r with
      | none => pure (.done .next)
      | some v => letOwnedTupleGo tgt it v >>= fun _ => PySem.assign tgt cenv v >>= fun _ =>
          (forIn ifs true fun c r => if r = true then do let ok ← isTrue c cenv (eval c cenv); pure (ForInStep.yield ok) else pure (ForInStep.yield r)) >>= fun ok =>
            if ok = true then ((eval elt cenv >>= fun x => call (.builtin "list.append") [acc, x] >>= fun _ => pure PUnit.unit) >>= fun _ => again (.compLoop (.ListComp elt gens scope pos) d it acc cenv)) else again (.compLoop (.ListComp elt gens scope pos) d it acc cenv)) := by
  unfold compTurn
  simp only [hd, hl]
  rfl
theorem compTurn_more (elt : Expr) (gens : List Comprehension) (scope : Scope) (pos : Pos) (d : Nat) (tgt iter tgt' iter' : Expr) (ifs ifs' : List Expr) (it acc : Value) (cenv : Env) (hd : gens[d]? = some ⟨tgt, iter, ifs, 0⟩) (hl : gens[d + 1]? = some ⟨tgt', iter', ifs', 0⟩) :
    compTurn (.ListComp elt gens scope pos) d it acc cenv = (standAt iter.pos >>= fun _ => pyNext it >>= fun r => match r with
      | none => pure (.done .next)
      | some v => letOwnedTupleGo tgt it v >>= fun _ => PySem.assign tgt cenv v >>= fun _ =>
          (forIn ifs true fun c r => if r = true then do let ok ← isTrue c cenv (eval c cenv); pure (ForInStep.yield ok) else pure (ForInStep.yield r)) >>= fun ok =>
            if ok = true then (eval iter' cenv >>= fun x => standAt iter'.pos >>= fun _ => foldedSetIterable iter' cenv x >>= fun x => holding [x] (pyIter x) >>= fun it' => runOwn (.compStart (.ListComp elt gens scope pos) (d + 1) it' acc cenv) cenv >>= fun _ => again (.compLoop (.ListComp elt gens scope pos) d it acc cenv)) else again (.compLoop (.ListComp elt gens scope pos) d it acc cenv)) := by
  unfold compTurn
  simp only [hd, hl]
  rfl

theorem Off.stepX {L : Addr} {H H' : AH} {wr ex : List Addr} {s s' : Shared} (x : Off C L H wr) (hl : ∀ b ∈ wr, ∃ o, s.heap.get? b = some o) (y : StepX ex L H H' s s') (hex : ∀ b ∈ wr, b ∉ ex) : Off C L H' wr := fun b hb =>
  ⟨let ⟨o, e⟩ := hl b hb; y.new b o (hex b hb) e (x b hb).1, (x b hb).2⟩

noncomputable abbrev ifsT (ifs : List Expr) (env : Env) : Sem Bool := forIn ifs true fun c r => if r = true then do let ok ← isTrue c env (eval c env); pure (ForInStep.yield ok) else pure (ForInStep.yield r)
noncomputable def TurnP (C : Cx) (A : Around) (env : Env) (tgt : Expr) (ifs : List Expr) (I : Addr) (fin : Shared → Prop) (Inn : Shared → Prop) (K : Shared → Prop) : Option Value → Shared → Prop :=
  Drawn C A tgt I (fun r s₁ => match r with
    | none => fin s₁
    | some v => wpAny C.M A (PySem.assign tgt env v) (fun _ s₂ => wpAny C.M A (ifsT ifs env) (fun ok s₃ => (ok = true → Inn s₃) ∧ (ok = false → K s₃)) False2 s₂) False2 s₁)
noncomputable def InnLast (C : Cx) (A : Around) (env : Env) (elt : Expr) (D : Addr) (K : Shared → Prop) (s : Shared) : Prop :=
  wpAny C.M A (eval elt env) (fun x s₄ => wpAny C.M A (call (.builtin "list.append") [.ref D, x]) (fun _ s₅ => K s₅) False2 s₄) False2 s
noncomputable def InnMore (C : Cx) (A : Around) (env : Env) (e iter : Expr) (d : Nat) (D : Addr) (K : Shared → Prop) (s : Shared) : Prop :=
  wpAny C.M A (eval iter env) (fun x s₄ => wpAny C.M A (pyIter x) (fun it s₅ => codeAny C.M A (.compStart e d it (.ref D) env) (fun r s₆ => match r with | .ok _ => K s₆ | .error _ => False) s₅) False2 s₄) False2 s

theorem compLoop_last {elt : Expr} {gens : List Comprehension} {scope : Scope} {pos : Pos} {d : Nat} {tgt iter : Expr} {ifs : List Expr} {it D : Addr} {R : Result → Shared → Prop} {s : Shared} (hd : gens[d]? = some ⟨tgt, iter, ifs, 0⟩) (hl : gens[d + 1]? = none) (I : Nat → Shared → Prop)
    (turn : ∀ n s, I n s → wpAny C.M A (pyNext (.ref it)) (TurnP C A env tgt ifs it (R (.ok .next)) (InnLast C A env elt D (fun s' => ∃ m, m < n ∧ I m s')) (fun s' => ∃ m, m < n ∧ I m s')) False2 s) (n : Nat) (h : I n s) :
    codeAny C.M A (.compLoop (.ListComp elt gens scope pos) d (.ref it) (.ref D) env) R s := by
  refine codeAny_loop rfl I (fun n s hI => ?_) n h
  show wpAny _ A ((compTurn (.ListComp elt gens scope pos) d (.ref it) (.ref D) env).onRaise (fun x => do noteFrame x env; theTreesLotGoes x)) _ _ s
  refine wpAny_noted ?_
  rw [compTurn_last elt gens scope pos d tgt iter ifs _ _ _ hd hl]
  refine wpAny_bind (wpAny_standAt (wpAny_bind (wpAny_mono (turn n s hI) (fun r s₁ h₁ => ?_) fun _ _ e => e.elim)))
  cases r with
  | none => exact wpAny_pure h₁
  | some v =>
    refine wpAny_bind (wpAny_mono h₁ (fun _ s₂ h₂ => ?_) fun _ _ e => e.elim)
    refine wpAny_bind (wpAny_mono h₂ (fun _ s₃ h₃ => ?_) fun _ _ e => e.elim)
    refine wpAny_bind (wpAny_mono h₃ (fun ok s₄ h₄ => ?_) fun _ _ e => e.elim)
    cases ok with
    | false => exact wpAny_pure ⟨rfl, h₄.2 rfl⟩
    | true => exact wpAny_bind (wpAny_bind (wpAny_mono (h₄.1 rfl) (fun x s₅ h₅ => wpAny_bind (wpAny_mono h₅ (fun _ s₆ h₆ => wpAny_pure (wpAny_pure ⟨rfl, h₆⟩)) fun _ _ e => e.elim)) fun _ _ e => e.elim))
theorem compLoop_more {elt : Expr} {gens : List Comprehension} {scope : Scope} {pos : Pos} {d : Nat} {tgt iter tgt' iter' : Expr} {ifs ifs' : List Expr} {it D : Addr} {R : Result → Shared → Prop} {s : Shared} (hd : gens[d]? = some ⟨tgt, iter, ifs, 0⟩) (hl : gens[d + 1]? = some ⟨tgt', iter', ifs', 0⟩) (hs : ∀ x, foldedSetIterable iter' env x = pure x) (I : Nat → Shared → Prop)
    (turn : ∀ n s, I n s → wpAny C.M A (pyNext (.ref it)) (TurnP C A env tgt ifs it (R (.ok .next)) (InnMore C A env (.ListComp elt gens scope pos) iter' (d + 1) D (fun s' => ∃ m, m < n ∧ I m s')) (fun s' => ∃ m, m < n ∧ I m s')) False2 s) (n : Nat) (h : I n s) :
    codeAny C.M A (.compLoop (.ListComp elt gens scope pos) d (.ref it) (.ref D) env) R s := by
  refine codeAny_loop rfl I (fun n s hI => ?_) n h
  show wpAny _ A ((compTurn (.ListComp elt gens scope pos) d (.ref it) (.ref D) env).onRaise (fun x => do noteFrame x env; theTreesLotGoes x)) _ _ s
  refine wpAny_noted ?_
  rw [compTurn_more elt gens scope pos d tgt iter tgt' iter' ifs ifs' _ _ _ hd hl]
  refine wpAny_bind (wpAny_standAt (wpAny_bind (wpAny_mono (turn n s hI) (fun r s₁ h₁ => ?_) fun _ _ e => e.elim)))
  cases r with
  | none => exact wpAny_pure h₁
  | some v =>
    refine wpAny_bind (wpAny_mono h₁ (fun _ s₂ h₂ => ?_) fun _ _ e => e.elim)
    refine wpAny_bind (wpAny_mono h₂ (fun _ s₃ h₃ => ?_) fun _ _ e => e.elim)
    refine wpAny_bind (wpAny_mono h₃ (fun ok s₄ h₄ => ?_) fun _ _ e => e.elim)
    cases ok with
    | false => exact wpAny_pure ⟨rfl, h₄.2 rfl⟩
    | true =>
      refine wpAny_bind (wpAny_mono (h₄.1 rfl) (fun x s₅ h₅ => wpAny_bind (wpAny_standAt ?_)) fun _ _ e => e.elim)
      rw [hs]
      refine wpAny_bind (wpAny_pure (wpAny_bind (wpAny_holding (wpAny_mono h₅ (fun it' s₆ h₆ => ?_) fun _ _ e => e.elim))))
      refine wpAny_bind ?_
      unfold runOwn
      refine wpAny_onRaise (wpAny_run (codeAny_mono h₆ fun r s' hr => ?_))
      cases r with
      | ok f => exact wpAny_pure ⟨rfl, hr⟩
      | error e => exact hr.elim

theorem compStart_run {elt : Expr} {gens : List Comprehension} {scope : Scope} {pos : Pos} {d : Nat} {tgt iter : Expr} {ifs : List Expr} {it acc : Value} {R : Result → Shared → Prop} {s : Shared} (hd : gens[d]? = some ⟨tgt, iter, ifs, 0⟩)
    (h0 : codeAny C.M A (.compLoop (.ListComp elt gens scope pos) d it acc env) R s)
    (h : wpAny C.M A (pyIter it) (fun it' s' => codeAny C.M A (.compLoop (.ListComp elt gens scope pos) d it' acc env) R s') False2 s) :
    codeAny C.M A (.compStart (.ListComp elt gens scope pos) d it acc env) R s := by
  refine codeAny_of_tree ?_
  show wpAny _ _ ((compStart (.ListComp elt gens scope pos) d it acc env).onRaise (fun x => do noteFrame x env; standAt theWindowsPlace)) _ _ s
  refine wpAny_notedAt ?_
  unfold compStart
  have hcl : (clausesOf (.ListComp elt gens scope pos))[d]? = some ⟨tgt, iter, ifs, 0⟩ := hd
  rw [hcl]
  show wpAny _ _ (ask >>= _) _ _ s
  refine wpAny_bind (wpAny_askSetting (wpAny_ite ?_))
  split
  · exact wpAny_pure (And.intro rfl h0)
  · exact wpAny_bind (wpAny_rule (wpAny_bind (wpAny_standAt (wpAny_bind (wpAny_mono h (fun it' s' h' => wpAny_pure (And.intro rfl h')) fun _ _ x => x.elim)))))

section
variable {elt tgt : Expr} {ifs : List Expr} {gs : List Comprehension} {I D : Addr} {wr : List Addr} {n : Nat} {Rr : Nat → Heap → Prop} {Ok : Nat → AH → Prop} {P : Nat → AH → Dv → Prop} {Inv : Nat → Lo → AH → List V → Prop} {s : Shared} {Q : Lo → AH → List V → Prop}
noncomputable def CSt (C : Cx) (env : Env) (D : Addr) (wr : List Addr) (n : Nat) (Rr : Nat → Heap → Prop) (Inv : Nat → Lo → AH → List V → Prop) (H : AH) (s : Shared) (k : Nat) (s2 : Shared) : Prop :=
  ∃ i ρ2 H2 zs, i ≤ n ∧ k = n - i ∧ St C env.locals ρ2 H2 s2.heap ∧ StepX (D :: wr) env.locals H H2 s s2 ∧ Rr i s2.heap ∧ Off C env.locals H2 wr ∧ Acc C env.locals D H2 zs s2.heap ∧ Inv i ρ2 H2 zs
theorem comp_turns (Inn : (Shared → Prop) → Shared → Prop)
    (hInn : ∀ {ρ H zs Qi} {K : Shared → Prop} {s : Shared}, CompI C A env elt gs ρ H zs Qi → St C env.locals ρ H s.heap → Acc C env.locals D H zs s.heap →
      (∀ ρ5 H5 us s5, St C env.locals ρ5 H5 s5.heap → Acc C env.locals D H5 us s5.heap → StepX [D] env.locals H H5 s s5 → Qi ρ5 H5 us → K s5) → Inn K s)
    (it : Itr C A I wr tgt n Rr Ok P) (hDw : D ∉ wr)
    (turn : ∀ i ρ1 H2 zs, i < n → Inv i ρ1 H2 zs → Ok i H2 ∧ ∀ d, P i H2 d → Asg C A env tgt d ρ1 H2 (fun ρ2 H3 => WIf C A env ifs ρ2 H3 (fun b H4 => (b = true → CompI C A env elt gs ρ2 H4 zs (fun ρ5 H5 us => Inv (i + 1) ρ5 H5 us)) ∧ (b = false → Inv (i + 1) ρ2 H4 zs))))
    (fin : ∀ ρ1 H2 zs, Inv n ρ1 H2 zs → Ok n H2 ∧ Q ρ1 H2 zs) (k : Nat) (s2 : Shared) (hI : CSt C env D wr n Rr Inv H s k s2) :
    wpAny C.M A (pyNext (.ref I)) (TurnP C A env tgt ifs I (CompR C env.locals D (D :: wr) H s Q (.ok .next)) (Inn (fun s' => ∃ m, m < k ∧ CSt C env D wr n Rr Inv H s m s')) (fun s' => ∃ m, m < k ∧ CSt C env D wr n Rr Inv H s m s')) False2 s2 := by
  obtain ⟨i, ρ2, H2, zs, hi, rfl, a2, b2, r2, o2, acc2, i2⟩ := hI
  by_cases hlt : i < n
  · obtain ⟨ok, t⟩ := turn i ρ2 H2 zs hlt i2
    refine it.item i s2 env.locals ρ2 H2 _ hlt r2 a2 o2 ok fun v dd h' tk hP hdd a3 r3 k3 => ?_
    have b3 : StepX (D :: wr) env.locals H2 H2 s2 { s2 with heap := h', toks := tk } := StepX.off (fun b o hb e => k3 b o (fun q => hb (List.mem_cons_of_mem _ q)) e)
    have hDn : ∀ b ∈ wr, b ∉ [D] := fun b hb q => hDw (by rw [← List.mem_singleton.mp q]; exact hb)
    have acc3 : Acc C env.locals D H2 zs h' := by
      obtain ⟨oo, ⟨xs, ⟨nn, hp⟩, e⟩, z⟩ := acc2
      exact ⟨oo, ⟨xs, ⟨nn, k3 D _ hDw hp⟩, e⟩, z⟩
    refine wpAny_mono (t dd hP { s2 with heap := h', toks := tk } v a3 hdd) (fun _ s4 ⟨ρ4, H4, a4, b4, c4⟩ => ?_) fun _ _ e => e.elim
    have acc4 := acc3.step b4
    have r4 : Rr (i + 1) s4.heap := it.frame _ _ _ r3 fun b hb o e => b4.kept b o e (o2 b hb).1 (o2 b hb).2.2
    have o4 : Off C env.locals H4 wr := o2.step (it.live _ _ r3) b4
    refine wpAny_mono (WIf.run c4 s4 a4) (fun bb s5 ⟨ρ5, H5, a5, b5, c5, d5, d5'⟩ => ?_) fun _ _ e => e.elim
    subst c5
    have acc5 := acc4.step b5
    have r5 : Rr (i + 1) s5.heap := it.frame _ _ _ r4 fun b hb o e => b5.kept b o e (o4 b hb).1 (o4 b hb).2.2
    have o5 : Off C env.locals H5 wr := o4.step (it.live _ _ r4) b5
    have b25 := ((b2.trans b3).trans b4.toX).trans b5.toX
    refine ⟨fun e => ?_, fun e => ⟨n - (i + 1), by omega, i + 1, ρ5, H5, zs, hlt, rfl, a5, b25, r5, o5, acc5, d5' e⟩⟩
    refine hInn (d5 e) a5 acc5 fun ρ6 H6 us s6 a6 acc6 b6 i6 => ?_
    refine ⟨n - (i + 1), by omega, i + 1, ρ6, H6, us, hlt, rfl, a6, b25.trans (b6.mono fun b hb _ _ => by rw [List.mem_singleton.mp hb]; exact List.mem_cons_self ..), ?_, o5.stepX (it.live _ _ r5) b6 hDn, acc6, i6⟩
    exact it.frame _ _ _ r5 fun b hb o e => b6.kept b o (hDn b hb) e (o5 b hb).1 (o5 b hb).2.2
  · have hin : i = n := by lia
    subst hin
    obtain ⟨ok, q⟩ := fin ρ2 H2 zs i2
    refine it.done s2 env.locals ρ2 H2 _ r2 a2 o2 ok fun h' tk a3 k3 => ?_
    refine ⟨ρ2, H2, zs, a3, ?_, ?_, q⟩
    · obtain ⟨oo, ⟨xs, ⟨nn, hp⟩, e⟩, z⟩ := acc2
      exact ⟨oo, ⟨xs, ⟨nn, k3 D _ hDw hp⟩, e⟩, z⟩
    · exact b2.trans (StepX.off fun b o hb e => k3 b o (fun q => hb (List.mem_cons_of_mem _ q)) e)
end

theorem comp_run {elt : Expr} {gens : List Comprehension} {scope : Scope} {pos : Pos} {D : Addr} : ∀ (gs : List Comprehension) (d : Nat) (tgt iter : Expr) (ifs : List Expr), gens.drop d = ⟨tgt, iter, ifs, 0⟩ :: gs → (∀ g ∈ gs, g.is_async = 0 ∧ ∀ x, foldedSetIterable g.iter env x = pure x) →
    ∀ {I : Addr} {wr : List Addr} {n : Nat} {Rr : Nat → Heap → Prop} {Ok : Nat → AH → Prop} {P : Nat → AH → Dv → Prop} {ρ : Lo} {H : AH} {ys : List V} {Q : Lo → AH → List V → Prop} {s : Shared},
      LoopOk C A env elt tgt ifs gs H n Ok P ρ ys Q → Itr C A I wr tgt n Rr Ok P → Rr 0 s.heap → St C env.locals ρ H s.heap → Off C env.locals H wr → D ∉ wr → Acc C env.locals D H ys s.heap →
      codeAny C.M A (.compStart (.ListComp elt gens scope pos) d (.ref I) (.ref D) env) (CompR C env.locals D (D :: wr) H s Q) s := by
  intro gs
  induction gs with
  | nil =>
    intro d tgt iter ifs hdrop hasync I wr n Rr Ok P ρ H ys Q s ⟨Inv, h0, turn, fin⟩ it r0 a0 o0 hDw acc0
    have hd : gens[d]? = some ⟨tgt, iter, ifs, 0⟩ := by rw [← List.head?_drop, hdrop]; rfl
    have hl : gens[d + 1]? = none := by
      have : gens.drop (d + 1) = [] := by rw [← List.drop_drop, hdrop]; rfl
      rw [← List.head?_drop, this]; rfl
    have key : codeAny C.M A (.compLoop (.ListComp elt gens scope pos) d (.ref I) (.ref D) env) (CompR C env.locals D (D :: wr) H s Q) s := by
      refine compLoop_last hd hl (CSt C env D wr n Rr Inv H s) (fun k s2 hI => comp_turns (InnLast C A env elt D) ?_ it hDw turn fin k s2 hI) n ⟨0, ρ, H, ys, Nat.zero_le _, rfl, a0, (Step.refl ..).toX, r0, o0, acc0, h0⟩
      intro ρ5 H5 zs Qi K s5 hc a5 acc5 hK
      refine wpAny_mono (hc s5 a5) (fun y s6 ⟨ρ6, H6, a6, b6, c6, d6, d6'⟩ => ?_) fun _ _ e => e.elim
      subst c6
      obtain ⟨oo, ⟨xs, hp, e⟩, z6⟩ := acc5.step b6
      have hxs : xs.size = zs.length := by rw [← e]; simp
      refine wpAny_list_append_plain hp (fun h7 hp7 hs7 => ?_) (by rw [hxs]; exact Nat.le_of_lt d6)
      have k7 : ∀ b o, b ∉ [D] → s6.heap.get? b = some o → h7.get? b = some o := fun b o hb e => hs7.extBut b o (fun q => hb (by simp [q])) e
      exact hK ρ6 H6 (zs ++ [ab y]) _ (a6.offL (fun b hb => by rw [List.mem_singleton.mp hb]; exact oo) k7) ⟨oo, ⟨xs.push y, hp7, by simp [e]⟩, by simp; lia⟩ (b6.toX.trans (StepX.off k7)) d6'
    exact compStart_run hd key (it.self 0 s _ r0 key)
  | cons g gs ih =>
    intro d tgt iter ifs hdrop hasync I wr n Rr Ok P ρ H ys Q s ⟨Inv, h0, turn, fin⟩ it r0 a0 o0 hDw acc0
    obtain ⟨tgt', iter', ifs', as'⟩ := g
    have has : as' = 0 := (hasync _ (List.mem_cons_self ..)).1
    subst has
    have hfs : ∀ x, foldedSetIterable iter' env x = pure x := (hasync _ (List.mem_cons_self ..)).2
    have hd : gens[d]? = some ⟨tgt, iter, ifs, 0⟩ := by rw [← List.head?_drop, hdrop]; rfl
    have hdrop' : gens.drop (d + 1) = ⟨tgt', iter', ifs', 0⟩ :: gs := by rw [← List.drop_drop, hdrop]; rfl
    have hl : gens[d + 1]? = some ⟨tgt', iter', ifs', 0⟩ := by rw [← List.head?_drop, hdrop']; rfl
    have key : codeAny C.M A (.compLoop (.ListComp elt gens scope pos) d (.ref I) (.ref D) env) (CompR C env.locals D (D :: wr) H s Q) s := by
      refine compLoop_more hd hl hfs (CSt C env D wr n Rr Inv H s) (fun k s2 hI => comp_turns (InnMore C A env (.ListComp elt gens scope pos) iter' (d + 1) D) ?_ it hDw turn fin k s2 hI) n ⟨0, ρ, H, ys, Nat.zero_le _, rfl, a0, (Step.refl ..).toX, r0, o0, acc0, h0⟩
      intro ρ5 H5 zs Qi K s5 hc a5 acc5 hK
      refine hc s5 a5 _ (fun H6 n6 Ok6 P6 I6 wr6 Rr6 s6 hL6 it6 r6 a6 b6 hw6 => ?_)
      have acc6 := acc5.step b6
      have hD6 : D ∉ wr6 := fun q => by
        obtain ⟨_, ⟨xs, ⟨nn, hp⟩, _⟩, _⟩ := acc5
        rw [(hw6 D q).1] at hp; cases hp
      refine codeAny_mono (ih (d + 1) tgt' iter' ifs' hdrop' (fun g hg => hasync g (List.mem_cons_of_mem _ hg)) hL6 it6 r6 a6 (fun b hb => ⟨(hw6 b hb).2, (a5.fresh (hw6 b hb).1).2⟩) hD6 acc6) (fun r s7 h7 => ?_)
      cases r with
      | error e => exact h7
      | ok f =>
        cases f with
        | next =>
          obtain ⟨ρ7, H7, us, a7, acc7, b7, q7⟩ := h7
          refine hK ρ7 H7 us s7 a7 acc7 ?_ q7
          have b67 := (b6.toX (ex := D :: wr6)).trans b7
          refine b67.mono fun b hb o e => ?_
          rcases List.mem_cons.mp hb with rfl | hb
          · exact List.mem_singleton.mpr rfl
          · rw [(hw6 b hb).1] at e; cases e
        | brk => exact h7.elim
        | cont => exact h7.elim
        | ret v => exact h7.elim
    exact compStart_run hd key (it.self 0 s _ r0 key)

/-! the whole comprehension -/

noncomputable def CompOk (C : Cx) (A : Around) (env : Env) (elt : Expr) (g : Comprehension) (gs : List Comprehension) (scope : Scope) (cl : List (Str × Addr)) (ρ : Lo) (H : AH) (Q : AH → List V → Prop) : Prop :=
  WIt C A env g.iter g.target ρ H (fun H1 n Ok P => ∀ Cn, H1 Cn = none → LoopOk C A (compEnvC scope cl Cn env) elt g.target g.ifs gs H1 n Ok P (fun _ => none) [] (fun _ H2 zs => Q H2 zs))

theorem comp_whole {elt tgt iter : Expr} {ifs : List Expr} {gs : List Comprehension} {scope : Scope} {pos : Pos} {cl : List (Str × Addr)} {use : Option (Value → Sem Unit)} {s : Shared} {Q : AH → List V → Prop} {QQ : Value → Shared → Prop}
    (hclos : closureFor scope env = pure cl) (hcell : ∀ y ∈ scope.names, y.2 ≠ .cell) (hkind : scope.kind = .function) (hnames : ∀ x ∈ scope.names, x.2 = .local → scope.names.lookup x.1 = some .local)
    (hfs : ∀ x, foldedSetIterable iter env x = pure x) (hgs : ∀ g ∈ gs, g.is_async = 0 ∧ ∀ Cn, ∀ x, foldedSetIterable g.iter (compEnvC scope cl Cn env) x = pure x)
    (hs : St C env.locals ρ H s.heap) (h : CompOk C A env elt ⟨tgt, iter, ifs, 0⟩ gs scope cl ρ H Q)
    (hq : ∀ D Cn H2 zs s', Q H2 zs → H2 D = none → St C env.locals ρ (H2.set D (.list zs)) s'.heap → Step env.locals H (H2.set D (.list zs)) s s' → s.heap.get? Cn = none → Cn ≠ D → H2 Cn = none → (∃ m, s'.heap.Ns Cn m) → compPost C.M A False2 use QQ (.ref D) Cn (.ok .next) s') :
    wpAny C.M A (comprehension (.ListComp elt (⟨tgt, iter, ifs, 0⟩ :: gs) scope pos) scope env (firstIterPos (⟨tgt, iter, ifs, 0⟩ :: gs) pos) (newList []) false (eval iter env) use) QQ False2 s := by
  refine wpAny_comprehension_free (g := ⟨tgt, iter, ifs, 0⟩) (gs := gs) rfl hfs hclos hkind hnames ?_
  refine h s hs _ (fun H1 n Ok P I wr Rr s1 hL it r1 a1 b1 hw => ?_)
  refine wpAny_newObj_type (wpAny_newFunctionEnv hcell (by intro y hy; simp at hy) (fun h2 hns2 hsb2 => ?_) hkind)
  dsimp only at hns2 hsb2 ⊢
  generalize hH2 : s1.heap.push { cls := .type "list", dict := none, data := .seq ([] : List Value).toArray } = HH at hns2 hsb2 ⊢
  have hsz : HH.objs.size = s1.heap.objs.size + 1 := by rw [← hH2, Heap.size_push]
  have hDn : s1.heap.get? s1.heap.objs.size = none := get?_size_none _
  have hCn : HH.get? HH.objs.size = none := get?_size_none _
  have up1 : ∀ b o, s1.heap.get? b = some o → HH.get? b = some o := fun b o e => by rw [← hH2]; exact Heap.get?_push_of_some _ e
  have up2 : ∀ b o, HH.get? b = some o → h2.get? b = some o := fun b o e => hsb2.extBut b o (fun q => by rw [q, hCn] at e; cases e) (Heap.get?_push_of_some _ e)
  have hDC : s1.heap.objs.size ≠ HH.objs.size := by rw [hsz]; exact Nat.ne_of_lt (Nat.lt_succ_self _)
  have hC1 : s1.heap.get? HH.objs.size = none := by
    cases e : s1.heap.get? HH.objs.size with
    | none => rfl
    | some o => rw [up1 _ _ e] at hCn; cases hCn
  have fD := a1.fresh hDn
  have fC := a1.fresh hC1
  have a2 : St C HH.objs.size (fun _ => none) H1 h2 := ⟨fun b o e => up2 _ _ (up1 _ _ (a1.keep b o e)), fun a o e => let ⟨c, e1, e2⟩ := a1.rep a o e; ⟨c, up2 _ _ (up1 _ _ e1), e2⟩, a1.own, ⟨_, hns2, fun x => rfl⟩, fC.1, fC.2.1⟩
  have hDp : h2.PlainList s1.heap.objs.size #[] := ⟨0, up2 _ _ (by rw [← hH2]; exact Heap.get?_push_size _ rfl)⟩
  have accD : Acc C HH.objs.size s1.heap.objs.size H1 [] h2 := ⟨⟨fD.1, fD.2.1, hDC⟩, ⟨#[], hDp, rfl⟩, Nat.zero_le _⟩
  have live1 := it.live 0 s1.heap r1
  have hwne : ∀ b ∈ wr, b ≠ s1.heap.objs.size ∧ b ≠ HH.objs.size := fun b hb => by
    obtain ⟨o, e⟩ := live1 b hb
    exact ⟨fun q => (by rw [q, hDn] at e; cases e), fun q => (by rw [q, hC1] at e; cases e)⟩
  have r2 : Rr 0 h2 := it.frame _ _ _ r1 fun b hb o e => up2 _ _ (up1 _ _ e)
  have o2 : Off C HH.objs.size H1 wr := fun b hb => ⟨(hw b hb).2, (hs.fresh (hw b hb).1).2.1, (hwne b hb).2⟩
  have key := comp_run (C := C) (A := A) (env := compEnvC scope cl HH.objs.size env) (elt := elt) (gens := ⟨tgt, iter, ifs, 0⟩ :: gs) (scope := scope) (pos := pos) (D := s1.heap.objs.size) gs 0 tgt iter ifs rfl (fun g hg => ⟨(hgs g hg).1, (hgs g hg).2 _⟩) (s := { s1 with heap := h2, toks := s1.toks + ([] : List (Str × Value)).length }) (hL HH.objs.size fC.1) it r2 a2 o2 (fun q => (hwne _ q).1 rfl) accD
  refine codeAny_mono key fun r s3 h3 => ?_
  cases r with
  | error e => exact h3.elim
  | ok f =>
    cases f with
    | brk => exact h3.elim
    | cont => exact h3.elim
    | ret v => exact h3.elim
    | next =>
      obtain ⟨ρ3, H3, zs, a3, ⟨oD, ⟨xs, ⟨nn, hp⟩, e⟩, hzs⟩, b3, q3⟩ := h3
      have s13 : ∀ b o, s.heap.get? b = some o → b ∉ s1.heap.objs.size :: wr := fun b o eb q => by
        rcases List.mem_cons.mp q with rfl | q
        · obtain ⟨o', e'⟩ := b1.live _ o eb; rw [hDn] at e'; cases e'
        · rw [(hw b q).1] at eb; cases eb
      have neC : ∀ b o, s.heap.get? b = some o → b ≠ HH.objs.size := fun b o eb q => by obtain ⟨o', e'⟩ := b1.live _ o eb; rw [q, hC1] at e'; cases e'
      have alive2 : ∀ b o, s.heap.get? b = some o → ∃ o', h2.get? b = some o' := fun b o eb => let ⟨o', e'⟩ := b1.live _ o eb; ⟨o', up2 _ _ (up1 _ _ e')⟩
      have kept : ∀ b o, s.heap.get? b = some o → H b = none → b ≠ env.locals → s3.heap.get? b = some o := fun b o eb eH eL =>
        b3.kept b o (s13 b o eb) (up2 _ _ (up1 _ _ (b1.kept b o eb eH eL))) (b1.new b o eb eH) (neC b o eb)
      have new3 : ∀ b o, s.heap.get? b = some o → H b = none → H3 b = none := fun b o eb eH => by
        obtain ⟨o', e'⟩ := alive2 b o eb
        exact b3.new b o' (s13 b o eb) e' (b1.new b o eb eH)
      obtain ⟨m1, ⟨oL, esL, epL, hoL, rL⟩, hm1⟩ := a1.loc
      have hLD : env.locals ≠ s1.heap.objs.size := fun q => by rw [q, hDn] at hoL; cases hoL
      have hLC : env.locals ≠ HH.objs.size := fun q => by rw [q, hC1] at hoL; cases hoL
      have hLx : env.locals ∉ s1.heap.objs.size :: wr := fun q => by
        rcases List.mem_cons.mp q with q | q
        · exact hLD q
        · exact (hs.fresh (hw _ q).1).2.2 rfl
      have hL3 : s3.heap.get? env.locals = some oL := b3.kept _ _ hLx (up2 _ _ (up1 _ _ hoL)) a1.nl hLC
      have nL3 : H3 env.locals = none := b3.new _ _ hLx (up2 _ _ (up1 _ _ hoL)) a1.nl
      have St3 : St C env.locals ρ (H3.set s1.heap.objs.size (.list zs)) s3.heap := by
        refine ⟨a3.keep, fun b o eb => ?_, fun b o eb hm => ?_, ⟨m1, ⟨oL, esL, epL, hL3, rL⟩, hm1⟩, ?_, a1.bl⟩
        · by_cases q : b = s1.heap.objs.size
          · subst q; rw [AH.set_same] at eb; cases eb; exact ⟨_, hp, xs, nn, rfl, e, hzs⟩
          · rw [AH.set_ne _ _ q] at eb; exact a3.rep b o eb
        · by_cases q : b = s1.heap.objs.size
          · subst q; exact fD.2.1
          · rw [AH.set_ne _ _ q] at eb; exact a3.own b o eb hm
        · rw [AH.set_ne _ _ hLD]; exact nL3
      refine hq s1.heap.objs.size HH.objs.size H3 zs s3 q3 oD.1 St3 ⟨?_, kept, fun b o eb eH => ?_, fun b o eb => ?_⟩ ?_ (Ne.symm hDC) a3.nl (let ⟨m, hm, _⟩ := a3.loc; ⟨m, hm⟩)
      · exact ⟨b3.same.1.trans b1.same.1, b3.same.2.trans b1.same.2⟩
      · rw [AH.set_ne _ _ (fun q => by obtain ⟨o', e'⟩ := b1.live _ o eb; rw [q, hDn] at e'; cases e')]; exact new3 b o eb eH
      · obtain ⟨o', e'⟩ := alive2 b o eb
        exact b3.live b o' (s13 b o eb) e'
      · cases ec : s.heap.get? HH.objs.size with
        | none => rfl
        | some o => exact absurd rfl (neC _ o ec)

theorem Step.letgo {L Cn D : Addr} {H H2 : AH} {s s' : Shared} {h' : Heap} {zs : List V} (x : Step L H H2 s s') (hc : s.heap.get? Cn = none) (hs : Heap.SameBut Cn s'.heap h') : Step L H H2 s { s' with heap := h' } := by
  obtain ⟨m1, k, n, l⟩ := x
  have ne : ∀ b o, s.heap.get? b = some o → b ≠ Cn := fun b o e q => by rw [q, hc] at e; cases e
  exact ⟨m1, fun b o e eb eL => hs.extBut b o (ne b o e) (k b o e eb eL), n, fun b o e => let ⟨o', e'⟩ := l b o e; ⟨o', hs.extBut b o' (ne b o e) e'⟩⟩

theorem WE.listComp {elt tgt iter : Expr} {ifs : List Expr} {gs : List Comprehension} {scope : Scope} {pos : Pos} {cl : List (Str × Addr)} {Q : V → AH → Prop}
    (hclos : closureFor scope env = pure cl) (h : CompOk C A env elt ⟨tgt, iter, ifs, 0⟩ gs scope cl ρ H (fun H2 zs => ∀ D, H2 D = none → Q (.ref D) (H2.set D (.list zs))))
    (hcell : ∀ y ∈ scope.names, y.2 ≠ .cell := by decide) (hkind : scope.kind = .function := by rfl) (hnames : ∀ x ∈ scope.names, x.2 = .local → scope.names.lookup x.1 = some .local := by decide)
    (hfs : ∀ x, foldedSetIterable iter env x = pure x := by intro _; rfl) (hgs : ∀ g ∈ gs, g.is_async = 0 ∧ ∀ Cn, ∀ x, foldedSetIterable g.iter (compEnvC scope cl Cn env) x = pure x := by simp) :
    WE C A env (.ListComp elt (⟨tgt, iter, ifs, 0⟩ :: gs) scope pos) ρ H Q := fun s hs => by
  refine comp_whole (use := none) hclos hcell hkind hnames hfs hgs hs h fun D Cn H2 zs s' q hD a b hCs hCD hC2 hns => ?_
  obtain ⟨m, hm⟩ := hns
  refine ⟨m, hm, fun h' hsb => ⟨ρ, _, ?_, b.letgo (D := D) (zs := zs) hCs hsb, rfl, q D hD⟩⟩
  refine a.off (I := Cn) ?_ ?_ ?_ (fun b o hb e => hsb.extBut b o hb e)
  · rw [AH.set_ne _ _ hCD]; exact hC2
  · exact (hs.fresh hCs).2.1
  · exact (hs.fresh hCs).2.2

theorem W1.asgComp {elt tgt iter : Expr} {ifs : List Expr} {gs : List Comprehension} {scope : Scope} {pos spos p : Pos} {x : Str} {cl : List (Str × Addr)} {Q : Fl → Lo → AH → Prop} (F : Fx C A env) (hl : env.kindOf x = some .local)
    (hclos : closureFor scope env = pure cl) (h : CompOk C A env elt ⟨tgt, iter, ifs, 0⟩ gs scope cl ρ H (fun H2 zs => ∀ D, H2 D = none → Q .next (ρ.set x (.ref D)) (H2.set D (.list zs))))
    (hsw : swapsWith (.ListComp elt (⟨tgt, iter, ifs, 0⟩ :: gs) scope pos) (some (.Name x p)) spos.line env = pure true)
    (hcell : ∀ y ∈ scope.names, y.2 ≠ .cell := by decide) (hkind : scope.kind = .function := by rfl) (hnames : ∀ x ∈ scope.names, x.2 = .local → scope.names.lookup x.1 = some .local := by decide)
    (hfs : ∀ x, foldedSetIterable iter env x = pure x := by intro _; rfl) (hgs : ∀ g ∈ gs, g.is_async = 0 ∧ ∀ Cn, ∀ x, foldedSetIterable g.iter (compEnvC scope cl Cn env) x = pure x := by simp) :
    W1 C A env (.Assign [.Name x p] (.ListComp elt (⟨tgt, iter, ifs, 0⟩ :: gs) scope pos) spos) ρ H Q := fun s hs => by
  rw [exec_Assign_Name_used x p _ spos hsw]
  refine wpAny_bind (wpAny_standAt (wpAny_bind (m := evalThenUse (.ListComp elt (⟨tgt, iter, ifs, 0⟩ :: gs) scope pos) env (PySem.assign (.Name x p) env)) ?_))
  show wpAny C.M A (comprehension (.ListComp elt (⟨tgt, iter, ifs, 0⟩ :: gs) scope pos) scope env (firstIterPos (⟨tgt, iter, ifs, 0⟩ :: gs) pos) (newList []) false (eval iter env) (some (PySem.assign (.Name x p) env)) >>= fun _ => pure PUnit.unit) _ _ s
  refine wpAny_bind ?_
  refine comp_whole (use := some (PySem.assign (.Name x p) env)) hclos hcell hkind hnames hfs hgs hs h fun D Cn H2 zs s' q hD a b hCs hCD hC2 hns => ?_
  obtain ⟨m, hm⟩ := hns
  have hCo : (H2.set D (.list zs)) Cn = none := by rw [AH.set_ne _ _ hCD]; exact hC2
  have hCL : Cn ≠ env.locals := (hs.fresh hCs).2.2
  refine wpAny_mono (Asg.local (pos := p) F hl (Q := fun ρ2 H3 => ρ2 = ρ.set x (.ref D) ∧ H3 = H2.set D (.list zs)) ⟨rfl, rfl⟩ s' (.ref D) a rfl) (fun _ s'' ⟨ρ2, H3, a2, b2, c2, c3⟩ => ?_) fun _ _ e => e
  subst c2 c3
  have hm2 : s''.heap.Ns Cn m := by
    obtain ⟨o, es, ep, ho, r⟩ := hm
    exact ⟨o, es, ep, b2.kept _ _ ho hCo hCL, r⟩
  refine ⟨m, hm2, fun h' hsb => wpAny_pure (wpAny_pure ⟨_, _, ?_, (b.trans b2 (fun _ _ => a2.nl)).letgo (D := D) (zs := zs) hCs hsb, q D hD⟩)⟩
  exact a2.off (I := Cn) hCo (hs.fresh hCs).2.1 hCL (fun b o hb e => hsb.extBut b o hb e)
end
end Mine

namespace Mine
open PySem PySem.W PyProof.Rows

section
variable {C : Cx} {A : Around} {env : Env} {ρ : Lo} {H : AH}

/-! ## the library's frames and ledgers over my states -/
noncomputable def noHeap : Heap := ⟨#[], {}⟩
theorem noHeap_get (b : Addr) : noHeap.get? b = none := by simp [noHeap, Heap.get?]
noncomputable def allNews (h : Heap) (L : Addr) : List (Addr × Obj) := (List.range h.objs.size).filterMap fun b => if b = L then none else (h.get? b).map fun o => (b, o)
theorem mem_allNews {h : Heap} {L b : Addr} {o : Obj} (e : h.get? b = some o) (hb : b ≠ L) : (b, o) ∈ allNews h L :=
  List.mem_filterMap.mpr ⟨b, List.mem_range.mpr (Heap.lt_size e), by simp [hb, e]⟩
theorem news_all (h : Heap) (L : Addr) : News noHeap L h (allNews h L) := fun p hp => by
  obtain ⟨b, _, e⟩ := List.mem_filterMap.mp hp
  by_cases hb : b = L
  · simp [hb] at e
  · rw [if_neg hb] at e
    cases hg : h.get? b with
    | none => rw [hg] at e; cases e
    | some o => rw [hg] at e; cases e; exact ⟨hg, hb, noHeap_get _⟩
theorem St.fr {L : Addr} {h : Heap} (hs : St C L ρ H h) : ∃ m, Fr noHeap L h m ∧ ∀ x, (m x).map ab = ρ x := by
  obtain ⟨m, hn, hm⟩ := hs.loc
  exact ⟨m, ⟨hn, fun b o e => (by rw [noHeap_get] at e; cases e), Nat.zero_le _⟩, hm⟩
theorem News.kept {L : Addr} {h h' : Heap} {news : List (Addr × Obj)} (N : News noHeap L h' news) (hsub : ∀ p ∈ allNews h L, p ∈ news) : ∀ b o, b ≠ L → h.get? b = some o → h'.get? b = some o := fun b o hb e => (N _ (hsub _ (mem_allNews e hb))).1
theorem St.of_fr {L : Addr} {h h' : Heap} {m : Str → Option Value} (hs : St C L ρ H h) (F : Fr noHeap L h' m) (hm : ∀ x, (m x).map ab = ρ x) (k : ∀ b o, b ≠ L → h.get? b = some o → h'.get? b = some o) : St C L ρ H h' where
  keep := fun b o e => k b o (fun q => by rw [q, hs.bl] at e; cases e) (hs.keep b o e)
  rep := fun a o e => let ⟨c, e1, e2⟩ := hs.rep a o e; ⟨c, k a c (fun q => by rw [q, hs.nl] at e; cases e) e1, e2⟩
  own := hs.own
  loc := ⟨m, F.ns, hm⟩
  nl := hs.nl
  bl := hs.bl
theorem Step.of_fr {L : Addr} {s : Shared} {h' : Heap} {tk : Nat} {m : Str → Option Value} (F : Fr noHeap L h' m) (k : ∀ b o, b ≠ L → s.heap.get? b = some o → h'.get? b = some o) : Step L H H s { s with heap := h', toks := tk } :=
  ⟨⟨rfl, rfl⟩, fun b o e _ hb => k b o hb e, fun _ _ _ e => e, fun b o e => by
    by_cases q : b = L
    · subst q; obtain ⟨o', _, _, ho, _⟩ := F.ns; exact ⟨o', ho⟩
    · exact ⟨o, k b o q e⟩⟩
/-- a new object, given by its ledger row -/
theorem St.alloc_fr {L a : Addr} {h h' : Heap} {c : Obj} {o : O} {m : Str → Option Value} (hs : St C L ρ H h) (F : Fr noHeap L h' m) (hm : ∀ x, (m x).map ab = ρ x) (ha : h.get? a = none) (hc : h'.get? a = some c) (hr : Rep o c) (k : ∀ b o, b ≠ L → h.get? b = some o → h'.get? b = some o) : St C L ρ (H.set a o) h' := by
  have f := hs.fresh ha
  exact St.alloc' (hs.of_fr F hm k) f.1 f.2.1 f.2.2 hc hr
where
  St.alloc' {h' : Heap} {a : Addr} {c : Obj} {o : O} {L : Addr} {ρ : Lo} {H : AH} (x : St C L ρ H h') (hH : H a = none) (hB : C.base.get? a = none) (hL : a ≠ L) (hc : h'.get? a = some c) (hr : Rep o c) : St C L ρ (H.set a o) h' :=
    ⟨x.keep, fun b o' e => by
      by_cases q : b = a
      · subst q; rw [AH.set_same] at e; cases e; exact ⟨c, hc, hr⟩
      · rw [AH.set_ne _ _ q] at e; exact x.rep b o' e, fun b o' e m => by
      by_cases q : b = a
      · subst q; exact hB
      · rw [AH.set_ne _ _ q] at e; exact x.own b o' e m, x.loc, by rw [AH.set_ne _ _ (Ne.symm hL)]; exact x.nl, x.bl⟩
theorem Step.alloc_fr {L a : Addr} {s : Shared} {h' : Heap} {tk : Nat} {o : O} {m : Str → Option Value} (F : Fr noHeap L h' m) (ha : s.heap.get? a = none) (k : ∀ b o, b ≠ L → s.heap.get? b = some o → h'.get? b = some o) : Step L H (H.set a o) s { s with heap := h', toks := tk } :=
  let x : Step L H H s { s with heap := h', toks := tk } := Step.of_fr F k
  ⟨x.same, x.kept, fun b o e eb => by rw [AH.set_ne _ _ (fun q => by rw [q, ha] at e; cases e)]; exact eb, x.live⟩

/-! ## lists: +, slices -/
theorem WE.addList {l r : Expr} {pos : Pos} {Q : V → AH → Prop}
    (h : WE C A env l ρ H (fun v H1 => WE C A env r ρ H1 (fun w H2 => ∃ a b oa ob xs ys, v = .ref a ∧ w = .ref b ∧ H2 a = some oa ∧ H2 b = some ob ∧ lst oa = some xs ∧ lst ob = some ys ∧ xs.length + ys.length ≤ sizeLine ∧ ∀ c, H2 c = none → Q (.ref c) (H2.set c (.list (xs ++ ys)))))) :
    WE C A env (.BinOp l .Add r pos) ρ H Q := by
  refine W.BinOp (W.mono h ?_)
  rintro x _ H1 ⟨rfl, h1⟩
  refine W.mono h1 ?_
  rintro y _ H2 ⟨rfl, a, b, oa, ob, xs, ys, ex, ey, ha, hb, la, lb, hsz, hq⟩
  cases ab_ref ex
  cases ab_ref ey
  intro s hs
  obtain ⟨ax, a1, a2, a3⟩ := hs.list ha la
  obtain ⟨bx, b1, b2, b3⟩ := hs.list hb lb
  obtain ⟨m, F, hm⟩ := hs.fr
  have hn := get?_size_none s.heap
  refine add_arrays F (news_all s.heap env.locals) a1 b1 (fun h' F' N' => ?_) (by rw [arr_size a2, arr_size b2]; exact hsz)
  have k := News.kept N' fun p hp => List.mem_cons_of_mem _ hp
  exact ⟨_, _, hs.alloc_fr (o := .list (xs ++ ys)) F' hm hn (N' _ (List.mem_cons_self ..)).1 ⟨_, _, rfl, by simp [a2, b2], by simpa using hsz⟩ k, .alloc_fr F' hn k, rfl, hq _ (hs.fresh hn).1⟩

noncomputable def slc (lo hi : Option Int) (vs : List V) : List V := (vs.drop (lo.elim 0 (clipAt vs.length))).take (hi.elim vs.length (clipAt vs.length) - lo.elim 0 (clipAt vs.length))
theorem slc_pick {xs : Array Value} {vs : List V} {lo hi : Option Int} (e : xs.toList.map ab = vs) : (slicePick xs lo hi none).toList.map ab = slc lo hi vs := by
  rw [slicePick_plain]
  unfold slc
  rw [show vs.length = xs.size from (arr_size e).symm]
  simp [List.map_take, List.map_drop, ← e]
theorem slc_len (lo hi : Option Int) (vs : List V) : (slc lo hi vs).length ≤ vs.length := by
  unfold slc; simp; omega

/-- a part of a slice -/
inductive EvP (C : Cx) (A : Around) (env : Env) (ρ : Lo) (H : AH) : Option Expr → Option Int → Prop
  | none : EvP C A env ρ H none none
  | some {e : Expr} {i : Int} : Ev C A env ρ H e (.int i) → EvP C A env ρ H (some e) (some i)
theorem EvP.run {e : Option Expr} {k : Option Int} (h : EvP C A env ρ H e k) : W C A env.locals (evalPart e env) ρ H (fun x ρ' H' => ρ' = ρ ∧ H' = H ∧ IsPart x k) := by
  cases h with
  | none => exact W.pure ⟨rfl, rfl, .none⟩
  | some h => exact W.mono h (by rintro x _ _ ⟨rfl, rfl, e⟩; obtain ⟨t, rfl⟩ := ab_int e; exact ⟨rfl, rfl, .int _ t⟩)

theorem WE.slice {o : Expr} {lower upper : Option Expr} {p pos : Pos} {lo hi : Option Int} {Q : V → AH → Prop}
    (h : WE C A env o ρ H (fun v H1 => ∃ l ob vs, v = .ref l ∧ H1 l = some ob ∧ lst ob = some vs ∧ EvP C A env ρ H1 lower lo ∧ EvP C A env ρ H1 upper hi ∧ ∀ c, H1 c = none → Q (.ref c) (H1.set c (.list (slc lo hi vs))))) :
    WE C A env (.Subscript o (.Slice lower upper none p) pos) ρ H Q := fun s hs => by
  refine Subscript_ (wpAny_mono (h s hs) (fun x s1 ⟨ρ1, H1, a1, b1, c1, l, ob, vs, d1, d2, d3, d4, d5, d6⟩ => ?_) fun _ _ e => e)
  subst c1
  cases ab_ref d1
  refine wpAny_Slice (wpAny_mono (d4.run s1 a1) (fun vl s2 ⟨ρ2, H2, a2, b2, c2, c3, pl⟩ => ?_) fun _ _ e => e)
  subst c2 c3
  refine wpAny_mono (d5.run s2 a2) (fun vu s3 ⟨ρ3, H3, a3, b3, c3, c4, pu⟩ => ?_) fun _ _ e => e
  subst c3 c4
  rw [evalPart_none]
  refine wpAny_pure ?_
  obtain ⟨xs, x1, x2, x3⟩ := a3.list d2 d3
  have k1 : ∀ b o, s3.heap.get? b = some o → (s3.heap.push { cls := .type "slice", data := .fields #[vl, vu, .none] }).get? b = some o := fun b o e => Heap.get?_push_of_some _ e
  have a4 := a3.ext k1
  have x1' := x1.push { cls := .type "slice", data := .fields #[vl, vu, .none] }
  have hn := get?_size_none (s3.heap.push { cls := .type "slice", data := .fields #[vl, vu, .none] })
  refine tail_any (ops := [.ref s3.heap.objs.size, .ref l]) x1'.typeIs slot_list_getitem.lookup (wpAny_getItem_list_slice x1' (Heap.IsSliceOf.new ..) pl pu .none (by simp) ?_ (by rw [arr_size x2]; exact x3)) rfl
  have k2 : ∀ b o, (s3.heap.push { cls := .type "slice", data := .fields #[vl, vu, .none] }).get? b = some o → ((s3.heap.push { cls := .type "slice", data := .fields #[vl, vu, .none] }).push { cls := .type "list", data := .seq (slicePick xs lo hi none) }).get? b = some o := fun b o e => Heap.get?_push_of_some _ e
  refine ⟨_, _, a4.alloc (o := .list (slc lo hi vs)) hn (Heap.get?_push_size _ rfl) ⟨_, 0, rfl, slc_pick x2, Nat.le_trans (slc_len ..) x3⟩ k2, ?_, rfl, d6 _ (a4.fresh hn).1⟩
  have b13 := (b1.trans b2 (fun _ _ => a2.nl)).trans b3 (fun _ _ => a3.nl)
  exact (b13.trans (Step.ext (tk := s3.toks) k1) (fun _ _ => a3.nl)).trans (Step.alloc (tk := s3.toks) hn k2) (fun _ _ => by rw [AH.set_ne _ _ (Ne.symm (a4.fresh hn).2.2)]; exact a4.nl)

/-! ## vints of a list -/
noncomputable def vints (ns : List Int) : List V := ns.map V.int
@[simp] theorem ints_length (ns : List Int) : (vints ns).length = ns.length := by simp [vints]

end
end Mine

namespace Mine
open PySem PySem.W PyProof.Rows

/-! ## forgetting tracked objects at the end -/
noncomputable def AH.le (H H' : AH) : Prop := ∀ a o, H a = some o → H' a = some o
theorem AH.le_refl (H : AH) : H.le H := fun _ _ e => e
theorem AH.le_trans {H H' H'' : AH} (x : H.le H') (y : H'.le H'') : H.le H'' := fun a o e => y a o (x a o e)
theorem AH.none_of_le {H H' : AH} (x : H.le H') {a : Addr} (e : H' a = none) : H a = none := by
  cases q : H a with
  | none => rfl
  | some o => have := x a o q; rw [e] at this; cases this
theorem AH.le_set {H H' : AH} (x : H.le H') {a : Addr} {o : O} (e : H a = none) : H.le (H'.set a o) := fun b o' eb => by
  by_cases q : b = a
  · subst q; rw [e] at eb; cases eb
  · rw [AH.set_ne _ _ q]; exact x b o' eb
theorem AH.get_of_set {H : AH} {a b : Addr} {o o' : O} (e : H b = some o') (ha : H a = none) : (H.set a o) b = some o' := by
  rw [AH.set_ne _ _ (fun q => by rw [q, ha] at e; cases e)]; exact e
theorem AH.none_of_set {H : AH} {a b : Addr} {o : O} (e : (H.set a o) b = none) : H b = none ∧ b ≠ a := by
  by_cases q : b = a
  · subst q; rw [AH.set_same] at e; cases e
  · rw [AH.set_ne _ _ q] at e; exact ⟨e, q⟩

section
variable {C : Cx} {A : Around} {env : Env} {ρ : Lo} {H : AH}
theorem St.le {L : Addr} {H H' : AH} {h : Heap} (x : H.le H') (y : St C L ρ H' h) : St C L ρ H h :=
  ⟨y.keep, fun a o e => y.rep a o (x a o e), fun a o e => y.own a o (x a o e), y.loc, AH.none_of_le x y.nl, y.bl⟩
theorem Post.drop {α : Type} {L : Addr} {s s' : Shared} {Q : α → Lo → AH → Prop} {a : α} (h : Post C L H s (fun a ρ' H' => ∃ H0, AH.le H0 H' ∧ Q a ρ' H0) a s') : Post C L H s Q a s' := by
  obtain ⟨ρ', H', x, y, H0, le, q⟩ := h
  exact ⟨ρ', H0, x.le le, ⟨y.same, y.kept, fun b o e eb => AH.none_of_le le (y.new b o e eb), y.live⟩, q⟩
theorem W.drop {α : Type} {L : Addr} {t : Sem α} {Q : α → Lo → AH → Prop} (h : W C A L t ρ H (fun a ρ' H' => ∃ H0, AH.le H0 H' ∧ Q a ρ' H0)) : W C A L t ρ H Q := fun s hs =>
  wpAny_mono (h s hs) (fun _ _ q => q.drop) fun _ _ e => e
theorem WE.drop {e : Expr} {Q : V → AH → Prop} (h : WE C A env e ρ H (fun v H' => ∃ H0, AH.le H0 H' ∧ Q v H0)) : WE C A env e ρ H Q :=
  W.drop (W.mono h fun _ _ _ ⟨a, H0, b, c⟩ => ⟨H0, b, a, c⟩)

theorem WEs.nil {Q : List V → AH → Prop} (h : Q [] H) : WEs C A env [] ρ H Q := h
theorem WEs.cons {e : Expr} {es : List Expr} {Q : List V → AH → Prop} (h : WE C A env e ρ H (fun v H1 => WEs C A env es ρ H1 (fun vs H2 => Q (v :: vs) H2))) : WEs C A env (e :: es) ρ H Q := h

/-! ## the call from the top -/
end
end Mine

namespace Mine
open PySem PySem.W PyProof.Rows

noncomputable def aL (k : Str → Option NameKind) : List (Str × V) → Lo → Lo
  | [], m => m
  | (n, v) :: r, m => aL k r (if k n = some .local then fun y => if y = n then some v else m y else m)
noncomputable def aC (k : Str → Option NameKind) : List (Str × V) → Lo → Lo
  | [], m => m
  | (n, v) :: r, m => aC k r (if k n = some .local then m else fun y => if y = n then some v else m y)
theorem bindL_ab {k : Str → Option NameKind} : ∀ {binds : List (Str × Value)} {m : Str → Option Value} {m' : Lo}, (∀ x, (m x).map ab = m' x) → ∀ x, (bindL k binds m x).map ab = aL k (binds.map fun p => (p.1, ab p.2)) m' x
  | [], _, _, h, x => h x
  | (n, v) :: r, m, m', h, x => by
    rw [List.map_cons, bindL, aL]
    refine bindL_ab (fun y => ?_) x
    split
    · show Option.map ab (if y = n then some v else m y) = if y = n then some (ab v) else m' y
      split
      · rfl
      · exact h y
    · exact h y
theorem bindC_ab {k : Str → Option NameKind} : ∀ {binds : List (Str × Value)} {m : Str → Option Value} {m' : Lo}, (∀ x, (m x).map ab = m' x) → ∀ x, (bindC k binds m x).map ab = aC k (binds.map fun p => (p.1, ab p.2)) m' x
  | [], _, _, h, x => h x
  | (n, v) :: r, m, m', h, x => by
    rw [List.map_cons, bindC, aC]
    refine bindC_ab (fun y => ?_) x
    split
    · exact h y
    · show Option.map ab (if y = n then some v else m y) = if y = n then some (ab v) else m' y
      split
      · rfl
      · exact h y

section
variable {C : Cx} {A : Around} {env : Env} {ρ : Lo} {H : AH}
noncomputable def kinds (fd : FuncData) (x : Str) : Option NameKind := fd.scope.names.lookup x

/-! sums, counts, shorter -/
theorem WE.callB {id : Str} {p pos : Pos} {a : Addr} {o : Obj} {fd : FuncData} {es : List Expr} {ks : List Keyword} {Q : V → AH → Prop} (hfn : ∀ H, FnAt C H a o fd) (hf : Ev C A env ρ H (.Name id p) (.ref a))
    (h : WEs C A env es ρ H (fun vs H1 => WKs C A env ks ρ H1 (fun kv H2 => WCall C A (.ref a) vs kv H2 Q))) (hn : noStar es = true := by rfl) (hk : ks.all (·.arg.isSome) = true := by rfl) :
    WE C A env (.Call (.Name id p) es ks pos) ρ H Q := WE.callFn (o := o) (fd := fd) hf (WEs.mono h fun vs H1 q => by
      have : ∀ {ks : List Keyword} {H1 : AH} {Q Q' : List (Str × V) → AH → Prop}, (∀ kv H2, Q kv H2 → Q' kv H2) → WKs C A env ks ρ H1 Q → WKs C A env ks ρ H1 Q' := by
        intro ks
        induction ks with
        | nil => intro H1 Q Q' hq h; exact hq _ _ h
        | cons k ks ih =>
          intro H1 Q Q' hq h
          obtain ⟨arg, value⟩ := k
          cases arg with
          | none => exact h
          | some n => exact WE.mono h fun v H2 h => ih (fun kv H3 q => hq _ _ q) h
      exact this (fun kv H2 q => ⟨hfn H2, q⟩) q) hn hk
theorem Ev.as {e : Expr} {v v' : V} (h : Ev C A env ρ H e v) (hv : v = v') : Ev C A env ρ H e v' := hv ▸ h
theorem Fx.comp {scope : Scope} {cl : List (Str × Addr)} {Cn : Addr} (F : Fx C A env) (h : scope.kind = .function) : Fx C A (compEnvC scope cl Cn env) := ⟨h, F.gl, F.bu, F.hh⟩
end
end Mine

namespace Mine
open PySem PySem.W PyProof.Rows

/-! ## the top -/
theorem gl_own {C : Cx} {K : Frag} {x : Str} {v : Value} (hK : K.In C.base) (e : nsIn K mainGlobals x = some (some v)) : C.gl x = some v := by
  unfold Cx.gl; rw [mg_of hK C.hg e]
theorem gl_boot {C : Cx} {K : Frag} {x : Str} {v : Value} (hK : K.In C.base) (e : nsIn K mainGlobals x = some none) (hb : C.mb x = some v) : C.gl x = some v := by
  unfold Cx.gl; rw [ns_none_of hK C.hg e]; exact hb
theorem ints_of : ∀ {vs : List Value} {ns : List Int}, IntsAre vs ns → vs.map ab = vints ns
  | _, _, .nil => rfl
  | _, _, .cons _ _ h => by
    rw [List.map_cons, ints_of h]; rfl
theorem addr_ne (L i j : Nat) (h : (i == j) = false) : L + i ≠ L + j := by
  have : i ≠ j := by simpa using h
  (clear h; lia)
noncomputable def bodyOf (fd : FuncData) : List Stmt := match fd.body with
  | .stmts b => b
  | _ => []
noncomputable def fdOf (K : Frag) (a : Addr) : FuncData := match K.lookup a with
  | some ⟨_, _, .func fd, _⟩ => fd
  | _ => default
theorem noCell {l : List (Str × NameKind)} (h : l.all (fun x => x.2 != .cell) = true) : ∀ x ∈ l, x.2 ≠ .cell := fun x hx q => by
  have := List.all_eq_true.mp h x hx
  rw [q] at this
  exact absurd this (by decide)
theorem allLocal {l : List (Str × NameKind)} {bs : List (Str × V)} (h : bs.all (fun x => l.lookup x.1 == some .local) = true) : ∀ x ∈ bs, l.lookup x.1 = some .local := fun x hx => by
  simpa using List.all_eq_true.mp h x hx
theorem fn_in {C : Cx} {H : AH} {K : Frag} (hK : K.In C.base) (a : Addr) (h : K.lookup a = some ⟨.type "function", none, .func (fdOf K a), #[]⟩) : FnAt C H a ⟨.type "function", none, .func (fdOf K a), #[]⟩ (fdOf K a) := ⟨rfl, .inl (hK a _ h)⟩
end Mine

namespace Mine
open PySem PySem.W PyProof.Rows

section
variable {C : Cx} {A : Around} {env : Env} {ρ : Lo} {H : AH}

/-! ## a list changed, given by the ledger -/
theorem upd_map {D : Addr} {o o' : Obj} : ∀ {l : List (Addr × Obj)}, l.Pairwise (fun p q => p.1 ≠ q.1) → (D, o) ∈ l → Upd D o o' l (l.map fun p => if p.1 = D then (D, o') else p)
  | [], _, h => by cases h
  | p :: r, hp, h => by
    obtain ⟨h1, h2⟩ := List.pairwise_cons.mp hp
    rw [List.map_cons]
    by_cases q : p.1 = D
    · have hp : p = (D, o) := by
        rcases List.mem_cons.mp h with e | e
        · exact e.symm
        · exact absurd q (h1 _ e)
      subst hp
      have hr : ∀ x ∈ r, x.1 ≠ D := fun x hx => Ne.symm (h1 x hx)
      rw [if_pos rfl]
      have : (r.map fun p => if p.1 = D then (D, o') else p) = r := by
        conv => rhs; rw [← List.map_id r]
        exact List.map_congr_left fun x hx => by rw [if_neg (hr x hx)]; rfl
      rw [this]
      exact .head hr
    · rw [if_neg q]
      have : (D, o) ∈ r := by
        rcases List.mem_cons.mp h with e | e
        · rw [← e] at q; exact absurd rfl q
        · exact e
      exact .tail q (upd_map h2 this)
theorem allNews_keys (h : Heap) (L : Addr) : (allNews h L).Pairwise (fun p q => p.1 ≠ q.1) := by
  unfold allNews
  refine List.Pairwise.filterMap _ ?_ (List.nodup_range (n := h.objs.size))
  intro a a' hne b hb b' hb'
  have key : ∀ {a : Addr} {b : Addr × Obj}, (if a = L then none else (h.get? a).map fun o => (a, o)) = some b → b.1 = a := by
    intro a b e
    split at e
    · cases e
    · cases hg : h.get? a with
      | none => rw [hg] at e; cases e
      | some o => rw [hg] at e; cases e; rfl
  rw [key hb, key hb']; exact hne
/-- what the ledger says behind a change -/
theorem upd_all {L D : Addr} {h : Heap} {o o' : Obj} (hD : D ≠ L) (ho : h.get? D = some o) : ∃ news', Upd D o o' (allNews h L) news' ∧ ∀ h', News noHeap L h' news' → h'.get? D = some o' ∧ ∀ b ob, b ≠ L → b ≠ D → h.get? b = some ob → h'.get? b = some ob := by
  refine ⟨_, upd_map (allNews_keys h L) (mem_allNews ho hD), fun h' N => ⟨?_, fun b ob hb hbD e => ?_⟩⟩
  · exact (N (D, o') (List.mem_map.mpr ⟨(D, o), mem_allNews ho hD, by simp⟩)).1
  · exact (N (b, ob) (List.mem_map.mpr ⟨(b, ob), mem_allNews e hb, by simp [hbD]⟩)).1
theorem St.upd_fr {L a : Addr} {h h' : Heap} {c : Obj} {o₀ o : O} {m : Str → Option Value} (x : St C L ρ H h) (F : Fr noHeap L h' m) (hm : ∀ x, (m x).map ab = ρ x) (hH : H a = some o₀) (hmut : o₀.mut = true) (hc : h'.get? a = some c) (hr : Rep o c) (k : ∀ b o, b ≠ L → b ≠ a → h.get? b = some o → h'.get? b = some o) : St C L ρ (H.set a o) h' where
  keep := fun b o e => k _ _ (fun q => by rw [q, x.bl] at e; cases e) (fun q => by rw [q, x.own a o₀ hH hmut] at e; cases e) (x.keep b o e)
  rep := fun b o' e => by
    by_cases q : b = a
    · subst q; rw [AH.set_same] at e; cases e; exact ⟨c, hc, hr⟩
    · rw [AH.set_ne _ _ q] at e; obtain ⟨c, e1, e2⟩ := x.rep b o' e; exact ⟨c, k _ _ (fun q => by rw [q, x.nl] at e; cases e) q e1, e2⟩
  own := fun b o' e hm' => by
    by_cases q : b = a
    · subst q; exact x.own _ _ hH hmut
    · rw [AH.set_ne _ _ q] at e; exact x.own b o' e hm'
  loc := ⟨m, F.ns, hm⟩
  nl := by rw [AH.set_ne _ _ (fun q => by rw [← q, x.nl] at hH; cases hH)]; exact x.nl
  bl := x.bl
theorem Step.upd_fr {L a : Addr} {s : Shared} {h' : Heap} {tk : Nat} {c : Obj} {o₀ o : O} {m : Str → Option Value} (F : Fr noHeap L h' m) (hH : H a = some o₀) (hc : h'.get? a = some c) (k : ∀ b o, b ≠ L → b ≠ a → s.heap.get? b = some o → h'.get? b = some o) : Step L H (H.set a o) s { s with heap := h', toks := tk } :=
  ⟨⟨rfl, rfl⟩, fun b o e hb hL => k b o hL (fun q => by rw [q, hH] at hb; cases hb) e, fun b o e hb => by rw [AH.set_ne _ _ (fun q => by rw [q, hH] at hb; cases hb)]; exact hb, fun b o e => by
    by_cases q : b = a
    · subst q; exact ⟨c, hc⟩
    · by_cases ql : b = L
      · subst ql; obtain ⟨o', _, _, ho, _⟩ := F.ns; exact ⟨o', ho⟩
      · exact ⟨o, k b o ql q e⟩⟩
theorem St.at {L D : Addr} {h : Heap} {vs : List V} (hs : St C L ρ H h) (hH : H D = some (.list vs)) : ∃ its n, h.get? D = some (listOf its n) ∧ its.toList.map ab = vs ∧ vs.length ≤ sizeLine ∧ D ≠ L := by
  obtain ⟨c, e1, xs, n, rfl, e2, e3⟩ := hs.rep _ _ hH
  exact ⟨xs, n, e1, e2, e3, fun q => by rw [q, hs.nl] at hH; cases hH⟩

/-! ## methods -/
theorem ab_nil {kvs : List (Str × Value)} (h : kvs.map (fun p => (p.1, ab p.2)) = []) : kvs = [] := by simpa using h
theorem WCall.insert {a : Addr} {vs : List V} {k : Nat} {v : V} {Q : V → AH → Prop} (hH : H a = some (.list vs)) (hk : k ≤ vs.length) (hz : vs.length < sizeLine) (h : Q .none (H.set a (.list (vs.take k ++ v :: vs.drop k)))) :
    WCall C A (.bi "list.insert") [.ref a, .int k, v] [] H Q := by
  intro L ρ fv vals kvs e1 e2 e3
  cases ab_bi e1
  obtain ⟨x, y, z, rfl, ex, ey, ez⟩ := vals3 e2
  cases ab_ref ex
  obtain ⟨t, rfl⟩ := ab_int ey
  cases ab_nil e3
  intro s hs
  obtain ⟨its, n, ho, hi, hsz, hL⟩ := hs.at hH
  obtain ⟨m, F, hm⟩ := hs.fr
  have hlen : its.toList.length = vs.length := by rw [← hi]; simp
  have hsl : (sizeLine : Int) < 2 ^ 62 := by decide
  obtain ⟨news', U, hU⟩ := upd_all (o' := listOf (its.toList.take k ++ z :: its.toList.drop k).toArray (n + 1)) hL ho
  refine kl_insert F (news_all _ _) (l := its.toList.take k ++ z :: its.toList.drop k) ?_ ?_ U (by rw [hlen]; exact hsz) (fun h' F' N' => ?_)
  · unfold Builtin.List.listFitsIndex; simp; lia
  · unfold kl_ins
    rw [if_neg (by lia), hlen, Int.toNat_natCast, Nat.min_eq_left hk]
  · obtain ⟨k1, k2⟩ := hU h' N'
    refine ⟨_, _, hs.upd_fr F' hm hH rfl k1 (o := .list (vs.take k ++ v :: vs.drop k)) ⟨_, _, rfl, ?_, ?_⟩ k2, .upd_fr F' hH k1 k2, rfl, h⟩
    · rw [List.toList_toArray]; simp [← hi, ez]
    · simp; lia
end
end Mine

namespace Mine
open PySem PySem.W PyProof.Rows
open PySem.SeqAt (shaped compareEq_shaped compareNe_shaped in_list_reads notIn_list_reads canLay_of_shaped depth_of_shaped)

/-! ## deep data -/
mutual
noncomputable def Rd (H : AH) (v : V) : PyData → Prop
  | .none => v = .none
  | .bool b => v = .bool b
  | .int i => v = .int i
  | .str x => v = .str x
  | .list ds => ∃ a ob vs, v = .ref a ∧ H a = some ob ∧ lst ob = some vs ∧ RdL H vs ds
  | .tuple ds => ∃ a vs, v = .ref a ∧ H a = some (.tup vs) ∧ RdL H vs ds
  | .dict _ => False
noncomputable def RdL (H : AH) (vs : List V) : List PyData → Prop
  | [] => vs = []
  | d :: ds => ∃ v r, vs = v :: r ∧ Rd H v d ∧ RdL H r ds
end

section
variable {C : Cx} {A : Around} {env : Env} {ρ : Lo} {H : AH}
mutual
theorem Rd.reads {L : Addr} {h : Heap} (hs : St C L ρ H h) : ∀ (d : PyData) (x : Value), Rd H (ab x) d → ∃ as, Reads h x d as
  | .none, x, r => by rw [Rd] at r; cases ab_none r; exact ⟨_, .none⟩
  | .bool b, x, r => by rw [Rd] at r; cases ab_bool r; exact ⟨_, .bool b⟩
  | .int i, x, r => by rw [Rd] at r; obtain ⟨t, rfl⟩ := ab_int r; exact ⟨_, .int i t⟩
  | .str y, x, r => by rw [Rd] at r; obtain ⟨t, rfl⟩ := ab_str r; exact ⟨_, .str y t⟩
  | .list ds, x, r => by
    rw [Rd] at r
    obtain ⟨a, ob, vs, e, hH, hl, hr⟩ := r
    cases ab_ref e
    obtain ⟨xs, ⟨o, ho, hc, n, hd⟩, h2, _⟩ := hs.list hH hl
    obtain ⟨as, R⟩ := RdL.reads hs ds xs.toList (by rw [h2]; exact hr)
    exact ⟨_, .list ho hc hd R⟩
  | .tuple ds, x, r => by
    rw [Rd] at r
    obtain ⟨a, vs, e, hH, hr⟩ := r
    cases ab_ref e
    obtain ⟨xs, ⟨o, ho, hc, n, hd⟩, h2, _⟩ := hs.tup hH
    obtain ⟨as, R⟩ := RdL.reads hs ds xs.toList (by rw [h2]; exact hr)
    exact ⟨_, .tuple ho hc hd R⟩
  | .dict _, x, r => by rw [Rd] at r; exact r.elim
theorem RdL.reads {L : Addr} {h : Heap} (hs : St C L ρ H h) : ∀ (ds : List PyData) (xs : List Value), RdL H (xs.map ab) ds → ∃ as, ReadsAll h xs ds as
  | [], xs, r => by
    rw [RdL] at r
    have : xs = [] := by simpa using r
    subst this; exact ⟨_, .nil⟩
  | d :: ds, xs, r => by
    rw [RdL] at r
    obtain ⟨v, q, e, r1, r2⟩ := r
    cases xs with
    | nil => simp at e
    | cons x xs =>
      rw [List.map_cons] at e
      cases e
      obtain ⟨as, R⟩ := Rd.reads hs d x r1
      obtain ⟨bs, R'⟩ := RdL.reads hs ds xs r2
      exact ⟨_, .cons R R'⟩
end
theorem RdL_ints {H : AH} : ∀ (ns : List Int), RdL H (vints ns) (ns.map .int)
  | [] => by rw [List.map_nil, RdL]; rfl
  | n :: ns => by rw [List.map_cons, RdL]; exact ⟨.int n, vints ns, rfl, by rw [Rd], RdL_ints ns⟩
noncomputable def dints (ns : List Int) : PyData := .list (ns.map .int)
theorem Rd_ints {H : AH} {a : Addr} {ob : O} {ns : List Int} (h : H a = some ob) (hl : lst ob = some (vints ns)) : Rd H (.ref a) (dints ns) := by
  unfold dints; rw [Rd]; exact ⟨a, ob, _, rfl, h, hl, RdL_ints ns⟩
theorem shaped_ints (ns : List Int) : shaped (dints ns) = true := by
  have h1 : PyData.canLayAll0 (ns.map .int) = true := by
    induction ns with
    | nil => rfl
    | cons n ns ih => rw [List.map_cons, PyData.canLayAll0, ih]; rfl
  have h2 : PyData.depthAll (ns.map .int) = 0 := by
    induction ns with
    | nil => rfl
    | cons n ns ih =>
      rw [List.map_cons, PyData.depthAll, ih (by rw [List.map_cons, PyData.canLayAll0] at h1; exact (Bool.and_eq_true_iff.mp h1).2)]; rfl
  unfold shaped dints
  rw [PyData.canLay0, PyData.depth, h1, h2]; rfl
theorem eqvAll_map {α : Type} [DecidableEq α] {enc : α → PyData} (he : ∀ a b, PyData.eqv (enc a) (enc b) = decide (a = b)) : ∀ (xs ys : List α), PyData.eqvAll (xs.map enc) (ys.map enc) = decide (xs = ys)
  | [], [] => by simp [PyData.eqvAll]
  | [], _ :: _ => by simp [PyData.eqvAll]
  | _ :: _, [] => by simp [PyData.eqvAll]
  | x :: xs, y :: ys => by
    rw [List.map_cons, List.map_cons, PyData.eqvAll, he, eqvAll_map he]
    simp
theorem eqv_list_map {α : Type} [DecidableEq α] {enc : α → PyData} (he : ∀ a b, PyData.eqv (enc a) (enc b) = decide (a = b)) (xs ys : List α) : PyData.eqv (.list (xs.map enc)) (.list (ys.map enc)) = decide (xs = ys) := by
  rw [PyData.eqv]; exact eqvAll_map he xs ys
theorem eqv_int (a b : Int) : PyData.eqv (.int a) (.int b) = decide (a = b) := by
  rw [PyData.eqv]; rfl
theorem eqv_ints (xs ys : List Int) : PyData.eqv (dints xs) (dints ys) = decide (xs = ys) := eqv_list_map eqv_int xs ys

theorem W.neData {L : Addr} {x y : Value} {d e : PyData} {Q : Value → Lo → AH → Prop} (hx : Rd H (ab x) d) (hy : Rd H (ab y) e) (hd : shaped d = true) (he : shaped e = true) (hu : A.units + 64 < cLine) (h : Q (.bool (!PyData.eqv d e)) ρ H) : W C A L (compareOp .NotEq x y) ρ H Q := fun s hs => by
  obtain ⟨as, R⟩ := Rd.reads hs d x hx
  obtain ⟨bs, R'⟩ := Rd.reads hs e y hy
  exact compareNe_shaped R R' hd he hu ⟨ρ, H, hs, .refl .., h⟩

theorem WT.cmp {l r : Expr} {op : CmpOp} {pos : Pos} {Q : Bool → AH → Prop} (h : WE C A env l ρ H (fun v H1 => WE C A env r ρ H1 (fun w H2 => ∀ x y, ab x = v → ab y = w → W C A env.locals (compareOp op x y) ρ H2 (fun z ρ' H' => ρ' = ρ ∧ ∃ b, z = .bool b ∧ Q b H'))))
    (hm : behindInMarks op r = false := by with_unfolding_all rfl) : WT C A env (.Compare l [op] [r] pos) ρ H Q :=
  W.isTrue_Compare1 hm (W.mono h (by rintro x _ H1 ⟨rfl, h1⟩; exact W.mono h1 (by rintro y _ H2 ⟨rfl, h2⟩; exact W.mono (h2 x y rfl rfl) (by rintro z _ H3 ⟨rfl, b, rfl, q⟩; exact W.truthy_bool ⟨rfl, q⟩))))
theorem WT.neD {l r : Expr} {pos : Pos} {Q : Bool → AH → Prop} (hu : A.units + 64 < cLine) (h : WE C A env l ρ H (fun v H1 => WE C A env r ρ H1 (fun w H2 => ∃ d e, Rd H2 v d ∧ Rd H2 w e ∧ shaped d = true ∧ shaped e = true ∧ Q (!PyData.eqv d e) H2)))
    (hm : behindInMarks .NotEq r = false := by with_unfolding_all rfl) : WT C A env (.Compare l [.NotEq] [r] pos) ρ H Q :=
  WT.cmp (WE.mono h fun v H1 q => WE.mono q fun w H2 ⟨d, e, r1, r2, s1, s2, q⟩ x y ex ey => W.neData (ex ▸ r1) (ey ▸ r2) s1 s2 hu ⟨rfl, _, rfl, q⟩) hm
/-- pure tests out of tests that make things -/
theorem WT.ev {e : Expr} {b : Bool} (h : WT C A env e ρ H (fun b' H' => b' = b ∧ H' = H)) : EvT C A env ρ H e b := W.mono h (by rintro x _ _ ⟨rfl, rfl, rfl⟩; exact ⟨rfl, rfl, rfl⟩)

/-! ## in -/

/-! ## negative places, stores, repeats, powers, the greatest -/
end
end Mine

namespace Mine
open PySem PySem.W PyProof.Rows

section
variable {C : Cx} {A : Around} {env : Env} {ρ : Lo} {H : AH}
theorem vints_at {xs : List Int} {i : Nat} {v : V} (h : (vints xs)[i]? = some v) : v = .int (xs.getD i 0) ∧ i < xs.length := by
  have hi : i < (vints xs).length := (List.getElem?_eq_some_iff.mp h).1
  rw [ints_length] at hi
  rw [List.getD_eq_getElem?_getD]
  refine ⟨?_, hi⟩
  simp [vints, hi] at h ⊢
  exact h.symm
end
end Mine

namespace Mine
open PySem PySem.W PyProof.Rows

/-! ## lambdas -/
noncomputable def Bm (C : Cx) : Prop := ∃ bm ob, C.mg "__builtins__" = some (.ref bm) ∧ bm ≠ builtinsNs ∧ bm ≠ mainGlobals ∧ C.base.get? bm = some ob ∧ ob.cls = .type "module" ∧ ob.dict = some builtinsNs ∧ ob.data = .plain
noncomputable def hit (es : List (Nat × Nat × Addr)) (pos : Pos) : Option Addr := match es with
  | [] => none
  | e :: r => if e.1 == pos.line && e.2.1 == pos.col then some e.2.2 else hit r pos
theorem triples_tab : ∀ (es : List (Nat × Nat × Addr)), TriplesOk (tabItems es)
  | [] => trivial
  | e :: r => triples_tab r
theorem among_tab {pos : Pos} : ∀ (es : List (Nat × Nat × Addr)), codeAmong pos (tabItems es) = (hit es pos).map Value.ref
  | [] => rfl
  | e :: r => by
    have ih := among_tab (pos := pos) r
    show (if ((e.1 : Int) == (pos.line : Int) && (e.2.1 : Int) == (pos.col : Int)) = true then some (Value.ref e.2.2) else codeAmong pos (tabItems r)) = _
    rw [hit, ih]
    have h1 : ((e.1 : Int) == (pos.line : Int)) = (e.1 == pos.line) := by
      by_cases q : e.1 = pos.line
      · simp [q]
      · have : ¬ (e.1 : Int) = (pos.line : Int) := by lia
        rw [beq_eq_false_iff_ne.mpr q, beq_eq_false_iff_ne.mpr this]
    have h2 : ((e.2.1 : Int) == (pos.col : Int)) = (e.2.1 == pos.col) := by
      by_cases q : e.2.1 = pos.col
      · simp [q]
      · have : ¬ (e.2.1 : Int) = (pos.col : Int) := by lia
        rw [beq_eq_false_iff_ne.mpr q, beq_eq_false_iff_ne.mpr this]
    rw [h1, h2]
    cases (e.1 == pos.line && e.2.1 == pos.col) <;> rfl
theorem tab_snoc (es : List (Nat × Nat × Addr)) (l c : Nat) (a : Addr) : tabItems (es ++ [(l, c, a)]) = tabItems es ++ [rawInt l, rawInt c, .ref a] := by
  simp [tabItems]

section
variable {C : Cx} {A : Around} {env : Env} {ρ : Lo} {H : AH}
noncomputable abbrev lamFd (C : Cx) (env : Env) (params : Arguments) (body : Expr) (scope : Scope) (clos : List (Str × Addr)) (c' : Addr) (ctv : Value) : FuncData :=
  kla_fn "<lambda>" (env.qual ++ "<lambda>") params body scope clos ((C.mg "__name__").getD .none) (.ref c') ctv

theorem WE.lambda {params : Arguments} {body : Expr} {scope : Scope} {pos : Pos} {clos : List (Str × Addr)} {es : List (Nat × Nat × Addr)} {c P : Addr} {Q : V → AH → Prop} (F : Fx C A env) (hbm : Bm C) (hcode : env.code = .ref c) (hC : CodeHd C.base c P) (hP : H P = some (.tab es))
    (h1 : hit es pos = none → ∀ c' ctv f, H c' = none → H f = none → c' ≠ f → Q (.ref f) (((H.set c' (.code (env.qual ++ "<lambda>"))).set P (.tab (es ++ [(pos.line, pos.col, c')]))).set f (.fn (lamFd C env params body scope clos c' ctv))))
    (h2 : ∀ c', hit es pos = some c' → ∀ ctv f, H f = none → Q (.ref f) (H.set f (.fn (lamFd C env params body scope clos c' ctv))))
    (hdef : defaultsOf params env = ([], []) := by rfl) (hcl : closureFor scope env = pure clos := by rfl) : WE C A env (.Lambda params body scope pos) ρ H Q := fun s hs => by
  refine kla_eval hdef ?_
  obtain ⟨co, hco, hr⟩ := hs.rep P _ hP
  have hPo : s.heap.get? P = some (tabObj (tabItems es).toArray) := by rw [hco, hr]
  have hPL : P ≠ env.locals := fun q => by rw [q, hs.nl] at hP; cases hP
  have hPb := hs.own P _ hP rfl
  have hg := C.hg.keeps hs.keep
  have hgP : mainGlobals ≠ P := fun q => by
    obtain ⟨o, es, ep, e, hd, _⟩ := C.hg
    rw [q, hPb] at e; cases e
  obtain ⟨bm, ob, b1, b2, b3, b4, b5, b6, b7⟩ := hbm
  have hbP : bm ≠ P := fun q => by rw [q, hPb] at b4; cases b4
  have hB : s.heap.BuiltinsAt C.mg P := ⟨bm, ob, b1, b2, b3, hbP, hs.keep _ _ b4, b5, b6, b7⟩
  have hCs := hC.keeps hs.keep
  cases hf : hit es pos with
  | none =>
    refine kla_makeFunction hcl F.gl hg hcode hCs hPo (by rw [List.toList_toArray]; exact triples_tab es) (by rw [List.toList_toArray, among_tab, hf]; rfl) hgP hB fun c' ctv h' tk hx hge hlt hrec htb => ?_
    have hcn : s.heap.get? c' = none := Heap.get?_none_of_le hge
    have hfn : s.heap.get? h'.objs.size = none := Heap.get?_none_of_le (Nat.le_of_lt (Nat.lt_of_le_of_lt hge hlt))
    obtain ⟨c₂, oc, vs, t, e2, hoc, hd, hv⟩ := hrec
    cases e2
    have fc := hs.fresh hcn
    have ff := hs.fresh hfn
    have hcf : c' ≠ h'.objs.size := Nat.ne_of_lt hlt
    have hcP : c' ≠ P := fun q => by rw [q, hPo] at hcn; cases hcn
    have hfP : h'.objs.size ≠ P := fun q => by rw [q, hPo] at hfn; cases hfn
    obtain ⟨m, hn, hm⟩ := hs.loc
    have hpush : ∀ (o' : Obj) b o, h'.get? b = some o → (h'.push o').get? b = some o := fun o' b o e => Heap.get?_push_of_some _ e
    have hget : ∀ (x : Addr) (o : O), ((((H.set c' (.code (env.qual ++ "<lambda>"))).set P (.tab (es ++ [(pos.line, pos.col, c')]))).set h'.objs.size (.fn (lamFd C env params body scope clos c' ctv))) x = some o) → (x = h'.objs.size ∧ o = .fn (lamFd C env params body scope clos c' ctv)) ∨ (x = P ∧ o = .tab (es ++ [(pos.line, pos.col, c')])) ∨ (x = c' ∧ o = .code (env.qual ++ "<lambda>")) ∨ (x ≠ P ∧ H x = some o) := by
      intro x o e
      by_cases q1 : x = h'.objs.size
      · subst q1; rw [AH.set_same] at e; cases e; exact .inl ⟨rfl, rfl⟩
      · rw [AH.set_ne _ _ q1] at e
        by_cases q2 : x = P
        · subst q2; rw [AH.set_same] at e; cases e; exact .inr (.inl ⟨rfl, rfl⟩)
        · rw [AH.set_ne _ _ q2] at e
          by_cases q3 : x = c'
          · subst q3; rw [AH.set_same] at e; cases e; exact .inr (.inr (.inl ⟨rfl, rfl⟩))
          · rw [AH.set_ne _ _ q3] at e; exact .inr (.inr (.inr ⟨q2, e⟩))
    refine ⟨ρ, _, ⟨fun b o e => hpush _ b o (hx b o (fun q => by rw [q, hPb] at e; cases e) (hs.keep b o e)), fun x o e => ?_, fun x o e hm' => ?_, ⟨m, (hn.extBut hx hPL.symm).push _, hm⟩, ?_, hs.bl⟩, ⟨⟨rfl, rfl⟩, fun b o e eb eL => hpush _ b o (hx b o (fun q => by rw [q, hP] at eb; cases eb) e), fun b o e eb => ?_, fun b o e => ?_⟩, rfl, h1 hf c' ctv _ fc.1 ff.1 hcf⟩
    · rcases hget x o e with ⟨rfl, rfl⟩ | ⟨rfl, rfl⟩ | ⟨rfl, rfl⟩ | ⟨q, e⟩
      · exact ⟨_, Heap.get?_push_size _ rfl, rfl⟩
      · refine ⟨_, hpush _ _ _ htb, ?_⟩
        show tabObj _ = _
        rw [tab_snoc]; simp
      · exact ⟨oc, hpush _ _ _ hoc, vs, t, hd, hv⟩
      · obtain ⟨c0, e1, e2⟩ := hs.rep x o e
        exact ⟨c0, hpush _ _ _ (hx x c0 q e1), e2⟩
    · rcases hget x o e with ⟨rfl, rfl⟩ | ⟨rfl, rfl⟩ | ⟨rfl, rfl⟩ | ⟨q, e⟩
      · cases hm'
      · exact hPb
      · cases hm'
      · exact hs.own x o e hm'
    · rw [AH.set_ne _ _ (Ne.symm ff.2.2), AH.set_ne _ _ hPL.symm, AH.set_ne _ _ (Ne.symm fc.2.2)]; exact hs.nl
    · rw [AH.set_ne _ _ (fun q => by rw [q, hfn] at e; cases e), AH.set_ne _ _ (fun q => by rw [q, hP] at eb; cases eb), AH.set_ne _ _ (fun q => by rw [q, hcn] at e; cases e)]; exact eb
    · by_cases q : b = P
      · subst q; exact ⟨_, hpush _ _ _ htb⟩
      · exact ⟨o, hpush _ b o (hx b o q e)⟩
  | some c' =>
    refine kla_makeFunctionHit hcl F.gl hg hcode hCs hPo (by rw [List.toList_toArray]; exact triples_tab es) (cv := .ref c') (by rw [List.toList_toArray, among_tab, hf]; rfl) hB fun ctv h' tk hk hsz => ?_
    have hfn : s.heap.get? h'.objs.size = none := Heap.get?_none_of_le hsz
    have k : ∀ b o, s.heap.get? b = some o → (h'.push (kla_obj "<lambda>" (env.qual ++ "<lambda>") params body scope clos ((C.mg "__name__").getD .none) c' ctv)).get? b = some o := fun b o e => Heap.get?_push_of_some _ (hk b o e)
    exact ⟨ρ, _, hs.alloc (o := .fn (lamFd C env params body scope clos c' ctv)) hfn (Heap.get?_push_size _ rfl) rfl k, .alloc hfn k, rfl, h2 c' hf ctv _ (hs.fresh hfn).1⟩

/-- a lambda called -/
noncomputable abbrev lamEnv (fd : FuncData) (L a : Addr) : Env := newEnv fd.scope L fd.globals fd.closure (fd.qualname ++ ".<locals>.") (some a) fd.code none fd.builtins
theorem WCall.lam {a c' : Addr} {fd : FuncData} {body : Expr} {args : List V} {bs : List (Str × V)} {Q : V → AH → Prop} (hfn : H a = some (.fn fd)) (hdep : A.depth < recursionLimit)
    (hb : fd.body = .expr body) (hc : fd.code = .ref c') (hcH : H c' = some (.code fd.qualname)) (hcell : ∀ x ∈ fd.scope.names, x.2 ≠ .cell)
    (hbind : ∀ vals, vals.map ab = args → ∃ binds, bindArgs fd ⟨vals, []⟩ = pure binds ∧ binds.map (fun p => (p.1, ab p.2)) = bs)
    (hloc : ∀ x ∈ bs, fd.scope.names.lookup x.1 = some .local)
    (h : ∀ L, H L = none → WE C (A.deeper (lamEnv fd L a)) (lamEnv fd L a) body (fun y => bs.reverse.lookup y) H Q)
    (hco : fd.scope.isCoroutine = false := by rfl) (hgen : fd.scope.isGenerator = false := by rfl) (hk : fd.scope.kind = .function := by rfl) : WCall C A (.ref a) args [] H Q := by
  intro L ρ fv vals kvs e1 e2 e3
  cases ab_ref e1
  cases ab_nil e3
  obtain ⟨binds, hbt, hbs⟩ := hbind vals e2
  intro s hs
  have ho := hs.func hfn
  have hnone := get?_size_none s.heap
  have hrec : s.heap.CodeRec fd.code fd.qualname := by
    obtain ⟨oc, hoc, vs, t, hd, hv⟩ := hs.rep c' _ hcH
    exact ⟨c', oc, vs, t, hc, hoc, hd, hv⟩
  refine wpAny_call (kla_callFunE hdep ho rfl hco hgen hb hrec ?_)
  rw [hbt]
  refine wpAny_pure (wpAny_newFunctionEnv hcell (fun x hx => hloc (x.1, ab x.2) (by rw [← hbs]; exact List.mem_map.mpr ⟨x, hx, rfl⟩)) (fun h₁ hns hsb => ⟨((C.lim).keeps hs.keep).fresh _ hsb, ?_⟩) hk)
  have hk₁ : ∀ b o, s.heap.get? b = some o → h₁.get? b = some o := fun b o e => hsb.extBut b o (Nat.ne_of_lt (Heap.lt_size e)) (Heap.get?_push_of_some _ e)
  have hst : St C s.heap.objs.size (fun y => bs.reverse.lookup y) H h₁ := by
    refine ⟨fun b o e => hk₁ _ _ (hs.keep b o e), fun a o e => let ⟨c, e1, e2⟩ := hs.rep a o e; ⟨c, hk₁ _ _ e1, e2⟩, hs.own, ⟨_, hns, fun x => ?_⟩, (hs.fresh hnone).1, (hs.fresh hnone).2.1⟩
    rw [← hbs, ← List.map_reverse]
    exact lookup_ab x binds.reverse
  show codeAny _ _ (.expr body (lamEnv fd s.heap.objs.size a)) _ _
  refine kla_codeExpr (wpAny_mono (h s.heap.objs.size (hs.fresh hnone).1 { s with heap := h₁, toks := s.toks + binds.length } hst) (fun v s' ⟨ρ', H', x, y, z1, z⟩ => ?_) fun _ _ e => e.elim)
  obtain ⟨q1, q2, q3, q4⟩ := hs.back (s1 := { s with heap := h₁, toks := s.toks + binds.length }) (L' := s.heap.objs.size) hk₁ hnone (fun _ _ _ e => e) x y
  refine ⟨ρ, H', q1, ⟨?_, fun b o e eb _ => q2 b o e eb, q3, q4⟩, rfl, z⟩
  exact y.same
end
end Mine

namespace Mine
open PySem PySem.W PyProof.Rows

section
variable {C : Cx} {A : Around} {env : Env} {ρ : Lo} {H : AH}
/-! ## the call from the top, with code tables that may grow -/
theorem top_call2 {a : Addr} {o : Obj} {fd : FuncData} {body : List Stmt} {vals : List Value} {bs : List (Str × V)} {Q : V → AH → Prop} {s : Shared} (hsub : ∀ b o, C.base.get? b = some o → s.heap.get? b = some o) (hrep : ∀ a o, H a = some o → ∃ c, s.heap.get? a = some c ∧ Rep o c) (hown : ∀ a o, H a = some o → o.mut = true → C.base.get? a = none)
    (ho : s.heap.get? a = some o) (hd : o.data = .func fd) (hdep : A.depth < recursionLimit)
    (hb : fd.body = .stmts body) (hclo : fd.closure = []) (hcd : s.heap.CodeRec fd.code fd.qualname)
    {binds : List (Str × Value)} (hbt : bindArgs fd ⟨vals, []⟩ = pure binds) (hbs : binds.map (fun p => (p.1, ab p.2)) = bs)
    (hkind : (bs.all fun y => fd.scope.names.lookup y.1 == some .local || fd.scope.names.lookup y.1 == some .cell) = true)
    (hnd : ((cellsFrom 0 fd.scope.names []).map (·.1)).Nodup)
    (lm cm : Str → Option V) (hlm : ∀ L x, (bindL (callEnvC fd L a).kindOf binds (fun _ => none) x).map ab = lm x) (hcm : ∀ L x, (bindC (callEnvC fd L a).kindOf binds (fun _ => none) x).map ab = cm x)
    (h : ∀ L, H L = none → (∀ p ∈ cellsFrom (L + 1) fd.scope.names [], H p.2 = none ∧ p.2 ≠ L) → WS C (A.deeper (callEnvC fd L a)) (callEnvC fd L a) body lm (cellH cm (cellsFrom (L + 1) fd.scope.names []) H) (fun f _ H' => Q (retv f) H'))
    (hco : fd.scope.isCoroutine = false := by rfl) (hgen : fd.scope.isGenerator = false := by rfl) (hk : fd.scope.kind = .function := by rfl) :
    wpAny C.M A (call (.ref a) vals []) (fun v s' => (∃ H', Q (ab v) H' ∧ ∀ a o, H' a = some o → ∃ c, s'.heap.get? a = some c ∧ Rep o c) ∧ (∀ b o, C.base.get? b = some o → s'.heap.get? b = some o) ∧ (∀ b o, s.heap.get? b = some o → H b = none → s'.heap.get? b = some o) ∧ (∀ b o, s.heap.get? b = some o → ∃ o', s'.heap.get? b = some o') ∧ s'.gens = s.gens ∧ s'.os = s.os) False2 s := by
  have hnone := get?_size_none s.heap
  have hHn : ∀ b, s.heap.get? b = none → H b = none := fun b e => by
    cases q : H b with
    | none => rfl
    | some o => obtain ⟨c, e1, _⟩ := hrep b o q; rw [e] at e1; cases e1
  have hBn : ∀ b, s.heap.get? b = none → C.base.get? b = none := fun b e => by
    cases q : C.base.get? b with
    | none => rfl
    | some o => rw [hsub b o q] at e; cases e
  have hkind' : ∀ n, ∀ x ∈ binds, fd.scope.names.lookup x.1 = some .local ∨ (fd.scope.names.lookup x.1 = some .cell ∧ ((cellsFrom n fd.scope.names []).lookup x.1).isSome = true) := fun n x hx => by
    have := kindsX (scope := fd.scope) (binds := binds) (by
      rw [List.all_eq_true]; intro y hy
      exact List.all_eq_true.mp hkind (y.1, ab y.2) (by rw [← hbs]; exact List.mem_map.mpr ⟨y, hy, rfl⟩)) n x hx
    exact this
  refine wpAny_call (codeAny_call_cells hdep ho hd (C.lim.keeps hsub) hcd hb hbt hclo (hkind' _) (fun s₁ X => ?_) hco hgen hk)
  have hnames : ∀ (n : Nat) (names : List (Str × NameKind)) (acc : List (Str × Addr)) (p : Str × Addr), p ∈ cellsFrom n names acc → p ∈ acc ∨ n ≤ p.2 := by
    intro n names
    induction names generalizing n with
    | nil => intro acc p hp; exact .inl hp
    | cons x r ih =>
      intro acc p hp
      obtain ⟨nm, k⟩ := x
      unfold cellsFrom at hp
      split at hp
      · rcases ih (n + 1) _ p hp with q | q
        · rcases List.mem_cons.mp q with rfl | q
          · exact .inr (Nat.le_refl _)
          · exact .inl q
        · exact .inr (by lia)
      · exact ih n acc p hp
  have habove : ∀ p ∈ cellsFrom (s.heap.objs.size + 1) fd.scope.names [], s.heap.objs.size < p.2 := fun p hp => by
    rcases hnames _ _ _ p hp with q | q
    · cases q
    · lia
  have hfresh : ∀ p ∈ cellsFrom (s.heap.objs.size + 1) fd.scope.names [], s.heap.get? p.2 = none := fun p hp => by
    cases e : s.heap.get? p.2 with
    | none => rfl
    | some o => exact absurd (Heap.lt_size e) (Nat.lt_asymm (habove p hp))
  have same_names : ∀ (n n' : Nat) (names : List (Str × NameKind)) (acc acc' : List (Str × Addr)), acc.map (·.1) = acc'.map (·.1) → (cellsFrom n names acc).map (·.1) = (cellsFrom n' names acc').map (·.1) := by
    intro n n' names
    induction names generalizing n n' with
    | nil => intro acc acc' e; exact e
    | cons x r ih =>
      intro acc acc' e
      obtain ⟨nm, k⟩ := x
      unfold cellsFrom
      split
      · exact ih _ _ _ _ (by simp [e])
      · exact ih _ _ _ _ e
  have hnd' : ((cellsFrom (s.heap.objs.size + 1) fd.scope.names []).map (·.1)).Nodup := by rw [same_names _ 0 _ _ [] rfl]; exact hnd
  have lookup_mem : ∀ {cs : List (Str × Addr)}, (cs.map (·.1)).Nodup → ∀ n c, (n, c) ∈ cs → cs.lookup n = some c := by
    intro cs
    induction cs with
    | nil => intro _ n c hm; cases hm
    | cons p r ih =>
      intro hn n c hm
      obtain ⟨pn, pc⟩ := p
      simp only [List.map_cons, List.nodup_cons] at hn
      rcases List.mem_cons.mp hm with e | hm
      · cases e; simp [List.lookup_cons]
      · have hne : n ≠ pn := fun q => hn.1 (q ▸ List.mem_map.mpr ⟨(n, c), hm, rfl⟩)
        rw [List.lookup_cons, beq_false_of_ne hne]; exact ih hn.2 n c hm
  obtain ⟨⟨⟨h1, tk1, rfl⟩, hns, hkeep, hab⟩, hcell, hap, hgt⟩ := X
  have hst : St C s.heap.objs.size lm (cellH cm (cellsFrom (s.heap.objs.size + 1) fd.scope.names []) H) h1 := by
    refine ⟨fun b o e => hkeep _ _ (hsub b o e), fun b o e => ?_, fun b o e hm => ?_, ⟨_, hns, fun x => hlm _ x⟩, ?_, hBn _ hnone⟩
    · rcases cellH_some e with ⟨n, hm, rfl⟩ | e
      · obtain ⟨oc, ho, hd⟩ := hcell n b (lookup_mem hnd' n b hm)
        exact ⟨oc, ho, _, hd, hcm _ n⟩
      · obtain ⟨c, e1, e2⟩ := hrep b o e; exact ⟨c, hkeep _ _ e1, e2⟩
    · rcases cellH_some e with ⟨n, hm', rfl⟩ | e
      · exact hBn _ (hfresh _ hm')
      · exact hown b o e hm
    · rw [cellH_get (fun p hp q => Nat.ne_of_gt (habove p hp) q)]; exact hHn _ hnone
  refine wpAny_mono (h s.heap.objs.size (hHn _ hnone) (fun p hp => ⟨hHn _ (hfresh p hp), Nat.ne_of_gt (habove p hp)⟩) { s with heap := h1, toks := tk1 } hst) (fun f s' ⟨ρ', H', x, y, z⟩ => ?_) fun _ _ e => e.elim
  have e1 : (∃ H', Q (ab (match f with | .ret v => v | _ => .none)) H' ∧ ∀ a o, H' a = some o → ∃ c, s'.heap.get? a = some c ∧ Rep o c) := ⟨H', by cases f <;> exact z, x.rep⟩
  have e2 : ∀ b o, C.base.get? b = some o → s'.heap.get? b = some o := fun b o e => x.keep b o e
  have e3 : s'.gens = s.gens ∧ s'.os = s.os := y.same
  have e4 : ∀ b o, s.heap.get? b = some o → H b = none → s'.heap.get? b = some o := fun b o eb hb => by
    refine y.kept b o (hkeep b o eb) ?_ (fun q => by have q' : b = s.heap.objs.size := q; rw [q', hnone] at eb; cases eb)
    rw [cellH_get (fun p hp q => by have := hfresh p hp; rw [q, eb] at this; cases this)]; exact hb
  have e5 : ∀ b o, s.heap.get? b = some o → ∃ o', s'.heap.get? b = some o' := fun b o eb => y.live b o (hkeep b o eb)
  exact ⟨by cases f <;> exact e1, e2, e4, e5, e3.1, e3.2⟩

theorem law_end2 {r : RowW} {cl : Str → Option Addr} {mean : ExcName → Option Value} {args : List WData} {s₁ s' : Shared} {H H' : AH} {tabs : List Addr} (hr : r.raises = []) (hp : r.claim.post args (.bool true) args = true)
    (htab : ∀ P ∈ tabs, (∃ c, s₁.heap.TableAt c P #[]) ∧ ∃ es, H' P = some (.tab es)) (hrep : ∀ a o, H' a = some o → ∃ c, s'.heap.get? a = some c ∧ Rep o c)
    (hk : ∀ b o, b ∉ tabs → s₁.heap.get? b = some o → s'.heap.get? b = some o) (hl : ∀ b o, s₁.heap.get? b = some o → ∃ o', s'.heap.get? b = some o') (hg : s'.gens = #[]) (hos : s'.os = s₁.os) : GoodWG r.claim cl mean args s₁ (.ok (.ret (.bool true))) s' := by
  refine ⟨.inl ⟨.bool true, .bool true, [], rfl, raisesW_false (by rw [hr]; exact allW_false_nil), .bool true, hp, unshared_nil⟩, ⟨fun b o e => ?_, hl⟩, hos, .of_eq hg⟩
  by_cases q : b ∈ tabs
  · obtain ⟨⟨c, ht⟩, es, he⟩ := htab b q
    have e₀ : o = { cls := .none, data := .fields #[] } := Option.some.inj (e.symm.trans ht.2)
    obtain ⟨co, h1, h2⟩ := hrep b _ he
    refine .inr (.inl ⟨ht.isCodeTable, by rw [e₀], #[], (tabItems es).toArray, by rw [e₀], ?_⟩)
    rw [h1, e₀]
    have : co = { cls := .none, data := .fields (tabItems es).toArray } := h2
    rw [this]; simp
  · exact .inl (hk b o q e)
end
end Mine

namespace Mine
open PySem PySem.W PyProof.Rows

/-! ## comparisons and keys as judgements -/
noncomputable def LtOk (C : Cx) (A : Around) (H : AH) (v w : V) (b : Bool) : Prop := ∀ L ρ x y, ab x = v → ab y = w → W C A L (compareOp .Lt x y) ρ H (fun z ρ' H' => ρ' = ρ ∧ H' = H ∧ z = .bool b)
noncomputable def KeyOk (C : Cx) (A : Around) (H : AH) (f : Addr) (v kv : V) : Prop := WCall C A (.ref f) [v] [] H (fun r H' => r = kv ∧ H' = H)
section
variable {C : Cx} {A : Around} {env : Env} {ρ : Lo} {H : AH}
theorem EvT.ltOk {l r : Expr} {pos : Pos} {v w : V} {b : Bool} (h1 : Ev C A env ρ H l v) (h2 : Ev C A env ρ H r w) (h : LtOk C A H v w b) (hm : behindInMarks .Lt r = false := by with_unfolding_all rfl) : EvT C A env ρ H (.Compare l [.Lt] [r] pos) b :=
  WT.ev (WT.cmp (WE.of h1 (WE.of h2 fun x y ex ey => W.mono (h _ _ x y ex ey) (by rintro z _ _ ⟨rfl, rfl, rfl⟩; exact ⟨rfl, _, rfl, rfl, rfl⟩))) hm)
theorem Ev.key {id : Str} {p pos : Pos} {e : Expr} {f : Addr} {o : Obj} {fd : FuncData} {v kv : V} (hf : Ev C A env ρ H (.Name id p) (.ref f)) (hfn : FnAt C H f o fd) (he : Ev C A env ρ H e v) (hk : KeyOk C A H f v kv) (hn : noStar [e] = true := by rfl) : Ev C A env ρ H (.Call (.Name id p) [e] [] pos) kv :=
  WE.ev (WE.callFn hf (WEs.of (.cons he .nil) (WKs.nil ⟨hfn, hk⟩)) hn)
/-! is, is not -/
theorem Ev.any {l r : Expr} {op : CmpOp} {pos : Pos} {v w : V} {b : Bool} (h1 : Ev C A env ρ H l v) (h2 : Ev C A env ρ H r w) (h : ∀ x y, ab x = v → ab y = w → W C A env.locals (compareOp op x y) ρ H (fun z ρ' H' => ρ' = ρ ∧ H' = H ∧ z = .bool b)) (hm : behindInMarks op r = false := by with_unfolding_all rfl) : EvT C A env ρ H (.Compare l [op] [r] pos) b :=
  WT.ev (WT.cmp (WE.of h1 (WE.of h2 fun x y ex ey => W.mono (h x y ex ey) (by rintro z _ _ ⟨rfl, rfl, rfl⟩; exact ⟨rfl, _, rfl, rfl, rfl⟩))) hm)
end
/-- one frame deeper -/
noncomputable def Nx (A A' : Around) : Prop := A'.depth = A.depth + 1 ∧ A'.units = A.units + 3 ∧ A'.handled = A.handled
theorem Nx.of (A : Around) (env : Env) : Nx A (A.deeper env) := ⟨rfl, rfl, rfl⟩

/-! ## the search -/
noncomputable def bis (f : Nat → Bool) (lo hi : Nat) : Nat :=
  if h : lo < hi then
    if f ((lo + hi) / 2) then bis f lo ((lo + hi) / 2) else bis f ((lo + hi) / 2 + 1) hi
  else lo
termination_by hi - lo
decreasing_by all_goals omega
theorem bis_eq {f : Nat → Bool} {s : Nat} : ∀ {lo hi : Nat}, lo ≤ s → s ≤ hi → (∀ i, lo ≤ i → i < s → f i = false) → (∀ i, s ≤ i → i < hi → f i = true) → bis f lo hi = s := by
  intro lo hi
  induction hm : hi - lo using Nat.strongRecOn generalizing lo hi with
  | ind n ih =>
    intro h1 h2 h3 h4
    unfold bis
    by_cases h : lo < hi
    · rw [dif_pos h]
      by_cases hf : f ((lo + hi) / 2) = true
      · rw [if_pos hf]
        have : s ≤ (lo + hi) / 2 := by
          rcases Nat.lt_or_ge ((lo + hi) / 2) s with q | q
          · have := h3 _ (by lia) q; rw [hf] at this; cases this
          · exact q
        exact ih _ (by (clear this hf h4 h3 h2 h1 ih; omega)) rfl h1 this h3 (fun i a b => h4 i a (by lia))
      · rw [if_neg hf]
        have : (lo + hi) / 2 < s := by
          rcases Nat.lt_or_ge ((lo + hi) / 2) s with q | q
          · exact q
          · exact absurd (h4 _ q (by lia)) hf
        exact ih _ (by (clear this hf h4 h3 h2 h1 ih; omega)) rfl this h2 (fun i a b => h3 i (by lia) b) h4
    · rw [dif_neg h]; lia
theorem bis_cross {f : Nat → Bool} {lo hi : Nat} (h : hi ≤ lo) : bis f lo hi = lo := by
  unfold bis; rw [dif_neg (by lia)]
theorem bis_true {f : Nat → Bool} {lo hi : Nat} (h : lo < hi) (hf : f ((lo + hi) / 2) = true) : bis f lo hi = bis f lo ((lo + hi) / 2) := by
  conv => lhs; unfold bis
  rw [dif_pos h, if_pos hf]
theorem bis_false {f : Nat → Bool} {lo hi : Nat} (h : lo < hi) (hf : f ((lo + hi) / 2) = false) : bis f lo hi = bis f ((lo + hi) / 2 + 1) hi := by
  conv => lhs; unfold bis
  rw [dif_pos h, if_neg (by simp [hf])]
end Mine

namespace Mine
open PySem PySem.W PyProof.Rows

/-! ## plain lists: the place among sorted things, one part grown -/
noncomputable def ins {α : Type} (xs : List α) (k : Nat) (x : α) : List α := xs.take k ++ x :: xs.drop k
theorem count_split {α : Type} {P : α → Bool} : ∀ {xs : List α}, xs.Pairwise (fun p q => P q = true → P p = true) → ∀ (j : Nat) (x : α), xs[j]? = some x → (P x = true ↔ j < xs.countP P)
  | [], _, j, x, e => by simp at e
  | a :: r, h, j, x, e => by
    obtain ⟨h1, h2⟩ := List.pairwise_cons.mp h
    have ih := count_split h2
    by_cases ha : P a = true
    · rw [List.countP_cons_of_pos ha]
      cases j with
      | zero => simp at e; subst e; simp [ha]
      | succ j => rw [List.getElem?_cons_succ] at e; rw [ih j x e]; lia
    · have hall : ∀ y ∈ r, ¬ P y = true := fun y hy q => ha (h1 y hy q)
      have h0 : r.countP P = 0 := by rw [List.countP_eq_zero]; exact hall
      rw [List.countP_cons_of_neg ha, h0]
      cases j with
      | zero => simp at e; subst e; simp [ha]
      | succ j =>
        rw [List.getElem?_cons_succ] at e
        have := hall x (List.mem_of_getElem? e)
        simp [this]


theorem bis_part {α : Type} {P : α → Bool} {xs : List α} {f : Nat → Bool} {lo hi : Nat} (h : xs.Pairwise (fun p q => P q = true → P p = true)) (hhi : hi = lo + xs.length) (hf : ∀ j x, xs[j]? = some x → f (lo + j) = !P x) : bis f lo hi = lo + xs.countP P := by
  have hc := List.countP_le_length (p := P) (l := xs)
  refine bis_eq (by lia) (by lia) (fun i h1 h2 => ?_) (fun i h1 h2 => ?_)
  · obtain ⟨j, rfl⟩ : ∃ j, i = lo + j := ⟨i - lo, by lia⟩
    have hj : j < xs.length := by lia
    rw [hf j _ (List.getElem?_eq_getElem hj), ((count_split h j _ (List.getElem?_eq_getElem hj)).mpr (by lia))]; rfl
  · obtain ⟨j, rfl⟩ : ∃ j, i = lo + j := ⟨i - lo, by lia⟩
    have hj : j < xs.length := by lia
    rw [hf j _ (List.getElem?_eq_getElem hj)]
    cases q : P xs[j] with
    | false => rfl
    | true => have := (count_split h j _ (List.getElem?_eq_getElem hj)).mp q; lia

theorem split_at {α : Type} {P : α → Bool} {xs : List α} (h : xs.Pairwise (fun p q => P q = true → P p = true)) : (∀ p ∈ xs.take (xs.countP P), P p = true) ∧ (∀ p ∈ xs.drop (xs.countP P), P p = false) := by
  refine ⟨fun p hp => ?_, fun p hp => ?_⟩
  · obtain ⟨j, hj⟩ := List.getElem?_of_mem hp
    rw [List.getElem?_take] at hj
    split at hj
    · exact (count_split h j p hj).mpr ‹_›
    · cases hj
  · obtain ⟨j, hj⟩ := List.getElem?_of_mem hp
    rw [List.getElem?_drop] at hj
    have := count_split h _ p hj
    cases q : P p with
    | false => rfl
    | true => have := this.mp q; (clear q hj hp h; lia)
theorem map_ins {α β : Type} (g : α → β) (xs : List α) (k : Nat) (x : α) : (ins xs k x).map g = ins (xs.map g) k (g x) := by
  unfold ins; simp [List.map_take, List.map_drop]
theorem mem_ins {α : Type} {xs : List α} {k : Nat} {x y : α} (h : y ∈ ins xs k x) : y = x ∨ y ∈ xs := by
  unfold ins at h
  rcases List.mem_append.mp h with h | h
  · exact .inr (List.mem_of_mem_take h)
  · rcases List.mem_cons.mp h with h | h
    · exact .inl h
    · exact .inr (List.mem_of_mem_drop h)

/-! ## statements, lambdas, heaps -/
noncomputable def stAt (l : List Stmt) (n : Nat) : Stmt := (l[n]?).getD (.Pass ⟨0, 0, 0, 0⟩)
noncomputable def forBody : Stmt → List Stmt
  | .For _ _ b _ _ => b
  | _ => []
theorem hit_mem {es : List (Nat × Nat × Addr)} {pos : Pos} {c : Addr} (h : hit es pos = some c) : ∃ e ∈ es, e.2.2 = c := by
  induction es with
  | nil => cases h
  | cons e r ih =>
    rw [hit] at h
    split at h
    · exact ⟨e, List.mem_cons_self .., Option.some.inj h⟩
    · obtain ⟨e', h1, h2⟩ := ih h
      exact ⟨e', List.mem_cons_of_mem _ h1, h2⟩

section
variable {C : Cx} {A : Around} {env : Env} {ρ : Lo} {H : AH}
end
end Mine

namespace Mine
open PySem PySem.W PyProof.Rows

/-! ## a table whose codes are all of one lambda -/
noncomputable def Tab (H : AH) (T : Addr) (q : Str) : Prop := ∃ es, H T = some (.tab es) ∧ ∀ e ∈ es, H e.2.2 = some (.code q)
theorem Tab.up {H H' : AH} {T : Addr} {q : Str} (h : Tab H T q) (k : ∀ a o, H a = some o → (∀ vs, o ≠ .list vs) → H' a = some o) : Tab H' T q :=
  let ⟨es, e1, e2⟩ := h; ⟨es, k _ _ e1 (by simp), fun e he => k _ _ (e2 e he) (by simp)⟩
theorem Tab.le {H H' : AH} {T : Addr} {q : Str} (h : Tab H T q) (k : H.le H') : Tab H' T q := h.up fun a o e _ => k a o e
theorem WE.lamT {C : Cx} {A : Around} {env : Env} {ρ : Lo} {H : AH} {params : Arguments} {body : Expr} {scope : Scope} {pos : Pos} {clos : List (Str × Addr)} {c T : Addr} {Q : V → AH → Prop} (F : Fx C A env) (hbm : Bm C) (hcode : env.code = .ref c) (hC : CodeHd C.base c T) (ht : Tab H T (env.qual ++ "<lambda>"))
    (h : ∀ H1 g c' ctv, (∀ a o, H a = some o → a ≠ T → H1 a = some o) → Tab H1 T (env.qual ++ "<lambda>") → H1 g = some (.fn (lamFd C env params body scope clos c' ctv)) → H1 c' = some (.code (env.qual ++ "<lambda>")) → H g = none → (∀ a, H1 a = none → H a = none) → Q (.ref g) H1)
    (hdef : defaultsOf params env = ([], []) := by rfl) (hcl : closureFor scope env = pure clos := by rfl) : WE C A env (.Lambda params body scope pos) ρ H Q := by
  obtain ⟨es, hes, hec⟩ := ht
  refine WE.lambda (es := es) F hbm hcode hC hes (fun hm c' ctv f hc' hf' hcf => ?_) (fun c' hm ctv f hf' => ?_) hdef hcl
  · have up : ∀ {x : Addr} {o : O}, H x = some o → x ≠ T → (((H.set c' (.code (env.qual ++ "<lambda>"))).set T (.tab (es ++ [(pos.line, pos.col, c')]))).set f (.fn (lamFd C env params body scope clos c' ctv))) x = some o := fun {x o} e hn => by
      rw [AH.set_ne _ _ (fun q => by rw [q, hf'] at e; cases e), AH.set_ne _ _ hn, AH.set_ne _ _ (fun q => by rw [q, hc'] at e; cases e)]; exact e
    have hcT : c' ≠ T := fun e => by rw [e, hes] at hc'; cases hc'
    have hTf : T ≠ f := fun e => by rw [← e, hes] at hf'; cases hf'
    have hc2 : (((H.set c' (.code (env.qual ++ "<lambda>"))).set T (.tab (es ++ [(pos.line, pos.col, c')]))).set f (.fn (lamFd C env params body scope clos c' ctv))) c' = some (.code (env.qual ++ "<lambda>")) := by
      rw [AH.set_ne _ _ hcf, AH.set_ne _ _ hcT, AH.set_same]
    refine h _ f c' ctv (fun a o e hn => up e hn) ⟨es ++ [(pos.line, pos.col, c')], by rw [AH.set_ne _ _ hTf, AH.set_same], fun e he => ?_⟩ (AH.set_same ..) hc2 hf' fun a ha => ?_
    · rcases List.mem_append.mp he with he | he
      · exact up (hec e he) (fun q => by have := hec e he; rw [q, hes] at this; cases this)
      · rw [List.mem_singleton.mp he]; exact hc2
    · cases q : H a with
      | none => rfl
      | some o =>
        by_cases hT : a = T
        · rw [hT, AH.set_ne _ _ hTf, AH.set_same] at ha; cases ha
        · rw [up q hT] at ha; cases ha
  · obtain ⟨e0, he0, rfl⟩ := hit_mem hm
    refine h _ f e0.2.2 ctv (fun a o e _ => AH.get_of_set e hf') ⟨es, AH.get_of_set hes hf', fun e he => AH.get_of_set (hec e he) hf'⟩ (AH.set_same ..) (AH.get_of_set (hec e0 he0) hf') hf' fun a ha => (AH.none_of_set ha).1
end Mine

namespace Mine
open PySem PySem.W PyProof.Rows
open PySem.AutoSeq1 (wpAny_loadPart')

/-! ## a list unpacked -/
section
variable {prog : Program} {w : World} {A : Around} {E : Value → Shared → Prop}
theorem draw_list {it t : Addr} {items : Array Value} (hne : t ≠ it) : ∀ (n i : Nat) (s : Shared) (Q : List Value → Shared → Prop), s.heap.IsListIter it t i → s.heap.IsList t items → i + n ≤ items.size →
    (∀ h', h'.IsListIter it t (i + n) → Heap.SameBut it s.heap h' → Q ((items.toList.drop i).take n) { s with heap := h' }) → wpAny (model prog w) A (draw (.ref it) n) Q E s
  | 0, i, s, Q, hit, _, _, hQ => by
    show wpAny _ _ (pure []) Q E s
    exact wpAny_pure (by simpa using hQ s.heap hit (Heap.SameBut.refl ..))
  | n + 1, i, s, Q, hit, ht, hle, hQ => by
    have hlt : i < items.size := by (clear hQ ht hit hne; lia)
    show wpAny _ _ (pyNext (.ref it) >>= _) Q E s
    refine wpAny_bind (wpAny_pyNext_list_item hit ht (x := items[i]) (by simp [hlt]) fun h₁ hit₁ hs₁ => ?_)
    have ht₁ : h₁.IsList t items := by
      obtain ⟨o, ho, r⟩ := ht
      exact ⟨o, hs₁.extBut t o hne ho, r⟩
    refine wpAny_bind (wpAny_holding (draw_list hne n (i + 1) _ _ hit₁ ht₁ (by lia) fun h₂ hit₂ hs₂ => wpAny_pure ?_))
    have hd : items.toList.drop i = items[i] :: items.toList.drop (i + 1) := by simp [List.drop_eq_getElem_cons, hlt]
    have := hQ h₂ (by rw [show i + (n + 1) = i + 1 + n by lia]; exact hit₂) (hs₁.trans hs₂)
    rw [hd, List.take_succ_cons] at this
    exact this
theorem unpackItems_list {s : Shared} {t : Addr} {items : Array Value} {Q : List Value → Shared → Prop} (hh : A.handled = none) (ht : s.heap.IsList t items)
    (hQ : ∀ h', Heap.ExtBut s.heap.objs.size s.heap h' → Q items.toList { s with heap := h' }) : wpAny (model prog w) A (unpackItems (.ref t) items.size none) Q E s := by
  have hlt : t ≠ s.heap.objs.size := by obtain ⟨o, ho, _⟩ := ht; exact Nat.ne_of_lt (Heap.lt_size ho)
  unfold unpackItems
  refine wpAny_bind ?_
  unfold notIterableAtAll
  refine wpAny_bind (wpAny_specialOf ht.typeIs slot_list_iter.lookup ?_)
  refine wpAny_pure ?_
  simp only [Bool.false_eq_true, if_false]
  refine wpAny_bind (wpAny_holding (wpAny_pyIter_list ht ?_))
  have ht0 := ht.push { cls := .type "list_iterator", data := .fields #[.ref t, .int 0 0] }
  refine wpAny_bind (wpAny_holding (draw_list hlt items.size 0 _ _ ⟨_, Heap.get?_push_size _ rfl, rfl, rfl⟩ ht0 (by lia) fun h₁ hit₁ hs₁ => ?_))
  have hall : List.take items.size (List.drop 0 items.toList) = items.toList := by
    rw [List.drop_zero]; exact List.take_of_length_le (by simp)
  rw [hall]
  rw [if_neg (by simp)]
  have ht₁ : h₁.IsList t items := by
    obtain ⟨o, ho, r⟩ := ht0
    exact ⟨o, hs₁.extBut t o hlt ho, r⟩
  refine wpAny_bind (wpAny_holding (wpAny_pyNext_list_end hh hit₁ ht₁ (by simp) fun h₂ he₂ => ?_))
  simp only [Option.isSome_none, Bool.false_eq_true, if_false]
  refine wpAny_pure (hQ h₂ fun b o hb e => he₂ b o hb (hs₁.extBut b o hb (Heap.get?_push_of_some _ e)))
theorem unpack_list {s : Shared} {t : Addr} {items : Array Value} {targets : List (Bool × (Value → Sem Unit))} {Q : Unit → Shared → Prop} (hh : A.handled = none) (ht : s.heap.IsList t items)
    (hn : targets.length = items.size) (hstar : targets.findIdx? (·.1) = none)
    (h : ∀ h', Heap.ExtBut s.heap.objs.size s.heap h' → wpAny (model prog w) A (assignInOrder (targets.map (·.2)) items.toList) Q E { s with heap := h' }) :
    wpAny (model prog w) A (unpack (.ref t) targets) Q E s := by
  unfold unpack
  rw [hn, hstar]
  exact wpAny_bind (wpAny_holding (unpackItems_list hh ht h))
end
section
variable {C : Cx} {A : Around} {env : Env} {ρ : Lo} {H : AH}
theorem Asg.unpackL {ts : List Expr} {k : Nat} {pos : Pos} {l : Addr} {ob : O} {vs : List V} {Q : Lo → AH → Prop} (F : Fx C A env) (hst : noStar ts = true) (hH : H l = some ob) (hl : lst ob = some vs) (hlen : ts.length = vs.length) (h : AsgL C A env ts vs ρ H Q) : Asg C A env (.Tuple ts k pos) (.one (.ref l)) ρ H Q := fun s x hs hd => by
  have e : ab x = .ref l := hd
  cases ab_ref e
  obtain ⟨xs, hT, e, _⟩ := hs.list hH hl
  have hsz : xs.size = vs.length := by rw [← e]; simp
  rw [assign_Tuple]
  refine wpAny_bind (wpAny_standAt (unpack_list F.hh hT (by rw [assignEach_plain hst, List.length_map, hlen, hsz]) (by rw [assignEach_plain hst]; simp) fun h' hx => ?_))
  have k : ∀ b o, s.heap.get? b = some o → h'.get? b = some o := fun b o eb => hx b o (Nat.ne_of_lt (Heap.lt_size eb)) eb
  have := Asg.inOrder (C := C) (A := A) (env := env) xs.toList e h
  rw [assignEach_plain hst, List.map_map]
  exact this.at (hs.ext k) (.ext k)

/-! ## a list beside an empty one -/
end

/-! ## del a[k:] -/
section
variable {prog : Program} {w : World} {A : Around} {E : Value → Shared → Prop} {s : Shared}
end
section
variable {C : Cx} {A : Around} {env : Env} {ρ : Lo} {H : AH}
end
end Mine

namespace Mine
open PySem PySem.W PyProof.Rows
open PySem.SeqAt (shaped)

/-! ## things in rising order -/
section
variable {α : Type} (g : α → Int)
variable {g}

end

/-! ## items of two numbers -/
section
variable {C : Cx} {A : Around} {ρ : Lo} {H : AH}


noncomputable def Sm (A : Around) : Prop := A.handled = none ∧ A.depth < recursionLimit ∧ A.units < cLine
theorem Sm.nx {A A' : Around} (h : Nx A A') (hh : A.handled = none) (hd : A.depth + 4 < recursionLimit) (hu : A.units + 100 < cLine) : Sm A' := ⟨h.2.2.trans hh, by rw [h.1]; lia, by rw [h.2.1]; lia⟩
theorem Sm.nx2 {A A' A'' : Around} (h : Nx A A') (h' : Nx A' A'') (hh : A.handled = none) (hd : A.depth + 4 < recursionLimit) (hu : A.units + 100 < cLine) : Sm A'' := ⟨h'.2.2.trans (h.2.2.trans hh), by rw [h'.1, h.1]; lia, by rw [h'.2.1, h.2.1]; lia⟩
end
end Mine

set_option maxHeartbeats 1000000
namespace Mine
open PySem PySem.W PyProof.Rows

/-! ## the sorting of fewer than 64 things, asked by pairs -/

section
variable {lt : Nat → Nat → Bool} {N : Nat}
structure Ord (lt : Nat → Nat → Bool) : Prop where
  asym : ∀ a b, lt a b = true → lt b a = false
  trans : ∀ a b c, lt b a = false → lt c b = false → lt c a = false
theorem Ord.refl (o : Ord lt) (a : Nat) : lt a a = false := by
  cases h : lt a a with
  | false => rfl
  | true => have := o.asym a a h; rw [h] at this; cases this
noncomputable abbrev gP (p : Array Nat) (i : Nat) : Nat := p.getD i 0
noncomputable def SP (lt : Nat → Nat → Bool) (p : Array Nat) (k : Nat) : Prop := ∀ i j, i ≤ j → j < k → lt (gP p j) (gP p i) = false
structure In (N : Nat) (p : Array Nat) : Prop where
  size : p.size = N
  perm : p.toList.Perm (List.range N)
theorem In.bd {p : Array Nat} (h : In N p) {i : Nat} (hi : i < N) : gP p i < N := by
  have hi' : i < p.size := by rw [h.size]; exact hi
  have e : gP p i = p[i] := by simp [gP, Array.getD, hi']
  have hm : p[i] ∈ p.toList := by simp
  rw [e]; simpa using h.perm.mem_iff.mp hm
theorem gP_of {p q : Array Nat} {i j : Nat} (h : p[i]? = q[j]?) : gP p i = gP q j := by
  simp only [gP, Array.getD_eq_getD_getElem?, h]
theorem rev_get {p : Array Nat} {i j : Nat} (hj : j ≤ p.size) (k : Nat) : gP (kas_rev p i j) k = if i ≤ k ∧ k < j then gP p (i + j - 1 - k) else gP p k := by
  have := getElem?_mirror_all (xs := p) (i := i) hj k
  split
  · rename_i h; rw [if_pos h] at this; exact gP_of this
  · rename_i h; rw [if_neg h] at this; exact gP_of this
theorem In.rev {p : Array Nat} (h : In N p) (i j : Nat) : In N (kas_rev p i j) := ⟨by rw [kas_rev_size, h.size], (Array.perm_iff_toList_perm.mp (mirror_perm p i j _)).trans h.perm⟩
end
end Mine

set_option maxHeartbeats 1000000
namespace Mine
open PySem PySem.W PyProof.Rows

/-! ## the sorting keeps the order of those alike -/
noncomputable def lx (lt : Nat → Nat → Bool) (a b : Nat) : Bool := lt a b || (!lt b a && decide (a < b))
section
variable {lt : Nat → Nat → Bool} {N : Nat}
theorem lx_gt {x y : Nat} (h : y ≤ x) : lx lt x y = lt x y := by
  unfold lx; rw [decide_eq_false (by lia : ¬ x < y)]; simp
theorem lx_of {x y : Nat} (h : lt x y = true) : lx lt x y = true := by unfold lx; rw [h]; rfl
theorem lx_alike {x y : Nat} (h : lt y x = false) (hxy : x < y) : lx lt x y = true := by unfold lx; rw [h, decide_eq_true hxy]; simp
theorem lx_false {x y : Nat} : lx lt x y = false ↔ lt x y = false ∧ (lt y x = true ∨ ¬ x < y) := by
  unfold lx
  cases lt x y <;> cases lt y x <;> simp
theorem Ord.lx (o : Ord lt) : Ord (lx lt) where
  asym := fun a b h => by
    rw [lx_false]
    unfold Mine.lx at h
    cases h1 : lt a b with
    | true => exact ⟨o.asym _ _ h1, .inl rfl⟩
    | false =>
      rw [h1] at h
      simp at h
      exact ⟨h.1, .inr (by lia)⟩
  trans := fun a b c h1 h2 => by
    rw [lx_false] at h1 h2 ⊢
    have h3 := o.trans _ _ _ h1.1 h2.1
    refine ⟨h3, ?_⟩
    cases h4 : lt a c with
    | true => exact .inl rfl
    | false =>
      right
      have h5 : lt b c = false := o.trans c a b h4 h1.1
      have h6 : lt a b = false := o.trans b c a h2.1 h4
      rcases h1.2 with q | q
      · rw [h6] at q; cases q
      · rcases h2.2 with q' | q'
        · rw [h5] at q'; cases q'
        · omega
noncomputable def Fx2 (N : Nat) (p : Array Nat) (k : Nat) : Prop := ∀ m, k ≤ m → m < N → gP p m = m
theorem In.inj {p : Array Nat} (h : In N p) {i j : Nat} (hi : i < N) (hj : j < N) (e : gP p i = gP p j) : i = j := by
  have nd : p.toList.Nodup := h.perm.nodup_iff.mpr List.nodup_range
  have hi' : i < p.toList.length := by simp [h.size, hi]
  have hj' : j < p.toList.length := by simp [h.size, hj]
  have e1 : gP p i = p.toList[i] := by simp [gP, Array.getD, h.size, hi]
  have e2 : gP p j = p.toList[j] := by simp [gP, Array.getD, h.size, hj]
  rw [e1, e2] at e
  rcases Nat.lt_trichotomy i j with q | q | q
  · exact absurd e (List.pairwise_iff_getElem.mp nd i j hi' hj' q)
  · exact q
  · exact absurd e.symm (List.pairwise_iff_getElem.mp nd j i hj' hi' q)
theorem Fx2.lo {p : Array Nat} (hp : In N p) {k : Nat} (h : Fx2 N p k) {i : Nat} (hi : i < k) (hk : k ≤ N) : gP p i < k := by
  rcases Nat.lt_or_ge (gP p i) k with q | q
  · exact q
  · have hb := hp.bd (show i < N by lia)
    have := h _ q hb
    have := hp.inj hb (by lia) this
    (clear hb q hk h hp; omega)
theorem gP_range {m : Nat} (h : m < N) : gP (List.toArray (List.range N)) m = m := by simp [gP, Array.getD, h]
end
end Mine

set_option maxHeartbeats 1000000
namespace Mine
open PySem PySem.W PyProof.Rows

noncomputable def gallop' : Bool → Keyed → Array Keyed → Nat → Nat → Nat → StateT SortSt Sem (Option Nat) := sortPriv% PySem.Builtin.gallop
noncomputable def mergeLo' : Array Keyed → Array Keyed → StateT SortSt Sem (Array Keyed) := sortPriv% PySem.Builtin.mergeLo
noncomputable def mergeHi' : Array Keyed → Array Keyed → StateT SortSt Sem (Array Keyed) := sortPriv% PySem.Builtin.mergeHi
noncomputable def beyond' (left : Bool) (key : Keyed) (arr : Array Keyed) (base i : Nat) : StateT SortSt Sem (Option Bool) := do
  let x ← elem' arr (base + i)
  if left then lt' x key else return (← lt' key x).map (!·)
theorem gallop'_eq (left : Bool) (key : Keyed) (arr : Array Keyed) (base n hint : Nat) : gallop' left key arr base n hint = (do
  let mut lastofs := 0
  let mut ofs := 1
  let mut lo := 0
  let mut hi := 0
  let some right ← beyond' left key arr base hint | return none
  if right then
    let maxofs := n - hint
    for _ in [0:n] do
      if ofs ≥ maxofs then break
      let some more ← beyond' left key arr base (hint + ofs) | return none
      if !more then break
      lastofs := ofs
      ofs := 2 * ofs + 1
    lo := hint + lastofs + 1
    hi := hint + min ofs maxofs
  else
    let maxofs := hint + 1
    for _ in [0:n] do
      if ofs ≥ maxofs then break
      let some found ← beyond' left key arr base (hint - ofs) | return none
      if found then break
      lastofs := ofs
      ofs := 2 * ofs + 1
    lo := hint + 1 - min ofs maxofs
    hi := hint - lastofs
  for _ in [0:n] do
    if lo ≥ hi then break
    let m := lo + (hi - lo) / 2
    let some more ← beyond' left key arr base m | return none
    if more then lo := m + 1 else hi := m
  return some hi) := rfl

section
variable {prog : Program} {w : World} {A : Around} {E : Value → Shared → Prop} {s : Shared}
noncomputable def gSearch (left : Bool) (key : Keyed) (arr : Array Keyed) (base n lo₀ hi₀ : Nat) : StateT SortSt Sem (Option Nat) := do
  let mut lo := lo₀
  let mut hi := hi₀
  for _ in [0:n] do
    if lo ≥ hi then break
    let m := lo + (hi - lo) / 2
    let some more ← beyond' left key arr base m | return none
    if more then lo := m + 1 else hi := m
  return some hi
theorem search_w {left : Bool} {key : Keyed} {arr : Array Keyed} {base n lo hi : Nat} {bd : Nat → Bool} {st : SortSt} {Q : Option Nat → SortSt → Prop}
    (hb : ∀ i, i < n → ∀ Q : Option Bool → SortSt → Prop, Q (some (bd i)) st → wpS (model prog w) A E s (beyond' left key arr base i) Q st)
    (anti : ∀ i j, i ≤ j → j < n → bd j = true → bd i = true) (h1 : lo ≤ hi) (h2 : hi ≤ n) (hlo : ∀ i, i < lo → bd i = true) (hhi : ∀ i, hi ≤ i → i < n → bd i = false)
    (hq : ∀ k, k ≤ n → (∀ i, i < k → bd i = true) → (∀ i, k ≤ i → i < n → bd i = false) → Q (some k) st) : wpS (model prog w) A E s (gSearch left key arr base n lo hi) Q st := by
  unfold gSearch
  refine wpS_bind (wpS_mono (wpS_forRange
    (I := fun x c st' => st' = st ∧ ∃ l r, c = (none, l, r) ∧ l ≤ r ∧ r ≤ n ∧ r - l ≤ n - x ∧ (∀ i, i < l → bd i = true) ∧ (∀ i, r ≤ i → i < n → bd i = false))
    (Q := fun c st' => st' = st ∧ ∃ l r, c = (none, l, r) ∧ l = r ∧ r ≤ n ∧ (∀ i, i < l → bd i = true) ∧ (∀ i, r ≤ i → i < n → bd i = false)) ?step ?fin ⟨rfl, lo, hi, rfl, h1, h2, by lia, hlo, hhi⟩) ?post)
  case post =>
    rintro c st' ⟨rfl, l, r, rfl, rfl, a1, a2, a3⟩
    exact wpS_pure (hq l a1 a2 a3)
  case fin =>
    rintro c st' ⟨rfl, l, r, rfl, a1, a2, a3, a4, a5⟩
    exact ⟨rfl, l, r, rfl, by lia, a2, a4, a5⟩
  case step =>
    rintro x c st' _ hx ⟨rfl, l, r, rfl, a1, a2, a3, a4, a5⟩
    dsimp only
    by_cases hge : l ≥ r
    · rw [if_pos hge]
      exact wpS_pure ⟨rfl, l, r, rfl, by lia, a2, a4, a5⟩
    · rw [if_neg hge]
      refine wpS_bind (hb _ (by (clear a5 a4 a3 a1 hq hb hx hhi hlo h2 h1 anti; lia)) _ ?_)
      cases hm : bd (l + (r - l) / 2) with
      | true =>
        simp only [if_true]
        exact wpS_pure ⟨rfl, _, r, rfl, by (clear hm a5 a4 a3 a2 a1 hq hb hx hhi hlo h2 h1 anti; lia), a2, by (clear hm hge a5 a4 a2 hq hb hhi hlo h2 h1 anti; omega), fun i hi => anti i (l + (r - l) / 2) (by lia) (by (clear hi hm a5 a4 a3 a1 hq hb hx hhi hlo h2 h1 anti; lia)) hm, a5⟩
      | false =>
        simp only [Bool.false_eq_true, if_false]
        refine wpS_pure ⟨rfl, l, _, rfl, by lia, by (clear hm hge a5 a4 a3 hq hb hx hhi hlo h2 h1 anti; lia), by (clear hm hge a5 a4 a2 hq hb hhi hlo h2 h1 anti; omega), a4, fun i h3 h4 => ?_⟩
        cases h5 : bd i with
        | false => rfl
        | true => rw [anti _ i h3 h4 h5] at hm; cases hm
theorem gallop_w {left : Bool} {key : Keyed} {arr : Array Keyed} {base n hint : Nat} {bd : Nat → Bool} {st : SortSt} {Q : Option Nat → SortSt → Prop}
    (hb : ∀ i, i < n → ∀ Q : Option Bool → SortSt → Prop, Q (some (bd i)) st → wpS (model prog w) A E s (beyond' left key arr base i) Q st)
    (anti : ∀ i j, i ≤ j → j < n → bd j = true → bd i = true) (hh : hint < n)
    (hq : ∀ k, k ≤ n → (∀ i, i < k → bd i = true) → (∀ i, k ≤ i → i < n → bd i = false) → Q (some k) st) : wpS (model prog w) A E s (gallop' left key arr base n hint) Q st := by
  rw [gallop'_eq]
  refine wpS_bind (hb hint hh _ ?_)
  dsimp only
  cases hr : bd hint with
  | true =>
    simp only [if_true]
    refine wpS_bind (wpS_mono (wpS_forRange
      (I := fun x c st' => st' = st ∧ ∃ l o, c = (none, l, o) ∧ l < o ∧ l < n - hint ∧ x + 1 ≤ o ∧ bd (hint + l) = true)
      (Q := fun c st' => st' = st ∧ ∃ l o, c = (none, l, o) ∧ l < o ∧ l < n - hint ∧ bd (hint + l) = true ∧ (o < n - hint → bd (hint + o) = false)) ?step ?fin ⟨rfl, 0, 1, rfl, by lia, by omega, by lia, hr⟩) ?post)
    case fin =>
      rintro c st' ⟨rfl, l, o, rfl, a1, a2, a3, a4⟩
      exact ⟨rfl, l, o, rfl, a1, a2, a4, fun h => by lia⟩
    case step =>
      rintro x c st' _ hx ⟨rfl, l, o, rfl, a1, a2, a3, a4⟩
      dsimp only
      by_cases hge : o ≥ n - hint
      · rw [if_pos hge]
        exact wpS_pure ⟨rfl, l, o, rfl, a1, a2, a4, fun h => by lia⟩
      · rw [if_neg hge]
        refine wpS_bind (hb _ (by (clear a4 a3 a2 a1 hq hb hx hr hh anti; omega)) _ ?_)
        cases hm : bd (hint + o) with
        | true =>
          simp only [Bool.not_true, Bool.false_eq_true, if_false]
          exact wpS_pure ⟨rfl, _, _, rfl, by lia, by lia, by (clear hm hge a4 a2 a1 hq hb hx hr hh anti; lia), hm⟩
        | false =>
          simp only [Bool.not_false, if_true]
          exact wpS_pure ⟨rfl, l, o, rfl, a1, a2, a4, fun _ => hm⟩
    case post =>
      rintro c st' ⟨rfl, l, o, rfl, a1, a2, a3, a4⟩
      dsimp only
      refine search_w (bd := bd) (lo := hint + l + 1) (hi := hint + min o (n - hint)) hb anti (by (clear a4 a3 hq hb hr hh anti; lia)) (by (clear a4 a3 a2 hq hb hr anti; omega)) (fun i hi => anti i (hint + l) (by lia) (by (clear hi a4 a3 a1 hq hb hr hh anti; omega)) a3) (fun i h1 h2 => ?_) hq
      have h3 : bd (hint + o) = false := a4 (by (clear a4 a3 a2 a1 hq hb hr anti; omega))
      cases h5 : bd i with
      | false => rfl
      | true => rw [anti (hint + o) i (by lia) h2 h5] at h3; cases h3
  | false =>
    simp only [Bool.false_eq_true, if_false]
    have hn0 : ∀ i, hint ≤ i → i < n → bd i = false := fun i h1 h2 => by
      cases h5 : bd i with
      | false => rfl
      | true => rw [anti hint i h1 h2 h5] at hr; cases hr
    refine wpS_bind (wpS_mono (wpS_forRange
      (I := fun x c st' => st' = st ∧ ∃ l o, c = (none, l, o) ∧ l < o ∧ l < hint + 1 ∧ x + 1 ≤ o ∧ bd (hint - l) = false)
      (Q := fun c st' => st' = st ∧ ∃ l o, c = (none, l, o) ∧ l < o ∧ l < hint + 1 ∧ bd (hint - l) = false ∧ (o < hint + 1 → bd (hint - o) = true)) ?step ?fin ⟨rfl, 0, 1, rfl, by lia, by lia, by lia, hr⟩) ?post)
    case fin =>
      rintro c st' ⟨rfl, l, o, rfl, a1, a2, a3, a4⟩
      exact ⟨rfl, l, o, rfl, a1, a2, a4, fun h => by lia⟩
    case step =>
      rintro x c st' _ hx ⟨rfl, l, o, rfl, a1, a2, a3, a4⟩
      dsimp only
      by_cases hge : o ≥ hint + 1
      · rw [if_pos hge]
        exact wpS_pure ⟨rfl, l, o, rfl, a1, a2, a4, fun h => by lia⟩
      · rw [if_neg hge]
        refine wpS_bind (hb _ (by (clear hge a4 a3 a2 a1 hq hb hx hn0 hr anti; omega)) _ ?_)
        cases hm : bd (hint - o) with
        | true =>
          simp only [if_true]
          exact wpS_pure ⟨rfl, l, o, rfl, a1, a2, a4, fun _ => hm⟩
        | false =>
          simp only [Bool.false_eq_true, if_false]
          exact wpS_pure ⟨rfl, _, _, rfl, by lia, by lia, by (clear hm hge a4 a2 a1 hq hb hx hn0 hr hh anti; lia), hm⟩
    case post =>
      rintro c st' ⟨rfl, l, o, rfl, a1, a2, a3, a4⟩
      dsimp only
      refine search_w (bd := bd) (lo := hint + 1 - min o (hint + 1)) (hi := hint - l) hb anti (by (clear a4 a3 hq hb hn0 hr hh anti; omega)) (by (clear a4 a3 a2 a1 hq hb hn0 hr anti; omega)) (fun i hi => ?_) (fun i h1 h2 => ?_) hq
      · exact anti i (hint - o) (by (clear a4 a3 a2 hq hb hn0 hr hh anti; omega)) (by (clear hi a4 a3 a2 a1 hq hb hn0 hr anti; omega)) (a4 (by (clear a4 a3 a2 a1 hq hb hn0 hr hh anti; omega)))
      · cases h5 : bd i with
        | false => rfl
        | true => rw [anti (hint - l) i (by lia) h2 h5] at a3; cases a3
end
end Mine

set_option maxHeartbeats 1000000
namespace Mine
open PySem PySem.W PyProof.Rows

noncomputable def setGallop (g : Nat) : StateT SortSt Sem Unit := modify fun st => SortSt.mk' (kindOf st) (arrOf st) (pendingOf st) g (failedOf st)
theorem mergeLo'_eq (a b : Array Keyed) : mergeLo' a b = (do
  rule "list.sort.merge-lo"
  let total := a.size + b.size
  let done (out : Array Keyed) (ia ib : Nat) := out ++ a.extract ia a.size ++ b.extract ib b.size
  let lastOfA (out : Array Keyed) (ia ib : Nat) := out ++ b.extract ib b.size ++ a.extract ia a.size
  let mut out : Array Keyed := #[← elem' b 0]
  let mut ia := 0
  let mut ib := 1
  if ib == b.size then return done out ia ib
  if ia + 1 == a.size then return lastOfA out ia ib
  let mut minGallop := gallopOf (← get)
  for _ in [0:total] do
    let mut acount := 0
    let mut bcount := 0
    for _ in [0:total] do
      let some bWins ← lt' (← elem' b ib) (← elem' a ia) | return done out ia ib
      if bWins then
        out := out.push (← elem' b ib); ib := ib + 1; bcount := bcount + 1; acount := 0
        if ib == b.size then return done out ia ib
        if bcount ≥ minGallop then break
      else
        out := out.push (← elem' a ia); ia := ia + 1; acount := acount + 1; bcount := 0
        if ia + 1 == a.size then return lastOfA out ia ib
        if acount ≥ minGallop then break
    rule "list.sort.gallop"
    minGallop := minGallop + 1
    for _ in [0:total] do
      if minGallop > 1 then minGallop := minGallop - 1
      setGallop minGallop
      let some k ← gallop' false (← elem' b ib) a ia (a.size - ia) 0 | return done out ia ib
      acount := k
      if k > 0 then
        out := out ++ a.extract ia (ia + k); ia := ia + k
        if ia + 1 == a.size then return lastOfA out ia ib
        if ia == a.size then return done out ia ib
      out := out.push (← elem' b ib); ib := ib + 1
      if ib == b.size then return done out ia ib
      let some k ← gallop' true (← elem' a ia) b ib (b.size - ib) 0 | return done out ia ib
      bcount := k
      if k > 0 then
        out := out ++ b.extract ib (ib + k); ib := ib + k
        if ib == b.size then return done out ia ib
      out := out.push (← elem' a ia); ia := ia + 1
      if ia + 1 == a.size then return lastOfA out ia ib
      if acount < 7 && bcount < 7 then break
    minGallop := minGallop + 1
    setGallop minGallop
  unsupported "internal:list.sort.merge-bound") := rfl
section
variable {prog : Program} {w : World} {A : Around} {E : Value → Shared → Prop} {s : Shared}
theorem wpS_ite {α : Type} {σ : Type} {M : Model} {c : Prop} [Decidable c] {t e : StateT σ Sem α} {Q : α → σ → Prop} {st : σ} (h1 : c → wpS M A E s t Q st) (h2 : ¬ c → wpS M A E s e Q st) : wpS M A E s (if c then t else e) Q st := by
  split
  · exact h1 ‹_›
  · exact h2 ‹_›
theorem wpS_ite_fun {α : Type} {σ β : Type} {M : Model} {c : Prop} [Decidable c] (f : β → StateT σ Sem α) {a b : β} {Q : α → σ → Prop} {st : σ} (h : ∀ x, wpS M A E s (f x) Q st) : wpS M A E s (if c then f a else f b) Q st := by
  split
  · exact h _
  · exact h _
theorem setG_w {M : Model} {κ : SortKind} {arr : Array Keyed} {pend : Array (Nat × Nat × Nat)} {g g' : Nat} {f : Option Value} {Q : Unit → SortSt → Prop} (h : Q () (SortSt.mk' κ arr pend g' f)) : wpS M A E s (setGallop g') Q (SortSt.mk' κ arr pend g f) := wpS_modify h
noncomputable abbrev gL (l : List Nat) (i : Nat) : Nat := l.getD i 0
theorem arr_at {it : Array Keyed} {l : List Nat} {i : Nat} (h : i < l.length) : ((l.map (kas_item it)).toArray)[i]? = some (kas_item it (gL l i)) := by
  simp [gL, h]
theorem elem_w {M : Model} {it : Array Keyed} {l : List Nat} {i : Nat} {st : SortSt} {Q : Keyed → SortSt → Prop} (h : i < l.length) (hq : Q (kas_item it (gL l i)) st) : wpS M A E s (elem' (l.map (kas_item it)).toArray i) Q st := by
  rw [elem'_eq, arr_at h]; exact wpS_pure hq
/-- the questions that are asked -/
noncomputable def Asks (prog : Program) (w : World) (A : Around) (s : Shared) (κ : SortKind) (it : Array Keyed) (N : Nat) (lt : Nat → Nat → Bool) : Prop :=
  ∀ i j (Q : Bool → Shared → Prop), i < N → j < N → Q (lt i j) s → wpAny (model prog w) A (keyLt' κ (kas_item it i).1 (kas_item it j).1) Q (fun _ _ => False) s
variable {κ : SortKind} {it : Array Keyed} {N : Nat} {lt : Nat → Nat → Bool}
theorem lt_w (hc : Asks prog w A s κ it N lt) {i j : Nat} {st : SortSt} {Q : Option Bool → SortSt → Prop} (hk : kindOf st = κ) (hi : i < N) (hj : j < N) (hq : Q (some (lt i j)) st) : wpS (model prog w) A E s (lt' (kas_item it i) (kas_item it j)) Q st := by
  rw [lt'_eq]
  refine wpS_bind (wpS_get ?_)
  rw [hk]
  refine wpS_bind (wpS_lift (wpAny_attempt (wpAny_mono (hc i j (fun b s' => s' = s ∧ b = lt i j) hi hj ⟨rfl, rfl⟩) (fun b s' hb => ?_) fun _ _ hF => hF.elim)))
  obtain ⟨rfl, rfl⟩ := hb
  exact ⟨rfl, wpS_pure hq⟩
theorem beyond_w (hc : Asks prog w A s κ it N lt) {left : Bool} {x base i : Nat} {l : List Nat} {st : SortSt} {Q : Option Bool → SortSt → Prop} (hk : kindOf st = κ) (hx : x < N) (hi : base + i < l.length) (hl : gL l (base + i) < N)
    (hq : Q (some (if left = true then lt (gL l (base + i)) x else !lt x (gL l (base + i)))) st) : wpS (model prog w) A E s (beyond' left (kas_item it x) (l.map (kas_item it)).toArray base i) Q st := by
  unfold beyond'
  refine wpS_bind (elem_w hi ?_)
  cases left with
  | true =>
    simp only [if_true] at hq ⊢
    exact lt_w hc hk hl hx hq
  | false =>
    simp only [Bool.false_eq_true, if_false] at hq ⊢
    exact wpS_bind (lt_w hc hk hx hl (wpS_pure hq))

/-! ## two runs laid into one -/
structure Two (N : Nat) (lt : Nat → Nat → Bool) (la lb : List Nat) : Prop where
  ord : Ord lt
  na : ∀ i, i < la.length → gL la i < N
  nb : ∀ i, i < lb.length → gL lb i < N
  sa : ∀ i j, i ≤ j → j < la.length → lx lt (gL la j) (gL la i) = false
  sb : ∀ i j, i ≤ j → j < lb.length → lx lt (gL lb j) (gL lb i) = false
  ab : ∀ i j, i < la.length → j < lb.length → gL la i < gL lb j
  ha : 0 < la.length
  hb : 0 < lb.length
  first : lt (gL lb 0) (gL la 0) = true
  last : ∀ j, j < lb.length → lt (gL lb j) (gL la (la.length - 1)) = true
theorem Two.ask {la lb : List Nat} (h : Two N lt la lb) {i j : Nat} (hi : i < la.length) (hj : j < lb.length) : lx lt (gL lb j) (gL la i) = lt (gL lb j) (gL la i) := lx_gt (Nat.le_of_lt (h.ab i j hi hj))
structure Mg (lt : Nat → Nat → Bool) (la lb : List Nat) (out : List Nat) (ia ib : Nat) : Prop where
  lea : ia ≤ la.length
  leb : ib ≤ lb.length
  perm : out.Perm (la.take ia ++ lb.take ib)
  srt : out.Pairwise fun x y => lx lt y x = false
  ba : ∀ x ∈ out, ∀ j, ia ≤ j → j < la.length → lx lt (gL la j) x = false
  bb : ∀ x ∈ out, ∀ j, ib ≤ j → j < lb.length → lx lt (gL lb j) x = false
theorem gL_drop (l : List Nat) (i k : Nat) : ∀ x ∈ (l.drop i).take k, ∃ j, i ≤ j ∧ j < i + k ∧ j < l.length ∧ x = gL l j := fun x hx => by
  obtain ⟨n, hn, e⟩ := List.getElem_of_mem hx
  simp at hn
  exact ⟨i + n, by lia, by lia, by (clear e hx; omega), by rw [← e]; simp [gL, (by (clear e hx; omega) : i + n < l.length)]⟩
theorem srt_drop {l : List Nat} (h : ∀ i j, i ≤ j → j < l.length → lx lt (gL l j) (gL l i) = false) (i k : Nat) : ((l.drop i).take k).Pairwise fun x y => lx lt y x = false := by
  rw [List.pairwise_iff_getElem]
  intro u v hu hv huv
  simp at hu hv
  have := h (i + u) (i + v) (by lia) (by omega)
  simpa [gL, (by omega : i + u < l.length), (by omega : i + v < l.length)] using this
theorem take_add_drop (l : List Nat) (i k : Nat) : l.take (i + k) = l.take i ++ (l.drop i).take k := by rw [List.take_add]
theorem Mg.addA {la lb out : List Nat} {ia ib k : Nat} (T : Two N lt la lb) (h : Mg lt la lb out ia ib) (hk : ia + k ≤ la.length) (hx : ∀ i, ia ≤ i → i < ia + k → ∀ j, ib ≤ j → j < lb.length → lx lt (gL lb j) (gL la i) = false) :
    Mg lt la lb (out ++ (la.drop ia).take k) (ia + k) ib where
  lea := hk
  leb := h.leb
  perm := by
    rw [take_add_drop]
    refine (h.perm.append_right _).trans ?_
    rw [List.append_assoc, List.append_assoc]
    exact List.Perm.append_left _ List.perm_append_comm
  srt := by
    rw [List.pairwise_append]
    refine ⟨h.srt, srt_drop T.sa _ _, fun x hx' y hy => ?_⟩
    obtain ⟨j, h1, h2, h3, rfl⟩ := gL_drop _ _ _ y hy
    exact h.ba x hx' j h1 h3
  ba := fun x hx' j h1 h2 => by
    rcases List.mem_append.mp hx' with q | q
    · exact h.ba x q j (by lia) h2
    · obtain ⟨i, h3, h4, h5, rfl⟩ := gL_drop _ _ _ x q
      exact T.sa i j (by lia) h2
  bb := fun x hx' j h1 h2 => by
    rcases List.mem_append.mp hx' with q | q
    · exact h.bb x q j h1 h2
    · obtain ⟨i, h3, h4, h5, rfl⟩ := gL_drop _ _ _ x q
      exact hx i h3 h4 j h1 h2
theorem Mg.addB {la lb out : List Nat} {ia ib k : Nat} (T : Two N lt la lb) (h : Mg lt la lb out ia ib) (hk : ib + k ≤ lb.length) (hx : ∀ i, ib ≤ i → i < ib + k → ∀ j, ia ≤ j → j < la.length → lx lt (gL la j) (gL lb i) = false) :
    Mg lt la lb (out ++ (lb.drop ib).take k) ia (ib + k) where
  lea := h.lea
  leb := hk
  perm := by
    rw [take_add_drop, ← List.append_assoc]
    exact h.perm.append_right _
  srt := by
    rw [List.pairwise_append]
    refine ⟨h.srt, srt_drop T.sb _ _, fun x hx' y hy => ?_⟩
    obtain ⟨j, h1, h2, h3, rfl⟩ := gL_drop _ _ _ y hy
    exact h.bb x hx' j h1 h3
  ba := fun x hx' j h1 h2 => by
    rcases List.mem_append.mp hx' with q | q
    · exact h.ba x q j h1 h2
    · obtain ⟨i, h3, h4, h5, rfl⟩ := gL_drop _ _ _ x q
      exact hx i h3 h4 j h1 h2
  bb := fun x hx' j h1 h2 => by
    rcases List.mem_append.mp hx' with q | q
    · exact h.bb x q j (by lia) h2
    · obtain ⟨i, h3, h4, h5, rfl⟩ := gL_drop _ _ _ x q
      exact T.sb i j (by lia) h2
noncomputable abbrev arrIt (it : Array Keyed) (l : List Nat) : Array Keyed := (l.map (kas_item it)).toArray
theorem arrIt_size (it : Array Keyed) (l : List Nat) : (arrIt it l).size = l.length := by simp
theorem arrIt_ext (it : Array Keyed) (l : List Nat) (i j : Nat) : (arrIt it l).extract i j = arrIt it ((l.drop i).take (j - i)) := by
  simp [arrIt, List.map_take, List.map_drop]
theorem arrIt_app (it : Array Keyed) (l m : List Nat) : arrIt it l ++ arrIt it m = arrIt it (l ++ m) := by simp [arrIt]
theorem arrIt_push (it : Array Keyed) (l : List Nat) (x : Nat) : (arrIt it l).push (kas_item it x) = arrIt it (l ++ [x]) := by simp [arrIt]
theorem one_drop {l : List Nat} {i : Nat} (h : i < l.length) : (l.drop i).take 1 = [gL l i] := by
  rw [List.drop_eq_getElem_cons h, List.take_succ_cons, List.take_zero]
  simp [gL, h]
noncomputable def MgA (it : Array Keyed) (lt : Nat → Nat → Bool) (la lb : List Nat) (arr : Array Keyed) (ia ib : Nat) : Prop := ∃ out, arr = arrIt it out ∧ Mg lt la lb out ia ib
noncomputable def MgF (it : Array Keyed) (lt : Nat → Nat → Bool) (la lb : List Nat) (arr : Array Keyed) : Prop := ∃ out, arr = arrIt it out ∧ out.Perm (la ++ lb) ∧ out.Pairwise fun x y => lx lt y x = false
section
variable {la lb : List Nat} {arr : Array Keyed} {ia ib k : Nat}
theorem MgA.extA (T : Two N lt la lb) (h : MgA it lt la lb arr ia ib) (hk : ia + k ≤ la.length) (hx : ∀ i, ia ≤ i → i < ia + k → ∀ j, ib ≤ j → j < lb.length → lx lt (gL lb j) (gL la i) = false) : MgA it lt la lb (arr ++ (arrIt it la).extract ia (ia + k)) (ia + k) ib := by
  obtain ⟨out, rfl, h⟩ := h
  exact ⟨_, by rw [arrIt_ext, arrIt_app, show ia + k - ia = k by lia], h.addA T hk hx⟩
theorem MgA.extB (T : Two N lt la lb) (h : MgA it lt la lb arr ia ib) (hk : ib + k ≤ lb.length) (hx : ∀ i, ib ≤ i → i < ib + k → ∀ j, ia ≤ j → j < la.length → lx lt (gL la j) (gL lb i) = false) : MgA it lt la lb (arr ++ (arrIt it lb).extract ib (ib + k)) ia (ib + k) := by
  obtain ⟨out, rfl, h⟩ := h
  exact ⟨_, by rw [arrIt_ext, arrIt_app, show ib + k - ib = k by lia], h.addB T hk hx⟩
theorem MgA.pushA (T : Two N lt la lb) (h : MgA it lt la lb arr ia ib) (hk : ia < la.length) (hx : ∀ j, ib ≤ j → j < lb.length → lx lt (gL lb j) (gL la ia) = false) : MgA it lt la lb (arr.push (kas_item it (gL la ia))) (ia + 1) ib := by
  obtain ⟨out, rfl, h⟩ := h
  exact ⟨_, by rw [arrIt_push, ← one_drop hk], h.addA T (by lia) (fun i h1 h2 j h3 h4 => by rw [show i = ia by lia]; exact hx j h3 h4)⟩
theorem MgA.pushB (T : Two N lt la lb) (h : MgA it lt la lb arr ia ib) (hk : ib < lb.length) (hx : ∀ j, ia ≤ j → j < la.length → lx lt (gL la j) (gL lb ib) = false) : MgA it lt la lb (arr.push (kas_item it (gL lb ib))) ia (ib + 1) := by
  obtain ⟨out, rfl, h⟩ := h
  exact ⟨_, by rw [arrIt_push, ← one_drop hk], h.addB T (by lia) (fun i h1 h2 j h3 h4 => by rw [show i = ib by lia]; exact hx j h3 h4)⟩
theorem MgA.end (h : MgA it lt la lb arr la.length lb.length) : MgF it lt la lb arr := by
  obtain ⟨out, rfl, h⟩ := h
  refine ⟨out, rfl, ?_, h.srt⟩
  have := h.perm
  rwa [List.take_length, List.take_length] at this
theorem ext_nil (l : List Nat) (i j : Nat) (h : l.length ≤ i) : (arrIt it l).extract i j = #[] := by
  rw [arrIt_ext, List.drop_eq_nil_of_le h, List.take_nil]; rfl
theorem MgA.le (h : MgA it lt la lb arr ia ib) : ia ≤ la.length ∧ ib ≤ lb.length := by obtain ⟨_, _, h⟩ := h; exact ⟨h.lea, h.leb⟩
theorem MgA.done (T : Two N lt la lb) (h : MgA it lt la lb arr ia ib) (he : ib = lb.length ∨ ia = la.length) : MgF it lt la lb (arr ++ (arrIt it la).extract ia la.length ++ (arrIt it lb).extract ib lb.length) := by
  have hl := h.le
  rcases he with q | q
  · subst q
    have := h.extA T (k := la.length - ia) (by omega) (fun i _ _ j h3 h4 => by lia)
    rw [show ia + (la.length - ia) = la.length by omega] at this
    rw [ext_nil lb _ _ (Nat.le_refl _), Array.append_empty]
    exact this.end
  · subst q
    have := h.extB T (k := lb.length - ib) (by omega) (fun i _ _ j h3 h4 => by lia)
    rw [show ib + (lb.length - ib) = lb.length by omega] at this
    rw [ext_nil la _ _ (Nat.le_refl _), Array.append_empty]
    exact this.end
theorem MgA.lastA (T : Two N lt la lb) (h : MgA it lt la lb arr ia ib) (he : ia + 1 = la.length) : MgF it lt la lb (arr ++ (arrIt it lb).extract ib lb.length ++ (arrIt it la).extract ia la.length) := by
  have hl := h.le
  have h1 := h.extB T (k := lb.length - ib) (by lia) (fun i h1 h2 j h3 h4 => by
    rw [show j = la.length - 1 by lia]
    exact (T.ord.lx).asym _ _ (lx_of (T.last i (by lia))))
  rw [show ib + (lb.length - ib) = lb.length by lia] at h1
  have h2 := h1.extA T (k := la.length - ia) (by lia) (fun i _ _ j h3 h4 => by lia)
  rw [show ia + (la.length - ia) = la.length by lia] at h2
  exact h2.end
end
noncomputable abbrev LoG := Option (Array Keyed) × Array Keyed × Nat × Nat × Nat × Nat × Nat
/-- a number of the first run, at the end of a round -/
noncomputable def loEnd (it : Array Keyed) (la lb : List Nat) (mg ac bc : Nat) (out : Array Keyed) (ia ib : Nat) : StateT SortSt Sem (ForInStep LoG) :=
  elem' (arrIt it la) ia >>= fun x =>
  if (ia + 1 + 1 == la.length) = true then pure (.done (some (out.push x ++ (arrIt it lb).extract ib lb.length ++ (arrIt it la).extract (ia + 1) la.length), out.push x, ia + 1, ib, mg, ac, bc))
  else if (decide (ac < 7) && decide (bc < 7)) = true then pure (.done (none, out.push x, ia + 1, ib, mg, ac, bc)) else pure (.yield (none, out.push x, ia + 1, ib, mg, ac, bc))
noncomputable def loMid (it : Array Keyed) (la lb : List Nat) (mg ac m : Nat) (out : Array Keyed) (ia ib : Nat) : StateT SortSt Sem (ForInStep LoG) :=
  if m > 0 then
    if (ib + m == lb.length) = true then pure (.done (some (out ++ (arrIt it lb).extract ib (ib + m) ++ (arrIt it la).extract ia la.length ++ (arrIt it lb).extract (ib + m) lb.length), out ++ (arrIt it lb).extract ib (ib + m), ia, ib + m, mg, ac, m))
    else loEnd it la lb mg ac m (out ++ (arrIt it lb).extract ib (ib + m)) ia (ib + m)
  else loEnd it la lb mg ac m out ia ib
/-- what a round may leave -/
structure LoR (it : Array Keyed) (lt : Nat → Nat → Bool) (la lb : List Nat) (lim : Nat) (st : SortSt) (R : ForInStep LoG → SortSt → Prop) : Prop where
  don : ∀ res tl, MgF it lt la lb res → R (.done (some res, tl)) st
  brk : ∀ out ia ib mg ac bc, MgA it lt la lb out ia ib → ia + 1 < la.length → ib < lb.length → lim ≤ ia + ib → R (.done (none, out, ia, ib, mg, ac, bc)) st
  nxt : ∀ out ia ib mg ac bc, MgA it lt la lb out ia ib → ia + 1 < la.length → ib < lb.length → lim ≤ ia + ib → R (.yield (none, out, ia, ib, mg, ac, bc)) st
theorem loEnd_w {M : Model} {la lb : List Nat} {lim mg ac bc ia ib : Nat} {out : Array Keyed} {st : SortSt} {R : ForInStep LoG → SortSt → Prop} (T : Two N lt la lb) (hR : LoR it lt la lb lim st R) (hia : ia < la.length) (hib : ib < lb.length) (hl : lim ≤ ia + 1 + ib)
    (hM : MgA it lt la lb out ia ib) (hx : ∀ j, ib ≤ j → j < lb.length → lx lt (gL lb j) (gL la ia) = false) (hne : ia + 1 < la.length) : wpS M A E s (loEnd it la lb mg ac bc out ia ib) R st := by
  have hM4 := hM.pushA T hia hx
  unfold loEnd
  refine wpS_bind (elem_w hia ?_)
  refine wpS_ite (fun e => wpS_pure (hR.don _ _ (hM4.lastA T (by simpa using e)))) (fun e => ?_)
  have e' : ia + 1 + 1 < la.length := by simp at e; lia
  exact wpS_ite (fun _ => wpS_pure (hR.brk _ _ _ _ _ _ hM4 e' hib hl)) (fun _ => wpS_pure (hR.nxt _ _ _ _ _ _ hM4 e' hib hl))
theorem loMid_w {M : Model} {la lb : List Nat} {lim mg ac m ia ib : Nat} {out : Array Keyed} {st : SortSt} {R : ForInStep LoG → SortSt → Prop} (T : Two N lt la lb) (hR : LoR it lt la lb lim st R) (hib : ib < lb.length) (hl : lim ≤ ia + 1 + ib)
    (hM : MgA it lt la lb out ia ib) (hne : ia + 1 < la.length) (hm : ib + m ≤ lb.length) (h1 : ∀ i, ib ≤ i → i < ib + m → lx lt (gL lb i) (gL la ia) = true) (h2 : ∀ i, ib + m ≤ i → i < lb.length → lx lt (gL lb i) (gL la ia) = false) : wpS M A E s (loMid it la lb mg ac m out ia ib) R st := by
  have ox := T.ord.lx
  have hM3 := hM.extB T (k := m) hm (fun i a1 a2 j a3 a4 => ox.trans _ _ _ (ox.asym _ _ (h1 i a1 a2)) (T.sa ia j a3 a4))
  unfold loMid
  refine wpS_ite (fun hm0 => wpS_ite (fun e => wpS_pure (hR.don _ _ (hM3.done T (.inl (by simpa using e))))) (fun e => ?_)) (fun hm0 => ?_)
  · have e' : ib + m < lb.length := by simp at e; lia
    exact loEnd_w T hR (by lia) e' (by (clear e' e hm0 hM3 ox h2 h1 hm hne hM hib hR T; lia)) hM3 h2 hne
  · have hm00 : m = 0 := by lia
    subst hm00
    exact loEnd_w T hR (by lia) hib hl hM h2 hne
noncomputable def loMid1 (it : Array Keyed) (la lb : List Nat) (mg ac bc : Nat) (out : Array Keyed) (ia ib : Nat) : StateT SortSt Sem (ForInStep LoG) :=
  elem' (arrIt it lb) ib >>= fun y =>
  if (ib + 1 == lb.length) = true then pure (.done (some (out.push y ++ (arrIt it la).extract ia la.length ++ (arrIt it lb).extract (ib + 1) lb.length), out.push y, ia, ib + 1, mg, ac, bc))
  else elem' (arrIt it la) ia >>= fun x => gallop' true x (arrIt it lb) (ib + 1) (lb.length - (ib + 1)) 0 >>= fun r => match r with
    | some k => loMid it la lb mg ac k (out.push y) ia (ib + 1)
    | _ => pure (.done (some (out.push y ++ (arrIt it la).extract ia la.length ++ (arrIt it lb).extract (ib + 1) lb.length), out.push y, ia, ib + 1, mg, ac, bc))
noncomputable def loRnd (it : Array Keyed) (la lb : List Nat) (ac bc : Nat) (out : Array Keyed) (ia ib mg : Nat) : StateT SortSt Sem (ForInStep LoG) :=
  setGallop mg >>= fun _ => elem' (arrIt it lb) ib >>= fun y => gallop' false y (arrIt it la) ia (la.length - ia) 0 >>= fun r => match r with
    | some k =>
      if k > 0 then
        if (ia + k + 1 == la.length) = true then pure (.done (some (out ++ (arrIt it la).extract ia (ia + k) ++ (arrIt it lb).extract ib lb.length ++ (arrIt it la).extract (ia + k) la.length), out ++ (arrIt it la).extract ia (ia + k), ia + k, ib, mg, k, bc))
        else if (ia + k == la.length) = true then pure (.done (some (out ++ (arrIt it la).extract ia (ia + k) ++ (arrIt it la).extract (ia + k) la.length ++ (arrIt it lb).extract ib lb.length), out ++ (arrIt it la).extract ia (ia + k), ia + k, ib, mg, k, bc))
        else loMid1 it la lb mg k bc (out ++ (arrIt it la).extract ia (ia + k)) (ia + k) ib
      else loMid1 it la lb mg k bc out ia ib
    | _ => pure (.done (some (out ++ (arrIt it la).extract ia la.length ++ (arrIt it lb).extract ib lb.length), out, ia, ib, mg, ac, bc))
theorem loMid1_w (hc : Asks prog w A s κ it N lt) {la lb : List Nat} {lim mg ac bc ia ib : Nat} {out : Array Keyed} {st : SortSt} {R : ForInStep LoG → SortSt → Prop} (T : Two N lt la lb) (hk : kindOf st = κ) (hR : LoR it lt la lb lim st R) (hib : ib < lb.length) (hl : lim ≤ ia + 1 + ib + 1)
    (hM0 : MgA it lt la lb out ia ib) (hia : ia + 1 < la.length) (hx : ∀ j, ia ≤ j → j < la.length → lx lt (gL la j) (gL lb ib) = false) : wpS (model prog w) A E s (loMid1 it la lb mg ac bc out ia ib) R st := by
  have ox := T.ord.lx
  have hM := hM0.pushB T hib hx
  clear hM0 hx
  unfold loMid1
  refine wpS_bind (elem_w hib ?_)
  refine wpS_ite (fun e => wpS_pure (hR.don _ _ (hM.done T (.inl (by simpa using e))))) (fun e => ?_)
  have e' : ib + 1 < lb.length := by simp at e; lia
  have hia2 : ia < la.length := by lia
  refine wpS_bind (elem_w hia2 ?_)
  refine wpS_bind (gallop_w (n := lb.length - (ib + 1)) (hint := 0) (bd := fun i => lt (gL lb (ib + 1 + i)) (gL la ia)) (fun i hi Q' hQ' => beyond_w (x := gL la ia) (base := ib + 1) (i := i) hc hk (T.na ia hia2) (by (clear hQ' hia2 e' e hM ox hia hl hib hR hk T hc; omega)) (T.nb _ (by (clear hQ' hia2 e' e hM ox hia hl hib hR hk T hc; omega))) (by simpa using hQ')) (fun i j hij hj h => ?_) (by omega) fun m hm hm1 hm2 => ?_)
  · cases h6 : lt (gL lb (ib + 1 + i)) (gL la ia) with
    | true => rfl
    | false =>
      rw [← T.ask hia2 (by (clear h6 h hia2 e' e hM ox hia hl hib hR hk T hc; omega))] at h6
      have := ox.trans _ _ _ h6 (T.sb (ib + 1 + i) (ib + 1 + j) (by (clear h6 h hj hia2 e' e hM ox hia hl hib hR hk T hc; lia)) (by (clear h6 h hij hia2 e' e hM ox hia hl hib hR hk T hc; omega)))
      rw [T.ask hia2 (by (clear this h6 h hij hia2 e' e hM ox hia hl hib hR hk T hc; omega))] at this
      rw [this] at h; cases h
  exact loMid_w T hR e' (by lia) hM hia (by (clear hm2 hm1 hia2 e' e hM ox hia hl hR hk T hc; omega)) (fun i h1 h2 => by
      have := hm1 (i - (ib + 1)) (by (clear hm2 hm1 hm hia2 e' e hM ox hia hl hib hR hk T hc; omega))
      rw [show ib + 1 + (i - (ib + 1)) = i by (clear this h2 hm2 hm1 hm hia2 e' e hM ox hia hl hib hR hk T hc; omega)] at this
      exact lx_of this) (fun i h1 h2 => by
      rw [T.ask hia2 h2]
      have := hm2 (i - (ib + 1)) (by (clear h2 hm2 hm1 hm hia2 e' e hM ox hia hl hib hR hk T hc; omega)) (by (clear h1 hm2 hm1 hm hia2 e hM ox hia hl hib hR hk T hc; omega))
      rw [show ib + 1 + (i - (ib + 1)) = i by lia] at this
      exact this)
theorem loRnd_w (hc : Asks prog w A s κ it N lt) {la lb : List Nat} {lim ac bc ia ib mg g : Nat} {ar : Array Keyed} {pend : Array (Nat × Nat × Nat)} {out : Array Keyed} {R : ForInStep LoG → SortSt → Prop} (T : Two N lt la lb) (hR : LoR it lt la lb lim (SortSt.mk' κ ar pend mg none) R)
    (a1 : MgA it lt la lb out ia ib) (a2 : ia + 1 < la.length) (a3 : ib < lb.length) (hl : lim ≤ ia + ib + 1) : wpS (model prog w) A E s (loRnd it la lb ac bc out ia ib mg) R (SortSt.mk' κ ar pend g none) := by
  have ox := T.ord.lx
  unfold loRnd
  refine wpS_bind (setG_w ?_)
  refine wpS_bind (elem_w a3 ?_)
  refine wpS_bind (gallop_w (n := la.length - ia) (hint := 0) (bd := fun i => !lt (gL lb ib) (gL la (ia + i))) (fun i hi Q' hQ' => beyond_w (x := gL lb ib) (base := ia) (i := i) hc rfl (T.nb ib a3) (by (clear hQ' ox hl a3 a2 a1 hR T hc; omega)) (T.na _ (by (clear hQ' ox hl a3 a2 a1 hR T hc; omega))) (by simpa using hQ')) (fun i j hij hj h => ?_) (by lia) fun k hk hk1 hk2 => ?_)
  · have h' : lt (gL lb ib) (gL la (ia + j)) = false := by simpa using h
    rw [← T.ask (by (clear h' h hij ox hl a3 a2 a1 hR T hc; omega)) a3] at h'
    have := ox.trans _ _ _ (T.sa (ia + i) (ia + j) (by lia) (by (clear h' h hij ox hl a3 a2 a1 hR T hc; omega))) h'
    rw [T.ask (by (clear this h' h ox hl a3 a2 a1 hR T hc; omega)) a3] at this
    simpa using this
  have hk1' : ∀ i, i < k → lx lt (gL lb ib) (gL la (ia + i)) = false := fun i hi => by
    rw [T.ask (by (clear hk2 hk1 ox hl a3 a2 a1 hR T hc; omega)) a3]; simpa using hk1 i hi
  have hk2' : ∀ i, ia + k ≤ i → i < la.length → lx lt (gL lb ib) (gL la i) = true := fun i h1 h2 => by
    rw [T.ask (by lia) a3]
    have := hk2 (i - ia) (by lia) (by (clear h1 hk1' hk2 hk1 hk ox hl a3 a1 hR T hc; omega))
    rw [show ia + (i - ia) = i by lia] at this
    simpa using this
  clear hk1 hk2
  have hM1 := a1.extA T (k := k) (by lia) (fun i h1 h2 j h3 h4 => by
    have := hk1' (i - ia) (by lia)
    rw [show ia + (i - ia) = i by lia] at this
    exact ox.trans _ _ _ this (T.sb ib j h3 h4))
  refine wpS_ite (fun hk0 => wpS_ite (fun e => wpS_pure (hR.don _ _ (hM1.lastA T (by simpa using e)))) (fun e => wpS_ite (fun e2 => wpS_pure (hR.don _ _ (hM1.done T (.inr (by simpa using e2))))) (fun e2 => ?_))) (fun hk0 => ?_)
  · exact loMid1_w hc T rfl hR a3 (by lia) hM1 (by simp at e e2; (clear hk0 hM1 hk2' hk1' ox hl a3 a1 hR T hc; lia)) (fun j h1 h2 => ox.asym _ _ (hk2' j h1 h2))
  · exact loMid1_w hc T rfl hR a3 (by lia) a1 a2 (fun j h1 h2 => ox.asym _ _ (hk2' j (by lia) h2))
theorem mergeLo_w (hc : Asks prog w A s κ it N lt) {la lb : List Nat} {ar : Array Keyed} {pend : Array (Nat × Nat × Nat)} {g : Nat} {Q : Array Keyed → SortSt → Prop} (T : Two N lt la lb)
    (hq : ∀ res g', MgF it lt la lb res → Q res (SortSt.mk' κ ar pend g' none)) : wpS (model prog w) A E s (mergeLo' (arrIt it la) (arrIt it lb)) Q (SortSt.mk' κ ar pend g none) := by
  have ox := T.ord.lx
  rw [mergeLo'_eq]
  rw [arrIt_size, arrIt_size]
  refine wpS_bind (wpS_lift (wpAny_rule ⟨rfl, ?_⟩))
  refine wpS_bind (elem_w T.hb ?_)
  have h0 : MgA it lt la lb #[kas_item it (gL lb 0)] 0 1 := by
    have e : MgA it lt la lb #[] 0 0 := ⟨[], rfl, ⟨Nat.zero_le _, Nat.zero_le _, by simp, List.Pairwise.nil, fun x hx => (by cases hx), fun x hx => (by cases hx)⟩⟩
    exact e.pushB T T.hb (fun j h1 h2 => ox.trans _ _ _ (ox.asym _ _ (lx_of T.first)) (T.sa 0 j (Nat.zero_le _) h2))
  refine wpS_ite (fun h1 => wpS_pure (hq _ _ (h0.done T (.inl (by simpa using h1))))) (fun h1 => ?_)
  refine wpS_ite (fun h2 => wpS_pure (hq _ _ (h0.lastA T (by simpa using h2)))) (fun h2 => ?_)
  refine wpS_bind (wpS_get ?_)
  have i1 : 0 + 1 < la.length := by have := T.ha; simp at h2; lia
  have i2 : 1 < lb.length := by have := T.hb; simp at h1; lia
  refine wpS_bind (wpS_mono (wpS_forRange
    (I := fun x c st' => ∃ g out ia ib mg, c = (none, out, ia, ib, mg) ∧ st' = SortSt.mk' κ ar pend g none ∧ MgA it lt la lb out ia ib ∧ ia + 1 < la.length ∧ ib < lb.length ∧ x + 1 ≤ ia + ib)
    (Q := fun c st' => ∃ g res x, c = (some res, x) ∧ st' = SortSt.mk' κ ar pend g none ∧ MgF it lt la lb res) ?step ?fin ⟨_, _, 0, 1, _, rfl, rfl, h0, i1, i2, Nat.le_refl 1⟩) ?post)
  case post =>
    rintro c st' ⟨g, res, x, rfl, rfl, hf⟩
    exact wpS_pure (hq _ _ hf)
  case fin =>
    rintro c st' ⟨g, out, ia, ib, mg, rfl, rfl, a1, a2, a3, a4⟩
    lia
  case step =>
    rintro x c st' z0 hx ⟨g0, out0, ia0, ib0, mg0, rfl, rfl, o1, o2, o3, o4⟩
    clear h0 h1 h2 i1 i2 z0
    refine wpS_bind (wpS_mono (wpS_forRange
      (I := fun y c st' => ∃ g out ia ib ac bc, c = (none, out, ia, ib, ac, bc) ∧ st' = SortSt.mk' κ ar pend g none ∧ MgA it lt la lb out ia ib ∧ ia + 1 < la.length ∧ ib < lb.length ∧ x + 1 ≤ ia + ib)
      (Q := fun c st' => (∃ g res y, c = (some res, y) ∧ st' = SortSt.mk' κ ar pend g none ∧ MgF it lt la lb res) ∨ (∃ g out ia ib ac bc, c = (none, out, ia, ib, ac, bc) ∧ st' = SortSt.mk' κ ar pend g none ∧ MgA it lt la lb out ia ib ∧ ia + 1 < la.length ∧ ib < lb.length ∧ x + 1 ≤ ia + ib))
      ?step1 (fun c st' h => .inr h) ⟨g0, out0, ia0, ib0, 0, 0, rfl, rfl, o1, o2, o3, o4⟩) ?post1)
    case step1 =>
      rintro y c st' z1 hy ⟨g, out, ia, ib, ac, bc, rfl, rfl, a1, a2, a3, a4⟩
      clear hx hy z1 o1 o2 o3 o4
      refine wpS_bind (elem_w (i := ib) a3 ?_)
      refine wpS_bind (elem_w (i := ia) (by lia) ?_)
      refine wpS_bind (lt_w hc rfl (T.nb ib a3) (T.na ia (by lia)) ?_)
      refine wpS_ite (fun hw => ?_) (fun hw => ?_)
      · have hM := a1.pushB T a3 (fun j h1 h2 => ox.trans _ _ _ (ox.asym _ _ (lx_of hw)) (T.sa ia j h1 h2))
        refine wpS_bind (elem_w (i := ib) a3 ?_)
        refine wpS_ite (fun e => wpS_pure (.inl ⟨_, _, _, rfl, rfl, hM.done T (.inl (by simpa using e))⟩)) (fun e => ?_)
        have e' : ib + 1 < lb.length := by simp at e; lia
        exact wpS_ite (fun _ => wpS_pure (.inr ⟨_, _, ia, ib + 1, _, _, rfl, rfl, hM, a2, e', by lia⟩)) (fun _ => wpS_pure ⟨_, _, ia, ib + 1, _, _, rfl, rfl, hM, a2, e', by lia⟩)
      · have hw' : lt (gL lb ib) (gL la ia) = false := by simpa using hw
        have hM := a1.pushA T (by lia) (fun j h1 h2 => ox.trans _ _ _ ((T.ask (by lia) a3).trans hw') (T.sb ib j h1 h2))
        refine wpS_bind (elem_w (i := ia) (by lia) ?_)
        refine wpS_ite (fun e => wpS_pure (.inl ⟨_, _, _, rfl, rfl, hM.lastA T (by simpa using e)⟩)) (fun e => ?_)
        have e' : ia + 1 + 1 < la.length := by simp at e; lia
        exact wpS_ite (fun _ => wpS_pure (.inr ⟨_, _, ia + 1, ib, _, _, rfl, rfl, hM, e', a3, by lia⟩)) (fun _ => wpS_pure ⟨_, _, ia + 1, ib, _, _, rfl, rfl, hM, e', a3, by lia⟩)
    case post1 =>
      rintro c st' (⟨g, res, y, rfl, rfl, hf⟩ | ⟨g, out, ia, ib, ac, bc, rfl, rfl, b1, b2, b3, b4⟩)
      · exact wpS_pure ⟨_, _, _, rfl, rfl, hf⟩
      refine wpS_bind (wpS_lift (wpAny_rule ⟨rfl, ?_⟩))
      refine wpS_bind (wpS_mono (wpS_forRange
        (I := fun y c st' => ∃ g out ia ib mg ac bc, c = (none, out, ia, ib, mg, ac, bc) ∧ st' = SortSt.mk' κ ar pend g none ∧ MgA it lt la lb out ia ib ∧ ia + 1 < la.length ∧ ib < lb.length ∧ x + 1 ≤ ia + ib ∧ (0 < y → x + 1 + 1 ≤ ia + ib))
        (Q := fun c st' => (∃ g res y, c = (some res, y) ∧ st' = SortSt.mk' κ ar pend g none ∧ MgF it lt la lb res) ∨ (∃ g out ia ib mg ac bc, c = (none, out, ia, ib, mg, ac, bc) ∧ st' = SortSt.mk' κ ar pend g none ∧ MgA it lt la lb out ia ib ∧ ia + 1 < la.length ∧ ib < lb.length ∧ x + 1 + 1 ≤ ia + ib))
        ?step2 ?fin2 ⟨g, out, ia, ib, _, ac, bc, rfl, rfl, b1, b2, b3, b4, fun h => absurd h (Nat.lt_irrefl _)⟩) ?post2)
      case fin2 =>
        rintro c st' ⟨g, out, ia, ib, mg, ac, bc, rfl, rfl, a1, a2, a3, a4, a5⟩
        exact .inr ⟨_, _, _, _, _, _, _, rfl, rfl, a1, a2, a3, a5 (by (clear a5 a4 a3 a2 a1 b4 b3 b2 b1 o4 o3 o2 o1 ox hq T hc; lia))⟩
      case post2 =>
        rintro c st' (⟨g, res, y, rfl, rfl, hf⟩ | ⟨g, out, ia, ib, mg, ac, bc, rfl, rfl, b1, b2, b3, b4⟩)
        · exact wpS_pure ⟨_, _, _, rfl, rfl, hf⟩
        · exact wpS_bind (setG_w (wpS_pure ⟨_, _, _, _, _, rfl, rfl, b1, b2, b3, b4⟩))
      case step2 =>
        rintro y c st' z1 hy ⟨g, out, ia, ib, mg, ac, bc, rfl, rfl, a1, a2, a3, a4, -⟩
        clear hx hy z1 o1 o2 o3 o4 b1 b2 b3 b4
        refine wpS_ite_fun (fun mg => loRnd it la lb ac bc out ia ib mg) (fun mg' => ?_)
        exact loRnd_w (lim := x + 1 + 1) hc T ⟨fun res tl hf => .inl ⟨_, _, _, rfl, rfl, hf⟩, fun out ia ib mg ac bc m1 m2 m3 m4 => .inr ⟨_, _, _, _, _, _, _, rfl, rfl, m1, m2, m3, m4⟩, fun out ia ib mg ac bc m1 m2 m3 m4 => ⟨_, _, _, _, _, _, _, rfl, rfl, m1, m2, m3, Nat.le_of_succ_le m4, fun _ => m4⟩⟩ a1 a2 a3 (by lia)
end
end Mine

set_option maxHeartbeats 1000000
namespace Mine
open PySem PySem.W PyProof.Rows

theorem mergeHi'_eq (a b : Array Keyed) : mergeHi' a b = (do
  rule "list.sort.merge-hi"
  let total := a.size + b.size
  let done (out : Array Keyed) (na nb : Nat) := a.extract 0 na ++ b.extract 0 nb ++ out.reverse
  let firstOfB (out : Array Keyed) (na nb : Nat) := b.extract 0 nb ++ a.extract 0 na ++ out.reverse
  let mut na := a.size - 1
  let mut nb := b.size
  let mut out : Array Keyed := #[← elem' a na]
  if na == 0 then return done out na nb
  if nb == 1 then return firstOfB out na nb
  let mut minGallop := gallopOf (← get)
  for _ in [0:total] do
    let mut acount := 0
    let mut bcount := 0
    for _ in [0:total] do
      let some aWins ← lt' (← elem' b (nb - 1)) (← elem' a (na - 1)) | return done out na nb
      if aWins then
        na := na - 1; out := out.push (← elem' a na); acount := acount + 1; bcount := 0
        if na == 0 then return done out na nb
        if acount ≥ minGallop then break
      else
        nb := nb - 1; out := out.push (← elem' b nb); bcount := bcount + 1; acount := 0
        if nb == 1 then return firstOfB out na nb
        if bcount ≥ minGallop then break
    rule "list.sort.gallop"
    minGallop := minGallop + 1
    for _ in [0:total] do
      if minGallop > 1 then minGallop := minGallop - 1
      setGallop minGallop
      let some at_ ← gallop' false (← elem' b (nb - 1)) a 0 na (na - 1) | return done out na nb
      let k := na - at_
      acount := k
      if k > 0 then
        out := out ++ (a.extract at_ na).reverse; na := at_
        if na == 0 then return done out na nb
      nb := nb - 1; out := out.push (← elem' b nb)
      if nb == 1 then return firstOfB out na nb
      let some at_ ← gallop' true (← elem' a (na - 1)) b 0 nb (nb - 1) | return done out na nb
      let k := nb - at_
      bcount := k
      if k > 0 then
        out := out ++ (b.extract at_ nb).reverse; nb := at_
        if nb == 1 then return firstOfB out na nb
        if nb == 0 then return done out na nb
      na := na - 1; out := out.push (← elem' a na)
      if na == 0 then return done out na nb
      if acount < 7 && bcount < 7 then break
    minGallop := minGallop + 1
    setGallop minGallop
  unsupported "internal:list.sort.merge-bound") := rfl

section
variable {prog : Program} {w : World} {A : Around} {E : Value → Shared → Prop} {s : Shared} {κ : SortKind} {it : Array Keyed} {N : Nat} {lt : Nat → Nat → Bool}
structure Mh (lt : Nat → Nat → Bool) (la lb : List Nat) (suf : List Nat) (na nb : Nat) : Prop where
  lea : na ≤ la.length
  leb : nb ≤ lb.length
  perm : suf.Perm (la.drop na ++ lb.drop nb)
  srt : suf.Pairwise fun x y => lx lt y x = false
  ba : ∀ x ∈ suf, ∀ j, j < na → lx lt x (gL la j) = false
  bb : ∀ x ∈ suf, ∀ j, j < nb → lx lt x (gL lb j) = false
theorem drop_seg (l : List Nat) (m n : Nat) (h : m ≤ n) : l.drop m = (l.drop m).take (n - m) ++ l.drop n := by
  have := (List.take_append_drop (n - m) (l.drop m)).symm
  rw [List.drop_drop, show m + (n - m) = n by lia] at this
  exact this
theorem Mh.addA {la lb suf : List Nat} {na nb m : Nat} (T : Two N lt la lb) (h : Mh lt la lb suf na nb) (hm : m ≤ na) (hx : ∀ i, m ≤ i → i < na → ∀ j, j < nb → lx lt (gL la i) (gL lb j) = false) :
    Mh lt la lb ((la.drop m).take (na - m) ++ suf) m nb where
  lea := by have := h.lea; lia
  leb := h.leb
  perm := by
    have e := drop_seg la m na hm
    refine ((h.perm.append_left _).trans ?_)
    rw [← List.append_assoc, ← e]
  srt := by
    rw [List.pairwise_append]
    refine ⟨srt_drop T.sa _ _, h.srt, fun x hx' y hy => ?_⟩
    obtain ⟨j, h1, h2, h3, rfl⟩ := gL_drop _ _ _ x hx'
    exact h.ba y hy j (by lia)
  ba := fun x hx' j h1 => by
    rcases List.mem_append.mp hx' with q | q
    · obtain ⟨i, h3, h4, h5, rfl⟩ := gL_drop _ _ _ x q
      exact T.sa j i (by lia) h5
    · exact h.ba x q j (by lia)
  bb := fun x hx' j h1 => by
    rcases List.mem_append.mp hx' with q | q
    · obtain ⟨i, h3, h4, h5, rfl⟩ := gL_drop _ _ _ x q
      exact hx i h3 (by lia) j h1
    · exact h.bb x q j h1
theorem Mh.addB {la lb suf : List Nat} {na nb m : Nat} (T : Two N lt la lb) (h : Mh lt la lb suf na nb) (hm : m ≤ nb) (hx : ∀ i, m ≤ i → i < nb → ∀ j, j < na → lx lt (gL lb i) (gL la j) = false) :
    Mh lt la lb ((lb.drop m).take (nb - m) ++ suf) na m where
  lea := h.lea
  leb := by have := h.leb; lia
  perm := by
    have e := drop_seg lb m nb hm
    have h1 : (la.drop na ++ lb.drop m) = la.drop na ++ ((lb.drop m).take (nb - m) ++ lb.drop nb) := by rw [← e]
    rw [h1]
    refine (h.perm.append_left _).trans ?_
    rw [← List.append_assoc, ← List.append_assoc]
    exact List.Perm.append_right _ List.perm_append_comm
  srt := by
    rw [List.pairwise_append]
    refine ⟨srt_drop T.sb _ _, h.srt, fun x hx' y hy => ?_⟩
    obtain ⟨j, h1, h2, h3, rfl⟩ := gL_drop _ _ _ x hx'
    exact h.bb y hy j (by lia)
  ba := fun x hx' j h1 => by
    rcases List.mem_append.mp hx' with q | q
    · obtain ⟨i, h3, h4, h5, rfl⟩ := gL_drop _ _ _ x q
      exact hx i h3 (by lia) j h1
    · exact h.ba x q j h1
  bb := fun x hx' j h1 => by
    rcases List.mem_append.mp hx' with q | q
    · obtain ⟨i, h3, h4, h5, rfl⟩ := gL_drop _ _ _ x q
      exact T.sb j i (by lia) h5
    · exact h.bb x q j (by lia)
theorem arrIt_rev (it : Array Keyed) (l : List Nat) : (arrIt it l).reverse = arrIt it l.reverse := by simp [arrIt]
noncomputable def MhA (it : Array Keyed) (lt : Nat → Nat → Bool) (la lb : List Nat) (arr : Array Keyed) (na nb : Nat) : Prop := ∃ suf, arr = arrIt it suf.reverse ∧ Mh lt la lb suf na nb
section
variable {la lb : List Nat} {arr : Array Keyed} {na nb m : Nat}
theorem MhA.le (h : MhA it lt la lb arr na nb) : na ≤ la.length ∧ nb ≤ lb.length := by obtain ⟨_, _, h⟩ := h; exact ⟨h.lea, h.leb⟩
theorem MhA.extA (T : Two N lt la lb) (h : MhA it lt la lb arr na nb) (hm : m ≤ na) (hx : ∀ i, m ≤ i → i < na → ∀ j, j < nb → lx lt (gL la i) (gL lb j) = false) : MhA it lt la lb (arr ++ ((arrIt it la).extract m na).reverse) m nb := by
  obtain ⟨suf, rfl, h⟩ := h
  exact ⟨_, by rw [arrIt_ext, arrIt_rev, arrIt_app, List.reverse_append], h.addA T hm hx⟩
theorem MhA.extB (T : Two N lt la lb) (h : MhA it lt la lb arr na nb) (hm : m ≤ nb) (hx : ∀ i, m ≤ i → i < nb → ∀ j, j < na → lx lt (gL lb i) (gL la j) = false) : MhA it lt la lb (arr ++ ((arrIt it lb).extract m nb).reverse) na m := by
  obtain ⟨suf, rfl, h⟩ := h
  exact ⟨_, by rw [arrIt_ext, arrIt_rev, arrIt_app, List.reverse_append], h.addB T hm hx⟩
theorem MhA.pushA (T : Two N lt la lb) (h : MhA it lt la lb arr na nb) (h0 : 0 < na) (hx : ∀ j, j < nb → lx lt (gL la (na - 1)) (gL lb j) = false) : MhA it lt la lb (arr.push (kas_item it (gL la (na - 1)))) (na - 1) nb := by
  have hl := h.le
  obtain ⟨suf, rfl, h⟩ := h
  refine ⟨_, ?_, h.addA T (m := na - 1) (by omega) (fun i h1 h2 j h3 => by rw [show i = na - 1 by lia]; exact hx j h3)⟩
  rw [show na - (na - 1) = 1 by (clear h hl hx T; omega), one_drop (by omega), List.reverse_append, List.reverse_singleton, arrIt_push]
theorem MhA.pushB (T : Two N lt la lb) (h : MhA it lt la lb arr na nb) (h0 : 0 < nb) (hx : ∀ j, j < na → lx lt (gL lb (nb - 1)) (gL la j) = false) : MhA it lt la lb (arr.push (kas_item it (gL lb (nb - 1)))) na (nb - 1) := by
  have hl := h.le
  obtain ⟨suf, rfl, h⟩ := h
  refine ⟨_, ?_, h.addB T (m := nb - 1) (by omega) (fun i h1 h2 j h3 => by rw [show i = nb - 1 by lia]; exact hx j h3)⟩
  rw [show nb - (nb - 1) = 1 by (clear h hl hx T; omega), one_drop (by omega), List.reverse_append, List.reverse_singleton, arrIt_push]
theorem MhA.done (T : Two N lt la lb) (h : MhA it lt la lb arr na nb) (he : na = 0 ∨ nb = 0) : MgF it lt la lb ((arrIt it la).extract 0 na ++ (arrIt it lb).extract 0 nb ++ arr.reverse) := by
  obtain ⟨suf, rfl, h⟩ := h
  rw [arrIt_rev, List.reverse_reverse, arrIt_ext, arrIt_ext, arrIt_app, arrIt_app]
  have h1 := h.addB T (m := 0) (Nat.zero_le _) (fun i h1 h2 j h3 => by lia)
  have h2 := h1.addA T (m := 0) (Nat.zero_le _) (fun i h1 h2 j h3 => by lia)
  refine ⟨_, rfl, ?_, ?_⟩
  · have := h2.perm
    rw [List.drop_zero, List.drop_zero] at this
    rw [List.drop_zero, List.drop_zero, List.append_assoc]; exact this
  · have := h2.srt
    rw [List.append_assoc]; exact this
theorem MhA.firstB (T : Two N lt la lb) (h : MhA it lt la lb arr na nb) (he : nb = 1) : MgF it lt la lb ((arrIt it lb).extract 0 nb ++ (arrIt it la).extract 0 na ++ arr.reverse) := by
  have ox := T.ord.lx
  have hl := h.le
  obtain ⟨suf, rfl, h⟩ := h
  rw [arrIt_rev, List.reverse_reverse, arrIt_ext, arrIt_ext, arrIt_app, arrIt_app]
  subst he
  have h1 := h.addA T (m := 0) (Nat.zero_le _) (fun i h1 h2 j h3 => by
    rw [show j = 0 by lia]
    exact ox.trans _ _ _ (ox.asym _ _ (lx_of T.first)) (T.sa 0 i (Nat.zero_le _) (by lia)))
  have h2 := h1.addB T (m := 0) (Nat.zero_le _) (fun i h1 h2 j h3 => by lia)
  refine ⟨_, rfl, ?_, ?_⟩
  · have := h2.perm
    rw [List.drop_zero, List.drop_zero] at this
    rw [List.drop_zero, List.drop_zero, List.append_assoc]; exact this
  · have := h2.srt
    rw [List.append_assoc]; exact this
end
noncomputable abbrev HiG := Option (Array Keyed) × Nat × Nat × Array Keyed × Nat × Nat × Nat
noncomputable def hiEnd (it : Array Keyed) (la lb : List Nat) (mg ac bc : Nat) (na nb : Nat) (out : Array Keyed) : StateT SortSt Sem (ForInStep HiG) :=
  elem' (arrIt it la) (na - 1) >>= fun x =>
  if (na - 1 == 0) = true then pure (.done (some ((arrIt it la).extract 0 (na - 1) ++ (arrIt it lb).extract 0 nb ++ (out.push x).reverse), na - 1, nb, out.push x, mg, ac, bc))
  else if (decide (ac < 7) && decide (bc < 7)) = true then pure (.done (none, na - 1, nb, out.push x, mg, ac, bc)) else pure (.yield (none, na - 1, nb, out.push x, mg, ac, bc))
noncomputable def hiMid (it : Array Keyed) (la lb : List Nat) (mg ac m : Nat) (na nb : Nat) (out : Array Keyed) : StateT SortSt Sem (ForInStep HiG) :=
  if nb - m > 0 then
    if (m == 1) = true then pure (.done (some ((arrIt it lb).extract 0 m ++ (arrIt it la).extract 0 na ++ (out ++ ((arrIt it lb).extract m nb).reverse).reverse), na, m, out ++ ((arrIt it lb).extract m nb).reverse, mg, ac, nb - m))
    else if (m == 0) = true then pure (.done (some ((arrIt it la).extract 0 na ++ (arrIt it lb).extract 0 m ++ (out ++ ((arrIt it lb).extract m nb).reverse).reverse), na, m, out ++ ((arrIt it lb).extract m nb).reverse, mg, ac, nb - m))
    else hiEnd it la lb mg ac (nb - m) na m (out ++ ((arrIt it lb).extract m nb).reverse)
  else hiEnd it la lb mg ac (nb - m) na nb out
noncomputable def hiMid1 (it : Array Keyed) (la lb : List Nat) (mg ac bc : Nat) (na nb : Nat) (out : Array Keyed) : StateT SortSt Sem (ForInStep HiG) :=
  elem' (arrIt it lb) (nb - 1) >>= fun y =>
  if (nb - 1 == 1) = true then pure (.done (some ((arrIt it lb).extract 0 (nb - 1) ++ (arrIt it la).extract 0 na ++ (out.push y).reverse), na, nb - 1, out.push y, mg, ac, bc))
  else elem' (arrIt it la) (na - 1) >>= fun x => gallop' true x (arrIt it lb) 0 (nb - 1) (nb - 1 - 1) >>= fun r => match r with
    | some m => hiMid it la lb mg ac m na (nb - 1) (out.push y)
    | _ => pure (.done (some ((arrIt it la).extract 0 na ++ (arrIt it lb).extract 0 (nb - 1) ++ (out.push y).reverse), na, nb - 1, out.push y, mg, ac, bc))
noncomputable def hiRnd (it : Array Keyed) (la lb : List Nat) (ac bc : Nat) (na nb : Nat) (out : Array Keyed) (mg : Nat) : StateT SortSt Sem (ForInStep HiG) :=
  setGallop mg >>= fun _ => elem' (arrIt it lb) (nb - 1) >>= fun y => gallop' false y (arrIt it la) 0 na (na - 1) >>= fun r => match r with
    | some k =>
      if na - k > 0 then
        if (k == 0) = true then pure (.done (some ((arrIt it la).extract 0 k ++ (arrIt it lb).extract 0 nb ++ (out ++ ((arrIt it la).extract k na).reverse).reverse), k, nb, out ++ ((arrIt it la).extract k na).reverse, mg, na - k, bc))
        else hiMid1 it la lb mg (na - k) bc k nb (out ++ ((arrIt it la).extract k na).reverse)
      else hiMid1 it la lb mg (na - k) bc na nb out
    | _ => pure (.done (some ((arrIt it la).extract 0 na ++ (arrIt it lb).extract 0 nb ++ out.reverse), na, nb, out, mg, ac, bc))
structure HiR (it : Array Keyed) (lt : Nat → Nat → Bool) (la lb : List Nat) (lim : Nat) (st : SortSt) (R : ForInStep HiG → SortSt → Prop) : Prop where
  don : ∀ res tl, MgF it lt la lb res → R (.done (some res, tl)) st
  brk : ∀ na nb out mg ac bc, MhA it lt la lb out na nb → 0 < na → 1 < nb → na + nb ≤ lim → R (.done (none, na, nb, out, mg, ac, bc)) st
  nxt : ∀ na nb out mg ac bc, MhA it lt la lb out na nb → 0 < na → 1 < nb → na + nb ≤ lim → R (.yield (none, na, nb, out, mg, ac, bc)) st
theorem hiEnd_w {M : Model} {la lb : List Nat} {lim mg ac bc na nb : Nat} {out : Array Keyed} {st : SortSt} {R : ForInStep HiG → SortSt → Prop} (T : Two N lt la lb) (hR : HiR it lt la lb lim st R) (hna : 0 < na) (hnb : 1 < nb) (hl : na - 1 + nb ≤ lim)
    (hM : MhA it lt la lb out na nb) (hx : ∀ j, j < nb → lx lt (gL la (na - 1)) (gL lb j) = false) : wpS M A E s (hiEnd it la lb mg ac bc na nb out) R st := by
  have hle := hM.le
  have hM4 := hM.pushA T hna hx
  unfold hiEnd
  refine wpS_bind (elem_w (by omega) ?_)
  refine wpS_ite (fun e => wpS_pure (hR.don _ _ (hM4.done T (.inl (by simpa using e))))) (fun e => ?_)
  have e' : 0 < na - 1 := by simp at e; lia
  exact wpS_ite (fun _ => wpS_pure (hR.brk _ _ _ _ _ _ hM4 e' hnb hl)) (fun _ => wpS_pure (hR.nxt _ _ _ _ _ _ hM4 e' hnb hl))
theorem hiMid_w {M : Model} {la lb : List Nat} {lim mg ac m na nb : Nat} {out : Array Keyed} {st : SortSt} {R : ForInStep HiG → SortSt → Prop} (T : Two N lt la lb) (hR : HiR it lt la lb lim st R) (hna : 0 < na) (hnb : 1 < nb) (hl : na - 1 + nb ≤ lim)
    (hM : MhA it lt la lb out na nb) (hm : m ≤ nb) (h1 : ∀ i, i < m → lx lt (gL lb i) (gL la (na - 1)) = true) (h2 : ∀ i, m ≤ i → i < nb → lx lt (gL lb i) (gL la (na - 1)) = false) : wpS M A E s (hiMid it la lb mg ac m na nb out) R st := by
  have ox := T.ord.lx
  have hle := hM.le
  have hM3 := hM.extB T (m := m) hm (fun i a1 a2 j a3 => ox.trans _ _ _ (T.sa j (na - 1) (by (clear a2 a1 hle ox h2 h1 hm hM hl hnb hR T; omega)) (by omega)) (h2 i a1 a2))
  unfold hiMid
  refine wpS_ite (fun hm0 => wpS_ite (fun e => wpS_pure (hR.don _ _ (hM3.firstB T (by simpa using e)))) (fun e => wpS_ite (fun e2 => wpS_pure (hR.don _ _ (hM3.done T (.inr (by simpa using e2))))) (fun e2 => ?_))) (fun hm0 => ?_)
  · exact hiEnd_w T hR hna (by simp at e e2; lia) (by lia) hM3 (fun j a1 => ox.asym _ _ (h1 j a1))
  · exact hiEnd_w T hR hna hnb hl hM (fun j a1 => ox.asym _ _ (h1 j (by lia)))
theorem hiMid1_w (hc : Asks prog w A s κ it N lt) {la lb : List Nat} {lim mg ac bc na nb : Nat} {out : Array Keyed} {st : SortSt} {R : ForInStep HiG → SortSt → Prop} (T : Two N lt la lb) (hk : kindOf st = κ) (hR : HiR it lt la lb lim st R) (hna : 0 < na) (hnb : 1 < nb) (hl : na - 1 + (nb - 1) ≤ lim)
    (hM0 : MhA it lt la lb out na nb) (hx : ∀ j, j < na → lx lt (gL lb (nb - 1)) (gL la j) = false) : wpS (model prog w) A E s (hiMid1 it la lb mg ac bc na nb out) R st := by
  have ox := T.ord.lx
  have hle := hM0.le
  have hM := hM0.pushB T (by lia) hx
  clear hM0 hx
  unfold hiMid1
  refine wpS_bind (elem_w (by omega) ?_)
  refine wpS_ite (fun e => wpS_pure (hR.don _ _ (hM.firstB T (by simpa using e)))) (fun e => ?_)
  have e' : 1 < nb - 1 := by simp at e; omega
  have hk2 : na - 1 < la.length := by (clear e' e hM ox hl hnb hR hk T hc; omega)
  refine wpS_bind (elem_w hk2 ?_)
  refine wpS_bind (gallop_w (n := nb - 1) (hint := nb - 1 - 1) (bd := fun i => lt (gL lb i) (gL la (na - 1))) (fun i hi Q' hQ' => beyond_w (x := gL la (na - 1)) (base := 0) (i := i) hc hk (T.na _ hk2) (by (clear hQ' hk2 e' e hM ox hl hnb hna hR hk T hc; omega)) (T.nb _ (by (clear hQ' hk2 e' e hM ox hl hnb hna hR hk T hc; omega))) (by simpa using hQ')) (fun i j hij hj h => ?_) (by (clear hk2 e' e hM hle ox hl hna hR hk T hc; omega)) fun m hm hm1 hm2 => ?_)
  · cases h6 : lt (gL lb i) (gL la (na - 1)) with
    | true => rfl
    | false =>
      rw [← T.ask hk2 (by (clear h6 h hk2 e' e hM ox hl hnb hna hR hk T hc; omega))] at h6
      have := ox.trans _ _ _ h6 (T.sb i j (by lia) (by (clear h6 h hij hk2 e' e hM ox hl hnb hna hR hk T hc; omega)))
      rw [T.ask hk2 (by (clear this h6 h hij hk2 e' e hM ox hl hnb hna hR hk T hc; omega))] at this
      rw [this] at h; cases h
  exact hiMid_w T hR hna e' hl hM hm (fun i h1 => lx_of (hm1 i h1)) (fun i h1 h2 => by
      rw [T.ask hk2 (by (clear h1 hm2 hm1 hm hk2 e' e hM ox hl hnb hna hR hk T hc; omega))]
      exact hm2 i h1 h2)
theorem hiRnd_w (hc : Asks prog w A s κ it N lt) {la lb : List Nat} {lim ac bc na nb mg g : Nat} {ar : Array Keyed} {pend : Array (Nat × Nat × Nat)} {out : Array Keyed} {R : ForInStep HiG → SortSt → Prop} (T : Two N lt la lb) (hR : HiR it lt la lb lim (SortSt.mk' κ ar pend mg none) R)
    (a1 : MhA it lt la lb out na nb) (a2 : 0 < na) (a3 : 1 < nb) (hl : na + nb ≤ lim + 1) : wpS (model prog w) A E s (hiRnd it la lb ac bc na nb out mg) R (SortSt.mk' κ ar pend g none) := by
  have ox := T.ord.lx
  have hle := a1.le
  unfold hiRnd
  have hnb : nb - 1 < lb.length := by omega
  refine wpS_bind (setG_w ?_)
  refine wpS_bind (elem_w hnb ?_)
  refine wpS_bind (gallop_w (n := na) (hint := na - 1) (bd := fun i => !lt (gL lb (nb - 1)) (gL la i)) (fun i hi Q' hQ' => beyond_w (x := gL lb (nb - 1)) (base := 0) (i := i) hc rfl (T.nb (nb - 1) hnb) (by lia) (T.na _ (by lia)) (by simpa using hQ')) (fun i j hij hj h => ?_) (by (clear hnb hle ox hl a3 a1 hR T hc; omega)) fun k hk hk1 hk2 => ?_)
  · have h' : lt (gL lb (nb - 1)) (gL la j) = false := by simpa using h
    rw [← T.ask (by lia) hnb] at h'
    have := ox.trans _ _ _ (T.sa i j (by lia) (by lia)) h'
    rw [T.ask (by lia) hnb] at this
    simpa using this
  have hk1' : ∀ i, i < k → lx lt (gL lb (nb - 1)) (gL la i) = false := fun i hi => by
    rw [T.ask (by lia) hnb]; simpa using hk1 i hi
  have hk2' : ∀ i, k ≤ i → i < na → lx lt (gL lb (nb - 1)) (gL la i) = true := fun i h1 h2 => by
    rw [T.ask (by lia) hnb]
    have := hk2 i h1 h2
    simpa using this
  clear hk1 hk2
  have hM1 := a1.extA T (m := k) hk (fun i h1 h2 j h3 => ox.trans _ _ _ (T.sb j (nb - 1) (by lia) hnb) (ox.asym _ _ (hk2' i h1 h2)))
  refine wpS_ite (fun hk0 => wpS_ite (fun e => wpS_pure (hR.don _ _ (hM1.done T (.inl (by simpa using e))))) (fun e => ?_)) (fun hk0 => ?_)
  · exact hiMid1_w hc T rfl hR (by simp at e; (clear hk0 hM1 hk2' hk1' hk hnb hle ox hl a3 a2 a1 hR T hc; lia)) a3 (by (clear e hk0 hM1 hk2' hk1' hnb hle ox a1 hR T hc; omega)) hM1 hk1'
  · exact hiMid1_w hc T rfl hR a2 a3 (by lia) a1 (fun j h1 => hk1' j (by lia))
theorem mergeHi_w (hc : Asks prog w A s κ it N lt) {la lb : List Nat} {ar : Array Keyed} {pend : Array (Nat × Nat × Nat)} {g : Nat} {Q : Array Keyed → SortSt → Prop} (T : Two N lt la lb)
    (hq : ∀ res g', MgF it lt la lb res → Q res (SortSt.mk' κ ar pend g' none)) : wpS (model prog w) A E s (mergeHi' (arrIt it la) (arrIt it lb)) Q (SortSt.mk' κ ar pend g none) := by
  have ox := T.ord.lx
  rw [mergeHi'_eq]
  rw [arrIt_size, arrIt_size]
  have hla := T.ha
  have hlb := T.hb
  refine wpS_bind (wpS_lift (wpAny_rule ⟨rfl, ?_⟩))
  refine wpS_bind (elem_w (i := la.length - 1) (by omega) ?_)
  have h0 : MhA it lt la lb #[kas_item it (gL la (la.length - 1))] (la.length - 1) lb.length := by
    have e : MhA it lt la lb #[] la.length lb.length := ⟨[], rfl, ⟨Nat.le_refl _, Nat.le_refl _, by simp, List.Pairwise.nil, fun x hx => (by cases hx), fun x hx => (by cases hx)⟩⟩
    exact e.pushA T T.ha (fun j h1 => ox.asym _ _ (lx_of (T.last j h1)))
  refine wpS_ite (fun h1 => wpS_pure (hq _ _ (h0.done T (.inl (by simpa using h1))))) (fun h1 => ?_)
  refine wpS_ite (fun h2 => wpS_pure (hq _ _ (h0.firstB T (by simpa using h2)))) (fun h2 => ?_)
  refine wpS_bind (wpS_get ?_)
  have i1 : 0 < la.length - 1 := by simp at h1; lia
  have i2 : 1 < lb.length := by simp at h2; lia
  refine wpS_bind (wpS_mono (wpS_forRange
    (I := fun x c st' => ∃ g out na nb mg, c = (none, na, nb, out, mg) ∧ st' = SortSt.mk' κ ar pend g none ∧ MhA it lt la lb out na nb ∧ 0 < na ∧ 1 < nb ∧ x + 1 + (na + nb) ≤ la.length + lb.length)
    (Q := fun c st' => ∃ g res x, c = (some res, x) ∧ st' = SortSt.mk' κ ar pend g none ∧ MgF it lt la lb res) ?step ?fin ⟨_, _, la.length - 1, lb.length, _, rfl, rfl, h0, i1, i2, by lia⟩) ?post)
  case post =>
    rintro c st' ⟨g, res, x, rfl, rfl, hf⟩
    exact wpS_pure (hq _ _ hf)
  case fin =>
    rintro c st' ⟨g, out, na, nb, mg, rfl, rfl, a1, a2, a3, a4⟩
    (clear a3 a2 a1 i2 i1 h2 h1 h0 hlb hla ox hq T hc; lia)
  case step =>
    rintro x c st' z0 hx ⟨g0, out0, na0, nb0, mg0, rfl, rfl, o1, o2, o3, o4⟩
    clear h0 h1 h2 i1 i2 z0 hla hlb
    refine wpS_bind (wpS_mono (wpS_forRange
      (I := fun y c st' => ∃ g out na nb ac bc, c = (none, na, nb, out, ac, bc) ∧ st' = SortSt.mk' κ ar pend g none ∧ MhA it lt la lb out na nb ∧ 0 < na ∧ 1 < nb ∧ x + 1 + (na + nb) ≤ la.length + lb.length)
      (Q := fun c st' => (∃ g res y, c = (some res, y) ∧ st' = SortSt.mk' κ ar pend g none ∧ MgF it lt la lb res) ∨ (∃ g out na nb ac bc, c = (none, na, nb, out, ac, bc) ∧ st' = SortSt.mk' κ ar pend g none ∧ MhA it lt la lb out na nb ∧ 0 < na ∧ 1 < nb ∧ x + 1 + (na + nb) ≤ la.length + lb.length))
      ?step1 (fun c st' h => .inr h) ⟨g0, out0, na0, nb0, 0, 0, rfl, rfl, o1, o2, o3, o4⟩) ?post1)
    case step1 =>
      rintro y c st' z1 hy ⟨g, out, na, nb, ac, bc, rfl, rfl, a1, a2, a3, a4⟩
      clear hx hy z1 o1 o2 o3 o4
      have hl := a1.le
      refine wpS_bind (elem_w (i := nb - 1) (by omega) ?_)
      refine wpS_bind (elem_w (i := na - 1) (by omega) ?_)
      refine wpS_bind (lt_w hc rfl (T.nb (nb - 1) (by omega)) (T.na (na - 1) (by omega)) ?_)
      refine wpS_ite (fun hw => ?_) (fun hw => ?_)
      · have hM := a1.pushA T a2 (fun j h1 => ox.trans _ _ _ (T.sb j (nb - 1) (by lia) (by omega)) (ox.asym _ _ (lx_of hw)))
        refine wpS_bind (elem_w (i := na - 1) (by omega) ?_)
        refine wpS_ite (fun e => wpS_pure (.inl ⟨_, _, _, rfl, rfl, hM.done T (.inl (by simpa using e))⟩)) (fun e => ?_)
        have e' : 0 < na - 1 := by simp at e; lia
        exact wpS_ite (fun _ => wpS_pure (.inr ⟨_, _, na - 1, nb, _, _, rfl, rfl, hM, e', a3, by lia⟩)) (fun _ => wpS_pure ⟨_, _, na - 1, nb, _, _, rfl, rfl, hM, e', a3, by lia⟩)
      · have hw' : lt (gL lb (nb - 1)) (gL la (na - 1)) = false := by simpa using hw
        have hM := a1.pushB T (by lia) (fun j h1 => ox.trans _ _ _ (T.sa j (na - 1) (by (clear hw' hw hl a4 a3 a1 ox hq T hc; omega)) (by omega)) ((T.ask (by omega) (by omega)).trans hw'))
        refine wpS_bind (elem_w (i := nb - 1) (by omega) ?_)
        refine wpS_ite (fun e => wpS_pure (.inl ⟨_, _, _, rfl, rfl, hM.firstB T (by simpa using e)⟩)) (fun e => ?_)
        have e' : 1 < nb - 1 := by simp at e; lia
        exact wpS_ite (fun _ => wpS_pure (.inr ⟨_, _, na, nb - 1, _, _, rfl, rfl, hM, a2, e', by lia⟩)) (fun _ => wpS_pure ⟨_, _, na, nb - 1, _, _, rfl, rfl, hM, a2, e', by lia⟩)
    case post1 =>
      rintro c st' (⟨g, res, y, rfl, rfl, hf⟩ | ⟨g, out, na, nb, ac, bc, rfl, rfl, b1, b2, b3, b4⟩)
      · exact wpS_pure ⟨_, _, _, rfl, rfl, hf⟩
      refine wpS_bind (wpS_lift (wpAny_rule ⟨rfl, ?_⟩))
      refine wpS_bind (wpS_mono (wpS_forRange
        (I := fun y c st' => ∃ g out na nb mg ac bc, c = (none, na, nb, out, mg, ac, bc) ∧ st' = SortSt.mk' κ ar pend g none ∧ MhA it lt la lb out na nb ∧ 0 < na ∧ 1 < nb ∧ x + 1 + (na + nb) ≤ la.length + lb.length ∧ (0 < y → x + 1 + 1 + (na + nb) ≤ la.length + lb.length))
        (Q := fun c st' => (∃ g res y, c = (some res, y) ∧ st' = SortSt.mk' κ ar pend g none ∧ MgF it lt la lb res) ∨ (∃ g out na nb mg ac bc, c = (none, na, nb, out, mg, ac, bc) ∧ st' = SortSt.mk' κ ar pend g none ∧ MhA it lt la lb out na nb ∧ 0 < na ∧ 1 < nb ∧ x + 1 + 1 + (na + nb) ≤ la.length + lb.length))
        ?step2 ?fin2 ⟨g, out, na, nb, _, ac, bc, rfl, rfl, b1, b2, b3, b4, fun h => absurd h (Nat.lt_irrefl _)⟩) ?post2)
      case fin2 =>
        rintro c st' ⟨g, out, na, nb, mg, ac, bc, rfl, rfl, a1, a2, a3, a4, a5⟩
        exact .inr ⟨_, _, _, _, _, _, _, rfl, rfl, a1, a2, a3, a5 (by (clear a5 a4 a3 a2 a1 b4 b3 b2 b1 o4 o3 o2 o1 ox hq T hc; lia))⟩
      case post2 =>
        rintro c st' (⟨g, res, y, rfl, rfl, hf⟩ | ⟨g, out, na, nb, mg, ac, bc, rfl, rfl, b1, b2, b3, b4⟩)
        · exact wpS_pure ⟨_, _, _, rfl, rfl, hf⟩
        · exact wpS_bind (setG_w (wpS_pure ⟨_, _, _, _, _, rfl, rfl, b1, b2, b3, b4⟩))
      case step2 =>
        rintro y c st' z1 hy ⟨g, out, na, nb, mg, ac, bc, rfl, rfl, a1, a2, a3, a4, -⟩
        clear hx hy z1 o1 o2 o3 o4 b1 b2 b3 b4
        refine wpS_ite_fun (fun mg => hiRnd it la lb ac bc na nb out mg) (fun mg' => ?_)
        exact hiRnd_w (lim := la.length + lb.length - (x + 1 + 1)) hc T ⟨fun res tl hf => .inl ⟨_, _, _, rfl, rfl, hf⟩, fun na nb out mg ac bc m1 m2 m3 m4 => .inr ⟨_, _, _, _, _, _, _, rfl, rfl, m1, m2, m3, by (clear m3 m2 m1 a3 a1 ox hq T hc; omega)⟩, fun na nb out mg ac bc m1 m2 m3 m4 => ⟨_, _, _, _, _, _, _, rfl, rfl, m1, m2, m3, by (clear m3 m2 m1 a3 a2 a1 ox hq T hc; omega), fun _ => by (clear m3 m2 m1 a3 a1 ox hq T hc; omega)⟩⟩ a1 a2 a3 (by (clear a3 a2 a1 ox hq T hc; omega))
end
end Mine

set_option maxHeartbeats 1000000
namespace Mine
open PySem PySem.W PyProof.Rows

section
variable {prog : Program} {w : World} {A : Around} {E : Value → Shared → Prop} {s : Shared} {κ : SortKind} {it : Array Keyed} {N : Nat} {lt : Nat → Nat → Bool}
noncomputable abbrev sst (κ : SortKind) (it : Array Keyed) (p : Array Nat) (pend : Array (Nat × Nat × Nat)) (g : Nat) : SortSt := SortSt.mk' κ (p.map (kas_item it)) pend g none
theorem sst_get {p : Array Nat} {i : Nat} (hi : i < p.size) : (p.map (kas_item it))[i]? = some (kas_item it (gP p i)) := by
  have e : gP p i = p[i] := by simp [gP, Array.getD, hi]
  rw [e]; simp [hi]
theorem ltAt_w (hc : Asks prog w A s κ it N lt) {p : Array Nat} {pend : Array (Nat × Nat × Nat)} {g i j : Nat} {Q : Option Bool → SortSt → Prop} (hp : In N p) (hi : i < N) (hj : j < N) (hq : Q (some (lt (gP p i) (gP p j))) (sst κ it p pend g)) :
    wpS (model prog w) A E s (ltAt' i j) Q (sst κ it p pend g) := by
  rw [ltAt'_eq]
  refine wpS_bind (wpS_get ?_)
  show wpS _ _ _ _ (do let x ← elem' (p.map (kas_item it)) i; let y ← elem' (p.map (kas_item it)) j; lt' x y) Q _
  rw [elem'_eq, elem'_eq, sst_get (by rw [hp.size]; exact hi), sst_get (by rw [hp.size]; exact hj)]
  refine wpS_bind (wpS_pure (wpS_bind (wpS_pure ?_)))
  exact lt_w hc rfl (hp.bd hi) (hp.bd hj) hq
theorem rev_w {M : Model} {p : Array Nat} {pend : Array (Nat × Nat × Nat)} {g i j : Nat} {Q : Unit → SortSt → Prop} (h : Q () (sst κ it (kas_rev p i j) pend g)) : wpS M A E s (reverseSlice' i j) Q (sst κ it p pend g) := by
  rw [reverseSlice'_eq]
  refine wpS_modify ?_
  have e : mirror (p.map (kas_item it)) i j ((j - i) / 2) = (kas_rev p i j).map (kas_item it) := kas_swaps_map _ _ _ _ _
  show Q () (SortSt.mk' κ (mirror (p.map (kas_item it)) i j ((j - i) / 2)) pend g none)
  rw [e]; exact h
theorem move_w {M : Model} {p : Array Nat} {pend : Array (Nat × Nat × Nat)} {g k l : Nat} {Q : Unit → SortSt → Prop} (h : Q () (sst κ it (bubble p k (k - l)) pend g)) : wpS M A E s (moveDown' k l) Q (sst κ it p pend g) := by
  rw [moveDown'_eq]
  refine wpS_modify ?_
  have e : bubble (p.map (kas_item it)) k (k - l) = (bubble p k (k - l)).map (kas_item it) := kas_swaps_map _ _ _ _ _
  show Q () (SortSt.mk' κ (bubble (p.map (kas_item it)) k (k - l)) pend g none)
  rw [e]; exact h

/-- in order from lo to hi -/
noncomputable def SPw (r : Nat → Nat → Bool) (p : Array Nat) (lo hi : Nat) : Prop := ∀ i j, lo ≤ i → i ≤ j → j < hi → r (gP p j) (gP p i) = false
/-- falling from lo to hi -/
noncomputable def FLw (r : Nat → Nat → Bool) (p : Array Nat) (lo hi : Nat) : Prop := ∀ i j, lo ≤ i → i < j → j < hi → r (gP p j) (gP p i) = true
structure DA (lt : Nat → Nat → Bool) (N lo : Nat) (p : Array Nat) (e q : Nat) : Prop where
  dn : ∀ i j, lo ≤ i → i < j → j < e → i < e - (q + 1) → lx lt (gP p j) (gP p i) = true
  fx : Fx2 N p (e - (q + 1))
  qe : lo + q + 1 ≤ e
  eq : ∀ i, e - (q + 1) ≤ i → i < e → lt (gP p (e - 1)) (gP p i) = false ∧ lt (gP p i) (gP p (e - 1)) = false
variable {p : Array Nat} {lo e q : Nat}
theorem DA.rev (o : Ord lt) (hp : In N p) (he : e ≤ N) (h : DA lt N lo p e q) : FLw (lx lt) (kas_rev p (e - (q + 1)) e) lo e ∧ Fx2 N (kas_rev p (e - (q + 1)) e) e ∧ (∀ m, m < lo → gP (kas_rev p (e - (q + 1)) e) m = gP p m) := by
  have hq := h.qe
  have hget := rev_get (p := p) (i := e - (q + 1)) (j := e) (by rw [hp.size]; lia)
  refine ⟨fun i j hi hij hj => ?_, fun m hm hm' => by rw [hget, if_neg (by lia)]; exact h.fx m (by (clear hm' hget hq h he hp o; omega)) hm', fun m hm => by rw [hget, if_neg (by omega)]⟩
  rw [hget j, hget i]
  by_cases q1 : e - (q + 1) ≤ i
  · rw [if_pos (show e - (q + 1) ≤ j ∧ j < e from ⟨by lia, hj⟩), if_pos (show e - (q + 1) ≤ i ∧ i < e from ⟨q1, by lia⟩)]
    have a := h.eq (e - (q + 1) + e - 1 - i) (by (clear q1 hi hget hq h he hp o; omega)) (by (clear hj hij hi hget h he hp o; omega))
    have b := h.eq (e - (q + 1) + e - 1 - j) (by (clear a q1 hij hi hget hq h he hp o; omega)) (by (clear a hi hget hq h he hp o; omega))
    refine lx_alike (o.trans _ _ _ b.1 a.2) ?_
    rw [h.fx _ (by (clear b a q1 hij hi hget hq h he hp o; omega)) (by omega), h.fx _ (by (clear b a q1 hi hget hq h he hp o; omega)) (by (clear b a hj hij hi hget h hp o; omega))]; (clear b a hi hget hq h he hp o; omega)
  · rw [if_neg (by lia : ¬ (e - (q + 1) ≤ i ∧ i < e))]
    by_cases q2 : e - (q + 1) ≤ j
    · rw [if_pos (show e - (q + 1) ≤ j ∧ j < e from ⟨q2, hj⟩)]; exact h.dn i _ hi (by (clear hij hi hget hq h he hp o; omega)) (by (clear q1 hij hi hget hq h he hp o; omega)) (by lia)
    · rw [if_neg (show ¬ (e - (q + 1) ≤ j ∧ j < e) by lia)]; exact h.dn i j hi hij hj (by lia)
theorem DA.one (o : Ord lt) (hd : FLw (lx lt) p lo e) (hf : Fx2 N p e) (hn : lo + 1 ≤ e) (hc : lt (gP p e) (gP p (e - 1)) = true) : DA lt N lo p (e + 1) 0 where
  dn := fun i j hi hij hj hi2 => by
    by_cases q : j < e
    · exact hd i j hi hij q
    · have : j = e := by lia
      subst this
      refine lx_of ?_
      by_cases q2 : i = j - 1
      · rw [q2]; exact hc
      · have h1 := hd i (j - 1) hi (by lia) (by omega)
        cases h2 : lt (gP p j) (gP p i) with
        | true => rfl
        | false =>
          have h3 := (lx_false.mp ((o.lx).asym _ _ h1)).1
          have h8 : lt (gP p j) (gP p (j - 1)) = false := o.trans (gP p (j - 1)) (gP p i) (gP p j) h3 h2
          rw [hc] at h8; cases h8
  fx := fun m hm hm' => hf m (by lia) hm'
  qe := by lia
  eq := fun i hi hi2 => by
    have : i = e := by lia
    subst this
    exact ⟨o.refl _, o.refl _⟩
theorem DA.more (o : Ord lt) (hp : In N p) (he : e < N) (h : DA lt N lo p e q) (hc : lt (gP p e) (gP p (e - 1)) = false) (hd : lt (gP p (e - 1)) (gP p e) = false) : DA lt N lo p (e + 1) (q + 1) where
  dn := fun i j hi hij hj hi2 => by
    have hq := h.qe
    by_cases q1 : j < e
    · exact h.dn i j hi hij q1 (by lia)
    · have : j = e := by lia
      subst this
      have h3 := h.dn i (j - 1) hi (by (clear q1 hq hj hd hc h he hij hi hp o; omega)) (by omega) (by lia)
      cases h4 : lx lt (gP p j) (gP p i) with
      | true => rfl
      | false =>
        exfalso
        have hfj1 : gP p (j - 1) = j - 1 := h.fx (j - 1) (by omega) (by (clear h4 h3 q1 hq hi2 hj hd hc h hij hi hp o; omega))
        have hil : gP p i < j - (q + 1) := h.fx.lo hp (by lia) (by (clear hfj1 h4 h3 q1 hq hi2 hj hd hc h hij hi hp o; omega))
        have h6 := lx_false.mp h4
        have h7 : lt (gP p (j - 1)) (gP p i) = true := by
          rw [lx_gt (by rw [hfj1]; (clear h6 h4 h3 q1 hq hi2 hj hd hc h he hi hp o; omega))] at h3; exact h3
        have h9 : lt (gP p (j - 1)) (gP p i) = false := o.trans (gP p i) (gP p j) (gP p (j - 1)) h6.1 hd
        rw [h7] at h9; cases h9
  fx := fun m hm hm' => h.fx m (by lia) hm'
  qe := by have := h.qe; lia
  eq := fun i hi hi2 => by
    by_cases q1 : i = e
    · subst q1; exact ⟨o.refl _, o.refl _⟩
    · have := h.eq i (by lia) (by lia)
      exact ⟨o.trans _ _ _ this.1 hc, o.trans _ _ _ hd this.2⟩
theorem FLw.turn (o : Ord lt) (hp : In N p) (hle : lo ≤ e) (he : e ≤ N) (h : FLw (lx lt) p lo e) (hf : Fx2 N p e) : SPw (lx lt) (kas_rev p lo e) lo e ∧ Fx2 N (kas_rev p lo e) e ∧ (∀ m, m < lo → gP (kas_rev p lo e) m = gP p m) := by
  have hget := rev_get (p := p) (i := lo) (j := e) (by rw [hp.size]; lia)
  refine ⟨fun i j hi hij hj => ?_, fun m hm hm' => by rw [hget, if_neg (by lia)]; exact hf m hm hm', fun m hm => by rw [hget, if_neg (by lia)]⟩
  rw [hget, hget, if_pos ⟨by lia, by lia⟩, if_pos ⟨by lia, by lia⟩]
  by_cases q : i = j
  · subst q; exact (o.lx).refl _
  · exact (o.lx).asym _ _ (h _ _ (by (clear q hij hi hget hf h he hle hp o; omega)) (by (clear hi hget hf h he hle hp o; omega)) (by (clear q hij hget hf h he hle hp o; omega)))
theorem SPw.grow (o : Ord lt) (hp : In N p) (he : e < N) (hlo : lo < e) (h : SPw (lx lt) p lo e) (hf : Fx2 N p e) (hc : lt (gP p e) (gP p (e - 1)) = false) : SPw (lx lt) p lo (e + 1) := fun i j hi hij hj => by
  by_cases q : j < e
  · exact h i j hi hij q
  · have : j = e := by lia
    subst this
    by_cases q2 : i = j
    · subst q2; exact (o.lx).refl _
    · refine (o.lx).trans _ _ _ (h i (j - 1) hi (by lia) (by omega)) ?_
      rw [lx_gt (by rw [hf j (Nat.le_refl _) he]; exact Nat.le_of_lt (hf.lo hp (by omega) (by lia)))]
      exact hc
/-- a run counted -/
structure Run (lt : Nat → Nat → Bool) (N lo : Nat) (p0 p : Array Nat) (n : Nat) : Prop where
  in_ : In N p
  sp : SPw (lx lt) p lo (lo + n)
  fx : Fx2 N p (lo + n)
  low : ∀ m, m < lo → gP p m = gP p0 m
noncomputable def cntEnd (lo nrem n₀ : Nat) : StateT SortSt Sem (Option Nat) := do
  let mut n := n₀
  reverseSlice' lo (lo + n)
  for _ in [n:nrem] do
    let some smaller ← ltAt' (lo + n) (lo + n - 1) | return none
    if smaller then break
    n := n + 1
  return some n
noncomputable def cntDesc (lo nrem n₀ : Nat) : StateT SortSt Sem (Option Nat) := do
  let mut n := n₀
  rule "list.sort.descending-run"
  n := n + 1
  let mut neq := 0
  for _ in [n:nrem] do
    let some smaller ← ltAt' (lo + n) (lo + n - 1) | return none
    if smaller then
      if neq > 0 then reverseSlice' (lo + n - (neq + 1)) (lo + n)
      neq := 0
    else
      let some larger ← ltAt' (lo + n - 1) (lo + n) | return none
      if larger then break
      neq := neq + 1
    n := n + 1
  if neq > 0 then reverseSlice' (lo + n - (neq + 1)) (lo + n)
  reverseSlice' lo (lo + n)
  for _ in [n:nrem] do
    let some smaller ← ltAt' (lo + n) (lo + n - 1) | return none
    if smaller then break
    n := n + 1
  return some n
theorem cntEnd_w (hc : Asks prog w A s κ it N lt) (o : Ord lt) {p0 : Array Nat} {pend : Array (Nat × Nat × Nat)} {g nrem x : Nat} {Q : Option Nat → SortSt → Prop} (hn : lo + nrem = N) (h1 : 1 ≤ x) (hxn : x ≤ nrem)
    (c1 : In N p) (c2 : FLw (lx lt) p lo (lo + x)) (c3 : Fx2 N p (lo + x)) (c4 : ∀ m, m < lo → gP p m = gP p0 m)
    (hq : ∀ n p, 1 ≤ n → n ≤ nrem → Run lt N lo p0 p n → Q (some n) (sst κ it p pend g)) : wpS (model prog w) A E s (cntEnd lo nrem x) Q (sst κ it p pend g) := by
  obtain ⟨d1, d2, d3⟩ := c2.turn o c1 (by lia) (by lia) c3
  have c1' := c1.rev lo (lo + x)
  have d4 : ∀ m, m < lo → gP (kas_rev p lo (lo + x)) m = gP p0 m := fun m hm => (d3 m hm).trans (c4 m hm)
  clear c1 c2 c3 c4 d3
  unfold cntEnd
  refine wpS_bind (rev_w ?_)
  generalize kas_rev p lo (lo + x) = p' at *
  refine wpS_bind (wpS_mono (wpS_forRange
    (I := fun y c st' => c = (none, y) ∧ st' = sst κ it p' pend g ∧ x ≤ y ∧ SPw (lx lt) p' lo (lo + y))
    (Q := fun c st' => ∃ y, c = (none, y) ∧ st' = sst κ it p' pend g ∧ x ≤ y ∧ y ≤ nrem ∧ SPw (lx lt) p' lo (lo + y)) ?_ ?_ ⟨rfl, rfl, Nat.le_refl _, d1⟩) ?_)
  · rintro y c st' hy1 hy ⟨rfl, rfl, hxy, hs'⟩
    refine wpS_bind (ltAt_w (i := lo + y) (j := lo + y - 1) hc c1' (by lia) (by (clear hs' hxy hy1 d4 c1' d2 d1 hq hxn h1 o hc; omega)) ?_)
    refine wpS_ite (fun hw => wpS_pure ⟨y, rfl, rfl, hxy, by lia, hs'⟩) (fun hw => wpS_pure ⟨rfl, rfl, by lia, ?_⟩)
    exact hs'.grow (e := lo + y) o c1' (by lia) (by lia) (fun m hm hm' => d2 m (by lia) hm') (by simpa using hw)
  · rintro c st' ⟨rfl, rfl, hxy, hs'⟩
    exact ⟨max x nrem, rfl, rfl, hxy, by lia, hs'⟩
  · rintro c st' ⟨y, rfl, rfl, hxy, hyn, hs'⟩
    exact wpS_pure (hq y p' (by lia) hyn ⟨c1', hs', fun m hm hm' => d2 m (by lia) hm', d4⟩)
theorem cntDesc_w (hc : Asks prog w A s κ it N lt) (o : Ord lt) {p0 p1 : Array Nat} {pend : Array (Nat × Nat × Nat)} {g nrem n : Nat} {Q : Option Nat → SortSt → Prop} (hn : lo + nrem = N) (hn1 : 1 ≤ n) (hlt : n < nrem)
    (hp1 : In N p1) (hF1 : FLw (lx lt) p1 lo (lo + n)) (hx1 : Fx2 N p1 (lo + n)) (hlow1 : ∀ m, m < lo → gP p1 m = gP p0 m) (hc1 : lt (gP p1 (lo + n)) (gP p1 (lo + n - 1)) = true)
    (hq : ∀ n p, 1 ≤ n → n ≤ nrem → Run lt N lo p0 p n → Q (some n) (sst κ it p pend g)) : wpS (model prog w) A E s (cntDesc lo nrem n) Q (sst κ it p1 pend g) := by
  unfold cntDesc
  refine wpS_bind (wpS_lift (wpAny_rule ⟨rfl, ?_⟩))
  have hDA := DA.one o hF1 hx1 (by lia) hc1
  clear hF1 hx1 hc1
  refine wpS_bind (wpS_mono (wpS_forRange
    (I := fun x c st' => ∃ p q, c = (none, x, q) ∧ st' = sst κ it p pend g ∧ x ≤ nrem ∧ In N p ∧ DA lt N lo p (lo + x) q ∧ (∀ m, m < lo → gP p m = gP p0 m))
    (Q := fun c st' => ∃ p x q, c = (none, x, q) ∧ st' = sst κ it p pend g ∧ n + 1 ≤ x ∧ x ≤ nrem ∧ In N p ∧ DA lt N lo p (lo + x) q ∧ (∀ m, m < lo → gP p m = gP p0 m)) ?_ ?_ ⟨p1, 0, rfl, rfl, hlt, hp1, hDA, hlow1⟩) ?_)
  · rintro x c st' hx1 hx ⟨p, q, rfl, rfl, hxn, b1, b2, b3⟩
    clear hDA hlow1 hp1
    refine wpS_bind (ltAt_w (i := lo + x) (j := lo + x - 1) hc b1 (by lia) (by (clear b3 b2 b1 hxn hx1 hq hlt hn1 o hc; omega)) ?_)
    refine wpS_ite (fun hw => ?_) (fun hw => ?_)
    · refine wpS_ite (fun hq0 => ?_) (fun hq0 => ?_)
      · obtain ⟨r1, r2, r3⟩ := b2.rev o b1 (by lia)
        have hqe := b2.qe
        have hwr : lt (gP (kas_rev p (lo + x - (q + 1)) (lo + x)) (lo + x)) (gP (kas_rev p (lo + x - (q + 1)) (lo + x)) (lo + x - 1)) = true := by
          have hget := rev_get (p := p) (i := lo + x - (q + 1)) (j := lo + x) (by rw [b1.size]; lia)
          rw [hget, hget, if_neg (by lia), if_pos ⟨by (clear hget r3 r2 r1 hq0 hw b3 b2 b1 hxn hx hx1 hq hlt hn1 hn o hc; omega), by (clear hget hqe r3 r2 r1 hq0 hw b3 b2 b1 hxn hx hq hlt hn o hc; omega)⟩]
          have a := b2.eq (lo + x - (q + 1) + (lo + x) - 1 - (lo + x - 1)) (by (clear hget hqe r3 r2 r1 hq0 hw b3 b2 b1 hxn hx hq hlt hn1 o hc; omega)) (by (clear hget r3 r2 r1 hq0 hw b3 b2 b1 hxn hx hx1 hq hlt hn1 hn o hc; omega))
          cases h3 : lt (gP p (lo + x)) (gP p (lo + x - (q + 1) + (lo + x) - 1 - (lo + x - 1))) with
          | true => rfl
          | false =>
            have := o.trans _ _ _ a.2 h3
            have hc' : lt (gP p (lo + x)) (gP p (lo + x - 1)) = true := hw
            rw [hc'] at this; cases this
        refine wpS_bind (rev_w (wpS_pure ⟨_, 0, rfl, rfl, hx, b1.rev _ _, DA.one (e := lo + x) o r1 r2 (by (clear hwr r3 r2 r1 hq0 hw b3 b2 b1 hxn hx hx1 hq hlt hn1 hn o hc; lia)) hwr, fun m hm => (r3 m hm).trans (b3 m hm)⟩))
      · have hq00 : q = 0 := Nat.eq_zero_of_not_pos hq0
        subst hq00
        exact wpS_pure ⟨p, 0, rfl, rfl, hx, b1, DA.one (e := lo + x) o (fun i j hi hij hj => b2.dn i j hi hij hj (by (clear hi hq0 b2 hw b3 b1 hxn hx hx1 hq hlt hn1 hn o hc; omega))) (fun m hm hm' => b2.fx m (by (clear hm' hq0 b2 hw b3 b1 hxn hx hx1 hq hlt hn1 hn o hc; omega)) hm') (by lia) hw, b3⟩
    · refine wpS_bind (ltAt_w (i := lo + x - 1) (j := lo + x) hc b1 (by (clear hw b3 b2 b1 hxn hx1 hq hlt hn1 o hc; omega)) (by lia) ?_)
      refine wpS_ite (fun hw2 => wpS_pure ⟨p, x, q, rfl, rfl, hx1, hxn, b1, b2, b3⟩) (fun hw2 => wpS_pure ⟨p, q + 1, rfl, rfl, hx, b1, DA.more (e := lo + x) o b1 (by lia) b2 (by simpa using hw) (by simpa using hw2), b3⟩)
  · rintro c st' ⟨p, q, rfl, rfl, hxn, b1, b2, b3⟩
    exact ⟨p, _, q, rfl, rfl, by lia, hxn, b1, b2, b3⟩
  · rintro c st' ⟨p, x, q, rfl, rfl, hx1, hxn, b1, b2, b3⟩
    clear hDA hlow1 hp1
    refine wpS_ite (fun hq0 => wpS_bind (rev_w ?_)) (fun hq0 => ?_)
    · obtain ⟨r1, r2, r3⟩ := b2.rev o b1 (by lia)
      exact cntEnd_w (x := x) hc o hn (by lia) hxn (b1.rev _ _) r1 r2 (fun m hm => (r3 m hm).trans (b3 m hm)) hq
    · have hq00 : q = 0 := Nat.eq_zero_of_not_pos hq0
      subst hq00
      exact cntEnd_w (x := x) hc o hn (by lia) hxn b1 (fun i j hi hij hj => b2.dn i j hi hij hj (by (clear hi hq0 b2 b3 b1 hxn hx1 hq hlt hn1 hn o hc; omega))) (fun m hm hm' => b2.fx m (by (clear hm' hq0 b2 b3 b1 hxn hx1 hq hlt hn1 hn o hc; omega)) hm') b3 hq
theorem count_w (hc : Asks prog w A s κ it N lt) (o : Ord lt) {p0 : Array Nat} {pend : Array (Nat × Nat × Nat)} {g nrem : Nat} {Q : Option Nat → SortSt → Prop} (hp : In N p0) (hf : Fx2 N p0 lo) (hn : lo + nrem = N) (h1 : 1 ≤ nrem)
    (hq : ∀ n p, 1 ≤ n → n ≤ nrem → Run lt N lo p0 p n → Q (some n) (sst κ it p pend g)) : wpS (model prog w) A E s (countRun' lo nrem) Q (sst κ it p0 pend g) := by
  have ox := o.lx
  rw [countRun'_eq]
  refine wpS_bind (wpS_mono (wpS_forRange
    (I := fun x c st' => c = (none, x) ∧ st' = sst κ it p0 pend g ∧ SPw (lx lt) p0 lo (lo + x))
    (Q := fun c st' => ∃ n, c = (none, n) ∧ st' = sst κ it p0 pend g ∧ 1 ≤ n ∧ n ≤ nrem ∧ SPw (lx lt) p0 lo (lo + n) ∧ (n < nrem → lt (gP p0 (lo + n)) (gP p0 (lo + n - 1)) = true)) ?step1 ?fin1 ⟨rfl, rfl, ?init1⟩) ?post1)
  case init1 =>
    intro i j hi hij hj
    have : i = j := by lia
    subst this; exact ox.refl _
  case fin1 =>
    rintro c st' ⟨rfl, rfl, hs⟩
    exact ⟨_, rfl, rfl, by lia, by lia, hs, fun h => by lia⟩
  case step1 =>
    rintro x c st' hx1 hx ⟨rfl, rfl, hs⟩
    refine wpS_bind (ltAt_w (i := lo + x) (j := lo + x - 1) hc hp (by lia) (by (clear hs hx1 ox hq h1 hf hp o hc; omega)) ?_)
    refine wpS_ite (fun hw => wpS_pure ⟨x, rfl, rfl, hx1, by lia, hs, fun _ => hw⟩) (fun hw => wpS_pure ⟨rfl, rfl, ?_⟩)
    exact hs.grow (e := lo + x) o hp (by lia) (by lia) (fun m hm hm' => hf m (by lia) hm') (by simpa using hw)
  case post1 =>
    rintro c st' ⟨n, rfl, rfl, hn1, hn2, hs, hst⟩
    have hfn : Fx2 N p0 (lo + n) := fun m hm hm' => hf m (by lia) hm'
    refine wpS_ite (fun e => wpS_pure (hq n p0 hn1 hn2 ⟨hp, hs, hfn, fun m _ => rfl⟩)) (fun e => ?_)
    have hlt : n < nrem := by simp at e; lia
    have hst := hst hlt
    have hge : lo + n < N := by omega
    refine wpS_ite (fun h2 => wpS_bind (ltAt_w (i := lo) (j := lo + n - 1) hc hp (by omega) (by omega) (wpS_ite (fun hr => wpS_pure (hq n p0 hn1 hn2 ⟨hp, hs, hfn, fun m _ => rfl⟩)) (fun hr => wpS_bind (rev_w ?_))))) (fun h2 => ?_)
    · have hr' : lt (gP p0 lo) (gP p0 (lo + n - 1)) = false := by simpa using hr
      have hget := rev_get (p := p0) (i := lo) (j := lo + n) (by rw [hp.size]; omega)
      have hsp : ∀ i j, lo ≤ i → i ≤ j → j < lo + n → lt (gP p0 j) (gP p0 i) = false := fun i j a b c => (lx_false.mp (hs i j a b c)).1
      have hall : ∀ i j, lo ≤ i → i < lo + n → lo ≤ j → j < lo + n → lt (gP p0 i) (gP p0 j) = false := fun i j hi hi' hj hj' => by
        exact o.trans _ _ _ (o.trans _ _ _ (hsp j (lo + n - 1) hj (by omega) (by omega)) hr') (hsp lo i (Nat.le_refl _) hi hi')
      refine cntDesc_w hc o hn hn1 hlt (hp.rev _ _) (fun i j hi hij hj => ?_) (fun m hm hm' => by rw [hget, if_neg (by omega)]; exact hf m (by omega) hm') (fun m hm => by rw [hget, if_neg (by omega)]) ?_ hq
      · rw [hget, hget, if_pos ⟨by lia, by lia⟩, if_pos ⟨by lia, by lia⟩]
        refine lx_alike (hall _ _ (by omega) (by omega) (by omega) (by omega)) ?_
        rw [hf _ (by omega) (by omega), hf _ (by omega) (by omega)]; omega
      · rw [hget, hget, if_neg (by omega), if_pos ⟨by omega, by omega⟩, show lo + (lo + n) - 1 - (lo + n - 1) = lo by omega]
        cases h3 : lt (gP p0 (lo + n)) (gP p0 lo) with
        | true => rfl
        | false =>
          have := o.trans _ _ _ hr' h3
          rw [hst] at this; cases this
    · have h2' : ¬ n > 1 := h2
      exact cntDesc_w hc o hn hn1 hlt hp (fun i j hi hij hj => by omega) hfn (fun m hm => rfl) hst hq
theorem bin_w (hc : Asks prog w A s κ it N lt) (o : Ord lt) {p0 : Array Nat} {pend : Array (Nat × Nat × Nat)} {g n ok : Nat} {Q : Bool → SortSt → Prop} (h1 : 1 ≤ ok) (hok : ok ≤ n) (hn : lo + n ≤ N) (hr : Run lt N lo p0 p0 ok)
    (hq : ∀ p, Run lt N lo p0 p n → Q true (sst κ it p pend g)) : wpS (model prog w) A E s (binarySort' lo n ok) Q (sst κ it p0 pend g) := by
  have ox := o.lx
  rw [binarySort'_eq]
  refine wpS_bind (wpS_mono (wpS_forRange
    (I := fun k c st' => c = (none, ()) ∧ ∃ p, st' = sst κ it p pend g ∧ Run lt N lo p0 p k)
    (Q := fun c st' => c = (none, ()) ∧ ∃ p, st' = sst κ it p pend g ∧ Run lt N lo p0 p n) ?step ?fin ⟨rfl, p0, rfl, by rw [show max ok 1 = ok by lia]; exact hr⟩) ?post)
  case post =>
    rintro c st' ⟨rfl, p, rfl, h⟩
    exact wpS_pure (hq p h)
  case fin =>
    rintro c st' ⟨rfl, p, rfl, h⟩
    exact ⟨rfl, p, rfl, by rwa [show max (max ok 1) n = n by lia] at h⟩
  case step =>
    rintro k c st' hk1 hk ⟨rfl, p, rfl, R⟩
    have hp := R.in_
    refine wpS_bind (wpS_mono (wpS_forRange
      (I := fun x c st' => st' = sst κ it p pend g ∧ ∃ l r, c = (none, l, r) ∧ l ≤ r ∧ r ≤ k ∧ r - l ≤ k - x ∧ (∀ i, i < l → lx lt (gP p (lo + k)) (gP p (lo + i)) = false) ∧ (∀ i, r ≤ i → i < k → lx lt (gP p (lo + k)) (gP p (lo + i)) = true))
      (Q := fun c st' => st' = sst κ it p pend g ∧ ∃ l r, c = (none, l, r) ∧ l ≤ k ∧ (∀ i, i < l → lx lt (gP p (lo + k)) (gP p (lo + i)) = false) ∧ (∀ i, l ≤ i → i < k → lx lt (gP p (lo + k)) (gP p (lo + i)) = true)) ?istep ?ifin ⟨rfl, 0, k, rfl, by lia, by lia, by lia, fun i hi => by lia, fun i h1 h2 => by (clear hp R hk hk1 ox hq hr hn hok o hc; omega)⟩) ?ipost)
    case ifin =>
      rintro c st' ⟨rfl, l, r, rfl, a1, a2, a3, a4, a5⟩
      have : l = r := by lia
      subst this
      exact ⟨rfl, l, l, rfl, a2, a4, a5⟩
    case istep =>
      rintro x c st' _ hx ⟨rfl, l, r, rfl, a1, a2, a3, a4, a5⟩
      refine wpS_ite (fun hge => ?_) (fun hge => ?_)
      · have hge' : l ≥ r := hge
        have : l = r := by lia
        subst this
        exact wpS_pure ⟨rfl, l, l, rfl, a2, a4, a5⟩
      · have hge' : ¬ l ≥ r := hge
        refine wpS_bind (ltAt_w (i := lo + k) (j := lo + (l + r) / 2) hc hp (by lia) (by (clear hge' hge a5 a4 a3 hx hp R hk1 ox hq hr hok h1 o hc; lia)) ?_)
        have hlx : lx lt (gP p (lo + k)) (gP p (lo + (l + r) / 2)) = lt (gP p (lo + k)) (gP p (lo + (l + r) / 2)) := lx_gt (by rw [R.fx (lo + k) (Nat.le_refl _) (by lia)]; exact Nat.le_of_lt (R.fx.lo hp (by (clear hge a5 a4 a3 a1 hx hp R hk hk1 ox hq hr hn hok h1 o hc; lia)) (by lia)))
        refine wpS_ite (fun hw => wpS_pure ⟨rfl, l, (l + r) / 2, rfl, by (clear hw hlx hge' hge a5 a4 a3 a2 hx hp R hk hk1 ox hq hr hn hok h1 o hc; lia), by (clear hw hlx hge' hge a5 a4 a3 hx hp R hk hk1 ox hq hr hn hok h1 o hc; lia), by (clear hw hlx hge' hge a5 a4 a2 a1 hp R hk ox hq hr hok h1 o hc; omega), a4, fun i h1 h2 => ?_⟩) (fun hw => wpS_pure ⟨rfl, (l + r) / 2 + 1, r, rfl, by (clear hw hlx hge a5 a4 a3 a2 a1 hx hp R hk hk1 ox hq hr hn hok h1 o hc; lia), by lia, by (clear hw hlx hge' hge a5 a4 a2 a1 hp R hk ox hq hr hok h1 o hc; omega), fun i h1 => ?_, a5⟩)
        · have hw' : lt (gP p (lo + k)) (gP p (lo + (l + r) / 2)) = true := hw
          cases q : lx lt (gP p (lo + k)) (gP p (lo + i)) with
          | true => rfl
          | false =>
            have h6 := R.sp (lo + (l + r) / 2) (lo + i) (by lia) (by lia) (by lia)
            have := ox.trans _ _ _ h6 q
            rw [hlx, hw'] at this; cases this
        · have hw' : lt (gP p (lo + k)) (gP p (lo + (l + r) / 2)) = false := by simpa using hw
          exact ox.trans _ _ _ (R.sp (lo + i) (lo + (l + r) / 2) (by omega) (by omega) (by omega)) (hlx.trans hw')
    case ipost =>
      rintro c st' ⟨rfl, l, r, rfl, a1, a2, a3⟩
      refine wpS_bind (move_w (k := lo + k) (l := lo + l) (wpS_pure ⟨rfl, _, rfl, ?_⟩))
      have hget : ∀ i, gP (bubble p (lo + k) (lo + k - (lo + l))) i = if i = lo + l then gP p (lo + k) else if lo + l < i ∧ i ≤ lo + k then gP p (i - 1) else gP p i := fun i => by
        have := getElem?_bubble (xs := p) (src := lo + k) (by rw [hp.size]; lia) (lo + k - (lo + l)) (by (clear a3 a2 a1 hp R hk hk1 ox hq hr hn hok h1 o hc; omega)) i
        rw [show lo + k - (lo + k - (lo + l)) = lo + l by (clear this a3 a2 hp R hk hk1 ox hq hr hok h1 o hc; omega)] at this
        split
        · rename_i h; rw [if_pos h] at this; exact gP_of this
        · rename_i h
          rw [if_neg h] at this
          split
          · rename_i h'; rw [if_pos h'] at this; exact gP_of this
          · rename_i h'; rw [if_neg h'] at this; exact gP_of this
      have a2' : ∀ j, lo ≤ j → j < lo + l → lx lt (gP p (lo + k)) (gP p j) = false := fun j h1 h2 => by
        have := a2 (j - lo) (by (clear hget a3 a2 a1 hp R hk hk1 ox hq hr hok o hc; lia))
        rwa [show lo + (j - lo) = j by lia] at this
      have a3' : ∀ j, lo + l ≤ j → j < lo + k → lx lt (gP p (lo + k)) (gP p j) = true := fun j h1 h2 => by
        have := a3 (j - lo) (by lia) (by omega)
        rwa [show lo + (j - lo) = j by lia] at this
      refine ⟨⟨by rw [bubble_size, hp.size], (Array.perm_iff_toList_perm.mp (bubble_perm p _ _)).trans hp.perm⟩, fun i j hi hij hj => ?_, fun m hm hm' => by rw [hget, if_neg (by lia), if_neg (by lia)]; exact R.fx m (by lia) hm', fun m hm => by rw [hget, if_neg (by lia), if_neg (by lia)]; exact R.low m hm⟩
      rw [hget, hget]
      by_cases j1 : j = lo + l
      · rw [if_pos j1]
        by_cases i1 : i = lo + l
        · rw [if_pos i1]; exact ox.refl _
        · rw [if_neg i1, if_neg (by (clear i1 hj hi a3' a2' hget a3 a2 hp R hk hk1 ox hq hr hn hok h1 o hc; lia))]; exact a2' i hi (by lia)
      · rw [if_neg j1]
        by_cases j2 : lo + l < j ∧ j ≤ lo + k
        · rw [if_pos j2]
          by_cases i1 : i = lo + l
          · rw [if_pos i1]; exact ox.asym _ _ (a3' (j - 1) (by (clear i1 j1 hj hij hi a3' a2' hget a3 a2 a1 hp R hk hk1 ox hq hr hn hok h1 o hc; omega)) (by (clear i1 j1 hj hij hi a3' a2' hget a3 a2 a1 hp R hk hk1 ox hq hr hn hok h1 o hc; omega)))
          · rw [if_neg i1]
            by_cases i2 : lo + l < i ∧ i ≤ lo + k
            · rw [if_pos i2]; exact R.sp _ _ (by (clear i1 j2 j1 hj hij hi a3' a2' hget a3 a2 a1 hp R hk hk1 ox hq hr hn hok h1 o hc; omega)) (by (clear i2 i1 j2 j1 hj a3' a2' hget a3 a2 a1 hp R hk hk1 ox hq hr hn hok h1 o hc; omega)) (by (clear i2 i1 j1 hj hij hi a3' a2' hget a3 a2 a1 hp R hk hk1 ox hq hr hn hok h1 o hc; omega))
            · rw [if_neg i2]; exact R.sp _ _ (by lia) (by (clear i1 j1 hj hi a3' a2' hget a3 a2 a1 hp R hk hk1 ox hq hr hn hok h1 o hc; lia)) (by (clear i2 i1 j1 hj hij hi a3' a2' hget a3 a2 a1 hp R hk hk1 ox hq hr hn hok h1 o hc; omega))
        · rw [if_neg j2, if_neg (by lia), if_neg (by (clear j1 hi a3' a2' hget a3 a2 hp R hk hk1 ox hq hr hok h1 o hc; lia))]; exact R.sp i j hi hij (by lia)
end
end Mine

set_option maxHeartbeats 1000000
namespace Mine
open PySem PySem.W PyProof.Rows

theorem mergeAt'_eq (i : Nat) : mergeAt' i = (do
  let s ← get
  let (some (sa, na, power), some (sb, nb, _)) := ((pendingOf s)[i]?, (pendingOf s)[i + 1]?) | unsupported "internal:list.sort.pending"
  set (setPending s (((pendingOf s).setIfInBounds i (sa, na + nb, power)).eraseIdxIfInBounds (i + 1)))
  let some k ← gallop' false (← elem' (arrOf s) sb) (arrOf s) sa na 0 | return false
  let (sa, na) := (sa + k, na - k)
  if na == 0 then return true
  let some nb ← gallop' true (← elem' (arrOf s) (sa + na - 1)) (arrOf s) sb nb (nb - 1) | return false
  if nb == 0 then return true
  let x := (arrOf s).extract sa sb
  let y := (arrOf s).extract sb (sb + nb)
  let merged ← if na ≤ nb then mergeLo' x y else mergeHi' x y
  modify fun s => setArr s (merged.toList.zipIdx.foldl (fun a (p, j) => a.setIfInBounds (sa + j) p) (arrOf s))
  return (failedOf (← get)).isNone) := rfl

theorem laid_get {α : Type} (c : Nat) : ∀ (l : List α) (n : Nat) (arr : Array α), c + n + l.length ≤ arr.size → ∀ i, ((l.zipIdx n).foldl (fun (a : Array α) (x : α × Nat) => a.setIfInBounds (c + x.2) x.1) arr)[i]? = if c + n ≤ i ∧ i < c + n + l.length then l[i - (c + n)]? else arr[i]?
  | [], n, arr, h, i => by
    rw [if_neg (by simp)]; rfl
  | x :: l, n, arr, h, i => by
    simp only [List.length_cons] at h ⊢
    rw [List.zipIdx_cons, List.foldl_cons, laid_get c l (n + 1) _ (by rw [Array.size_setIfInBounds]; lia) i]
    by_cases h1 : c + (n + 1) ≤ i ∧ i < c + (n + 1) + l.length
    · rw [if_pos h1, if_pos (by lia), show i - (c + n) = (i - (c + (n + 1))) + 1 by lia, List.getElem?_cons_succ]
    · rw [if_neg h1, Array.getElem?_setIfInBounds]
      by_cases h2 : c + n = i
      · subst h2
        rw [if_pos rfl, if_pos (by lia), if_pos (by lia)]
        simp
      · rw [if_neg h2, if_neg (by lia)]
theorem laid_eq {it : Array Keyed} {L m : List Nat} {c : Nat} (h : c + m.length ≤ L.length) : (arrIt it m).toList.zipIdx.foldl (fun (a : Array Keyed) (x : Keyed × Nat) => a.setIfInBounds (c + x.2) x.1) (arrIt it L) = arrIt it (L.take c ++ m ++ L.drop (c + m.length)) := by
  apply Array.ext_getElem?
  intro i
  rw [laid_get c _ 0 _ (by simpa using h)]
  simp only [Nat.add_zero, List.toList_toArray, List.length_map, List.getElem?_toArray, List.getElem?_map]
  by_cases h1 : c ≤ i ∧ i < c + m.length
  · rw [if_pos h1, List.append_assoc, List.getElem?_append_right (by simp; lia), List.getElem?_append_left (by simp; omega)]
    congr 2
    simp; omega
  · rw [if_neg h1]
    congr 1
    by_cases h2 : i < c
    · rw [List.append_assoc, List.getElem?_append_left (by simp; lia), List.getElem?_take_of_lt h2]
    · rw [List.getElem?_append_right (by simp; lia), List.getElem?_drop]
      congr 1
      simp; lia

section
variable {prog : Program} {w : World} {A : Around} {E : Value → Shared → Prop} {s : Shared} {κ : SortKind} {it : Array Keyed} {N : Nat} {lt : Nat → Nat → Bool}
theorem map_arrIt (p : Array Nat) : p.map (kas_item it) = arrIt it p.toList := by
  apply Array.toList_inj.mp; simp [arrIt]
theorem gL_toList (p : Array Nat) (i : Nat) : gL p.toList i = gP p i := by
  simp [gL, gP, Array.getD_eq_getD_getElem?]
/-- two runs, side by side -/
structure Runs2 (lt : Nat → Nat → Bool) (N n1 : Nat) (p : Array Nat) : Prop where
  in_ : In N p
  le : n1 < N
  pos : 0 < n1
  s1 : SPw (lx lt) p 0 n1
  s2 : SPw (lx lt) p n1 N
  lo : ∀ i, i < n1 → gP p i < n1
  hi : ∀ i, n1 ≤ i → i < N → n1 ≤ gP p i
theorem gL_seg {p : Array Nat} {c n i : Nat} (h : c + i < p.size) (hi : i < n) : gL ((p.toList.drop c).take n) i = gP p (c + i) := by
  rw [← gL_toList]
  simp [gL, hi]
theorem wpS_set {M : Model} {σ : Type} {st st' : σ} {Q : PUnit → σ → Prop} (h : Q ⟨⟩ st') : wpS M A E s (set st' : StateT σ Sem PUnit) Q st := by
  unfold wpS; rw [StateT.run_set]; exact wpAny_pure ⟨rfl, h⟩
theorem pend_two (a b c : Nat × Nat × Nat) : ((#[a, b] : Array (Nat × Nat × Nat)).setIfInBounds 0 c).eraseIdxIfInBounds (0 + 1) = #[c] := by
  simp [Array.eraseIdxIfInBounds]
theorem SPw.of_pairwise {L : List Nat} (h : L.Pairwise fun x y => lx lt y x = false) (o : Ord lt) : SPw (lx lt) L.toArray 0 L.length := fun i j _ hij hj => by
  by_cases q : i = j
  · subst q; exact (o.lx).refl _
  · have := List.pairwise_iff_getElem.mp h i j (by lia) hj (by lia)
    simpa [gP, hj, (by lia : i < L.length)] using this
theorem SPw.pairwise {p : Array Nat} {c n : Nat} (h : SPw (lx lt) p c (c + n)) (hp : c + n ≤ p.size) : ((p.toList.drop c).take n).Pairwise fun x y => lx lt y x = false := by
  rw [List.pairwise_iff_getElem]
  intro i j hi hj hij
  have hi' : i < n := by simp at hi; (clear hij hj hp h; lia)
  have hj' : j < n := by simp at hj; (clear hi' hij hi hp h; lia)
  have := h (c + i) (c + j) (by lia) (by lia) (by lia)
  simpa [gP, (by lia : c + i < p.size), (by lia : c + j < p.size)] using this
theorem mem_seg {p : Array Nat} {c n x : Nat} (h : x ∈ (p.toList.drop c).take n) : ∃ j, c ≤ j ∧ j < c + n ∧ j < p.size ∧ x = gP p j := by
  obtain ⟨j, h1, h2, h3, h4⟩ := gL_drop _ _ _ x h
  exact ⟨j, h1, h2, by simpa using h3, by rw [h4, gL_toList]⟩
theorem mergeAt_w (hc : Asks prog w A s κ it N lt) (o : Ord lt) {p : Array Nat} {n1 pw pw2 g : Nat} {Q : Bool → SortSt → Prop} (R : Runs2 lt N n1 p)
    (hq : ∀ p' g', In N p' → SPw (lx lt) p' 0 N → Q true (sst κ it p' #[(0, N, pw)] g')) : wpS (model prog w) A E s (mergeAt' 0) Q (sst κ it p #[(0, n1, pw), (n1, N - n1, pw2)] g) := by
  have ox := o.lx
  have hp := R.in_
  have hsz := hp.size
  have hle := R.le
  have hpos := R.pos
  have hask : ∀ i j, i < n1 → n1 ≤ j → j < N → lx lt (gP p j) (gP p i) = lt (gP p j) (gP p i) := fun i j h1 h2 h3 => lx_gt (by have := R.lo i h1; have := R.hi j h2 h3; (clear h3 h2 h1 hpos hle hsz hp ox hq R o hc; omega))
  have hgL : ∀ i, gL p.toList i = gP p i := gL_toList p
  have hL : p.toList.length = N := by simp [hsz]
  -- whole in order
  have whole : (∀ i, i < n1 → lx lt (gP p n1) (gP p i) = false) → SPw (lx lt) p 0 N := fun h i j _ hij hj => by
    by_cases q1 : j < n1
    · exact R.s1 i j (Nat.zero_le _) hij q1
    · by_cases q2 : i < n1
      · exact ox.trans _ _ _ (h i q2) (R.s2 n1 j (Nat.le_refl _) (by lia) hj)
      · exact R.s2 i j (by lia) hij hj
  rw [mergeAt'_eq]
  unfold sst
  rw [map_arrIt]
  refine wpS_bind (wpS_get ?_)
  refine wpS_bind (wpS_set ?_)
  rw [pend_two]
  show wpS _ _ _ _ _ Q (SortSt.mk' κ (arrIt it p.toList) #[(0, n1 + (N - n1), pw)] g none)
  rw [show n1 + (N - n1) = N by lia]
  refine wpS_bind (elem_w (l := p.toList) (i := n1) (by lia) ?_)
  refine wpS_bind (gallop_w (n := n1) (hint := 0) (bd := fun i => !lt (gP p n1) (gP p i)) (fun i hi Q' hQ' => beyond_w (x := gL p.toList n1) (base := 0) (i := i) hc rfl (by rw [hgL]; exact hp.bd (by lia)) (by lia) (by rw [hgL]; exact hp.bd (by lia)) (by rw [hgL, hgL, Nat.zero_add]; simpa using hQ')) (fun i j hij hj h => ?_) (by lia) fun k hk hk1 hk2 => ?_)
  · have h' : lt (gP p n1) (gP p j) = false := by simpa using h
    rw [← hask j n1 (by lia) (by lia) (by lia)] at h'
    have := ox.trans _ _ _ (R.s1 i j (Nat.zero_le _) hij hj) h'
    rw [hask i n1 (by lia) (by lia) (by lia)] at this
    simpa using this
  have hk1' : ∀ i, i < k → lx lt (gP p n1) (gP p i) = false := fun i hi => by
    rw [hask i n1 (by lia) (by lia) (by lia)]; simpa using hk1 i hi
  have hk2' : ∀ i, k ≤ i → i < n1 → lt (gP p n1) (gP p i) = true := fun i h1 h2 => by simpa using hk2 i h1 h2
  refine wpS_ite (fun e => wpS_pure ?_) (fun e => ?_)
  · rw [← map_arrIt]
    refine hq p g hp (whole fun i hi => hk1' i ?_)
    have : n1 - k = 0 := by simpa using e
    (clear e hk2' hk1' hk2 hk1 hk whole hL hgL hask hpos hle hsz hp ox hq R o hc; omega)
  have hkn : k < n1 := by
    have : ¬ (n1 - k = 0) := by simpa using e
    (clear e hk2' hk1' hk2 hk1 hk whole hL hgL hask hpos hle hsz hp ox hq R o hc; omega)
  have hla : 0 + k + (n1 - k) - 1 = n1 - 1 := by (clear hkn e hk2' hk1' hk2 hk1 whole hL hgL hask hle hsz hp ox hq R o hc; lia)
  rw [hla]
  clear hla
  refine wpS_bind (elem_w (l := p.toList) (i := n1 - 1) (by omega) ?_)
  refine wpS_bind (gallop_w (n := N - n1) (hint := N - n1 - 1) (bd := fun i => lt (gP p (n1 + i)) (gP p (n1 - 1))) (fun i hi Q' hQ' => beyond_w (x := gL p.toList (n1 - 1)) (base := n1) (i := i) hc rfl (by rw [hgL]; exact hp.bd (by (clear hQ' hi hkn e hk2' hk1' hk2 hk1 hk whole hL hgL hask hsz hp ox hq R o hc; omega))) (by lia) (by rw [hgL]; exact hp.bd (by (clear hQ' hkn e hk2' hk1' hk2 hk1 hk whole hL hgL hask hpos hle hsz hp ox hq R o hc; omega))) (by rw [hgL, hgL]; simpa using hQ')) (fun i j hij hj h => ?_) (by (clear hkn e hk2' hk1' hk2 hk1 hk whole hL hgL hask hpos hsz hp ox hq R o hc; omega)) fun m hm hm1 hm2 => ?_)
  · cases h6 : lt (gP p (n1 + i)) (gP p (n1 - 1)) with
    | true => rfl
    | false =>
      rw [← hask (n1 - 1) (n1 + i) (by (clear h6 h hj hij hkn e hk2' hk1' hk2 hk1 hk whole hL hgL hask hle hsz hp ox hq R o hc; omega)) (by lia) (by (clear h6 h hkn e hk2' hk1' hk2 hk1 hk whole hL hgL hask hpos hle hsz hp ox hq R o hc; omega))] at h6
      have := ox.trans _ _ _ h6 (R.s2 (n1 + i) (n1 + j) (by lia) (by lia) (by (clear h6 h hij hkn e hk2' hk1' hk2 hk1 hk whole hL hgL hask hpos hle hsz hp ox hq R o hc; omega)))
      rw [hask (n1 - 1) (n1 + j) (by (clear this h6 h hj hij hkn e hk2' hk1' hk2 hk1 hk whole hL hgL hask hle hsz hp ox hq R o hc; omega)) (by lia) (by (clear this h6 h hij hkn e hk2' hk1' hk2 hk1 hk whole hL hgL hask hpos hle hsz hp ox hq R o hc; omega))] at this
      rw [this] at h; cases h
  have hm2' : ∀ i, n1 + m ≤ i → i < N → lx lt (gP p i) (gP p (n1 - 1)) = false := fun i h1 h2 => by
    rw [hask (n1 - 1) i (by (clear h2 h1 hm2 hm1 hm hkn e hk2' hk1' hk2 hk1 hk whole hL hgL hask hle hsz hp ox hq R o hc; omega)) (by lia) h2]
    have := hm2 (i - n1) (by lia) (by (clear h1 hm2 hm1 hm hkn e hk2' hk1' hk2 hk1 hk whole hL hgL hask hpos hsz hp ox hq R o hc; omega))
    rwa [show n1 + (i - n1) = i by lia] at this
  refine wpS_ite (fun e2 => wpS_pure ?_) (fun e2 => ?_)
  · rw [← map_arrIt]
    refine hq p g hp (whole fun i hi => ?_)
    have hm0 : m = 0 := by simpa using e2
    exact ox.trans _ _ _ (R.s1 i (n1 - 1) (Nat.zero_le _) (by (clear hm0 e2 hm2' hm2 hm1 hm hkn e hk2' hk1' hk2 hk1 hk whole hL hgL hask hle hsz hp ox hq R o hc; omega)) (by (clear hm0 hi e2 hm2' hm2 hm1 hm hkn e hk2' hk1' hk2 hk1 hk whole hL hgL hask hle hsz hp ox hq R o hc; omega))) (hm2' n1 (by (clear hi e2 hm2' hm2 hm1 hm hkn e hk2' hk1' hk2 hk1 hk whole hL hgL hask hpos hle hsz hp ox hq R o hc; lia)) (by lia))
  have hm0 : 0 < m := by
    have : ¬ (m = 0) := by simpa using e2
    (clear e2 hm2' hm2 hm1 hm hkn e hk2' hk1' hk2 hk1 hk whole hL hgL hask hpos hle hsz hp ox hq R o hc; lia)
  have ex : (arrIt it p.toList).extract (0 + k) n1 = arrIt it ((p.toList.drop k).take (n1 - k)) := by rw [Nat.zero_add, arrIt_ext]
  have ey : (arrIt it p.toList).extract n1 (n1 + m) = arrIt it ((p.toList.drop n1).take m) := by rw [arrIt_ext, show n1 + m - n1 = m by lia]
  have lla : ((p.toList.drop k).take (n1 - k)).length = n1 - k := by simp; (clear ey ex hm0 e2 hm2' hm2 hm1 hm hkn e hk2' hk1' hk2 hk1 whole hL hgL hask hpos hp ox hq R o hc; lia)
  have llb : ((p.toList.drop n1).take m).length = m := by simp; lia
  have ga : ∀ i, i < n1 - k → gL ((p.toList.drop k).take (n1 - k)) i = gP p (k + i) := fun i hi => gL_seg (by (clear llb lla ey ex hm0 e2 hm2' hm2 hm1 hm hkn e hk2' hk1' hk2 hk1 hk whole hL hgL hask hpos hp ox hq R o hc; omega)) hi
  have gb : ∀ i, i < m → gL ((p.toList.drop n1).take m) i = gP p (n1 + i) := fun i hi => gL_seg (by (clear ga llb lla ey ex hm0 e2 hm2' hm2 hm1 hkn e hk2' hk1' hk2 hk1 hk whole hL hgL hask hpos hle hp ox hq R o hc; omega)) hi
  have T : Two N lt ((p.toList.drop k).take (n1 - k)) ((p.toList.drop n1).take m) := by
    constructor
    · exact o
    · intro i hi; rw [lla] at hi; rw [ga i hi]; exact hp.bd (by (clear gb ga llb lla ey ex hm0 e2 hm2' hm2 hm1 hm hkn e hk2' hk1' hk2 hk1 hk whole hL hgL hask hpos hsz hp ox hq R o hc; omega))
    · intro i hi; rw [llb] at hi; rw [gb i hi]; exact hp.bd (by (clear gb ga llb lla ey ex hm0 e2 hm2' hm2 hm1 hkn e hk2' hk1' hk2 hk1 hk whole hL hgL hask hpos hle hsz hp ox hq R o hc; omega))
    · intro i j hij hj; rw [lla] at hj; rw [ga i (by lia), ga j hj]; exact R.s1 _ _ (Nat.zero_le _) (by lia) (by (clear hij gb ga llb lla ey ex hm0 e2 hm2' hm2 hm1 hm hkn e hk2' hk1' hk2 hk1 hk whole hL hgL hask hpos hle hsz hp ox hq R o hc; omega))
    · intro i j hij hj; rw [llb] at hj; rw [gb i (by lia), gb j hj]; exact R.s2 _ _ (by lia) (by lia) (by (clear hij gb ga llb lla ey ex hm0 e2 hm2' hm2 hm1 hkn e hk2' hk1' hk2 hk1 hk whole hL hgL hask hpos hle hsz hp ox hq R o hc; omega))
    · intro i j hi hj
      rw [lla] at hi; rw [llb] at hj; rw [ga i hi, gb j hj]
      have := R.lo (k + i) (by (clear hj gb ga llb lla ey ex hm0 e2 hm2' hm2 hm1 hm hkn e hk2' hk1' hk2 hk1 hk whole hL hgL hask hpos hle hsz hp ox hq R o hc; omega)); have := R.hi (n1 + j) (by lia) (by (clear this hi gb ga llb lla ey ex hm0 e2 hm2' hm2 hm1 hkn e hk2' hk1' hk2 hk1 hk whole hL hgL hask hpos hle hsz hp ox hq R o hc; omega)); (clear hj hi gb ga llb lla ey ex hm0 e2 hm2' hm2 hm1 hm hkn e hk2' hk1' hk2 hk1 hk whole hL hgL hask hpos hle hsz hp ox hq R o hc; omega)
    · rw [lla]; lia
    · rw [llb]; (clear gb ga llb lla ey ex e2 hm2' hm2 hm1 hm hkn e hk2' hk1' hk2 hk1 hk whole hL hgL hask hpos hle hsz hp ox hq R o hc; lia)
    · rw [ga 0 (by lia), gb 0 hm0]; exact hk2' k (Nat.le_refl _) hkn
    · intro j hj
      rw [llb] at hj
      rw [lla, ga _ (by (clear hj gb ga llb lla ey ex hm0 e2 hm2' hm2 hm1 hm e hk2' hk1' hk2 hk1 hk whole hL hgL hask hpos hle hsz hp ox hq R o hc; omega)), gb j hj, show k + (n1 - k - 1) = n1 - 1 by lia]
      exact hm1 j hj
  have fin : ∀ res g', MgF it lt ((p.toList.drop k).take (n1 - k)) ((p.toList.drop n1).take m) res → Q true (SortSt.mk' κ (List.foldl (fun (a : Array Keyed) (x : Keyed × Nat) => a.setIfInBounds (0 + k + x.2) x.1) (arrIt it p.toList) res.toList.zipIdx) #[(0, N, pw)] g' none) := by
    rintro res g' ⟨out, rfl, hperm, hsrt⟩
    have hlen : out.length = n1 - k + m := by rw [hperm.length_eq, List.length_append, lla, llb]
    clear lla llb ga gb ex ey T
    rw [Nat.zero_add, laid_eq (by rw [hlen]; (clear hlen hsrt hperm hm0 e2 hm2' hm2 hm1 hkn e hk2' hk1' hk2 hk1 whole hgL hask hpos hsz hp ox hq R o hc; lia))]
    have hmem : ∀ x ∈ out, (∃ j, k ≤ j ∧ j < n1 ∧ x = gP p j) ∨ (∃ j, n1 ≤ j ∧ j < n1 + m ∧ x = gP p j) := fun x hx => by
      rcases List.mem_append.mp (hperm.mem_iff.mp hx) with q | q
      · obtain ⟨j, h1, h2, h3, h4⟩ := mem_seg q
        exact .inl ⟨j, h1, by (clear h4 h3 h1 q hx hlen hsrt hperm hm0 e2 hm2' hm2 hm1 hm hkn e hk2' hk1' hk2 hk1 whole hL hgL hask hpos hle hsz hp ox hq R o hc; lia), h4⟩
      · obtain ⟨j, h1, h2, h3, h4⟩ := mem_seg q
        exact .inr ⟨j, h1, h2, h4⟩
    have epre : p.toList.take k = (p.toList.drop 0).take k := by simp
    have hkl : k + out.length = n1 + m := by rw [hlen]; (clear epre hmem hlen hsrt hperm hm0 e2 hm2' hm2 hm1 hkn e hk2' hk1' hk2 hk1 whole hL hgL hask hpos hle hsz hp ox hq R o hc; lia)
    have esuf : p.toList.drop (k + out.length) = (p.toList.drop (n1 + m)).take (N - (n1 + m)) := by
      rw [hkl, List.take_of_length_le (by simp; (clear hkl epre hmem hlen hsrt hperm hm0 e2 hm2' hm2 hm1 hm hkn e hk2' hk1' hk2 hk1 hk whole hL hgL hask hpos hle hp ox hq R o hc; omega))]
    have hfull : (p.toList.take k ++ out ++ p.toList.drop (k + out.length)).Perm p.toList := by
      have h1 : p.toList = p.toList.take k ++ ((p.toList.drop k).take (n1 - k) ++ ((p.toList.drop n1).take m ++ p.toList.drop (n1 + m))) := by
        have e1 := (List.take_append_drop k p.toList).symm
        have e2 := drop_seg p.toList k n1 (by lia)
        have e3 := drop_seg p.toList n1 (n1 + m) (by lia)
        rw [show n1 + m - n1 = m by lia] at e3
        rw [← e3, ← e2]; exact e1
      rw [hkl]
      conv => rhs; rw [h1]
      rw [List.append_assoc, ← List.append_assoc ((p.toList.drop k).take (n1 - k))]
      exact List.Perm.append_left _ (List.Perm.append_right _ hperm)
    have hk' := hkl
    clear hlen hkl
    have hpw : (p.toList.take k ++ out ++ p.toList.drop (k + out.length)).Pairwise fun x y => lx lt y x = false := by
      rw [List.pairwise_append, List.pairwise_append]
      refine ⟨⟨?_, hsrt, ?_⟩, ?_, ?_⟩
      · rw [epre]
        exact SPw.pairwise (fun i j a b c => R.s1 i j (Nat.zero_le _) b (by lia)) (by lia)
      · intro x hx y hy
        rw [epre] at hx
        obtain ⟨i, i1, i2, i3, rfl⟩ := mem_seg hx
        rcases hmem y hy with ⟨j, j1, j2, rfl⟩ | ⟨j, j1, j2, rfl⟩
        · exact R.s1 i j (Nat.zero_le _) (by lia) j2
        · exact ox.trans _ _ _ (hk1' i (by lia)) (R.s2 n1 j (Nat.le_refl _) j1 (by (clear hy j1 hx i3 i2 i1 hk' hfull esuf epre hmem hsrt hperm hm0 e2 hm2' hm2 hm1 hkn e hk2' hk1' hk2 hk1 hk whole hL hgL hask hpos hsz hp ox hq R o hc; lia)))
      · rw [esuf]
        exact SPw.pairwise (fun i j a b c => R.s2 i j (by (clear c b hk' hfull esuf epre hmem hsrt hperm hm0 e2 hm2' hm2 hm1 hm hkn e hk2' hk1' hk2 hk1 hk whole hL hgL hask hpos hle hsz hp ox hq R o hc; lia)) b (by (clear hk' hfull esuf epre hmem hsrt hperm hm0 e2 hm2' hm2 hm1 hm hkn e hk2' hk1' hk2 hk1 hk whole hL hgL hask hpos hle hsz hp ox hq R o hc; omega))) (by (clear hk' hfull esuf epre hmem hsrt hperm hm0 e2 hm2' hm2 hm1 hkn e hk2' hk1' hk2 hk1 hk whole hL hgL hask hpos hp ox hq R o hc; lia))
      · intro x hx y hy
        rw [esuf] at hy
        obtain ⟨j, j1, j2, j3, rfl⟩ := mem_seg hy
        rcases List.mem_append.mp hx with q | q
        · rw [epre] at q
          obtain ⟨i, i1, i2, i3, rfl⟩ := mem_seg q
          exact ox.trans _ _ _ (hk1' i (by lia)) (R.s2 n1 j (Nat.le_refl _) (by (clear q hx i3 i2 i1 hy j3 j2 hk' hfull esuf epre hmem hsrt hperm hm0 e2 hm2' hm2 hm1 hm hkn e hk2' hk1' hk2 hk1 hk whole hL hgL hask hpos hle hsz hp ox hq R o hc; lia)) (by lia))
        · rcases hmem x q with ⟨i, i1, i2, rfl⟩ | ⟨i, i1, i2, rfl⟩
          · exact ox.trans _ _ _ (R.s1 i (n1 - 1) (Nat.zero_le _) (by (clear q hx i1 hy j3 j2 j1 hk' hfull esuf epre hmem hsrt hperm hm0 e2 hm2' hm2 hm1 hm hkn e hk2' hk1' hk2 hk1 hk whole hL hgL hask hle hsz hp ox hq R o hc; omega)) (by (clear q hx i2 i1 hy j3 j2 j1 hk' hfull esuf epre hmem hsrt hperm hm0 e2 hm2' hm2 hm1 hm hkn e hk2' hk1' hk2 hk1 hk whole hL hgL hask hle hsz hp ox hq R o hc; omega))) (hm2' j (by lia) (by lia))
          · exact R.s2 i j i1 (by lia) (by lia)
    generalize p.toList.take k ++ out ++ p.toList.drop (k + out.length) = F at hfull hpw ⊢
    have hF : F.length = N := by rw [hfull.length_eq, hL]
    have := hq F.toArray g' ⟨by simpa using hF, by simpa using hfull.trans hp.perm⟩ (by rw [← hF]; exact SPw.of_pairwise hpw o)
    rw [show arrIt it F = (F.toArray).map (kas_item it) by simp [arrIt]]
    exact this
  rw [ex, ey]
  refine wpS_ite (fun _ => ?_) (fun _ => ?_)
  · exact wpS_bind (mergeLo_w hc T fun res g' hf => wpS_bind (wpS_modify (wpS_bind (wpS_get (wpS_pure (fin res g' hf))))))
  · exact wpS_bind (mergeHi_w hc T fun res g' hf => wpS_bind (wpS_modify (wpS_bind (wpS_get (wpS_pure (fin res g' hf))))))
end
end Mine

set_option maxHeartbeats 1000000
namespace Mine
open PySem PySem.W PyProof.Rows

section
variable {prog : Program} {w : World} {A : Around} {E : Value → Shared → Prop} {s : Shared} {κ : SortKind} {it : Array Keyed} {N : Nat} {lt : Nat → Nat → Bool}
theorem minRun_mid (h1 : 2 ≤ N) (h2 : N < 128) : ∃ mr, minRun' N N 0 = mr ∧ mr ≤ N ∧ N ≤ 2 * mr := by
  obtain ⟨f, hf⟩ : ∃ f, N = f + 1 + 1 := ⟨N - 2, by (clear h2; omega)⟩
  by_cases h : N < 64
  · refine ⟨N, ?_, Nat.le_refl _, by lia⟩
    have : minRun' (f + 1 + 1) N 0 = N := by rw [minRun'_succ, if_pos h]; rfl
    rwa [← hf] at this
  · refine ⟨N / 2 + N % 2, ?_, by (clear h hf h2 h1; lia), by lia⟩
    have : minRun' (f + 1 + 1) N 0 = N / 2 + N % 2 := by
      rw [minRun'_succ, if_neg (by lia), minRun'_succ, if_pos (by lia), Nat.zero_max]
    rwa [← hf] at this
theorem Run.trans {lo : Nat} {p0 p1 p2 : Array Nat} {n m : Nat} (x : Run lt N lo p0 p1 n) (y : Run lt N lo p1 p2 m) : Run lt N lo p0 p2 m := ⟨y.in_, y.sp, y.fx, fun k hk => (y.low k hk).trans (x.low k hk)⟩
theorem Run.self {lo : Nat} {p0 p1 : Array Nat} {n : Nat} (x : Run lt N lo p0 p1 n) : Run lt N lo p1 p1 n := ⟨x.in_, x.sp, x.fx, fun _ _ => rfl⟩
theorem In.at {p : Array Nat} (hp : In N p) {v : Nat} (hv : v < N) : ∃ j, j < N ∧ gP p j = v := by
  have hm : v ∈ p.toList := hp.perm.mem_iff.mpr (by simpa using hv)
  obtain ⟨j, hj, e⟩ := List.getElem_of_mem hm
  have hj' : j < N := by simpa [hp.size] using hj
  refine ⟨j, hj', ?_⟩
  rw [← gL_toList]; simp [gL, ← e, hp.size, hj']
theorem Runs2.of {p1 p2 : Array Nat} {n1 : Nat} (h0 : 0 < n1) (hn : n1 < N) {p0 : Array Nat} (R1 : Run lt N 0 p0 p1 n1) (R2 : Run lt N n1 p1 p2 (N - n1)) : Runs2 lt N n1 p2 := by
  have f1 : Fx2 N p1 n1 := fun m hm hm' => R1.fx m (by lia) hm'
  refine ⟨R2.in_, hn, h0, fun i j hi hij hj => ?_, fun i j hi hij hj => R2.sp i j hi hij (by lia), fun i hi => ?_, fun i hi hi' => ?_⟩
  · rw [R2.low i (by lia), R2.low j hj]; exact R1.sp i j hi hij (by lia)
  · rw [R2.low i hi]; exact f1.lo R1.in_ hi (by lia)
  · rcases Nat.lt_or_ge (gP p2 i) n1 with q | q
    · obtain ⟨j, hj, e⟩ := R1.in_.at (v := gP p2 i) (by (clear hi' hi f1 R2 R1 h0; omega))
      have hj1 : j < n1 := by
        rcases Nat.lt_or_ge j n1 with q' | q'
        · exact q'
        · rw [f1 j q' hj] at e; omega
      rw [← R2.low j hj1] at e
      have := R2.in_.inj hj hi' e
      lia
    · exact q
theorem runs_mid_w (hc : Asks prog w A s κ it N lt) (o : Ord lt) (h1 : 2 ≤ N) (h2 : N < 128) {Q : Unit → SortSt → Prop}
    (hq : ∀ p pend g, In N p → SPw (lx lt) p 0 N → Q () (sst κ it p pend g)) : wpS (model prog w) A E s sortRuns' Q (sst κ it (List.toArray (List.range N)) #[] 7) := by
  have ox := o.lx
  rw [sortRuns'_eq]
  refine wpS_bind (wpS_get ?_)
  have hsz : (arrOf (sst κ it (List.toArray (List.range N)) #[] 7)).size = N := by
    show (Array.map (kas_item it) (List.toArray (List.range N))).size = N
    simp
  dsimp only
  obtain ⟨mr, hmr, hm1, hm2⟩ := minRun_mid h1 h2
  rw [hsz, hmr]
  have hp0 : In N (List.toArray (List.range N)) := ⟨by simp, by simp⟩
  have hf0 : Fx2 N (List.toArray (List.range N)) 0 := fun m _ hm => gP_range hm
  clear hsz
  generalize List.toArray (List.range N) = p0 at hp0 hf0 ⊢
  refine wpS_bind (wpS_mono (wpS_forRange
    (I := fun x c st' => (x = 0 ∧ c = (none, 0) ∧ st' = sst κ it p0 #[] 7) ∨ (x = 1 ∧ ∃ p n1, c = (none, n1) ∧ st' = sst κ it p #[(0, n1, 0)] 7 ∧ Run lt N 0 p0 p n1 ∧ mr ≤ n1 ∧ n1 ≤ N)
      ∨ (2 ≤ x ∧ ∃ p n1 pw, c = (none, N) ∧ st' = sst κ it p #[(0, n1, pw), (n1, N - n1, 0)] 7 ∧ Runs2 lt N n1 p))
    (Q := fun c st' => (∃ p, c = (none, N) ∧ st' = sst κ it p #[(0, N, 0)] 7 ∧ In N p ∧ SPw (lx lt) p 0 N) ∨ (∃ p n1 pw, c = (none, N) ∧ st' = sst κ it p #[(0, n1, pw), (n1, N - n1, 0)] 7 ∧ Runs2 lt N n1 p)) ?step ?fin (.inl ⟨rfl, rfl, rfl⟩)) ?post)
  case fin =>
    rintro c st' (⟨hx, _, _⟩ | ⟨hx, _⟩ | ⟨hx, h⟩)
    · (clear hf0 hp0 hm2 hm1 hmr ox hq h2 o hc; omega)
    · (clear hf0 hp0 hm2 hm1 hmr ox hq h2 o hc; omega)
    · exact .inr h
  case step =>
    rintro x c st' _ hx (⟨rfl, rfl, rfl⟩ | ⟨hx1, p, n1, rfl, rfl, R, hn1, hn2⟩ | ⟨hx2, p, n1, pw, rfl, rfl, R⟩)
    · refine wpS_ite (fun e => ?_) (fun _ => ?_)
      · have : 0 ≥ N := e
        lia
      refine wpS_bind (count_w (lo := 0) (nrem := N - 0) hc o hp0 hf0 (by lia) (by lia) fun n p n1 n2 R => ?_)
      refine wpS_ite (fun hlt => ?_) (fun hlt => ?_)
      · have hlt' : n < mr := hlt
        refine wpS_bind (wpS_lift (wpAny_rule ⟨rfl, ?_⟩))
        refine wpS_bind (bin_w (lo := 0) (n := min (N - 0) (mr)) (ok := n) hc o n1 (by (clear hlt' R n1 hx hf0 hp0 hm2 hm1 hmr ox hq h2 h1 o hc; lia)) (by lia) R.self fun p' R' => ?_)
        simp only [Bool.not_true, Bool.false_eq_true, if_false]
        refine wpS_bind (wpS_get ?_)
        exact wpS_bind (wpS_modify (wpS_pure (.inr (.inl ⟨trivial, p', 0 + min (N - 0) (mr), rfl, by rw [Nat.zero_add]; rfl, by rw [Nat.zero_add]; exact R.trans R', by lia, by lia⟩))))
      · have hlt' : ¬ n < mr := hlt
        refine wpS_bind (wpS_get ?_)
        exact wpS_bind (wpS_modify (wpS_pure (.inr (.inl ⟨rfl, p, 0 + n, rfl, by rw [Nat.zero_add]; rfl, by rw [Nat.zero_add]; exact R, by lia, by lia⟩))))
    · refine wpS_ite (fun e => wpS_pure (.inl ?_)) (fun e => ?_)
      · have e' : n1 ≥ N := e
        have : n1 = N := by lia
        subst this
        exact ⟨p, rfl, rfl, R.in_, fun i j hi hij hj => R.sp i j hi hij (by lia)⟩
      have e' : ¬ n1 ≥ N := e
      refine wpS_bind (count_w (lo := n1) (nrem := N - n1) hc o R.in_ (fun m hm hm' => R.fx m (by lia) hm') (by lia) (by lia) fun n p' m1 m2 R' => ?_)
      refine wpS_ite (fun hlt => ?_) (fun hlt => ?_)
      · refine wpS_bind (wpS_lift (wpAny_rule ⟨rfl, ?_⟩))
        refine wpS_bind (bin_w (lo := n1) (n := min (N - n1) (mr)) (ok := n) hc o m1 (by (clear R' m1 e' e hn2 hn1 R hx1 hx hf0 hp0 hm2 hm1 hmr ox hq h2 h1 o hc; lia)) (by (clear hlt R' m2 m1 e' e hn1 R hx1 hx hf0 hp0 hm2 hm1 ox hq h2 h1 o hc; omega)) R'.self fun p2 R2 => ?_)
        have hmin : min (N - n1) (mr) = N - n1 := by (clear R2 hlt R' m1 e' e R hx1 hx hf0 hp0 hm1 hmr ox hq h2 h1 o hc; lia)
        rw [hmin] at R2 ⊢
        simp only [Bool.not_true, Bool.false_eq_true, if_false]
        refine wpS_bind (wpS_get ?_)
        refine wpS_bind (wpS_mono (wpS_forRange (I := fun y c st' => c = (none, ()) ∧ st' = sst κ it p2 #[(0, n1, 0)] 7) (Q := fun c st' => c = (none, ()) ∧ st' = sst κ it p2 #[(0, n1, 0)] 7) ?_ (fun c st' h => h) ⟨rfl, rfl⟩) ?_)
        · rintro y c st' _ _ ⟨rfl, rfl⟩
          exact wpS_bind (wpS_get (wpS_pure ⟨rfl, rfl⟩))
        · rintro c st' ⟨rfl, rfl⟩
          exact wpS_bind (wpS_modify (wpS_bind (wpS_modify (wpS_pure (.inr (.inr ⟨by lia, p2, n1, _, by rw [show n1 + (N - n1) = N by lia], rfl, Runs2.of (by lia) (by lia) R (R'.trans R2)⟩))))))
      · have hlt' : ¬ n < mr := hlt
        have hnn : n = N - n1 := by lia
        subst hnn
        refine wpS_bind (wpS_get ?_)
        refine wpS_bind (wpS_mono (wpS_forRange (I := fun y c st' => c = (none, ()) ∧ st' = sst κ it p' #[(0, n1, 0)] 7) (Q := fun c st' => c = (none, ()) ∧ st' = sst κ it p' #[(0, n1, 0)] 7) ?_ (fun c st' h => h) ⟨rfl, rfl⟩) ?_)
        · rintro y c st' _ _ ⟨rfl, rfl⟩
          exact wpS_bind (wpS_get (wpS_pure ⟨rfl, rfl⟩))
        · rintro c st' ⟨rfl, rfl⟩
          exact wpS_bind (wpS_modify (wpS_bind (wpS_modify (wpS_pure (.inr (.inr ⟨by lia, p', n1, _, by rw [show n1 + (N - n1) = N by lia], rfl, Runs2.of (by lia) (by lia) R R'⟩))))))
    · refine wpS_ite (fun e => wpS_pure (.inr ⟨p, n1, pw, rfl, rfl, R⟩)) (fun e => absurd (show N ≥ N from Nat.le_refl _) e)
  case post =>
    intro c st' hcs
    have hc0 : c = (none, N) := by
      rcases hcs with ⟨p, rfl, _⟩ | ⟨p, n1, pw, rfl, _⟩ <;> rfl
    subst hc0
    refine wpS_bind (wpS_mono (wpS_forRange
      (I := fun x c st' => c = (none, ()) ∧ ((∃ p pw g, st' = sst κ it p #[(0, N, pw)] g ∧ In N p ∧ SPw (lx lt) p 0 N) ∨ (x = 0 ∧ ∃ p n1 pw, st' = sst κ it p #[(0, n1, pw), (n1, N - n1, 0)] 7 ∧ Runs2 lt N n1 p)))
      (Q := fun c st' => c = (none, ()) ∧ (∃ p pw g, st' = sst κ it p #[(0, N, pw)] g ∧ In N p ∧ SPw (lx lt) p 0 N)) ?stepF ?finF ⟨rfl, ?initF⟩) ?postF)
    case initF =>
      rcases hcs with ⟨p, _, h, h3, h4⟩ | ⟨p, n1, pw, _, h, h3⟩
      · exact .inl ⟨p, 0, 7, h, h3, h4⟩
      · exact .inr ⟨rfl, p, n1, pw, h, h3⟩
    case finF =>
      rintro c st' ⟨rfl, h | ⟨hx, _⟩⟩
      · exact ⟨rfl, h⟩
      · (clear hcs hf0 hp0 hm2 hm1 hmr ox hq h2 o hc; omega)
    case postF =>
      rintro c st' ⟨rfl, p, pw, g, rfl, h3, h4⟩
      exact wpS_pure (hq p _ g h3 h4)
    case stepF =>
      rintro x c st' _ hx ⟨rfl, ⟨p, pw, g, rfl, h3, h4⟩ | ⟨rfl, p, n1, pw, rfl, R⟩⟩
      · refine wpS_bind (wpS_get ?_)
        refine wpS_ite (fun _ => wpS_pure ⟨rfl, p, pw, g, rfl, h3, h4⟩) (fun e => absurd (show (1 : Nat) ≤ 1 from Nat.le_refl _) e)
      · refine wpS_bind (wpS_get ?_)
        refine wpS_ite (fun e => absurd (show ¬ (2 : Nat) ≤ 1 by lia) (not_not_intro e)) (fun e => ?_)
        refine wpS_bind (mergeAt_w hc o R fun p' g' h3 h4 => ?_)
        refine wpS_ite (fun e => by cases e) (fun e => wpS_pure ⟨rfl, .inl ⟨p', pw, g', rfl, h3, h4⟩⟩)
theorem runs_mid (hc : Asks prog w A s κ it N lt) (o : Ord lt) (h1 : 2 ≤ N) (h2 : N < 128) (hit : it.size = N) {Q : PUnit × SortSt → Shared → Prop}
    (h : ∀ p st', In N p → SP (lx lt) p N → arrOf st' = p.map (kas_item it) → failedOf st' = none → Q ((), st') s) :
    wpAny (model prog w) A ((sortRuns').run (SortSt.mk' κ it #[] 7 none)) Q E s := by
  have est : SortSt.mk' κ it #[] 7 none = sst κ it (List.toArray (List.range N)) #[] 7 := by
    have e := kas_range it
    rw [hit] at e
    show _ = SortSt.mk' κ ((List.toArray (List.range N)).map (kas_item it)) #[] 7 none
    rw [e]
  rw [est]
  refine wpAny_mono (runs_mid_w (E := E) hc o h1 h2 (Q := fun _ st' => ∃ p, In N p ∧ SP (lx lt) p N ∧ arrOf st' = p.map (kas_item it) ∧ failedOf st' = none) fun p pend g h3 h4 => ⟨p, h3, fun i j hij hj => h4 i j (Nat.zero_le _) hij hj, rfl, rfl⟩) ?_ fun _ _ e => e
  rintro ⟨⟨⟩, st'⟩ s' ⟨rfl, p, b1, b2, b3, b4⟩
  exact h p st' b1 b2 b3 b4
end
end Mine

set_option maxHeartbeats 1000000
namespace Mine
open PySem PySem.W PyProof.Rows

section
variable {prog : Program} {w : World} {A : Around} {E : Value → Shared → Prop} {s : Shared}
theorem runs_small {κ : SortKind} {it : Array Keyed} {N : Nat} {lt : Nat → Nat → Bool} (h2 : 2 ≤ N) (h128 : N < 128) (hit : it.size = N) (o : Ord lt)
    (hc : ∀ i j (Q : Bool → Shared → Prop), i < N → j < N → Q (lt i j) s → wpAny (model prog w) A (keyLt' κ (kas_item it i).1 (kas_item it j).1) Q (fun _ _ => False) s) {Q : PUnit × SortSt → Shared → Prop}
    (h : ∀ p st', In N p → SP (lx lt) p N → arrOf st' = p.map (kas_item it) → failedOf st' = none → Q ((), st') s) :
    wpAny (model prog w) A ((sortRuns').run (SortSt.mk' κ it #[] 7 none)) Q E s := by
  exact runs_mid hc o h2 h128 hit h
theorem in_range (N : Nat) : In N (List.toArray (List.range N)) := ⟨by simp, by simp⟩
theorem sp_small {lt : Nat → Nat → Bool} {N : Nat} {p : Array Nat} (o : Ord lt) (h : N < 2) : SP (lx lt) p N := fun i j hij hj => by
  have : i = j := by lia
  subst this
  exact (o.lx).refl _
/-- a.sort() -/
theorem sort_plain {a : Addr} {n : Nat} {vs : List Value} {κ : SortKind} {lt : Nat → Nat → Bool} {P : PySem.Fin → Shared → Prop} (ho : s.heap.get? a = some (seqObj "list" vs.toArray n)) (h64 : vs.length < 128) (o : Ord lt)
    (hk : 2 ≤ vs.length → ∀ h', Heap.ExtBut a s.heap h' → ∀ Q : SortKind → Shared → Prop, Q κ { s with heap := h' } → wpAny (model prog w) A (keyKind' vs.toArray) Q E { s with heap := h' })
    (hc : 2 ≤ vs.length → ∀ h', Heap.ExtBut a s.heap h' → ∀ i j (Q : Bool → Shared → Prop), i < vs.length → j < vs.length → Q (lt i j) { s with heap := h' } → wpAny (model prog w) A (keyLt' κ (vs.getD i Value.none) (vs.getD j Value.none)) Q (fun _ _ => False) { s with heap := h' })
    (h : ∀ p h' c, In vs.length p → SP (lx lt) p vs.length → Heap.ExtBut a s.heap h' → h'.get? a = some (seqObj "list" (p.toList.map fun i => vs.getD i Value.none).toArray c) → P (.done (.ret .none)) { s with heap := h' }) :
    wpAny (model prog w) A (Builtin.«list.sort» ⟨[.ref a], []⟩) P E s := by
  have ha : a < s.heap.objs.size := Heap.lt_size ho
  have s1 := Heap.SameBut.update s.heap a (Obj.mapSeq fun _ => (#[] : Array Value))
  obtain ⟨e1, ho1⟩ : ∃ e1, (s.heap.update a (Obj.mapSeq fun _ => (#[] : Array Value))).get? a = some (seqObj "list" #[] e1) := ⟨_, get?_update_seq ho fun _ => #[]⟩
  rw [list_sort_plain]
  refine wpAny_bind (listItems_at ho rfl ?_)
  refine wpAny_bind (listUpdate_at ho rfl ?_ (by rw [List.size_toArray, sizeLine_eq]; lia) (Nat.zero_le _))
  refine wpAny_bind (seqEpoch_at ho1 rfl ?_)
  refine wpAny_bind (wpAny_newTuple ?_ (by show vs.length ≤ _; rw [sizeLine_eq]; lia))
  refine wpAny_bind (wpAny_newList ?_ (Nat.zero_le _))
  refine wpAny_holding ?_
  show wpAny (model prog w) A _ P E { s with heap := ((s.heap.update a (Obj.mapSeq fun _ => (#[] : Array Value))).push (seqObj "tuple" vs.toArray 0)).push (seqObj "list" #[] 0) }
  have hx : Heap.ExtBut a s.heap (((s.heap.update a (Obj.mapSeq fun _ => (#[] : Array Value))).push (seqObj "tuple" vs.toArray 0)).push (seqObj "list" #[] 0)) := fun b o hb e => Heap.get?_push_of_some _ (Heap.get?_push_of_some _ (s1.extBut b o hb e))
  have ho6 : (((s.heap.update a (Obj.mapSeq fun _ => (#[] : Array Value))).push (seqObj "tuple" vs.toArray 0)).push (seqObj "list" #[] 0)).get? a = some (seqObj "list" #[] e1) := Heap.get?_push_of_some _ (Heap.get?_push_of_some _ ho1)
  generalize ((s.heap.update a (Obj.mapSeq fun _ => (#[] : Array Value))).push (seqObj "tuple" vs.toArray 0)).push (seqObj "list" #[] 0) = h6 at *
  dsimp only
  have fin : ∀ (p : Array Nat) (st' : SortSt), In vs.length p → SP (lx lt) p vs.length → arrOf st' = p.map (kas_item (pairsOf vs)) → failedOf st' = none →
      wpAny (model prog w) A (do
        let touched := (← seqEpoch a) != e1
        Builtin.List.listUpdate (.ref a) fun _ => (arrOf st').map (·.2)
        if let some e := failedOf st' then rule "list.sort.comparison-raised"; throw e
        if touched then rule "list.sort.modified"; raiseError "ValueError" "list modified during sort"
        ret .none) P E { s with heap := h6 } := by
    intro p st' hp hsp har hf
    have hout : (arrOf st').map (·.2) = List.toArray (p.toList.map fun i => vs.getD i Value.none) := by
      apply Array.toList_inj.mp
      rw [har, Array.map_map, Array.toList_map]
      exact List.map_congr_left fun i _ => by show (kas_item (pairsOf vs) i).2 = _; rw [kas_item_eq]
    have hsz : (List.toArray (p.toList.map fun i => vs.getD i Value.none)).size = vs.length := by rw [List.size_toArray, List.length_map, Array.length_toList, hp.size]
    rw [hout]
    have s2 := Heap.SameBut.update h6 a (Obj.mapSeq fun _ => List.toArray (p.toList.map fun i => vs.getD i Value.none))
    refine wpAny_bind (seqEpoch_at ho6 rfl ?_)
    refine wpAny_bind (listUpdate_at ho6 rfl ?_ (Nat.zero_le _) (Nat.le_trans (Nat.le_of_eq hsz) (by rw [sizeLine_eq]; lia)))
    rw [hf]
    simp only [bne_self_eq_false, Bool.false_eq_true, if_false]
    exact wpAny_pure (h p _ _ hp hsp (fun b o hb e => s2.extBut b o hb (hx b o hb e)) (get?_update_seq ho6 fun _ => List.toArray (p.toList.map fun i => vs.getD i Value.none)))
  by_cases h2 : vs.toArray.size < 2
  · rw [if_pos h2, if_pos h2]
    refine wpAny_bind (wpAny_pure ?_)
    rw [StateT.run_pure]
    refine wpAny_bind (wpAny_pure ?_)
    rw [List.size_toArray] at h2
    refine fin (List.toArray (List.range vs.length)) (SortSt.mk' general' (vs.toArray.zip vs.toArray) #[] 7 none) (in_range _) (sp_small o h2) ?_ rfl
    have e := kas_range (pairsOf vs)
    rw [pairsOf_size] at e
    exact e.symm
  · rw [if_neg h2, if_neg h2]
    rw [List.size_toArray] at h2
    refine wpAny_bind (hk (by lia) h6 hx _ ?_)
    refine wpAny_bind (runs_small (N := vs.length) (by lia) h64 (pairsOf_size vs) o (fun i j Q hi hj hq => ?_) fun p st' b1 b2 b3 b4 => fin p st' b1 b2 b3 b4)
    rw [kas_item_eq, kas_item_eq]
    exact hc (by lia) h6 hx i j Q hi hj hq
end

section
variable {C : Cx} {A : Around} {ρ : Lo} {H : AH} {L : Addr} {s : Shared} {E : Value → Shared → Prop}
theorem St.track {h : Heap} {D : Addr} {o : O} {c : Obj} (x : St C L ρ H h) (hD : H D = none) (hB : C.base.get? D = none) (hL : D ≠ L) (hc : h.get? D = some c) (hr : Rep o c) : St C L ρ (H.set D o) h :=
  St.alloc_fr.St.alloc' x hD hB hL hc hr
theorem zip_getD {ks vs : List Value} (hl : ks.length = vs.length) (i : Nat) : kas_item (ks.toArray.zip vs.toArray) i = (ks.getD i Value.none, vs.getD i Value.none) := by
  unfold kas_item
  by_cases h : i < vs.length
  · have h1 : i < (ks.toArray.zip vs.toArray).size := by simp; lia
    rw [Array.getD_eq_getD_getElem?, Array.getElem?_eq_getElem h1, List.getD_eq_getElem?_getD, List.getD_eq_getElem?_getD, List.getElem?_eq_getElem h, List.getElem?_eq_getElem (by lia : i < ks.length)]
    simp
  · have h1 : ¬ i < (ks.toArray.zip vs.toArray).size := by simp; lia
    rw [Array.getD_eq_getD_getElem?, Array.getElem?_eq_none (by lia), List.getD_eq_getElem?_getD, List.getD_eq_getElem?_getD, List.getElem?_eq_none (by lia), List.getElem?_eq_none (by lia)]
    rfl
end
end Mine

set_option maxHeartbeats 1000000
namespace Mine
open PySem PySem.W PyProof.Rows PySem.Calls

/-- the same frame, some units deeper -/
noncomputable def Nr (A A' : Around) : Prop := A'.depth = A.depth ∧ A'.handled = A.handled ∧ A.units ≤ A'.units ∧ A'.units ≤ A.units + 8
theorem Nr.one (A : Around) : Nr A A.in1 := ⟨rfl, rfl, Nat.le_succ _, by show A.units + 1 ≤ _; lia⟩
theorem Nr.two (A : Around) : Nr A A.in1.in1 := ⟨rfl, rfl, by show _ ≤ A.units + 1 + 1; lia, by show A.units + 1 + 1 ≤ _; lia⟩

/-- what list(v) holds -/
noncomputable def Coll (C : Cx) (A : Around) (H : AH) (x : V) (R : List V → Prop) : Prop :=
  ∀ L ρ (v : Value) (s : Shared) (E : Value → Shared → Prop) (Q : List Value → Shared → Prop), ab v = x → St C L ρ H s.heap →
    (∀ us s', R (us.map ab) → us.length ≤ sizeLine → St C L ρ H s'.heap → Step L H H s s' → Q us s') → wpAny C.M A (collect v) Q E s
section
variable {C : Cx} {A : Around} {env : Env} {ρ : Lo} {H : AH}

theorem map_getD {us : List Value} {p : Array Nat} {n : Nat} (hp : In n p) (hn : us.length = n) : ((p.toList.map fun i => us.getD i Value.none).map ab) = p.toList.map fun i => (us.map ab).getD i V.none := by
  rw [List.map_map]
  apply List.map_congr_left
  intro i hi
  have hi' : i < us.length := by rw [hn]; simpa using hp.perm.mem_iff.mp hi
  show ab (us.getD i Value.none) = _
  rw [List.getD_eq_getElem?_getD, List.getD_eq_getElem?_getD, List.getElem?_map, List.getElem?_eq_getElem hi']; rfl
end
end Mine

set_option maxHeartbeats 1000000
namespace Mine
open PySem PySem.W PyProof.Rows PySem.Calls

/-! ## the table of a set: places rise -/
noncomputable def Ris (xs : Array Nat) : Prop := xs.toList.Pairwise fun a b => a < b
theorem Ris.lt {xs : Array Nat} (h : Ris xs) {i j : Nat} {u v : Nat} (hij : i < j) (hi : xs[i]? = some u) (hj : xs[j]? = some v) : u < v := by
  have h1 := (Array.getElem?_eq_some_iff.mp hi)
  have h2 := (Array.getElem?_eq_some_iff.mp hj)
  obtain ⟨a1, rfl⟩ := h1
  obtain ⟨a2, rfl⟩ := h2
  exact List.pairwise_iff_getElem.mp h i j (by simpa using a1) (by simpa using a2) hij
theorem below_go {xs : Array Nat} {j : Nat} (h : Ris xs) : ∀ (f lo hi : Nat), lo ≤ hi → hi ≤ xs.size → hi - lo ≤ f → (∀ (i v : Nat), i < lo → xs[i]? = some v → v < j) → (∀ (i v : Nat), hi ≤ i → xs[i]? = some v → j ≤ v) →
    SetTable.below.go xs j f lo hi ≤ xs.size ∧ (∀ (i v : Nat), i < SetTable.below.go xs j f lo hi → xs[i]? = some v → v < j) ∧ (∀ (i v : Nat), SetTable.below.go xs j f lo hi ≤ i → xs[i]? = some v → j ≤ v)
  | 0, lo, hi, h1, h2, h3, h4, h5 => by
    have : lo = hi := by lia
    subst this
    unfold SetTable.below.go
    exact ⟨h2, h4, h5⟩
  | f + 1, lo, hi, h1, h2, h3, h4, h5 => by
    unfold SetTable.below.go
    by_cases q : lo < hi
    · rw [if_pos q]
      have hm : (lo + hi) / 2 < xs.size := by lia
      have hg : xs[(lo + hi) / 2]? = some xs[(lo + hi) / 2] := Array.getElem?_eq_getElem hm
      have hd : xs.getD ((lo + hi) / 2) j = xs[(lo + hi) / 2] := by rw [Array.getD_eq_getD_getElem?, hg]; rfl
      simp only [hd]
      by_cases q2 : xs[(lo + hi) / 2] < j
      · rw [if_pos q2]
        refine below_go h f _ _ (by lia) h2 (by (clear q2 hd hg q h5 h4 h2 h1 h; omega)) (fun i v hi' hv => ?_) h5
        by_cases q3 : i = (lo + hi) / 2
        · subst q3; rw [hg] at hv; cases hv; exact q2
        · have := h.lt (by lia) hv hg; lia
      · rw [if_neg q2]
        refine below_go h f _ _ (by lia) (by lia) (by (clear q2 hd hg q h5 h4 h2 h1 h; omega)) h4 (fun i v hi' hv => ?_)
        by_cases q3 : i = (lo + hi) / 2
        · subst q3; rw [hg] at hv; cases hv; lia
        · have := h.lt (by lia) hg hv; lia
    · rw [if_neg q]
      have : lo = hi := by lia
      subst this
      exact ⟨h2, h4, h5⟩
theorem below_ok {xs : Array Nat} (j : Nat) (h : Ris xs) : SetTable.below xs j ≤ xs.size ∧ (∀ (i v : Nat), i < SetTable.below xs j → xs[i]? = some v → v < j) ∧ (∀ (i v : Nat), SetTable.below xs j ≤ i → xs[i]? = some v → j ≤ v) := by
  unfold SetTable.below
  exact below_go h xs.size 0 xs.size (Nat.zero_le _) (Nat.le_refl _) (by lia) (fun i v hi => by lia) (fun i v hi hv => by
    have := (Array.getElem?_eq_some_iff.mp hv).1; lia)
theorem ins_ris {xs : Array Nat} {j : Nat} (h : Ris xs) (hn : xs[SetTable.below xs j]? ≠ some j) : Ris (SetTable.insertAt xs (SetTable.below xs j) j) := by
  obtain ⟨b1, b2, b3⟩ := below_ok j h
  generalize SetTable.below xs j = r at *
  unfold Ris
  rw [SetTable.toList_insertAt]
  have hlt : ∀ v ∈ xs.toList.drop r, j < v := fun v hv => by
    obtain ⟨i, hi⟩ := List.getElem?_of_mem hv
    rw [List.getElem?_drop, Array.getElem?_toList] at hi
    have h1 := b3 _ _ (by lia) hi
    by_cases q : v = j
    · subst q
      by_cases q2 : i = 0
      · subst q2; rw [Nat.add_zero] at hi; exact absurd hi hn
      · have hrl : r < xs.size := by have := (Array.getElem?_eq_some_iff.mp hi).1; (clear q2 h1 b3 b2 hn hi hv b1 h; lia)
        have h2 := h.lt (i := r) (j := r + i) (by (clear hrl h1 b3 b2 hn hi hv b1 h; lia)) (Array.getElem?_eq_getElem hrl) hi
        have h3 := b3 r _ (Nat.le_refl _) (Array.getElem?_eq_getElem hrl)
        lia
    · lia
  have hge : ∀ v ∈ xs.toList.take r, v < j := fun v hv => by
    obtain ⟨i, hi⟩ := List.getElem?_of_mem hv
    rw [List.getElem?_take] at hi
    split at hi
    · rw [Array.getElem?_toList] at hi; exact b2 _ _ (by assumption) hi
    · cases hi
  rw [List.pairwise_append]
  refine ⟨List.Pairwise.sublist (List.take_sublist ..) h, List.pairwise_cons.mpr ⟨hlt, List.Pairwise.sublist (List.drop_sublist ..) h⟩, fun a ha b hb => ?_⟩
  rcases List.mem_cons.mp hb with rfl | hb
  · exact hge a ha
  · have := hge a ha; have := hlt b hb; lia
theorem slot_free {t : SetTable} {j : Nat} (h : t.slot j = .empty ∨ t.slot j = .dummy) : t.place[SetTable.below t.place j]? ≠ some j := fun e => by
  unfold SetTable.slot at h
  simp only [e, beq_self_eq_true, if_true] at h
  rcases h with h | h <;> cases h
theorem advance_dummy (t : SetTable) (p : SetTable.Probe) : (t.advance p).dummy = p.dummy := by
  unfold SetTable.advance; split <;> rfl
theorem probe_go {t : SetTable} {hashAt : Nat → Int} {h : Int} {j : Nat} {d : Option Nat} : ∀ (f : Nat) (p : SetTable.Probe), (∀ x, p.dummy = some x → t.slot x = .dummy) → SetTable.probe.go t hashAt h f p = some (.empty j d) → t.slot j = .empty ∧ ∀ x, d = some x → t.slot x = .dummy
  | 0, p, _, e => by unfold SetTable.probe.go at e; cases e
  | f + 1, p, hp, e => by
    unfold SetTable.probe.go at e
    split at e
    · rename_i hs; cases e; exact ⟨hs, hp⟩
    · rename_i hs
      exact probe_go f _ (fun x hx => by rw [advance_dummy] at hx; cases hx; exact hs) e
    · rename_i i hs
      split at e
      · cases e
      · exact probe_go f _ (fun x hx => by rw [advance_dummy] at hx; exact hp x hx) e
theorem freeSlot_ok {t : SetTable} {h : Int} {slot : Nat} {b : Bool} (e : t.freeSlot h = some (slot, b)) : t.place[SetTable.below t.place slot]? ≠ some slot := by
  unfold SetTable.freeSlot at e
  split at e
  · rename_i j d hp
    unfold SetTable.probe at hp
    obtain ⟨h1, h2⟩ := probe_go _ _ (fun x hx => by cases hx) hp
    cases e
    refine slot_free ?_
    cases d with
    | none => exact .inl h1
    | some x => exact .inr (h2 x rfl)
  · cases e
theorem ris_range (n : Nat) : Ris (Array.range n) := by unfold Ris; rw [Array.toList_range]; exact List.pairwise_lt_range
theorem standIn_ris (t : SetTable) (n : Nat) : Ris (t.standIn n).place ∧ (t.standIn n).led = t.led := ⟨ris_range n, rfl⟩
theorem layNew_ris {t : SetTable} {es : Array (Int × Value)} {h : Int} {x : Value} (hr : Ris t.place) : Ris (layNew t es h x).2.1.place ∧ (layNew t es h x).2.1.led = t.led := by
  unfold layNew
  split
  · rename_i slot wd e
    have h1 : Ris (t.put slot).1.place := ins_ris hr (freeSlot_ok e)
    show Ris (SetTable.orStandIn (t.put slot).1 _).place ∧ (SetTable.orStandIn (t.put slot).1 _).led = t.led
    unfold SetTable.orStandIn
    split
    · exact ⟨h1, rfl⟩
    · exact standIn_ris _ _
  · exact standIn_ris _ _
theorem laid_ris {mask finger moves : Nat} {led plain : Bool} {hs : Array Int} {t : SetTable} {o : Array Nat} (e : SetTable.laid mask finger moves led plain hs = some (t, o)) : Ris t.place ∧ t.led = led := by
  unfold SetTable.laid at e
  cases hc : SetTable.layClean mask hs with
  | none => rw [hc] at e; cases e
  | some owner =>
    rw [hc] at e
    cases e
    refine ⟨?_, rfl⟩
    unfold Ris
    show ((List.map _ _).toArray.toList).Pairwise _
    rw [List.toList_toArray, List.pairwise_map, List.pairwise_filterMap]
    refine List.Pairwise.imp (fun {a b} hab x hx y hy => ?_) List.pairwise_lt_range
    have e1 : x.1 = a := by
      cases q : owner.getD a none with
      | none => rw [q] at hx; cases hx
      | some z => rw [q] at hx; cases hx; rfl
    have e2 : y.1 = b := by
      cases q : owner.getD b none with
      | none => rw [q] at hy; cases hy
      | some z => rw [q] at hy; cases hy; rfl
    rw [e1, e2]; exact hab
theorem relayAll_ris {t : SetTable} {es : Array (Int × Value)} {wanted : Nat} (hr : Ris t.place) : Ris (relayAll t es wanted).2.1.place ∧ (relayAll t es wanted).2.1.led = t.led := by
  unfold relayAll
  split
  · rename_i t' order e
    unfold SetTable.relaid at e
    have := laid_ris e
    dsimp only
    by_cases q : (coversAll order es.size && t'.fits (order.filterMap (es[·]?)).size) = true
    · rw [if_pos q]; exact this
    · rw [if_neg q]; exact standIn_ris _ _
  · exact standIn_ris _ _

/-! ## a set and what it holds -/
structure SetAt {K : Type} [DecidableEq K] {prog : Program} {w : World} (knd : PySem.KeyKind prog w K) (bt : Bool) (o : Obj) (es : Array (Int × Value)) (ep : Nat) (t : SetTable) : Prop where
  ex : o.ExactSet
  hd : o.data = .set es ep t
  el : ElemsOf knd es.toList
  sz : es.size < scanBound
  fit : t.fits es.size = true
  ris : Ris t.place
  led : t.led = !bt
  nd : (es.toList.map fun e => ab e.2).Nodup
noncomputable def SetX {K : Type} [DecidableEq K] {prog : Program} {w : World} (knd : PySem.KeyKind prog w K) (bt : Bool) (h : Heap) (a : Addr) (n : Nat) (S : V → Prop) : Prop :=
  ∃ o es ep t, h.get? a = some o ∧ SetAt knd bt o es ep t ∧ es.size = n ∧ ∀ v, (v ∈ es.toList.map fun e => ab e.2) ↔ S v
section
variable {prog : Program} {w : World} {K : Type} [DecidableEq K] {knd : PySem.KeyKind prog w K} {vk : K → V} {A : Around} {E : Value → Shared → Prop} {s : Shared} {bt : Bool}
theorem SetX.store {h : Heap} {a : Addr} {o : Obj} {es es' : Array (Int × Value)} {ep : Nat} {t t' : SetTable} {S' : V → Prop} (ho : h.get? a = some o) (x : SetAt knd bt o es ep t) (hel : ElemsOf knd es'.toList) (hb : es'.size < scanBound) (hf : t'.fits es'.size = true) (hr : Ris t'.place) (hl : t'.led = !bt) (hn : (es'.toList.map fun e => ab e.2).Nodup) (hS : ∀ v, (v ∈ es'.toList.map fun e => ab e.2) ↔ S' v) :
    (h.update a (Obj.putSet es' t')).get? a = some { o with data := .set es' (ep + 1) t' } ∧ SetAt knd bt { o with data := .set es' (ep + 1) t' } es' (ep + 1) t' ∧ SetX knd bt (h.update a (Obj.putSet es' t')) a es'.size S' := by
  have hg : (h.update a (Obj.putSet es' t')).get? a = some { o with data := .set es' (ep + 1) t' } := by
    have := Heap.get?_update_self (Obj.putSet es' t') ho (by rw [putSet_of es' t' x.hd]; rfl)
    rw [putSet_of es' t' x.hd] at this; exact this
  have y : SetAt knd bt { o with data := .set es' (ep + 1) t' } es' (ep + 1) t' := ⟨x.ex, rfl, hel, hb, hf, hr, hl, hn⟩
  exact ⟨hg, y, _, es', ep + 1, t', hg, y, rfl, hS⟩
theorem addHashed_X {a : Addr} {n : Nat} {S : V → Prop} {k : K} {x : Value} {Q : Bool → Shared → Prop} (hkv : ∀ k v, knd.is k v = true ↔ ab v = vk k) (hkey : knd.is k x = true) (hsc : x.scannable = true) (hX : SetX knd bt s.heap a n S) (hroom : n + 1 < scanBound)
    (h : ∀ h' n' b, Heap.SameBut a s.heap h' → n' ≤ n + 1 → SetX knd bt h' a n' (fun v => S v ∨ v = vk k) → Q b { s with heap := h' }) :
    wpAny (model prog w) A (setAddHashed a x (knd.hash k)) Q E s := by
  obtain ⟨o, es, ep, t, ho, X, hn, hS⟩ := hX
  unfold setAddHashed setAddHashedIn
  refine wpAny_holding (wpAny_bind (wpAny_setState_of ho X.hd X.fit ?_))
  dsimp only
  rw [byScan_of hsc X.sz X.el]
  simp only [if_true]
  unfold setAddByScan
  refine wpAny_bind ?_
  refine wpAny_bind (wpAny_rule ?_)
  refine wpAny_bind (wpAny_setScan_of hkey ho X.hd X.fit X.el ?_)
  cases hr : List.findIdx? (fun e => knd.is k e.2) es.toList with
  | some j =>
    dsimp only
    obtain ⟨hj, hpj, _⟩ := List.findIdx?_eq_some_iff_getElem.mp hr
    have hSk : S (vk k) := (hS _).mp (List.mem_map.mpr ⟨es.toList[j], List.getElem_mem hj, (hkv _ _).mp hpj⟩)
    refine wpAny_pure (wpAny_pure ?_)
    have e : s = { s with heap := s.heap } := by cases s; rfl
    rw [e]
    refine h s.heap n false (Heap.SameBut.refl a s.heap) (by lia) ⟨o, es, ep, t, ho, X, hn, fun v => ?_⟩
    rw [hS]
    exact ⟨.inl, fun q => q.elim id (fun e => e ▸ hSk)⟩
  | none =>
    dsimp only
    have hnot : ∀ e ∈ es.toList, ab e.2 ≠ vk k := fun e he q => by
      have := List.findIdx?_eq_none_iff.mp hr e he
      rw [(hkv _ _).mpr q] at this; cases this
    have hgw : ∀ (b : Bool) {s₁ : Shared} {Q' : Unit → Shared → Prop}, Q' () s₁ → wpAny (model prog w) A (match b with | true => rule "set.scan.the-table-gave-way" | false => pure ()) Q' E s₁ :=
      fun b s₁ Q' hq => by cases b <;> first | exact wpAny_pure hq | exact wpAny_rule hq
    have hperm := layNew_perm t es (knd.hash k) x
    have hfits := layNew_fits t es (knd.hash k) x
    have hris := layNew_ris (es := es) (h := knd.hash k) (x := x) X.ris
    generalize hL : layNew t es (knd.hash k) x = Lw at hperm hfits hris ⊢
    obtain ⟨es1, t1, wasDummy, gave⟩ := Lw
    dsimp only at hperm hfits hris ⊢
    rw [Array.toList_push] at hperm
    have hel1 : ElemsOf knd es1.toList := (X.el.push hkey hsc).perm hperm
    have hsz1 : es1.size = n + 1 := by rw [← Array.length_toList, hperm.length_eq, List.length_append, Array.length_toList, hn]; rfl
    have hb1 : es1.size < scanBound := by rw [hsz1]; exact hroom
    have hmap := hperm.map (fun e : Int × Value => ab e.2)
    rw [List.map_append] at hmap
    have hxk : ab x = vk k := (hkv _ _).mp hkey
    have hnd1 : (es1.toList.map fun e => ab e.2).Nodup := by
      rw [hmap.nodup_iff, List.nodup_append]
      refine ⟨X.nd, by simp, fun v hv u hu q => ?_⟩
      obtain ⟨e, he, rfl⟩ := List.mem_map.mp hv
      simp at hu
      exact hnot e he (by rw [q, hu, hxk])
    have hS1 : ∀ v, (v ∈ es1.toList.map fun e => ab e.2) ↔ (S v ∨ v = vk k) := fun v => by
      rw [hmap.mem_iff, List.mem_append, hS]
      simp [hxk]
    refine wpAny_bind (hgw _ ?_)
    have tail : ∀ t2 : SetTable, t2.fits es1.size = true → Ris t2.place → t2.led = !bt → wpAny (model prog w) A (do
        storeSet a es1 t2
        if (!wasDummy && t2.tooFull) = true then do
            (match (relayAll t2 es1 (SetTable.grown es1.size)).2.2 with | true => rule "set.scan.the-table-gave-way" | false => pure ())
            storeSet a (relayAll t2 es1 (SetTable.grown es1.size)).1 (relayAll t2 es1 (SetTable.grown es1.size)).2.1
            pure (some true)
          else pure (some true)) (fun r s' => wpAny (model prog w) A (match r with | some added => pure added | none => setAddHashedIn a x (knd.hash k) 99999) Q E s') E s := by
      intro t2 f2 r2 l2
      obtain ⟨ho1, X1, hX1⟩ := SetX.store (S' := fun v => S v ∨ v = vk k) ho X hel1 hb1 f2 r2 l2 hnd1 hS1
      refine wpAny_bind (wpAny_storeSet_of ho X.hd ?_ (fits_of_scanBound hb1))
      have hsb1 := Heap.SameBut.update s.heap a (Obj.putSet es1 t2)
      split
      · have hp := relayAll_perm t2 es1 (SetTable.grown es1.size)
        have hfr := relayAll_fits t2 es1 (SetTable.grown es1.size)
        have hrr := relayAll_ris (es := es1) (wanted := SetTable.grown es1.size) r2
        generalize hRl : relayAll t2 es1 (SetTable.grown es1.size) = Rl at hp hfr hrr ⊢
        obtain ⟨es2, t3, gave2⟩ := Rl
        dsimp only at hp hfr hrr ⊢
        have hsz2 : es2.size = es1.size := by rw [← Array.length_toList, hp.length_eq, Array.length_toList]
        refine wpAny_bind (hgw _ ?_)
        refine wpAny_bind (wpAny_storeSet_of ho1 rfl ?_ (fits_of_scanBound (by rw [hsz2]; exact hb1)))
        have hm2 := hp.map (fun e : Int × Value => ab e.2)
        obtain ⟨_, _, hX2⟩ := SetX.store (S' := fun v => S v ∨ v = vk k) ho1 X1 (hel1.perm hp) (by rw [hsz2]; exact hb1) hfr hrr.1 (hrr.2.trans l2) (hm2.nodup_iff.mpr hnd1) (fun v => by rw [hm2.mem_iff, hS1])
        exact wpAny_pure (wpAny_pure (h _ _ true (hsb1.trans (Heap.SameBut.update _ a _)) (by lia) hX2))
      · exact wpAny_pure (wpAny_pure (h _ _ true hsb1 (by lia) hX1))
    have hled : t1.led = !bt := hris.2.trans X.led
    split
    · refine wpAny_bind ?_
      rw [hashByValue_scannable 8 hsc]
      refine wpAny_pure ?_
      cases plainKind x with
      | true => exact tail t1 hfits hris.1 hled
      | false => exact tail { t1 with plain := false } (SetTable.fits_plain_off hfits) hris.1 hled
    · refine wpAny_bind (wpAny_pure ?_)
      exact tail t1 hfits hris.1 hled
end
end Mine

set_option maxHeartbeats 3200000
namespace Mine
open PySem PySem.W PyProof.Rows PySem.Calls

/-! ## set(list) -/
section
variable {prog : Program} {w : World} {K : Type} [DecidableEq K] {knd : PySem.KeyKind prog w K} {vk : K → V} {A : Around} {E : Value → Shared → Prop} {s : Shared} {bt : Bool}
theorem SetX.moved {h h' : Heap} {a : Addr} {n : Nat} {S : V → Prop} (x : SetX knd bt h a n S) (k : ∀ o, h.get? a = some o → h'.get? a = some o) : SetX knd bt h' a n S :=
  let ⟨o, es, ep, t, ho, r⟩ := x; ⟨o, es, ep, t, k o ho, r⟩
theorem SetX.congr {h : Heap} {a : Addr} {n : Nat} {S S' : V → Prop} (x : SetX knd bt h a n S) (k : ∀ v, S v ↔ S' v) : SetX knd bt h a n S' :=
  let ⟨o, es, ep, t, ho, X, hn, hS⟩ := x; ⟨o, es, ep, t, ho, X, hn, fun v => (hS v).trans (k v)⟩
theorem update_loop_X {R : Result → Shared → Prop} {I : Addr} {fp wr : List Addr} {G : Array GenState → Array GenState → Prop} {n : Nat} {P : Nat → Value → Prop} {Sw : Nat → Shared → Prop} (Wk : WalksS prog w A.in1 I fp wr G n P Sw) (Sa : Addr) (hSf : Sa ∉ fp)
    (hkv : ∀ k v, knd.is k v = true ↔ ab v = vk k) (val : Nat → V) (hval : ∀ i v, P i v → ab v = val i ∧ (∃ k, knd.is k v = true) ∧ v.scannable = true) (hb : n + 1 < scanBound) :
    ∀ (k i m : Nat) (s : Shared), n - i = k → i ≤ n → m ≤ i → Sw i s → SetX knd bt s.heap Sa m (fun v => ∃ j, j < i ∧ v = val j) →
      (∀ s' m', Moved (Sa :: wr) G s s' → m' ≤ n → SetX knd bt s'.heap Sa m' (fun v => ∃ j, j < n ∧ v = val j) → R (.ok (.ret .none)) s') →
      codeAny (model prog w) A (.builtin "set.update.loop" ⟨[.ref Sa, .ref I], []⟩) R s := by
  have hSw : Sa ∉ wr := fun h => hSf (Wk.sub _ h)
  have hsub : ∀ b ∈ wr, b ∈ Sa :: wr := fun b hb => List.mem_cons_of_mem _ hb
  intro k
  induction k with
  | zero =>
    intro i m s hk hi hm0 hst hS hR
    have hin : i = n := by lia
    subst hin
    refine codeAny_builtin F.entry_set_update_loop ?_
    rw [Around.under_plainId F.plain_set_update_loop _]
    show wpAny _ A.in1 (pyNext (.ref I) >>= _) _ _ s
    refine wpAny_bind (Wk.done s _ _ hst fun s' hm => ?_)
    show wpAny _ A.in1 (ret Value.none) _ _ s'
    exact wpAny_pure (hR s' m (hm.mono hsub) hm0 (hS.moved fun o e => hm.heap Sa _ hSw e))
  | succ k ih =>
    intro i m s hk hi hm0 hst hS hR
    have hlt : i < n := by (clear hR hS hst hm0 hi ih hsub hSw hb hval hkv hSf Wk; omega)
    refine codeAny_builtin F.entry_set_update_loop ?_
    rw [Around.under_plainId F.plain_set_update_loop _]
    show wpAny _ A.in1 (pyNext (.ref I) >>= _) _ _ s
    refine wpAny_bind (Wk.item i s _ _ hlt hst fun v s' hP hst' hm => ?_)
    obtain ⟨hv1, ⟨kk, hkk⟩, hsc⟩ := hval i v hP
    have hS' := hS.moved (h' := s'.heap) fun o e => hm.heap Sa _ hSw e
    show wpAny _ A.in1 (holding [v] (setAdd Sa v) >>= _) _ _ s'
    refine wpAny_bind (wpAny_holding ?_)
    unfold setAdd
    refine wpAny_holding ?_
    refine wpAny_bind (knd.pyHash (k := kk) hkk ?_)
    refine addHashed_X (knd := knd) (vk := vk) (bt := bt) (s := { s' with toks := s'.toks + 1 }) hkv hkk hsc hS' (by lia) fun h' n' b hsb hn' hS2 => ?_
    have hvk : vk kk = val i := ((hkv _ _).mp hkk).symm.trans hv1
    have hSi : SetX knd bt h' Sa n' (fun v => ∃ j, j < i + 1 ∧ v = val j) := hS2.congr fun u => by
      constructor
      · rintro (⟨j, hj, e⟩ | e)
        · exact ⟨j, by lia, e⟩
        · exact ⟨i, by lia, e.trans hvk⟩
      · rintro ⟨j, hj, e⟩
        by_cases q : j = i
        · subst q; exact .inr (e.trans hvk.symm)
        · exact .inl ⟨j, by lia, e⟩
    refine wpAny_pure ⟨plainId_quiet F.plain_set_update_loop _, ih (i + 1) n' _ (by omega) hlt (by lia) (Wk.frame _ s' _ _ hst' (Nat.le_succ _) fun b hb o e => ?_) hSi fun s'' m' hm'' hm2 hS'' => ?_⟩
    · rw [hsb.2 b (fun h : b = Sa => hSf (by rw [← h]; exact hb))]; exact e
    · refine hR s'' m' (Moved.trans Wk.gtrans ((hm.mono hsub).then_heap (Nat.le_succ _) fun b o hb e => ?_) hm'') hm2 hS''
      rw [hsb.2 b (fun h : b = Sa => hb (by rw [h]; exact List.mem_cons_self))]; exact e
theorem code_set_new {a : Value} {Q₁ : Value → Shared → Prop}
    (h : Q₁ (.ref s.heap.objs.size) { s with heap := s.heap.push { cls := .type "set", dict := none, data := .set #[] 0 (.fresh 0 0 (!w.params.followText "set-order")) } }) :
    codeAny (model prog w) A (.call (.builtin "set.__new__") ⟨[.type "set", a], []⟩) (wants Q₁ E) s := by
  refine codeAny_of_tree ?_
  show wpAny _ A.in1 (do checkBuiltinCall "set.__new__" ⟨[.type "set", a], []⟩; again (.builtin "set.__new__" ⟨[.type "set", a], []⟩)) _ _ s
  refine wpAny_bind (wpAny_of_eq (PySem.F.newCall_set_1 a) (wpAny_pure ⟨plainId_quiet PySem.F.plain_set_new _, codeAny_builtin PySem.F.entry_set_new ?_⟩))
  rw [Around.under_plainId PySem.F.plain_set_new _]
  unfold Builtin.«set.__new__» Builtin.Frozenset.newClass
  have hsub := sub_set_self
  obtain ⟨hp, g, d, tk, os⟩ := s
  dsimp only
  wp_walk
  refine wpAny_askSetting (wpAny_pure ?_)
  dsimp only
  simp only [newObj]
  refine wpAny_bind (wpAny_alloc (wpAny_pure ?_))
  exact wpAny_pure h
theorem setX_fresh {h : Heap} {a : Addr} {bt : Bool} (ho : h.get? a = some { cls := .type "set", dict := none, data := .set #[] 0 (.fresh 0 0 (!bt)) }) : SetX knd bt h a 0 (fun _ => False) :=
  ⟨_, #[], 0, _, ho, ⟨⟨rfl, rfl, rfl⟩, rfl, fun e he => by simp at he, by unfold scanBound; simp, rfl, by unfold Ris; simp [SetTable.fresh], rfl, by simp⟩, rfl, fun v => by simp⟩
theorem call_set_X {l : Addr} {items : Array Value} {Q : Value → Shared → Prop} (hkv : ∀ k v, knd.is k v = true ↔ ab v = vk k)
    (hh : A.handled = none) (hl : s.heap.IsList l items) (hi : ∀ v ∈ items.toList, (∃ k, knd.is k v = true) ∧ v.scannable = true) (hb : items.size + 1 < scanBound)
    (h : ∀ (h' : Heap) (tk m : Nat), m ≤ items.size → SetX knd (w.params.followText "set-order") h' s.heap.objs.size m (fun v => v ∈ items.toList.map ab) →
      (∀ b o, b < s.heap.objs.size → s.heap.get? b = some o → h'.get? b = some o) → Q (.ref s.heap.objs.size) { s with heap := h', toks := tk }) :
    wpAny (model prog w) A (call (.type "set") [.ref l]) Q E s := by
  obtain ⟨c, tl, hmro⟩ := PySem.F.called_set.mro
  have hmade := PySem.F.called_set.made
  have hsub := PySem.F.called_set.sub
  refine wpAny_call (codeAny_of_tree ?_)
  show wpAny _ _ (callAny (.type "set") _) _ _ _
  refine wpAny_pure ⟨Code.quiet_builtin _ (by decide +kernel), codeAny_builtin PySem.F.entry_type_call ?_⟩
  rw [Around.under_plain (weight_type_call_type "set" [.ref l] []) rfl]
  have h1 := PySem.F.called_set.notType
  have h2 := PySem.F.called_set.canCreate
  have hct := PySem.F.typeCall_set_1 (.ref l)
  repeat (any_goals (first | assumption | wp_step))
  refine codeAny_mono (code_set_new (E := E) (Q₁ := fun obj s₁ => obj = .ref s.heap.objs.size ∧ s₁ = { s with heap := s.heap.push { cls := .type "set", dict := none, data := .set #[] 0 (.fresh 0 0 (!w.params.followText "set-order")) } }) ⟨rfl, rfl⟩) fun r s₁ hr => ?_
  cases r with
  | error e => exact hr
  | ok fl =>
    cases fl with
    | ret obj =>
      obtain ⟨rfl, rfl⟩ := hr
      generalize hled : (!w.params.followText "set-order") = led at *
      have hS : (s.heap.push { cls := .type "set", dict := none, data := .set #[] 0 (.fresh 0 0 led) }).get? s.heap.objs.size = some { cls := .type "set", dict := none, data := .set #[] 0 (.fresh 0 0 led) } := Heap.get?_push_size _ rfl
      have hT : Shared.TypeIs { s with heap := s.heap.push { cls := .type "set", dict := none, data := .set #[] 0 (.fresh 0 0 led) } } (.ref s.heap.objs.size) "set" := ⟨_, hS, rfl⟩
      have hli := PySem.F.called_set.init.lookup
      have hbi := PySem.F.called_set.init.bind (.ref s.heap.objs.size)
      repeat (any_goals (first | assumption | wp_step))
      refine codeAny_mono (codeAny_call_builtin (R := wants (fun r s₂ => r = .none ∧ ∃ h' tk m, s₂ = { s with heap := h', toks := tk } ∧ m ≤ items.size ∧
          SetX knd (w.params.followText "set-order") h' s.heap.objs.size m (fun v => v ∈ items.toList.map ab) ∧
          (∀ b o, b < s.heap.objs.size → s.heap.get? b = some o → h'.get? b = some o)) E) PySem.F.called_set.init.plain PySem.F.entry_set_init (check_set_init_1 hT ?_)) fun r₂ s₂ hr₂ => ?_
      · obtain ⟨ol, hol, hcl, nl, hdl⟩ := hl
        obtain ⟨ocls, odict, odata, oslots⟩ := ol
        simp only at hcl hdl
        subst hcl; subst hdl
        have hol' : (s.heap.push { cls := .type "set", dict := none, data := .set #[] 0 (.fresh 0 0 led) }).get? l = some { cls := .type "list", dict := odict, data := .seq items nl, slots := oslots } := Heap.get?_push_of_some _ hol
        have hsls := PySem.F.sub_list_set
        have hslf := PySem.F.sub_list_frozenset
        have hne : (Value.type "list" == Value.type "dict") = false := by decide
        have hl1 : (s.heap.push { cls := .type "set", dict := none, data := .set #[] 0 (.fresh 0 0 led) }).IsList l items := ⟨_, hol', rfl, nl, rfl⟩
        unfold Builtin.«set.__init__» noKeywords Builtin.Frozenset.updateFrom
        generalize hPI : pyIter = PI
        wp_walk
        subst hPI
        refine wpAny_pyIter_list hl1 ?_
        refine wpAny_bind (wpAny_runValue ?_)
        have hlS : l < s.heap.objs.size := Heap.lt_size hol
        have hh3 : A.in1.in1.in1.handled = none := by simp [hh]
        have hneI : l ≠ (s.heap.push { cls := .type "set", dict := none, data := .set #[] 0 (.fresh 0 0 led) }).objs.size := by
          rw [Heap.size_push]; exact Nat.ne_of_lt (Nat.lt_succ_of_lt hlS)
        have hSf : s.heap.objs.size ∉ [(s.heap.push { cls := .type "set", dict := none, data := .set #[] 0 (.fresh 0 0 led) }).objs.size, l] := by
          rw [Heap.size_push]; simp only [List.mem_cons, List.mem_singleton, List.not_mem_nil, or_false, not_or]
          exact ⟨Nat.ne_of_lt (Nat.lt_succ_self _), Nat.ne_of_gt hlS⟩
        have hval : ∀ (i : Nat) (v : Value), items[i]? = some v → ab v = (items.toList.map ab).getD i V.none ∧ (∃ k, knd.is k v = true) ∧ v.scannable = true := fun i v hv => by
          have hv' : items.toList[i]? = some v := by rw [Array.getElem?_toList]; exact hv
          exact ⟨by rw [List.getD_eq_getElem?_getD, List.getElem?_map, hv']; rfl, hi v (List.mem_of_getElem? hv')⟩
        refine update_loop_X (knd := knd) (vk := vk) (bt := w.params.followText "set-order") ((Walks.list hh3 _ l hneI items).toS) s.heap.objs.size
          hSf hkv (fun i => (items.toList.map ab).getD i V.none) hval hb (items.size - 0) 0 0 _ (by lia) (Nat.zero_le _) (Nat.le_refl _)
          ⟨⟨_, Heap.get?_push_size _ rfl, rfl, rfl⟩, (hl1.push _)⟩ ?hS0 ?hR
        case hS0 =>
          refine (setX_fresh (knd := knd) (bt := w.params.followText "set-order") ?_).congr fun v => ?_
          · rw [hled]; exact Heap.get?_push_of_some _ hS
          · simp
        case hR =>
          intro s' m' hm hm2 hS'
          obtain ⟨h', g', d', tk', os'⟩ := s'
          have eg : g' = s.gens := hm.gens
          have ed : d' = s.drawn := hm.drawn
          have eo : os' = s.os := hm.os
          subst eg; subst ed; subst eo
          show wpAny _ _ _ _ _ _
          refine wpAny_pure ?_
          show wpAny _ _ (ret Value.none) _ _ _
          refine wpAny_pure ⟨rfl, h', tk', m', rfl, hm2, hS'.congr fun v => ?_, fun b o hb e => ?_⟩
          · constructor
            · rintro ⟨j, hj, rfl⟩
              have hj' : j < (items.toList.map ab).length := by simpa using hj
              show (items.toList.map ab).getD j V.none ∈ _
              rw [List.getD_eq_getElem?_getD, List.getElem?_eq_getElem hj']
              exact List.getElem_mem hj'
            · intro hv
              obtain ⟨j, hj⟩ := List.getElem?_of_mem hv
              refine ⟨j, by have := (List.getElem?_eq_some_iff.mp hj).1; simpa using this, ?_⟩
              show v = (items.toList.map ab).getD j V.none
              rw [List.getD_eq_getElem?_getD, hj]; rfl
          · have hb1 : b ≠ s.heap.objs.size := Nat.ne_of_lt hb
            have hb2 : b ≠ (s.heap.push { cls := .type "set", dict := none, data := .set #[] 0 (.fresh 0 0 led) }).objs.size := by
              rw [Heap.size_push]; exact Nat.ne_of_lt (Nat.lt_succ_of_lt hb)
            exact hm.heap b o (by simp only [List.mem_cons, List.mem_singleton, List.not_mem_nil, or_false, not_or]; exact ⟨hb1, hb2⟩) (Heap.get?_push_of_some _ (Heap.get?_push_of_some _ e))
      · cases r₂ with
        | error e => exact hr₂
        | ok fl₂ =>
          cases fl₂ with
          | ret r =>
            obtain ⟨rfl, h', tk, m, rfl, hm, hS', hk'⟩ := hr₂
            repeat (any_goals (first | assumption | wp_step))
            exact h _ _ m hm hS' hk'
          | _ => exact hr₂.elim
    | _ => exact hr.elim
end
end Mine

set_option maxHeartbeats 1000000
namespace Mine
open PySem PySem.W PyProof.Rows PySem.Calls

/-! ## what is drawn, and in which order -/
theorem erase_perm {α : Type} : ∀ {l : List α} {i : Nat} (h : i < l.length), (l[i] :: l.eraseIdx i).Perm l
  | [], i, h => by simp at h
  | x :: r, 0, h => by simp
  | x :: r, i + 1, h => by
    rw [List.eraseIdx_cons_succ, List.getElem_cons_succ]
    exact (List.Perm.swap ..).trans ((erase_perm (by simpa using h)).cons x)
section
variable {M : Model} {A : Around} {E : Value → Shared → Prop} {s : Shared}
theorem wpAny_choose {src : Source} {n : Nat} {Q : Nat → Shared → Prop} (hn : n ≠ 0) (h : ∀ i d, i < n → Q i { s with drawn := d }) : wpAny M A (choose src n) Q E s :=
  fun _ _ _ => ⟨hn, h _ _ (Nat.mod_lt _ (Nat.pos_of_ne_zero hn))⟩
theorem drawOrder_wp {α : Type} : ∀ (n : Nat) (xs : List α) (s : Shared) (Q : List α → Shared → Prop), xs.length = n → (∀ ys d, ys.Perm xs → Q ys { s with drawn := d }) → wpAny M A (drawOrder n xs) Q E s
  | 0, xs, s, Q, hl, hq => by
    have : xs = [] := List.eq_nil_of_length_eq_zero hl
    subst this
    unfold drawOrder
    exact wpAny_pure (by have := hq [] s.drawn (List.Perm.refl _); exact this)
  | n + 1, [], s, Q, hl, hq => by simp at hl
  | n + 1, x :: xs, s, Q, hl, hq => by
    unfold drawOrder
    refine wpAny_bind (wpAny_choose (by simp) fun i d hi => ?_)
    rw [List.getElem?_eq_getElem hi]
    refine wpAny_bind (drawOrder_wp n _ _ _ (by rw [List.length_eraseIdx_of_lt hi, hl]; rfl) fun ys d' hp => wpAny_pure ?_)
    refine hq _ _ ((hp.cons _).trans ?_)
    exact (erase_perm hi)
end
theorem pick_go {α : Type} (next : Nat → Nat) : ∀ (f k : Nat) (left : List α) (out : Array α), f = left.length → (pickOrder.go next f k left out).toList.Perm (out.toList ++ left)
  | 0, k, left, out, h => by
    have : left = [] := List.eq_nil_of_length_eq_zero h.symm
    subst this
    unfold pickOrder.go; simp
  | f + 1, k, left, out, h => by
    unfold pickOrder.go
    have hlt : next k % left.length < left.length := Nat.mod_lt _ (by lia)
    rw [List.getElem?_eq_getElem hlt]
    refine (pick_go next f (k + 1) _ _ (by rw [List.length_eraseIdx_of_lt hlt]; lia)).trans ?_
    rw [Array.toList_push, List.append_assoc]
    exact List.Perm.append_left _ (erase_perm hlt)
theorem pick_perm {α : Type} (next : Nat → Nat) (xs : Array α) : (pickOrder next xs).toList.Perm xs.toList := by
  have := pick_go next xs.size 0 xs.toList #[] (by simp)
  unfold pickOrder
  simpa using this

theorem slot_si_next : Slot "set_iterator" "__next__" "set_iterator.__next__" :=
  .of (owner := "set_iterator") (n := "__next__") (by rw [typeLookup_type, builtinLookup_eq_fast]; kernel_rfl) (by decide +kernel) (by decide +kernel) (by decide +kernel)
    (by first | exact .inl (by decide +kernel) | exact .inr (by decide +kernel)) (by rw [isSubtype_type]; kernel_rfl)
theorem entry_si_next : entryFor PySem.table "set_iterator.__next__" = some Builtin.«set_iterator.__next__» := entryFor_of_tree (by kernel_rfl)
theorem args_si_next (a : Value) : argsOk "set_iterator.__next__" ⟨[a], []⟩ := by unfold argsOk; kernel_rfl
theorem entry_set_iter : entryFor PySem.table "set.__iter__" = some Builtin.«frozenset.__iter__» :=
  entryFor_alias (id' := "frozenset.__iter__") (by kernel_rfl) rfl (by decide +kernel) (by kernel_rfl)

noncomputable abbrev siObj (f : Value) (i n ep : Nat) (a : Addr) : Obj := { cls := .type "set_iterator", dict := none, data := .fields #[f, rawInt i, .ref a, rawInt n, rawInt ep], slots := #[] }
noncomputable def dr (es : Array (Int × Value)) (t : SetTable) : Bool := !t.plain && es.size > 1
/-- which of its items comes next -/
inductive Md (p : Params) (a : Addr) (es : Array (Int × Value)) (ep : Nat) (t : SetTable) (vals : List Value) (i : Nat) (f : Value) (h : Heap) : Prop where
  | text (hb : p.followText "set-order" = true) (hf : f = rawInt 0) (hv : vals = (pickOrder (p.setOrder a ep) es).toList.map (·.2))
  | drawn (T : Addr) (pl : List Nat) (n : Nat) (hb : p.followText "set-order" = false) (hd : dr es t = true) (hf : f = .ref T) (hT : h.get? T = some { cls := .type "tuple", dict := none, data := .seq (pl.map fun (j : Nat) => rawInt j).toArray n, slots := #[] }) (hp : pl.Perm (List.range es.size)) (hv : vals = pl.map fun j => (es.getD j (0, .none)).2)
  | slots (sl : Nat) (hb : p.followText "set-order" = false) (hd : dr es t = false) (hf : f = rawInt sl) (hs : SetTable.below t.place sl = i) (hv : vals = es.toList.map (·.2))
section
variable {prog : Program} {w : World} {K : Type} [DecidableEq K] {knd : PySem.KeyKind prog w K} {A : Around} {E : Value → Shared → Prop} {s : Shared}
theorem stop_wp {Q : Option Value → Shared → Prop} {α : Type} {G : α → Shared → Prop} (hh : A.handled = none) {I : Addr} {s0 : Shared} (hx : Heap.ExtBut I s0.heap s.heap)
    (hQ : ∀ h', Heap.ExtBut I s0.heap h' → Q none { s with heap := h' }) :
    wpAny (model prog w) A (newExc (.type "StopIteration") [] >>= fun e => (raiseNew e : Sem α)) G (fun e s' => wpAny (model prog w) A (do if ← isInstance e (.type "StopIteration") then pure none else throw e) Q E s') s := by
  refine wpAny_bind ?_
  simp only [newExc, newTuple]
  refine wpAny_bind (wpAny_newObj_type ?_ (by size_fits))
  refine wpAny_bind (m := firstArgMember _ _) (wpAny_of_eq (a := Value.none) (by first | rfl | (simp only [firstArgMember]; rfl)) ?_)
  refine wpAny_newObj_type ?_ (by size_fits)
  simp only [raiseNew]
  refine wpAny_bind (wpAny_handled ?_)
  rw [hh]
  refine wpAny_bind (wpAny_pure (wpAny_throw ?_))
  refine wpAny_bind (wpAny_isInstance (T := "StopIteration") (b := true) ⟨_, Heap.get?_push_size _ rfl, rfl⟩ isSubtype_stop ?_)
  exact wpAny_pure (hQ _ ((hx.push _).push _))
end
end Mine

set_option maxHeartbeats 1000000
namespace Mine
open PySem PySem.W PyProof.Rows PySem.Calls
section
variable {prog : Program} {w : World} {K : Type} [DecidableEq K] {knd : PySem.KeyKind prog w K} {A : Around} {E : Value → Shared → Prop} {s : Shared}
noncomputable def SwAt (knd : PySem.KeyKind prog w K) (a I : Addr) (tl : List Addr) (n : Nat) (vals : List Value) (i : Nat) (h : Heap) : Prop :=
  ∃ o es ep t f, h.get? a = some o ∧ SetAt knd (w.params.followText "set-order") o es ep t ∧ es.size = n ∧ vals.length = n ∧ h.get? I = some (siObj f i n ep a) ∧ Md w.params a es ep t vals i f h ∧ ∀ T, f = .ref T → T ≠ I ∧ T ∈ tl
theorem byText_wp {Q : Bool → Shared → Prop} (h : Q (w.params.followText "set-order") s) : wpAny (model prog w) A setsByText Q E s := by
  unfold setsByText; exact wpAny_bind (wpAny_askSetting (wpAny_pure h))
theorem setNext_text {a : Addr} {o : Obj} {es : Array (Int × Value)} {ep : Nat} {t : SetTable} {i sl : Nat} {bt : Bool} {Q : Option (Value × Nat) → Shared → Prop} (ho : s.heap.get? a = some o) (X : SetAt knd bt o es ep t) (hb : w.params.followText "set-order" = true)
    (h : Q (((pickOrder (w.params.setOrder a ep) es)[i]?).map fun e => (e.2, sl)) s) : wpAny (model prog w) A (setNext a sl i ep) Q E s := by
  unfold setNext
  refine wpAny_bind (wpAny_setState_of ho X.hd X.fit ?_)
  refine wpAny_bind (byText_wp ?_)
  rw [hb, if_pos rfl]
  simp only [bne_self_eq_false, Bool.false_eq_true, if_false]
  unfold setWalk
  refine wpAny_bind (wpAny_bind (wpAny_setState_of ho X.hd X.fit ?_))
  refine wpAny_bind (byText_wp ?_)
  rw [hb, if_pos rfl]
  exact wpAny_bind (wpAny_askSetting (wpAny_pure (wpAny_pure h)))
theorem setNext_slots {a : Addr} {o : Obj} {es : Array (Int × Value)} {ep : Nat} {t : SetTable} {i sl : Nat} {Q : Option (Value × Nat) → Shared → Prop} (ho : s.heap.get? a = some o) (X : SetAt knd false o es ep t) (hb : w.params.followText "set-order" = false) (hd : dr es t = false)
    (h : Q (match es[SetTable.below t.place sl]?, t.place[SetTable.below t.place sl]? with | some (_, x), some j => some (x, j + 1) | _, _ => none) s) : wpAny (model prog w) A (setNext a sl i ep) Q E s := by
  unfold setNext
  refine wpAny_bind (wpAny_setState_of ho X.hd X.fit ?_)
  refine wpAny_bind (byText_wp ?_)
  rw [hb, if_neg Bool.false_ne_true]
  show wpAny _ _ (if dr es t = true then _ else _) _ _ _
  rw [hd, if_neg Bool.false_ne_true]
  refine wpAny_bind ?_
  show wpAny _ _ (if (!t.led && !es.isEmpty) = true then _ else _) _ _ _
  rw [X.led]
  simp only [Bool.not_false, Bool.not_true, Bool.false_and, Bool.false_eq_true, if_false]
  exact wpAny_pure (wpAny_pure h)
theorem setNext_drawn {a : Addr} {o : Obj} {es : Array (Int × Value)} {ep : Nat} {t : SetTable} {p : Nat} {bt : Bool} {e : Int × Value} {Q : Value → Shared → Prop} (ho : s.heap.get? a = some o) (X : SetAt knd bt o es ep t) (he : es[p]? = some e) (h : Q e.2 s) : wpAny (model prog w) A (setNextDrawn a p ep) Q E s := by
  unfold setNextDrawn
  refine wpAny_bind (wpAny_setState_of ho X.hd X.fit ?_)
  simp only [bne_self_eq_false, Bool.false_eq_true, if_false]
  rw [he]
  exact wpAny_pure h
/-- the end of both branches that give an item -/
theorem si_put {a I : Addr} {n i ep : Nat} {f f' : Value} {x : Value} {P : PySem.Fin → Shared → Prop} (hi : s.heap.get? I = some (siObj f i n ep a))
    (h : ∀ h', h'.get? I = some (siObj f' (i + 1) n ep a) → Heap.SameBut I s.heap h' → P (.done (.ret x)) { s with heap := h' }) :
    wpAny (model prog w) A (do setField (.ref I) 0 f'; setField (.ref I) 1 (rawInt ((i : Int) + 1)); ret x) P E s := by
  refine wpAny_bind (wpAny_setField_rec hi (by simp) fun h1 g1 s1 => ?_)
  refine wpAny_bind (wpAny_setField_rec g1 (by simp) fun h2 g2 s2 => ?_)
  exact wpAny_pure (h h2 g2 (s1.trans s2))
theorem si_put1 {a I : Addr} {n i ep : Nat} {f : Value} {x : Value} {P : PySem.Fin → Shared → Prop} (hi : s.heap.get? I = some (siObj f i n ep a))
    (h : ∀ h', h'.get? I = some (siObj f (i + 1) n ep a) → Heap.SameBut I s.heap h' → P (.done (.ret x)) { s with heap := h' }) :
    wpAny (model prog w) A (do setField (.ref I) 1 (rawInt ((i : Int) + 1)); ret x) P E s := by
  refine wpAny_bind (wpAny_setField_rec hi (by simp) fun h2 g2 s2 => ?_)
  exact wpAny_pure (h h2 g2 s2)
theorem si_item {a I : Addr} {tl : List Addr} {n : Nat} {vals : List Value} {i : Nat} {Q : Option Value → Shared → Prop} (hin : i < n) (haI : a ≠ I) (hst : SwAt knd a I tl n vals i s.heap)
    (h : ∀ h' v, vals[i]? = some v → SwAt knd a I tl n vals (i + 1) h' → Heap.SameBut I s.heap h' → Q (some v) { s with heap := h' }) : wpAny (model prog w) A (pyNext (.ref I)) Q E s := by
  obtain ⟨o, es, ep, t, f, ho, X, hn, hv, hi, md, hfI⟩ := hst
  have hT : s.TypeIs (.ref I) "set_iterator" := ⟨_, hi, rfl⟩
  unfold pyNext
  refine wpAny_bind (wpAny_attempt (wpAny_callSpecial?_slot (name := Str.ofString "__next__") hT slot_si_next (wpAny_call_entry slot_si_next hT entry_si_next ?_ (args_si_next _))))
  show wpAny _ _ (fieldsOf (.ref I) >>= _) _ _ s
  refine wpAny_bind (wpAny_fieldsOf hi rfl ?_)
  show wpAny _ _ (setEntries a >>= _) _ _ s
  refine wpAny_bind (wpAny_setEntries_of ho X.hd X.fit ?_)
  have hsz : ((es.size : Int) != (n : Int)) = false := by rw [hn]; simp
  rw [hsz]
  rw [if_neg Bool.false_ne_true]
  have fin : ∀ h' f' v, vals[i]? = some v → h'.get? I = some (siObj f' (i + 1) n ep a) → Heap.SameBut I s.heap h' → Md w.params a es ep t vals (i + 1) f' h' → (∀ T, f' = .ref T → T ≠ I ∧ T ∈ tl) → Q (some v) { s with heap := h' } := fun h' f' v hv' hi' hs' md' hf' =>
    h h' v hv' ⟨o, es, ep, t, f', hs'.extBut a o haI ho, X, hn, hv, hi', md', hf'⟩ hs'
  cases md with
  | text hb hf hv' =>
    subst hf
    have hlen : i < (pickOrder (w.params.setOrder a ep) es).size := by
      rw [← Array.length_toList, (pick_perm _ _).length_eq, Array.length_toList, hn]; exact hin
    show wpAny _ _ (setNext a 0 (i : Int).toNat (ep : Int).toNat >>= _) _ _ s
    rw [Int.toNat_natCast, Int.toNat_natCast]
    refine wpAny_bind (setNext_text ho X hb ?_)
    rw [Array.getElem?_eq_getElem hlen]
    refine si_put (f' := rawInt 0) hi fun h' hi' hs' => ⟨_, rfl, wpAny_pure (fin h' _ _ ?_ hi' hs' (.text hb rfl hv') (by intro T e; cases e))⟩
    rw [hv', List.getElem?_map, Array.getElem?_toList, Array.getElem?_eq_getElem hlen]; rfl
  | drawn T pl nn hb hd hf hT2 hp hv' =>
    subst hf
    have hpl : pl.length = n := by rw [hp.length_eq, List.length_range, hn]
    obtain ⟨p, hpi⟩ : ∃ p, pl[i]? = some p := ⟨_, List.getElem?_eq_getElem (by lia)⟩
    have hpn : p < es.size := by simpa using hp.mem_iff.mp (List.mem_of_getElem? hpi)
    show wpAny _ _ (seqItems? (.ref T) >>= _) _ _ s
    refine wpAny_bind (wpAny_seqItems hT2 rfl ?_)
    dsimp only
    rw [Int.toNat_natCast]
    have e1 : (pl.map fun (j : Nat) => rawInt j).toArray[i]? = some (rawInt p) := by rw [List.getElem?_toArray, List.getElem?_map, hpi]; rfl
    rw [e1]
    show wpAny _ _ (setNextDrawn a (p : Int).toNat (ep : Int).toNat >>= _) _ _ s
    rw [Int.toNat_natCast, Int.toNat_natCast]
    refine wpAny_bind (setNext_drawn ho X (Array.getElem?_eq_getElem hpn) ?_)
    have hTI := (hfI T rfl).1
    refine si_put1 hi fun h' hi' hs' => ⟨_, rfl, wpAny_pure (fin h' _ _ ?_ hi' hs' (.drawn T pl nn hb hd rfl (hs'.extBut T _ hTI hT2) hp hv') hfI)⟩
    rw [hv', List.getElem?_map, hpi]
    show some (es.getD p (0, .none)).2 = _
    rw [Array.getD_eq_getD_getElem?, Array.getElem?_eq_getElem hpn]; rfl
  | slots sl hb hd hf hs hv' =>
    subst hf
    have X' : SetAt knd false o es ep t := hb ▸ X
    have hie : i < es.size := by lia
    have hps : t.place.size = es.size := by have := X.fit; simp [SetTable.fits] at this; exact this.1
    have hip : i < t.place.size := by lia
    show wpAny _ _ (setNext a (sl : Int).toNat (i : Int).toNat (ep : Int).toNat >>= _) _ _ s
    rw [Int.toNat_natCast, Int.toNat_natCast, Int.toNat_natCast]
    refine wpAny_bind (setNext_slots ho X' hb hd ?_)
    rw [hs, Array.getElem?_eq_getElem hie, Array.getElem?_eq_getElem hip]
    refine si_put (f' := rawInt ((t.place[i] + 1 : Nat) : Int)) hi fun h' hi' hs' => ⟨_, rfl, wpAny_pure (fin h' _ _ ?_ hi' hs' (.slots (t.place[i] + 1) hb hd rfl ?_ hv') (by intro T e; cases e))⟩
    · rw [hv', List.getElem?_map, Array.getElem?_toList, Array.getElem?_eq_getElem hie]; rfl
    · obtain ⟨b1, b2, b3⟩ := below_ok (t.place[i] + 1) X.ris
      have gi := Array.getElem?_eq_getElem hip
      rcases Nat.lt_trichotomy (SetTable.below t.place (t.place[i] + 1)) (i + 1) with q | q | q
      · have := b3 i _ (by lia) gi; lia
      · exact q
      · by_cases q2 : i + 1 < t.place.size
        · have g2 := Array.getElem?_eq_getElem q2
          have := b2 (i + 1) _ q g2
          have := X.ris.lt (by lia) gi g2
          lia
        · (clear gi b3 b2 hs' hi' hps hie X' hfI hi hv' hs hd hb fin hsz hT hv hn X ho h haI hin; omega)
theorem si_done {a I : Addr} {tl : List Addr} {n : Nat} {vals : List Value} {Q : Option Value → Shared → Prop} (hh : A.handled = none) (haI : a ≠ I) (hst : SwAt knd a I tl n vals n s.heap)
    (h : ∀ h', Heap.ExtBut I s.heap h' → Q none { s with heap := h' }) : wpAny (model prog w) A (pyNext (.ref I)) Q E s := by
  obtain ⟨o, es, ep, t, f, ho, X, hn, hv, hi, md, hfI⟩ := hst
  have hT : s.TypeIs (.ref I) "set_iterator" := ⟨_, hi, rfl⟩
  unfold pyNext
  refine wpAny_bind (wpAny_attempt (wpAny_callSpecial?_slot (name := Str.ofString "__next__") hT slot_si_next (wpAny_call_entry slot_si_next hT entry_si_next ?_ (args_si_next _))))
  show wpAny _ _ (fieldsOf (.ref I) >>= _) _ _ s
  refine wpAny_bind (wpAny_fieldsOf hi rfl ?_)
  show wpAny _ _ (setEntries a >>= _) _ _ s
  refine wpAny_bind (wpAny_setEntries_of ho X.hd X.fit ?_)
  have hsz : ((es.size : Int) != (n : Int)) = false := by rw [hn]; simp
  rw [hsz]
  rw [if_neg Bool.false_ne_true]
  have stop : ∀ (s' : Shared) (P : PySem.Fin → Shared → Prop), Heap.ExtBut I s.heap s'.heap → (∃ h', s' = { s with heap := h' }) → wpAny (model prog w) A.in1 (newExc (.type "StopIteration") [] >>= fun e => (raiseNew e : Sem PySem.Fin)) P (fun e s'' => wpAny (model prog w) A (do if ← isInstance e (.type "StopIteration") then pure none else throw e) Q E s'') s' := by
    rintro s' P hx ⟨h1, rfl⟩
    refine wpAny_mono (stop_wp (A := A.in1) (E := E) (Q := Q) (I := I) (s0 := s) hh hx fun h' hx' => ?_) (fun _ _ q => q) fun e s'' q => ?_
    · exact h h' hx'
    · exact wpAny_of_in1 q
  cases md with
  | text hb hf hv' =>
    subst hf
    have hlen : (pickOrder (w.params.setOrder a ep) es).size = n := by
      rw [← Array.length_toList, (pick_perm _ _).length_eq, Array.length_toList, hn]
    show wpAny _ _ (setNext a 0 (n : Int).toNat (ep : Int).toNat >>= _) _ _ s
    rw [Int.toNat_natCast, Int.toNat_natCast]
    refine wpAny_bind (setNext_text ho X hb ?_)
    rw [Array.getElem?_eq_none (by (clear hfI hi hv' hb stop hsz hT hv hn X ho h haI hh; lia))]
    refine wpAny_bind (wpAny_setField_rec hi (by simp) fun h2 g2 s2 => ?_)
    exact stop _ _ (fun b o hb e => s2.extBut b o hb e) ⟨h2, rfl⟩
  | drawn T pl nn hb hd hf hT2 hp hv' =>
    subst hf
    have hpl : pl.length = n := by rw [hp.length_eq, List.length_range, hn]
    show wpAny _ _ (seqItems? (.ref T) >>= _) _ _ s
    refine wpAny_bind (wpAny_seqItems hT2 rfl ?_)
    dsimp only
    rw [Int.toNat_natCast]
    have e1 : (pl.map fun (j : Nat) => rawInt j).toArray[n]? = none := by rw [List.getElem?_toArray, List.getElem?_map, List.getElem?_eq_none (by (clear hfI hi hv' hp hT2 hd hb stop hsz hT hv hn X ho h haI hh; lia))]; rfl
    rw [e1]
    refine wpAny_bind (wpAny_setField_rec hi (by simp) fun h1 g1 s1 => ?_)
    refine wpAny_bind (wpAny_setField_rec g1 (by simp) fun h2 g2 s2 => ?_)
    exact stop _ _ (fun b o hb e => s2.extBut b o hb (s1.extBut b o hb e)) ⟨h2, rfl⟩
  | slots sl hb hd hf hs hv' =>
    subst hf
    have X' : SetAt knd false o es ep t := hb ▸ X
    show wpAny _ _ (setNext a (sl : Int).toNat (n : Int).toNat (ep : Int).toNat >>= _) _ _ s
    rw [Int.toNat_natCast, Int.toNat_natCast, Int.toNat_natCast]
    refine wpAny_bind (setNext_slots ho X' hb hd ?_)
    rw [hs, Array.getElem?_eq_none (by lia : es.size ≤ n)]
    refine wpAny_bind (wpAny_setField_rec hi (by simp) fun h2 g2 s2 => ?_)
    exact stop _ _ (fun b o hb e => s2.extBut b o hb e) ⟨h2, rfl⟩
end
end Mine

set_option maxHeartbeats 1000000
namespace Mine
open PySem PySem.W PyProof.Rows PySem.Calls
section
variable {prog : Program} {w : World} {K : Type} [DecidableEq K] {knd : PySem.KeyKind prog w K} {A : Around} {E : Value → Shared → Prop} {s : Shared}
theorem SwAt.frame {a I : Addr} {tl : List Addr} {n : Nat} {vals : List Value} {i : Nat} {h h' : Heap} (x : SwAt knd a I tl n vals i h) (k : ∀ b ∈ I :: a :: tl, ∀ o, h.get? b = some o → h'.get? b = some o) : SwAt knd a I tl n vals i h' := by
  obtain ⟨o, es, ep, t, f, ho, X, hn, hv, hi, md, hfI⟩ := x
  refine ⟨o, es, ep, t, f, k a (by simp) o ho, X, hn, hv, k I (by simp) _ hi, ?_, hfI⟩
  cases md with
  | text hb hf hv' => exact .text hb hf hv'
  | drawn T pl nn hb hd hf hT2 hp hv' => exact .drawn T pl nn hb hd hf (k T (by simp [(hfI T hf).2]) _ hT2) hp hv'
  | slots sl hb hd hf hs hv' => exact .slots sl hb hd hf hs hv'
theorem walks_set {a I : Addr} {tl : List Addr} {n : Nat} {vals : List Value} (hh : A.handled = none) (haI : a ≠ I) : WalksS prog w A I (I :: a :: tl) [I] (fun x y => y = x) n (fun i v => vals[i]? = some v) (fun i s => SwAt knd a I tl n vals i s.heap) where
  sub := fun b hb => by rw [List.mem_singleton.mp hb]; simp
  grefl := fun _ => rfl
  gtrans := fun _ _ _ x y => y.trans x
  frame := fun i s h' tk hst _ k => hst.frame k
  item := fun i s Q E hi hst hQ => si_item hi haI hst fun h' v hv hst' hs' => hQ v _ hv hst' ⟨fun b o hb e => hs'.extBut b o (fun q => hb (by simp [q])) e, rfl, rfl, rfl, Nat.le_refl _⟩
  done := fun s Q E hst hQ => si_done hh haI hst fun h' hx => hQ _ ⟨fun b o hb e => hx b o (fun q => hb (by simp [q])) e, rfl, rfl, rfl, Nat.le_refl _⟩
  self := fun i s Q E hst hQ => by
    obtain ⟨o, es, ep, t, f, ho, X, hn, hv, hi, md, hfI⟩ := hst
    have hT : s.TypeIs (.ref I) "set_iterator" := ⟨_, hi, rfl⟩
    exact wpAny_pyIter_slot hT slot_si_iter (wpAny_call_entry slot_si_iter hT entry_si_iter (wpAny_pure ⟨_, rfl, "set_iterator", _, hT, slot_si_next.lookup, hQ⟩) (args_si_iter _))
where
  slot_si_iter : Slot "set_iterator" "__iter__" "set_iterator.__iter__" :=
    .of (owner := "set_iterator") (n := "__iter__") (by rw [typeLookup_type, builtinLookup_eq_fast]; kernel_rfl) (by decide +kernel) (by decide +kernel) (by decide +kernel)
      (by first | exact .inl (by decide +kernel) | exact .inr (by decide +kernel)) (by rw [isSubtype_type]; kernel_rfl)
  entry_si_iter : entryFor PySem.table "set_iterator.__iter__" = some Builtin.«dict_keyiterator.__iter__» :=
    entryFor_alias (id' := "dict_keyiterator.__iter__") (by kernel_rfl) rfl (by decide +kernel) (by kernel_rfl)
  args_si_iter (a : Value) : argsOk "set_iterator.__iter__" ⟨[a], []⟩ := by unfold argsOk; kernel_rfl
theorem pyIter_set {a : Addr} {n : Nat} {S : V → Prop} {Q : Value → Shared → Prop} (hX : SetX knd (w.params.followText "set-order") s.heap a n S)
    (h : ∀ I s' tl vals, SwAt knd a I tl n vals 0 s'.heap → (vals.map ab).Nodup → (∀ v, v ∈ vals.map ab ↔ S v) → (∀ b ∈ I :: tl, s.heap.get? b = none) → a ≠ I → (∀ b o, s.heap.get? b = some o → s'.heap.get? b = some o) → s'.gens = s.gens → s'.os = s.os → (∀ b ∈ I :: a :: tl, ∃ o, s'.heap.get? b = some o) → Q (.ref I) s') :
    wpAny (model prog w) A (pyIter (.ref a)) Q E s := by
  obtain ⟨o, es, ep, t, ho, X, hn, hS⟩ := hX
  have hT : s.TypeIs (.ref a) "set" := ⟨o, ho, X.ex.1⟩
  refine wpAny_pyIter_slot hT PySem.F.slot_set_iter (wpAny_call_entry PySem.F.slot_set_iter hT entry_set_iter ?_ (PySem.F.args_set_iter_1 _))
  show wpAny _ _ (Builtin.Frozenset.sizeOf a >>= _) _ _ s
  refine wpAny_bind ?_
  unfold Builtin.Frozenset.sizeOf
  refine wpAny_bind (wpAny_setEntries_of ho X.hd X.fit (wpAny_pure ?_))
  refine wpAny_bind ?_
  unfold setDrawn
  refine wpAny_bind (wpAny_setState_of ho X.hd X.fit ?_)
  refine wpAny_bind (byText_wp (wpAny_pure ?_))
  have halt : a < s.heap.objs.size := Heap.lt_size ho
  have hnd : ∀ {l : List (Int × Value)}, l.Perm es.toList → ((l.map (·.2)).map ab).Nodup ∧ ∀ v, v ∈ (l.map (·.2)).map ab ↔ S v := fun {l} hp => by
    have e : (l.map (·.2)).map ab = l.map fun e => ab e.2 := by rw [List.map_map]; rfl
    rw [e]
    have hm := hp.map fun e : Int × Value => ab e.2
    exact ⟨hm.nodup_iff.mpr X.nd, fun v => by rw [hm.mem_iff, hS]⟩
  by_cases hd : (!w.params.followText "set-order" && dr es t) = true
  · have hd' := hd
    simp only [Bool.and_eq_true, Bool.not_eq_true'] at hd'
    show wpAny _ _ (if (!w.params.followText "set-order" && dr es t) = true then _ else _) _ _ _
    rw [if_pos hd]
    refine wpAny_bind (drawOrder_wp es.size _ _ _ (by simp) fun pl d hp => ?_)
    have hpl : pl.length = es.size := by rw [hp.length_eq, List.length_range]
    have hsc : es.size < 4096 := X.sz
    refine wpAny_bind (wpAny_newTuple ?_ (by rw [List.length_map, hpl, sizeLine_eq]; lia))
    refine wpAny_bind (wpAny_setEpoch_of (o := o) (Heap.get?_push_of_some _ ho) X.hd X.fit ?_)
    refine wpAny_bind (m := newFields _ _) (wpAny_newObj_type ?_ (by size_fits))
    refine wpAny_pure ?_
    have hsz1 : (s.heap.push (seqObj "tuple" (pl.map fun (i : Nat) => rawInt i).toArray 0)).objs.size = s.heap.objs.size + 1 := size_push' ..
    refine ⟨_, rfl, "set_iterator", _, ⟨_, Heap.get?_push_size _ rfl, rfl⟩, slot_si_next.lookup, ?_⟩
    have hps : (pl.map fun j => (es.getD j (0, .none))).Perm es.toList := by
      refine (hp.map _).trans ?_
      have : (List.range es.size).map (fun j => es.getD j (0, .none)) = es.toList := by
        apply List.ext_getElem?
        intro i
        by_cases hi : i < es.size
        · rw [List.getElem?_map, List.getElem?_range hi, Array.getElem?_toList, Array.getElem?_eq_getElem hi]
          show some (es.getD i (0, .none)) = _
          rw [Array.getD_eq_getD_getElem?, Array.getElem?_eq_getElem hi]; rfl
        · rw [List.getElem?_eq_none (by simp; lia), Array.getElem?_toList, Array.getElem?_eq_none (by lia)]
      rw [this]
    obtain ⟨n1, n2⟩ := hnd hps
    have emap : ((pl.map fun j => (es.getD j (0, .none))).map (·.2)) = pl.map fun j => (es.getD j (0, .none)).2 := by rw [List.map_map]; rfl
    rw [emap] at n1 n2
    refine h _ _ [s.heap.objs.size] (pl.map fun j => (es.getD j (0, .none)).2) ⟨o, es, ep, t, .ref s.heap.objs.size, Heap.get?_push_of_some _ (Heap.get?_push_of_some _ ho), X, hn, by rw [List.length_map, hpl, hn], ?_, .drawn s.heap.objs.size pl 0 hd'.1 hd'.2 rfl (Heap.get?_push_of_some _ (Heap.get?_push_size _ rfl)) hp rfl, fun T e => ?_⟩ n1 n2 (fun b hb => ?_) ?_ (fun b ob e => Heap.get?_push_of_some _ (Heap.get?_push_of_some _ e)) rfl rfl (fun b hb => ?_)
    · rw [← hn]; exact Heap.get?_push_size _ rfl
    · cases e
      exact ⟨by rw [hsz1]; exact Nat.ne_of_lt (Nat.lt_succ_self _), by simp⟩
    · rcases List.mem_cons.mp hb with rfl | hb
      · rw [hsz1]; exact Heap.get?_none_of_le (by lia)
      · rw [List.mem_singleton.mp hb]; exact get?_size_none _
    · rw [hsz1]; exact Nat.ne_of_lt (Nat.lt_succ_of_lt halt)
    · rcases List.mem_cons.mp hb with rfl | hb
      · exact ⟨_, Heap.get?_push_size _ rfl⟩
      · rcases List.mem_cons.mp hb with rfl | hb
        · exact ⟨_, Heap.get?_push_of_some _ (Heap.get?_push_of_some _ ho)⟩
        · rw [List.mem_singleton.mp hb]; exact ⟨_, Heap.get?_push_of_some _ (Heap.get?_push_size _ rfl)⟩
  · show wpAny _ _ (if (!w.params.followText "set-order" && dr es t) = true then _ else _) _ _ _
    rw [if_neg hd]
    refine wpAny_bind (wpAny_pure ?_)
    refine wpAny_bind (wpAny_setEpoch_of ho X.hd X.fit ?_)
    refine wpAny_bind (m := newFields _ _) (wpAny_newObj_type ?_ (by size_fits))
    refine wpAny_pure ?_
    refine ⟨_, rfl, "set_iterator", _, ⟨_, Heap.get?_push_size _ rfl, rfl⟩, slot_si_next.lookup, ?_⟩
    have fin : ∀ vals, vals.length = n → Md w.params a es ep t vals 0 (rawInt 0) (s.heap.push (siObj (rawInt 0) 0 es.size ep a)) → (vals.map ab).Nodup → (∀ v, v ∈ vals.map ab ↔ S v) → Q (.ref s.heap.objs.size) { s with heap := s.heap.push (siObj (rawInt 0) 0 es.size ep a) } := fun vals hv md n1 n2 => by
      refine h _ _ [] vals ⟨o, es, ep, t, rawInt 0, Heap.get?_push_of_some _ ho, X, hn, hv, by rw [← hn]; exact Heap.get?_push_size _ rfl, md, by intro T e; cases e⟩ n1 n2 (fun b hb => ?_) (Nat.ne_of_lt halt) (fun b ob e => Heap.get?_push_of_some _ e) rfl rfl (fun b hb => ?_)
      · rw [List.mem_singleton.mp hb]; exact get?_size_none _
      · rcases List.mem_cons.mp hb with rfl | hb
        · exact ⟨_, Heap.get?_push_size _ rfl⟩
        · rw [List.mem_singleton.mp hb]; exact ⟨_, Heap.get?_push_of_some _ ho⟩
    cases hb : w.params.followText "set-order" with
    | true =>
      have hp := pick_perm (w.params.setOrder a ep) es
      obtain ⟨n1, n2⟩ := hnd hp
      exact fin _ (by rw [List.length_map, hp.length_eq, Array.length_toList, hn]) (.text hb rfl rfl) n1 n2
    | false =>
      obtain ⟨n1, n2⟩ := hnd (List.Perm.refl es.toList)
      refine fin _ (by rw [List.length_map, Array.length_toList, hn]) (.slots 0 hb ?_ rfl ?_ rfl) n1 n2
      · rw [hb] at hd; simpa using hd
      · obtain ⟨b1, b2, b3⟩ := below_ok 0 X.ris
        rcases Nat.eq_zero_or_pos (SetTable.below t.place 0) with q | q
        · exact q
        · have := b2 0 _ q (Array.getElem?_eq_getElem (by lia)); lia
end
end Mine

set_option maxHeartbeats 1000000
namespace Mine
open PySem PySem.W PyProof.Rows PySem.Calls

theorem strKind_ab {prog : Program} {w : World} (k : Str) (v : Value) : (PySem.strKind prog w).is k v = true ↔ ab v = .str k := by
  show Value.isStrOf k v = true ↔ _
  constructor
  · intro h; obtain ⟨t, rfl⟩ := Value.isStrOf_shape h; rfl
  · intro h; obtain ⟨t, rfl⟩ := ab_str h; exact strKind_is prog w k t
/-- a set that holds what a list held -/
noncomputable def SetFact {K : Type} [DecidableEq K] {prog : Program} {w : World} (knd : PySem.KeyKind prog w K) (c : Obj) (vs : List V) : Prop :=
  ∃ es ep t, SetAt knd (w.params.followText "set-order") c es ep t ∧ es.size ≤ vs.length ∧ ∀ v, (v ∈ es.toList.map fun e => ab e.2) ↔ v ∈ vs
section
variable {C : Cx} {A : Around} {env : Env} {ρ : Lo} {H : AH} {K : Type} [DecidableEq K] {knd : PySem.KeyKind C.prog C.w K} {vk : K → V}
theorem WCall.set {l : Addr} {ob : O} {vs : List V} {Q : V → AH → Prop} (hh : A.handled = none) (hkv : ∀ k v, knd.is k v = true ↔ ab v = vk k) (hsc : ∀ k v, ab v = vk k → v.scannable = true) (hH : H l = some ob) (hl : lst ob = some vs) (hv : ∀ v ∈ vs, ∃ k, v = vk k) (hz : vs.length < 4000)
    (h : ∀ a c, H a = none → SetFact knd c vs → Q (.ref a) (H.set a (.raw c))) : WCall C A (.ty "set") [.ref l] [] H Q := by
  intro L ρ fv vals kvs e1 e2 e3
  cases ab_ty e1
  obtain ⟨x, rfl, ex⟩ := vals1 e2
  cases ab_ref ex
  cases ab_nil e3
  intro s hs
  obtain ⟨xs, x1, x2, x3⟩ := hs.list hH hl
  have hsz := arr_size x2
  refine call_set_X (knd := knd) (vk := vk) hkv hh x1 (fun v hv' => ?_) (by unfold scanBound; lia) fun h' tk m hm hX hk => ?_
  · have hm : ab v ∈ vs := by rw [← x2]; exact List.mem_map.mpr ⟨v, hv', rfl⟩
    obtain ⟨k, e⟩ := hv _ hm
    exact ⟨⟨k, (hkv _ _).mpr e⟩, hsc k v e⟩
  · obtain ⟨o, es, ep, t, ho, X, hn, hS⟩ := hX
    have k : ∀ b o, s.heap.get? b = some o → h'.get? b = some o := fun b o e => hk b o (Heap.lt_size e) e
    have hnone := get?_size_none s.heap
    exact ⟨ρ, _, hs.alloc (o := .raw o) hnone ho rfl k, .alloc hnone k, rfl, h _ o (hs.fresh hnone).1 ⟨es, ep, t, X, by lia, fun v => by rw [hS, x2]⟩⟩
theorem hint_set {M : Model} {E : Value → Shared → Prop} {s : Shared} {a : Addr} {o : Obj} {Q : Bool → Shared → Prop} (ho : s.heap.get? a = some o) (hc : o.cls = .type "set") (h : Q false s) : wpAny M A (Builtin.List.listLengthHint (.ref a)) Q E s := by
  have hT : s.TypeIs (.ref a) "set" := ⟨o, ho, hc⟩
  unfold Builtin.List.listLengthHint
  refine wpAny_bind (wpAny_specialOf hT PySem.F.slot_set_len.lookup ?_)
  generalize hid : ("set.__len__" : String) = id0
  wp_delta
  rw [show splitId id0 = some ("set", "__len__") from by subst hid; decide +kernel]
  subst hid
  refine wpAny_bind (wpAny_isInstance (T := "set") (b := true) hT (by rw [isSubtype_type]; kernel_rfl) ?_)
  refine wpAny_ite_split (fun hab => absurd hab (by decide)) (fun _ => ?_)
  refine wpAny_ite_split (fun _ => ?_) (fun hab => absurd (by decide +kernel) hab)
  refine wpAny_bind (wpAny_typeOf hT ?_)
  exact wpAny_pure h
theorem Coll.set {a : Addr} {c : Obj} {vs : List V} (hh : A.handled = none) (hH : H a = some (.raw c)) (hf : SetFact knd c vs) : Coll C A H (.ref a) (fun us => us.Nodup ∧ us.length ≤ vs.length ∧ ∀ v, v ∈ us ↔ v ∈ vs) := fun L ρ v s E Q ev hs hq => by
  cases ab_ref ev
  obtain ⟨es, ep, t, X, hle, hS⟩ := hf
  obtain ⟨c', ho, e⟩ := hs.rep a _ hH
  have e' : c' = c := e
  subst e'
  have hX : SetX knd (C.w.params.followText "set-order") s.heap a es.size (fun v => v ∈ vs) := ⟨c', es, ep, t, ho, X, rfl, hS⟩
  unfold collect
  refine wpAny_bind (wpAny_runValue (codeAny_builtin PySem.F.entry_proto_collect ?_))
  rw [Around.under_plainId PySem.F.plain_proto_collect _]
  show wpAny _ A.in1 (newList [] >>= fun l => again (.builtin "list.__iadd__" ⟨[l, .ref a], []⟩)) _ _ s
  refine wpAny_bind (wpAny_newObj_type ?_ (by size_fits))
  refine wpAny_pure ⟨plainId_quiet PySem.F.plain_list_iadd _, codeAny_builtin PySem.F.entry_list_iadd ?_⟩
  rw [Around.under_plainId PySem.F.plain_list_iadd _]
  have hS0 : (s.heap.push { cls := .type "list", data := .seq ([] : List Value).toArray }).get? s.heap.objs.size = some { cls := .type "list", data := .seq ([] : List Value).toArray } := Heap.get?_push_size _ rfl
  have k0 : ∀ b o, s.heap.get? b = some o → (s.heap.push { cls := .type "list", data := .seq ([] : List Value).toArray }).get? b = some o := fun b o e => Heap.get?_push_of_some _ e
  have hn0 := get?_size_none s.heap
  have haS : s.heap.objs.size ≠ a := Nat.ne_of_gt (Heap.lt_size ho)
  generalize hD : s.heap.objs.size = D at *
  generalize hh0 : s.heap.push { cls := .type "list", data := .seq ([] : List Value).toArray } = h0 at *
  show wpAny _ A.in1 (Builtin.List.listExtendWith (.ref D) (.ref a) (.ref D)) _ _ { s with heap := h0 }
  unfold Builtin.List.listExtendWith
  have ho0 := k0 _ _ ho
  refine wpAny_bind (wpAny_typeOf (T := "set") ⟨c', ho0, X.ex.1⟩ ?_)
  have h1 : Builtin.List.listSameRef (.ref D) (.ref a) = false := by simp [Builtin.List.listSameRef, haS]
  have h2 : (Value.type "set" == Value.type "list") = false := by decide
  have h3 : (Value.type "set" == Value.type "tuple") = false := by decide
  simp only [h1, h2, h3, Bool.or_false, Bool.false_eq_true, if_false]
  refine wpAny_bind (pyIter_set (s := { s with heap := h0 }) (knd := knd) (n := es.size) (S := fun v => v ∈ vs) ⟨c', es, ep, t, ho0, X, rfl, hS⟩ fun I s1 tl vals hsw hnd hmem hnew haI k1 hg1 hos1 hlive => ?_)
  refine wpAny_bind (wpAny_holding (hint_set (k1 _ _ ho0) X.ex.1 ?_))
  refine wpAny_ite_split (fun _ => ?_) (fun hab => absurd (by decide +kernel) hab)
  refine wpAny_bind (wpAny_rule ?_)
  refine wpAny_bind ?_
  show wpAny _ A.in1 (updateSeq D (·.push .none) >>= fun _ => updateSeq D (·.pop)) _ _ _
  have hS1 := k1 _ _ hS0
  refine wpAny_bind (wpAny_updateSeq hS1 rfl ?_)
  have hS₂ := Heap.get?_update_self (Obj.mapSeq (·.push Value.none)) hS1 rfl
  refine wpAny_updateSeq (hz := by seq_fits) hS₂ rfl ?_
  have hS₃ := Heap.get?_update_self (Obj.mapSeq (·.pop)) hS₂ rfl
  have oth : ∀ b o, b ≠ D → s1.heap.get? b = some o → ((s1.heap.update D (Obj.mapSeq (·.push Value.none))).update D (Obj.mapSeq (·.pop))).get? b = some o :=
    fun b o hb e => (Heap.get?_update_other _ _ (Ne.symm hb)).trans ((Heap.get?_update_other _ _ (Ne.symm hb)).trans e)
  have hDf : D ∉ I :: a :: tl := fun q => by
    rcases List.mem_cons.mp q with q | q
    · have := hnew I (by simp); rw [← q] at this; change h0.get? D = none at this; rw [hS0] at this; cases this
    · rcases List.mem_cons.mp q with q | q
      · exact haS q
      · have := hnew D (by simp [q]); change h0.get? D = none at this; rw [hS0] at this; cases this
  have hvl : vals.length = es.size := by obtain ⟨_, _, _, _, _, _, _, _, hv, _⟩ := hsw; exact hv
  have hsc : es.size < 4096 := X.sz
  refine wpAny_pure ⟨plainId_quiet PySem.F.plain_extend_loop _, codeAny_extend_loopS (walks_set (knd := knd) (tl := tl) (n := es.size) (vals := vals) (A := A.in1) hh haI) (by rw [sizeLine_eq]; lia) D hDf _ es.size 0 _ _ _ rfl (Nat.zero_le _) (hsw.frame fun b hb o e => oth b o (fun q => hDf (q ▸ hb)) e) hS₃ (ItemsOf.nil _) fun s' acc' c2 hm hS' hacc => ?_⟩
  show wpAny _ A (load D >>= _) _ _ s'
  refine wpAny_bind (wpAny_load hS' ?_)
  have hav : acc'.toList = vals := by
    apply List.ext_getElem?
    intro i
    by_cases hi : i < es.size
    · have h1 := hacc.2 i _ (Array.getElem?_eq_getElem (show i < acc'.size by rw [hacc.1]; exact hi))
      rw [Array.getElem?_toList, Array.getElem?_eq_getElem (show i < acc'.size by rw [hacc.1]; exact hi)]; exact h1.symm
    · rw [Array.getElem?_toList, Array.getElem?_eq_none (by rw [hacc.1]; lia), List.getElem?_eq_none (by lia)]
  have kk : ∀ b o, s.heap.get? b = some o → s'.heap.get? b = some o := fun b o e => by
    have hbD : b ≠ D := fun q => by rw [q, hn0] at e; cases e
    have hbI : b ≠ I := fun q => by
      have := hnew I (by simp); change h0.get? I = none at this; rw [q] at e; rw [k0 _ _ e] at this; cases this
    exact hm.heap b o (by simp [hbD, hbI]) (oth b o hbD (k1 b o (k0 b o e)))
  refine wpAny_pure (hq acc'.toList s' ⟨by rw [hav]; exact hnd, by rw [hav, List.length_map]; lia, fun v => by rw [hav]; exact hmem v⟩ (by rw [Array.length_toList, hacc.1, sizeLine_eq]; lia) (hs.ext kk) ⟨⟨?_, ?_⟩, fun b o e _ _ => kk b o e, fun _ _ _ e => e, fun b o e => ⟨o, kk b o e⟩⟩)
  · exact Eq.trans hm.gens hg1
  · exact Eq.trans hm.os hos1
end
end Mine

set_option maxHeartbeats 1000000
namespace Mine
open PySem PySem.W PyProof.Rows PySem.Calls

section
variable {C : Cx} {A : Around} {env : Env} {ρ : Lo} {H : AH}
/-! ## and, or as values (of truth) -/
/-! ## type(x) is not int -/
/-! ## a range, as a thing; what list(range) holds -/
noncomputable def RangeFact (c : Obj) (a : Int) (n : Nat) : Prop := ∃ b t u v, c = { cls := .type "range", data := .fields #[.int a t, .int b u, .int 1 v] } ∧ Builtin.Range.small a b 1 = true ∧ Builtin.Range.rangeSize a b 1 = n
theorem WE.rangeObj {e : Expr} {id : Str} {p pos : Pos} {b : Int} {Q : V → AH → Prop} (hf : Ev C A env ρ H (.Name id p) (.ty "range")) (he : Ev C A env ρ H e (.int b)) (hb : -(2 ^ 62) ≤ b) (hb' : b < 2 ^ 62)
    (h : ∀ r c, H r = none → RangeFact c 0 b.toNat → Q (.ref r) (H.set r (.raw c))) (hn : noStar [e] = true := by rfl) : WE C A env (.Call (.Name id p) [e] [] pos) ρ H Q := by
  refine WE.callTy hf (WEs.of (.cons he .nil) ?_) hn
  intro L ρ' fv vals kvs e1 e2 e3
  cases ab_ty e1
  obtain ⟨x, rfl, ex⟩ := vals1 e2
  cases ab_nil e3
  obtain ⟨t, rfl⟩ := ab_int ex
  intro s hs
  have ha := get?_size_none s.heap
  have k : ∀ b' o, s.heap.get? b' = some o → (s.heap.push { cls := .type "range", data := .fields #[.int 0 s.toks, .int b t, .int 1 (s.toks + 1)] }).get? b' = some o := fun b' o e => Heap.get?_push_of_some _ e
  refine call_range_1 ⟨_, _, hs.alloc (o := .raw _) ha (Heap.get?_push_size _ rfl) rfl k, Step.alloc ha k, rfl, h _ _ (hs.fresh ha).1 ⟨b, _, _, _, rfl, small_one (by decide) (by decide) hb hb', by rw [rangeSize_nat]; simp⟩⟩
theorem Coll.range {r : Addr} {c : Obj} {n : Nat} {a : Int} (hh : A.handled = none) (hH : H r = some (.raw c)) (hf : RangeFact c a n) (hn : n ≤ 1000) : Coll C A H (.ref r) (fun us => us = (List.range n).map fun (i : Nat) => V.int (a + i)) := fun L ρ v s E Q ev hs hq => by
  cases ab_ref ev
  obtain ⟨b, t, u, w, rfl, hsm, hsz⟩ := hf
  obtain ⟨c', ho, e⟩ := hs.rep r _ hH
  have e' : c' = _ := e
  subst e'
  unfold collect
  refine wpAny_bind (wpAny_runValue (codeAny_builtin PySem.F.entry_proto_collect ?_))
  rw [Around.under_plainId PySem.F.plain_proto_collect _]
  show wpAny _ A.in1 (newList [] >>= fun l => again (.builtin "list.__iadd__" ⟨[l, .ref r], []⟩)) _ _ s
  refine wpAny_bind (wpAny_newObj_type ?_ (by size_fits))
  refine wpAny_pure ⟨plainId_quiet PySem.F.plain_list_iadd _, codeAny_builtin PySem.F.entry_list_iadd ?_⟩
  rw [Around.under_plainId PySem.F.plain_list_iadd _]
  have hS0 : (s.heap.push { cls := .type "list", data := .seq ([] : List Value).toArray }).get? s.heap.objs.size = some { cls := .type "list", data := .seq #[] 0 } := Heap.get?_push_size _ rfl
  have k0 : ∀ b o, s.heap.get? b = some o → (s.heap.push { cls := .type "list", data := .seq ([] : List Value).toArray }).get? b = some o := fun b o e => Heap.get?_push_of_some _ e
  have hn0 := get?_size_none s.heap
  show wpAny _ A.in1 (Builtin.List.listExtendWith (.ref s.heap.objs.size) (.ref r) (.ref s.heap.objs.size)) _ _ _
  refine wpAny_extend_range (R := fun r s' => match r with
              | Except.ok (Flow.ret v) =>
                wpAny C.M A
                  (match v with
                  | Value.ref a => do
                    let __do_lift ← load a
                    match __do_lift.data with
                      | Data.seq xs epoch => pure xs.toList
                      | x => unsupported "internal:collect"
                  | x => unsupported "internal:collect")
                  Q E s'
              | Except.ok a => False
              | Except.error e => E e s') (A := A) (s := { s with heap := s.heap.push { cls := .type "list", data := .seq ([] : List Value).toArray } }) hh (k0 _ _ ho) hsm hsz (by lia) _ _ 0 hS0 fun h' tk acc' c' hk hS' hacc => ?_
  show wpAny _ A (load s.heap.objs.size >>= _) _ _ _
  refine wpAny_bind (wpAny_load hS' ?_)
  have kk : ∀ b o, s.heap.get? b = some o → h'.get? b = some o := fun b o e => hk b o (fun q => by rw [q, hn0] at e; cases e) (k0 _ _ e)
  have hlen : acc'.toList.length = n := by rw [Array.length_toList]; exact hacc.1
  refine wpAny_pure (hq acc'.toList _ ?_ (by rw [hlen, sizeLine_eq]; lia) (hs.ext kk) (Step.ext kk))
  apply List.ext_getElem?
  intro i
  by_cases hi : i < n
  · have hi' : i < acc'.size := by rw [hacc.1]; exact hi
    obtain ⟨t', h1⟩ := hacc.2 i _ (Array.getElem?_eq_getElem hi')
    rw [List.getElem?_map, Array.getElem?_toList, Array.getElem?_eq_getElem hi', List.getElem?_map, List.getElem?_range hi, Option.map_some, Option.map_some, h1]
    simp [ab]
  · rw [List.getElem?_eq_none (by rw [List.length_map, hlen]; lia), List.getElem?_eq_none (by rw [List.length_map, List.length_range]; lia)]
end
end Mine

namespace Mine
open PySem PySem.W PyProof.Rows

/-! ## strings as lists of signs -/
noncomputable def S (l : List Nat) : Str := ⟨l.toArray⟩
theorem S_list (l : List Nat) : (S l).cps.toList = l := by simp [S]
theorem S_len (l : List Nat) : (S l).length = l.length := by simp [S, Str.length]
theorem S_inj {l l' : List Nat} (h : S l = S l') : l = l' := by
  have := congrArg (fun x : Str => x.cps.toList) h
  simpa [S_list] using this
theorem S_app (l l' : List Nat) : S l ++ S l' = S (l ++ l') := by
  show (⟨l.toArray ++ l'.toArray⟩ : Str) = ⟨(l ++ l').toArray⟩
  simp
noncomputable def slt : List Nat → List Nat → Bool
  | _, [] => false
  | [], _ :: _ => true
  | a :: as, b :: bs => decide (a < b) || (a == b && slt as bs)
theorem slt_eq : ∀ (a b : List Nat), decide (a < b) = slt a b
  | [], [] => StrLaws.lt_nil_nil
  | [], b :: t => StrLaws.lt_nil_cons b t
  | a :: r, [] => StrLaws.lt_cons_nil a r
  | a :: r, b :: t => by rw [StrLaws.lt_cons_cons, slt_eq r t]; rfl
theorem slt_irrefl : ∀ (a : List Nat), slt a a = false
  | [] => rfl
  | a :: r => by simp [slt, slt_irrefl r]
theorem slt_total : ∀ (a b : List Nat), slt a b = false → slt b a = false → a = b
  | [], [], _, _ => rfl
  | [], _ :: _, h, _ => by simp [slt] at h
  | _ :: _, [], _, h => by simp [slt] at h
  | a :: r, b :: t, h1, h2 => by
    simp [slt] at h1 h2
    have : a = b := by lia
    subst this
    rw [slt_total r t (h1.2 rfl) (h2.2 rfl)]
theorem slt_trans : ∀ (a b c : List Nat), slt b a = false → slt c b = false → slt c a = false
  | [], _, c, _, _ => by cases c <;> rfl
  | a :: r, [], c, h, _ => by simp [slt] at h
  | a :: r, b :: t, [], _, h => by simp [slt] at h
  | a :: r, b :: t, c :: u, h1, h2 => by
    simp [slt] at h1 h2 ⊢
    refine ⟨by lia, fun q => ?_⟩
    have e1 : a = b := by lia
    subst e1
    exact slt_trans r t u (h1.2 rfl) (h2.2 q)
theorem slt_asym : ∀ (a b : List Nat), slt a b = true → slt b a = false
  | [], [], _ => rfl
  | [], _ :: _, _ => rfl
  | _ :: _, [], h => by simp [slt] at h
  | a :: r, b :: t, h => by
    simp [slt] at h ⊢
    refine ⟨by lia, fun q => ?_⟩
    subst q
    rcases h with h | h
    · lia
    · exact slt_asym r t h.2
/-- cutting keeps the order -/
theorem slt_take : ∀ (m : Nat) (a b : List Nat), slt b a = false → slt (b.take m) (a.take m) = false
  | 0, a, b, _ => by simp [slt]
  | m + 1, [], b, _ => by cases b <;> simp [slt]
  | m + 1, a :: r, [], h => by simp [slt] at h
  | m + 1, a :: r, b :: t, h => by
    simp [slt] at h ⊢
    exact ⟨h.1, fun q => slt_take m r t (h.2 q)⟩
theorem slt_cut : ∀ (a p : List Nat) (m : Nat), p.length = m → slt (a.take m) p = slt a p
  | _, [], _, h => by simp [slt]
  | [], p :: t, m, h => by simp [slt]
  | a :: r, p :: t, m, h => by
    obtain ⟨k, rfl⟩ : ∃ k, m = k + 1 := ⟨m - 1, by simp at h; lia⟩
    simp only [List.take_succ_cons, slt]
    rw [slt_cut r t k (by simpa using h)]

/-! ## slices -/
theorem idx_nat (a b len : Nat) : Builtin.Str.strSliceIndices (some (a : Int)) (some (b : Int)) 1 len = (List.range (min b len - min a len)).map (fun k => min a len + k) := by
  have h1 : ¬ ((a : Int) < 0) := by lia
  have h2 : ¬ ((b : Int) < 0) := by lia
  have e1 : max (0 : Int) (min (a : Int) (len : Int)) = (min a len : Nat) := by omega
  have e2 : max (0 : Int) (min (b : Int) (len : Int)) = (min b len : Nat) := by (clear e1 h1; omega)
  simp only [Builtin.Str.strSliceIndices, sliceRange, h1, h2, if_false, e1, e2, show ((1 : Int) > 0) = True from by simp, if_true]
  generalize min a len = x
  generalize min b len = y
  by_cases hlt : (x : Int) < y
  · have e3 : (((y : Int) - x + 1 - 1) / 1).toNat = y - x := by first | lia | (simp; done) | (simp; omega)
    simp only [hlt, if_true, e3]
    refine List.map_congr_left fun k _ => ?_
    lia
  · have : y - x = 0 := by (clear e2 e1 h2 h1; omega)
    simp [hlt, this]
theorem slice_nat (l : List Nat) (a b : Nat) : Txt.slice (S l) (some (a : Int)) (some (b : Int)) = S ((l.drop a).take (b - a)) := by
  have key : (Builtin.Str.strSliceIndices (some (a : Int)) (some (b : Int)) 1 (S l).length).filterMap ((S l).cps[·]?) = (l.drop a).take (b - a) := by
    rw [idx_nat, S_len]
    have h := StrLaws.picks l (min b l.length - min a l.length) (min a l.length) (by omega)
    have e : ((List.range (min b l.length - min a l.length)).map (fun k => min a l.length + k)).filterMap ((S l).cps[·]?) = ((List.range (min b l.length - min a l.length)).map (fun k => min a l.length + k)).filterMap (l[·]?) := by
      congr 1; funext i; simp [S]
    rw [e, h]
    apply List.ext_getElem?
    intro i
    simp only [List.getElem?_take, List.getElem?_drop]
    by_cases ha : a ≤ l.length
    · rw [Nat.min_eq_left ha]
      by_cases hi : i < b - a
      · rw [if_pos hi]
        split
        · rfl
        · rw [List.getElem?_eq_none (by omega)]
      · rw [if_neg hi, if_neg (by omega)]
    · rw [List.getElem?_eq_none (l := l) (i := a + i) (by lia), if_neg (by omega)]
      simp
  unfold Txt.slice
  split
  · rename_i h
    simp only [beq_self_eq_true, Bool.true_and, beq_iff_eq] at h
    rw [idx_nat, S_len, List.length_map, List.length_range] at h
    congr 1
    by_cases hl : l.length = 0
    · rw [List.eq_nil_of_length_eq_zero hl]; simp
    · have h1 : a = 0 := by omega
      subst h1
      rw [List.drop_zero, List.take_of_length_le (by lia)]
  · rw [key]; rfl
theorem slice_to (l : List Nat) (b : Nat) : Txt.slice (S l) none (some (b : Int)) = S (l.take b) := by
  have := slice_nat l 0 b
  rw [List.drop_zero, Nat.sub_zero] at this
  rw [← this]
  unfold Txt.slice
  rw [StrLaws.sliceIdx_none_lo]; rfl
theorem slice_from (l : List Nat) (a : Nat) : Txt.slice (S l) (some (a : Int)) none = S (l.drop a) := by
  have := slice_nat l a l.length
  rw [List.take_of_length_le (by simp)] at this
  rw [← this]
  unfold Txt.slice
  rw [StrLaws.sliceIdx_none_hi, S_len]

section
variable {C : Cx} {A : Around} {env : Env} {ρ : Lo} {H : AH}
theorem part_of {v : Value} {k : Option Int} (h : IsPart v k) : ∃ l : Option (Int × Tok), v = partValue l ∧ l.map (·.1) = k := by
  cases h with
  | none => exact ⟨none, rfl, rfl⟩
  | int i t => exact ⟨some (i, t), rfl, rfl⟩
theorem Ev.strSlice {o : Expr} {lower upper : Option Expr} {p pos : Pos} {lo hi : Option Int} {x : Str} (h : Ev C A env ρ H o (.str x)) (hl : EvP C A env ρ H lower lo) (hu : EvP C A env ρ H upper hi) (hz : x.length ≤ sizeLine)
    : Ev C A env ρ H (.Subscript o (.Slice lower upper Option.none p) pos) (.str (Txt.slice x lo hi)) := fun s hs => by
  refine Subscript_ (wpAny_mono (h s hs) (fun v s1 ⟨ρ1, H1, a1, b1, c1, c2, c3⟩ => ?_) fun _ _ e => e)
  subst c1 c2
  obtain ⟨t, rfl⟩ := ab_str c3
  refine wpAny_Slice (wpAny_mono (hl.run s1 a1) (fun vl s2 ⟨ρ2, H2, a2, b2, c4, c5, pl⟩ => ?_) fun _ _ e => e)
  subst c4 c5
  refine wpAny_mono (hu.run s2 a2) (fun vu s3 ⟨ρ3, H3, a3, b3, c6, c7, pu⟩ => ?_) fun _ _ e => e
  subst c6 c7
  obtain ⟨l, rfl, el⟩ := part_of pl
  obtain ⟨u, rfl, eu⟩ := part_of pu
  subst el eu
  rw [evalPart_none]
  refine wpAny_pure ?_
  have k1 : ∀ b o, s3.heap.get? b = some o → (s3.heap.push { cls := .type "slice", data := .fields #[partValue l, partValue u, .none] }).get? b = some o := fun b o e => Heap.get?_push_of_some _ e
  have b13 := (b1.trans b2 (fun _ _ => a2.nl)).trans b3 (fun _ _ => a3.nl)
  refine tail_any (ops := [.ref s3.heap.objs.size, .str x t]) (typeIs_str _ x t) PySem.F.slot_str_getitem.lookup (wpAny_getItem_str_slice (l := l) (u := u) (st := Option.none) ⟨_, Heap.get?_push_size _ rfl, rfl, rfl⟩ rfl ?_) rfl
  refine post_val_or_str ⟨Nat.le_trans (Txt.slice_le x _ _) hz, fun t' k => ⟨_, _, a3.ext k1, b13.trans (Step.ext (tk := k) k1) (fun _ _ => a3.nl), rfl, rfl, rfl⟩⟩
theorem Ev.strTo {o e : Expr} {p pos : Pos} {l : List Nat} {b : Nat} (h : Ev C A env ρ H o (.str (S l))) (hu : Ev C A env ρ H e (.int b)) (hz : l.length ≤ 1000) :
    Ev C A env ρ H (.Subscript o (.Slice Option.none (some e) Option.none p) pos) (.str (S (l.take b))) := by
  rw [← slice_to]
  exact Ev.strSlice h .none (.some hu) (by rw [S_len]; exact Nat.le_trans hz (by decide))
theorem Ev.strFrom {o e : Expr} {p pos : Pos} {l : List Nat} {b : Nat} (h : Ev C A env ρ H o (.str (S l))) (hu : Ev C A env ρ H e (.int b)) (hz : l.length ≤ 1000) :
    Ev C A env ρ H (.Subscript o (.Slice (some e) Option.none Option.none p) pos) (.str (S (l.drop b))) := by
  rw [← slice_from]
  exact Ev.strSlice h (.some hu) .none (by rw [S_len]; exact Nat.le_trans hz (by decide))
theorem Ev.strPart {o e e' : Expr} {p pos : Pos} {l : List Nat} {a b : Nat} (h : Ev C A env ρ H o (.str (S l))) (hl : Ev C A env ρ H e (.int a)) (hu : Ev C A env ρ H e' (.int ((a : Int) + (b : Int)))) (hz : l.length ≤ 1000) :
    Ev C A env ρ H (.Subscript o (.Slice (some e) (some e') Option.none p) pos) (.str (S ((l.drop a).take b))) := by
  have := slice_nat l a (a + b)
  rw [Nat.add_sub_cancel_left] at this
  rw [← this]
  refine Ev.strSlice h (.some hl) (.some ?_) (by rw [S_len]; exact Nat.le_trans hz (by decide))
  rw [Int.natCast_add]; exact hu
theorem Ev.strItem {o i : Expr} {pos : Pos} {l : List Nat} {k c : Nat} (h1 : Ev C A env ρ H o (.str (S l))) (h2 : Ev C A env ρ H i (.int k)) (hc : l[k]? = some c) (hz : l.length ≤ 1000)
    (hs : ∀ u t, subscripted i false (.str (S l) u) (.int k t) = operate [.str (S l) u, .int k t] (getItem (.str (S l) u) (.int k t)) := by intro _ _; with_unfolding_all rfl) : Ev C A env ρ H (.Subscript o i pos) (.str (S [c])) :=
  W.Subscript (W.mono h1 (by
    rintro x _ _ ⟨rfl, rfl, e⟩
    refine h2.then fun y e' => ?_
    obtain ⟨u, rfl⟩ := ab_str e
    obtain ⟨t, rfl⟩ := ab_int e'
    intro s hst
    have hlt : k < l.length := (List.getElem?_eq_some_iff.mp hc).1
    refine tail_any (typeIs_str s _ u) PySem.F.slot_str_getitem.lookup (PySem.P.getItem_str (c := c) ?_ ?_ ⟨_, _, hst, .toks, rfl, rfl, rfl⟩) (hs u t)
    · simp; lia
    · rw [S_len]
      have : seqIndex? (k : Int) l.length = some k := by
        unfold seqIndex?
        simp; (clear hst e' e h2 h1 hs hz hc; omega)
      rw [this]
      simp [S, hc]))
theorem Ev.strAdd {l r : Expr} {pos : Pos} {x y : List Nat} (h1 : Ev C A env ρ H l (.str (S x))) (h2 : Ev C A env ρ H r (.str (S y))) (hz : x.length + y.length ≤ 1000) : Ev C A env ρ H (.BinOp l .Add r pos) (.str (S (x ++ y))) :=
  Ev.bin h1 h2 fun a b ha hb s hs => by
    obtain ⟨t, rfl⟩ := ab_str ha
    obtain ⟨u, rfl⟩ := ab_str hb
    refine PySem.P.add_str ?_
    rw [S_len, S_len, S_app]
    by_cases hx : x.length = 0
    · rw [if_pos (by simpa using hx)]
      rw [List.eq_nil_of_length_eq_zero hx]
      exact ⟨_, _, hs, .refl .., rfl, rfl, rfl⟩
    · rw [if_neg (by simpa using hx)]
      by_cases hy : y.length = 0
      · rw [if_pos (by simpa using hy)]
        rw [List.eq_nil_of_length_eq_zero hy, List.append_nil]
        exact ⟨_, _, hs, .refl .., rfl, rfl, rfl⟩
      · rw [if_neg (by simpa using hy)]
        exact ⟨by rw [S_len, List.length_append]; exact Nat.le_trans hz (by decide), ⟨_, _, hs, .toks, rfl, rfl, rfl⟩⟩
theorem LtOk.str {x y : List Nat} : LtOk C A H (.str (S x)) (.str (S y)) (slt x y) := fun L ρ a b ha hb s hs => by
  obtain ⟨t, rfl⟩ := ab_str ha
  obtain ⟨u, rfl⟩ := ab_str hb
  refine PySem.P.lt_str ?_
  rw [S_list, S_list, slt_eq]
  exact ⟨_, _, hs, .refl .., rfl, rfl, rfl⟩
theorem EvT.strEq {l r : Expr} {pos : Pos} {x y : List Nat} (h1 : Ev C A env ρ H l (.str (S x))) (h2 : Ev C A env ρ H r (.str (S y))) (hm : behindInMarks .Eq r = false := by with_unfolding_all rfl) : EvT C A env ρ H (.Compare l [.Eq] [r] pos) (decide (x = y)) :=
  Ev.any h1 h2 (fun a b ha hb s hs => by
    obtain ⟨t, rfl⟩ := ab_str ha
    obtain ⟨u, rfl⟩ := ab_str hb
    refine PySem.P.eq_str ?_
    rw [S_list, S_list]
    refine ⟨_, _, hs, .refl .., rfl, rfl, ?_⟩
    congr 1
    rw [Bool.eq_iff_iff]; simp) hm
theorem Ev.lenS {e : Expr} {p pos : Pos} {id : Str} {x : List Nat} (hf : Ev C A env ρ H (.Name id p) (.bi "len")) (h : Ev C A env ρ H e (.str (S x))) (hz : x.length ≤ 1000) (hn : noStar [e] = true := by rfl) : Ev C A env ρ H (.Call (.Name id p) [e] [] pos) (.int x.length) :=
  Ev.as (Ev.lenStr hf h (by rw [S_len]; exact Nat.le_trans hz (by decide)) hn) (by rw [S_len])

/-! ## ''.join -/
theorem join_ones (l : List Nat) : Txt.join (S []) (l.map fun c => S [c]) = S l := by
  show Builtin.Str.glued _ _ = _
  rw [StrLaws.glued_eq_join]
  induction l with
  | nil => rfl
  | cons c t ih =>
    cases t with
    | nil => rfl
    | cons d t =>
      show S [c] ++ S [] ++ Str.join (S []) ((d :: t).map fun c => S [c]) = _
      rw [ih, S_app, S_app]; rfl
theorem strs_of : ∀ {xs : List Value} {l : List Nat}, xs.map ab = l.map (fun c => V.str (S [c])) → ∃ ts : List (Str × Tok), xs = strValues ts ∧ ts.map (·.1) = l.map fun c => S [c]
  | [], [], _ => ⟨[], rfl, rfl⟩
  | [], _ :: _, h => by simp at h
  | _ :: _, [], h => by simp at h
  | x :: xs, c :: l, h => by
    simp only [List.map_cons, List.cons.injEq] at h
    obtain ⟨ts, e1, e2⟩ := strs_of h.2
    obtain ⟨t, rfl⟩ := ab_str h.1
    exact ⟨(S [c], t) :: ts, by rw [e1]; rfl, by simp [e2]⟩
theorem WCall.join {a : Addr} {l : List Nat} {Q : V → AH → Prop} (hH : H a = some (.list (l.map fun c => V.str (S [c])))) (hz : l.length ≤ 1000) (h : Q (.str (S l)) H) : WCall C A (.bi "str.join") [.str (S []), .ref a] [] H Q := by
  intro L ρ fv vals kvs e1 e2 e3
  cases ab_bi e1
  obtain ⟨x, y, rfl, ex, ey⟩ := vals2 e2
  obtain ⟨t, rfl⟩ := ab_str ex
  cases ab_ref ey
  have : kvs = [] := by simpa using e3
  subst this
  intro s hs
  obtain ⟨xs, h1, h2, h3⟩ := hs.list hH rfl
  obtain ⟨ts, e4, e5⟩ := strs_of h2
  have hx : xs = (strValues ts).toArray := by rw [← e4]
  subst hx
  refine PySem.SC.join (texts := l.map fun c => S [c]) h1 e5 ?_ fun t' k => ?_
  · unfold JoinOk
    rw [Bool.not_eq_true']
    refine StrLaws.joinFits (B := 1) (fun y hy => ?_) ?_
    · obtain ⟨c, _, rfl⟩ := List.mem_map.mp hy
      exact Nat.le_of_eq (S_len _)
    · rw [List.length_map, S_len]; simp; lia
  · rw [join_ones]
    exact ⟨ρ, H, hs, .toks, rfl, h⟩
theorem WE.strMeth {o : Expr} {name : Str} {id : String} {apos pos : Pos} {es : List Expr} {x : Str} {Q : V → AH → Prop} (slot : Slot "str" name id) (hty : typeOf (.builtin id) = pure (.type "method_descriptor"))
    (h : Ev C A env ρ H o (.str x)) (he : WEs C A env es ρ H (fun ws H2 => WCall C A (.bi id) (.str x :: ws) [] H2 Q))
    (hbase : attributeBase o name env (eval o env) = eval o env := by rfl) (hfew : ((backTo pos (starEach es env)).all (fun x => !x.1) && (backToKw pos (keywordEach [] env)).all (fun x => x.1.isSome) && decide (es.length + ([] : List Keyword).length + (if ([] : List Keyword).isEmpty then 0 else 1) < 30)) = true := by rfl)
    (hline : (apos.endLine == pos.line) = true := by rfl) (hn : noStar es = true := by rfl) : WE C A env (.Call (.Attribute o name apos) es [] pos) ρ H Q := fun s hs => by
  refine wpAny_Call_method hbase hfew hline PySem.F.plainAttrs_str slot hty ?_
  refine wpAny_mono (h s hs) (fun v s1 ⟨ρ1, H1, a1, b1, c1, c2, d1⟩ => ?_) fun _ _ e => e
  subst c1 c2
  obtain ⟨t, rfl⟩ := ab_str d1
  refine ⟨typeIs_str _ _ _, (fun b hb => by cases hb), ?_⟩
  refine PySem.Calls.callWith_builtin (backTo_any hn) ?_
  refine wpAny_mono (evalArgs_run (ks := []) (Q := fun ws kv H2 => kv = [] ∧ WCall C A (.bi id) (.str x :: ws) [] H2 Q) hn rfl (WEs.mono he fun vs H1 q => ⟨rfl, q⟩) s1 a1) (fun x s2 ⟨ρ2, H2, a2, b2, c2, d1, d2⟩ => ?_) fun _ _ e => e
  subst c2
  have hkw : x.kw = [] := by simpa using d1
  rw [hkw]
  exact wpAny_mono (d2 env.locals ρ2 (.builtin id) (.str _ t :: x.pos) [] rfl rfl rfl s2 a2) (fun v s3 ⟨ρ3, H3, a3, b3, c3, d3⟩ => ⟨ρ3, H3, a3, (b1.trans b2 (fun _ _ => a2.nl)).trans b3 (fun _ _ => a3.nl), c3, d3⟩) fun _ _ e => e

/-! ## for sign in text -/
theorem letOwned_str {tgt : Expr} {I : Addr} {x : Str} {t : Tok} {s : Shared} {Q : Unit → Shared → Prop} (q : Q () s) : wpAny C.M A (letOwnedTupleGo tgt (.ref I) (.str x t)) Q False2 s := by
  cases tgt <;> exact wpAny_pure q
theorem Itr.str {I : Addr} {tgt : Expr} {l : List Nat} {Sx : Nat → Heap → Prop} (hl : ∀ i h, Sx i h → ∃ o, h.get? I = some o) (W : Walks C.prog C.w A I [I] [I] (S l).cps.size (SignAt (S l)) Sx) :
    Itr C A I [I] tgt l.length Sx (fun _ _ => True) (fun i H d => ∃ c, l[i]? = some c ∧ d = .one (.str (S [c]))) where
  live := fun i h ho b hb => by rw [List.mem_singleton.mp hb]; exact hl i h ho
  frame := fun i h h' ho k => W.frame _ _ _ ho k
  item := fun i s L ρ H Q hi hr hs hw hok hq => by
    refine W.item i s _ _ (by simpa [S] using hi) hr fun v h' tk hv hr' hk => ?_
    obtain ⟨c, u, hc, rfl⟩ := hv
    refine letOwned_str ?_
    have hc' : l[i]? = some c := by simpa [S] using hc
    exact hq (.str ⟨#[c]⟩ u) _ h' tk ⟨c, hc', rfl⟩ rfl (hs.offL hw hk) hr' hk
  done := fun s L ρ H Q hr hs hw hok hq => by
    have e : (S l).cps.size = l.length := by simp [S]
    refine W.done s _ _ (by rw [e]; exact hr) fun h' tk hk => ?_
    exact hq h' tk (hs.offL hw hk) hk
  self := fun i s Q hr hq => W.self _ _ _ _ hr hq
theorem WIt.str {e tgt : Expr} {l : List Nat} {K : AH → Nat → (Nat → AH → Prop) → (Nat → AH → Dv → Prop) → Prop} (F : Fx C A env) (h : Ev C A env ρ H e (.str (S l)))
    (hK : K H l.length (fun _ _ => True) (fun i _ d => ∃ c, l[i]? = some c ∧ d = .one (.str (S [c])))) : WIt C A env e tgt ρ H K := fun s hs Q hq => by
  refine wpAny_mono (h s hs) (fun x s1 ⟨ρ1, H1, a1, b1, c1, c2, d1⟩ => ?_) fun _ _ e => e
  subst c1 c2
  obtain ⟨t, rfl⟩ := ab_str d1
  have hn := get?_size_none s1.heap
  have fin : ∀ (o : Obj) (ty : String), o = { cls := .type ty, data := .fields #[.str (S l) t, .int 0 0] } → Walks C.prog C.w A s1.heap.objs.size [s1.heap.objs.size] [s1.heap.objs.size] (S l).cps.size (SignAt (S l)) (fun i h => h.IsStrIter s1.heap.objs.size ty (S l) t i) → Q (.ref s1.heap.objs.size) { s1 with heap := s1.heap.push o } := by
    intro o ty ho W
    subst ho
    have k : ∀ b o, s1.heap.get? b = some o → (s1.heap.push { cls := .type ty, data := .fields #[.str (S l) t, .int 0 0] }).get? b = some o := fun b o e => Heap.get?_push_of_some _ e
    refine hq H1 _ _ _ s1.heap.objs.size [s1.heap.objs.size] _ _ hK (Itr.str (fun i h ⟨o, q, _⟩ => ⟨o, q⟩) W) ⟨_, Heap.get?_push_size _ rfl, rfl, rfl⟩ (a1.ext k) (b1.trans (Step.ext (tk := s1.toks) k) (fun _ _ => a1.nl)) fun b hb => ?_
    rw [List.mem_singleton.mp hb]
    refine ⟨?_, (a1.fresh hn).1⟩
    cases e : s.heap.get? s1.heap.objs.size with
    | none => rfl
    | some o =>
      obtain ⟨o', e'⟩ := b1.live _ o e
      rw [hn] at e'; cases e'
  cases ha : (S l).cps.all (· < 128)
  · exact wpAny_pyIter_wide ha (fin _ _ rfl (Walks.strWide F.hh _ _ t))
  · exact wpAny_pyIter_ascii ha (fin _ _ rfl (Walks.strAscii F.hh _ _ t))
end
end Mine

set_option maxHeartbeats 1000000
namespace Mine
open PySem PySem.W PyProof.Rows

noncomputable def plt1 (p q : List Nat × Int) : Bool := slt p.1 q.1 || (decide (p.1 = q.1) && decide (p.2 < q.2))
noncomputable def plt (kz : List (List Nat × Int)) (i j : Nat) : Bool := plt1 (kz.getD i ([], 0)) (kz.getD j ([], 0))
theorem plt1_asym (p q : List Nat × Int) (h : plt1 p q = true) : plt1 q p = false := by
  unfold plt1 at *
  simp at h ⊢
  rcases h with h | ⟨h1, h2⟩
  · refine ⟨slt_asym _ _ h, fun e => ?_⟩
    rw [e, slt_irrefl] at h; cases h
  · exact ⟨by rw [h1]; exact slt_irrefl _, fun _ => by lia⟩
theorem plt1_trans (a b c : List Nat × Int) (h1 : plt1 b a = false) (h2 : plt1 c b = false) : plt1 c a = false := by
  unfold plt1 at *
  simp at h1 h2 ⊢
  refine ⟨slt_trans _ _ _ h1.1 h2.1, fun e => ?_⟩
  have e1 : b.1 = a.1 := by
    refine slt_total _ _ h1.1 ?_
    rw [← e]; exact h2.1
  have := h1.2 e1
  have := h2.2 (by rw [e1, e])
  (clear e1 e h2 h1; lia)
theorem plt_ord (kz : List (List Nat × Int)) : Ord (plt kz) := ⟨fun a b h => plt1_asym _ _ h, fun a b c h1 h2 => plt1_trans _ _ _ h1 h2⟩
/-- a value that stands for a text and a number, off what is tracked -/
noncomputable def PairAt (h : Heap) (H : AH) (L : Addr) (ex : List Addr) (v : Value) (k : List Nat × Int) : Prop :=
  ∃ T t u n, v = .ref T ∧ h.get? T = some { cls := .type "tuple", data := .seq #[.str (S k.1) t, .int k.2 u] n } ∧ H T = none ∧ T ≠ L ∧ T ∉ ex
theorem PairAt.step {H : AH} {L : Addr} {ex : List Addr} {v : Value} {k : List Nat × Int} {s s' : Shared} (h : PairAt s.heap H L ex v k) (st : Step L H H s s') : PairAt s'.heap H L ex v k :=
  let ⟨T, t, u, n, e1, e2, e3, e4, e5⟩ := h; ⟨T, t, u, n, e1, st.kept T _ e2 e3 e4, e3, e4, e5⟩
theorem PairAt.upd {H : AH} {L x : Addr} {ex : List Addr} {v : Value} {k : List Nat × Int} {h h' : Heap} (y : PairAt h H L ex v k) (sb : Heap.SameBut x h h') (hx : x ∈ ex) : PairAt h' H L ex v k :=
  let ⟨T, t, u, n, e1, e2, e3, e4, e5⟩ := y; ⟨T, t, u, n, e1, sb.extBut T _ (fun q => e5 (q ▸ hx)) e2, e3, e4, e5⟩
noncomputable def vstrs (ls : List (List Nat)) : List V := ls.map fun l => V.str (S l)
theorem vstrs_length (ls : List (List Nat)) : (vstrs ls).length = ls.length := by simp [vstrs]
theorem strsAre_of : ∀ {xs : List Value} {ls : List (List Nat)}, xs.map ab = vstrs ls → StrsAre xs (ls.map S)
  | [], [], _ => .nil
  | [], _ :: _, h => by simp [vstrs] at h
  | _ :: _, [], h => by simp [vstrs] at h
  | x :: xs, n :: ns, h => by
    simp only [vstrs, List.map_cons, List.cons.injEq] at h
    obtain ⟨t, rfl⟩ := ab_str h.1
    exact .cons _ _ (strsAre_of h.2)
theorem two_of {us : List Value} (h : 2 ≤ us.length) : ∃ v₁ v₂ vs, us = v₁ :: v₂ :: vs := by
  match us, h with
  | v₁ :: v₂ :: vs, _ => exact ⟨v₁, v₂, vs, rfl⟩
section
variable {C : Cx} {A : Around} {ρ : Lo} {H : AH} {L : Addr} {s : Shared} {E : Value → Shared → Prop}
/-- a.sort(key=f), the keys pairs of a text and a number -/
theorem sort_keyedP {a : Addr} {n : Nat} {vs : List Value} {kz : List (List Nat × Int)} {f : Value} {P : PySem.Fin → Shared → Prop} (hs : St C L ρ H s.heap) (ho : s.heap.get? a = some (seqObj "list" vs.toArray n)) (haH : H a = none) (haB : C.base.get? a = none) (haL : a ≠ L)
    (hlen : kz.length = vs.length) (h64 : vs.length < 128)
    (hkey : ∀ (i : Nat) (v : Value) (k : List Nat × Int), vs[i]? = some v → kz[i]? = some k → W C A L (call f [v]) ρ H (fun r ρ' H' => ρ' = ρ ∧ ∃ T, H T = none ∧ H' = H.set T (.tup [.str (S k.1), .int k.2]) ∧ ab r = .ref T))
    (h : ∀ p s' c, In vs.length p → SP (lx (plt kz)) p vs.length → St C L ρ H s'.heap → StepX [a] L H H s s' → s'.heap.get? a = some (seqObj "list" (p.toList.map fun i => vs.getD i Value.none).toArray c) → P (.done (.ret .none)) s') :
    wpAny C.M A (ksk_tree a f false) P E s := by
  have ha : a < s.heap.objs.size := Heap.lt_size ho
  have s1 := Heap.SameBut.update s.heap a (Obj.mapSeq fun _ => (#[] : Array Value))
  obtain ⟨e1, ho1⟩ : ∃ e1, (s.heap.update a (Obj.mapSeq fun _ => (#[] : Array Value))).get? a = some (seqObj "list" #[] e1) := ⟨_, get?_update_seq ho fun _ => #[]⟩
  unfold ksk_tree
  refine wpAny_bind (listItems_at ho rfl ?_)
  refine wpAny_bind (listUpdate_at ho rfl ?_ (by rw [List.size_toArray, sizeLine_eq]; lia) (Nat.zero_le _))
  refine wpAny_bind (seqEpoch_at ho1 rfl ?_)
  refine wpAny_bind (wpAny_newTuple ?_ (by show vs.length ≤ _; rw [sizeLine_eq]; lia))
  refine wpAny_bind (wpAny_newList ?_ (Nat.zero_le _))
  refine wpAny_holding ?_
  have hkS : ((s.heap.update a (Obj.mapSeq fun _ => (#[] : Array Value))).push (seqObj "tuple" vs.toArray 0)).objs.size = s.heap.objs.size + 1 := by rw [size_push', Heap.size_update]
  show wpAny C.M A (ksk_rest a f false vs.toArray e1 (.ref ((s.heap.update a (Obj.mapSeq fun _ => (#[] : Array Value))).push (seqObj "tuple" vs.toArray 0)).objs.size)) P E { s with heap := ((s.heap.update a (Obj.mapSeq fun _ => (#[] : Array Value))).push (seqObj "tuple" vs.toArray 0)).push (seqObj "list" #[] 0) }
  have hx : Heap.ExtBut a s.heap (((s.heap.update a (Obj.mapSeq fun _ => (#[] : Array Value))).push (seqObj "tuple" vs.toArray 0)).push (seqObj "list" #[] 0)) := fun b o hb e => Heap.get?_push_of_some _ (Heap.get?_push_of_some _ (s1.extBut b o hb e))
  have ho6 : (((s.heap.update a (Obj.mapSeq fun _ => (#[] : Array Value))).push (seqObj "tuple" vs.toArray 0)).push (seqObj "list" #[] 0)).get? a = some (seqObj "list" #[] e1) := Heap.get?_push_of_some _ (Heap.get?_push_of_some _ ho1)
  have hk6 : (((s.heap.update a (Obj.mapSeq fun _ => (#[] : Array Value))).push (seqObj "tuple" vs.toArray 0)).push (seqObj "list" #[] 0)).get? ((s.heap.update a (Obj.mapSeq fun _ => (#[] : Array Value))).push (seqObj "tuple" vs.toArray 0)).objs.size = some (seqObj "list" #[] 0) := Heap.get?_push_size _ rfl
  have hkn : s.heap.get? (s.heap.objs.size + 1) = none := Heap.get?_none_of_le (by lia)
  rw [hkS] at hk6 ⊢
  have fk := hs.fresh hkn
  have hka : s.heap.objs.size + 1 ≠ a := Nat.ne_of_gt (Nat.lt_succ_of_lt ha)
  generalize ((s.heap.update a (Obj.mapSeq fun _ => (#[] : Array Value))).push (seqObj "tuple" vs.toArray 0)).push (seqObj "list" #[] 0) = h6 at *
  generalize hkS' : s.heap.objs.size + 1 = kS at *
  clear hkS
  have hs6 : St C L ρ H h6 := hs.off haH haB haL hx
  have st6 : StepX [a] L H H s { s with heap := h6 } := StepX.off (fun b o hb e => hx b o (fun q => hb (by simp [q])) e)
  unfold ksk_rest
  refine wpAny_bind (wpAny_rule ?_)
  first
    | rw [List.forIn_toArray]
    | (rw [← Array.forIn_toList]; simp only [List.toList_toArray])
    | rw [← Array.forIn_toList]
  have hinit : ∀ (j : Nat) (v : Value) (k : List Nat × Int), ([] : List Value)[j]? = some v → kz[j]? = some k → PairAt h6 H L [a, kS] v k := fun j v k hv => by simp at hv
  refine wpAny_bind (ksk_fold (fun i s' => ∃ (kA : List Value) (e : Nat), St C L ρ H s'.heap ∧ StepX [a] L H H s s' ∧ s'.heap.get? a = some (seqObj "list" #[] e1) ∧ s'.heap.get? kS = some (seqObj "list" kA.toArray e) ∧ kA.length = i ∧ ∀ j v k, kA[j]? = some v → kz[j]? = some k → PairAt s'.heap H L [a, kS] v k) vs 0 { s with heap := h6 } ⟨[], 0, hs6, st6, ho6, hk6, rfl, hinit⟩ ?step ?done)
  case step =>
    rintro j x s' hx' ⟨kA, e, q1, q2, q3, q4, q5, q6⟩
    simp only [Nat.zero_add] at q5 ⊢
    have hj : j < vs.length := (List.getElem?_eq_some_iff.mp hx').1
    obtain ⟨k, hkj⟩ : ∃ k, kz[j]? = some k := ⟨_, List.getElem?_eq_getElem (by lia)⟩
    have hz : kA.length ≤ vs.length := by lia
    refine wpAny_bind (wpAny_attempt (wpAny_mono (hkey j x k hx' hkj s' q1) (fun v s'' he => ?_) fun _ _ hF => hF.elim))
    obtain ⟨ρ2, H2, r1', r2', rfl, T, hT, rfl, r3⟩ := he
    have leT : AH.le H (H.set T (.tup [.str (S k.1), .int k.2])) := AH.le_set (AH.le_refl _) hT
    have r1 : St C L ρ2 H s''.heap := r1'.le leT
    have r2 : Step L H H s' s'' := ⟨r2'.same, r2'.kept, fun _ _ _ e => e, r2'.live⟩
    have hTn : s'.heap.get? T = none := by
      cases q : s'.heap.get? T with
      | none => rfl
      | some o => have := r2'.new T o q hT; rw [AH.set_same] at this; cases this
    have hTL : T ≠ L := fun q => by have := r1'.nl; rw [← q, AH.set_same] at this; cases this
    have hTa : T ≠ a := fun q => by rw [q, q3] at hTn; cases hTn
    have hTk : T ≠ kS := fun q => by rw [q, q4] at hTn; cases hTn
    obtain ⟨t1, t2, n2, hTo⟩ : ∃ t u n, s''.heap.get? T = some { cls := .type "tuple", data := .seq #[.str (S k.1) t, .int k.2 u] n } := by
      obtain ⟨c, hc, ys, n, rfl, e2, _⟩ := r1'.rep T _ (AH.set_same ..)
      obtain ⟨y1, y2, ey, z1, z2⟩ := vals2 e2
      obtain ⟨t, rfl⟩ := ab_str z1
      obtain ⟨u, rfl⟩ := ab_int z2
      have : ys = #[.str (S k.1) t, .int k.2 u] := by rw [← Array.toArray_toList (xs := ys), ey]
      subst this
      exact ⟨t, u, n, hc⟩
    cases ab_ref r3
    have na : s''.heap.get? a = some (seqObj "list" #[] e1) := r2.kept a _ q3 haH haL
    have nk : s''.heap.get? kS = some (seqObj "list" kA.toArray e) := r2.kept kS _ q4 fk.1 fk.2.2
    have u1 := Heap.SameBut.update s''.heap kS (Obj.mapSeq (·.push (.ref T)))
    have ea : kA.toArray.push (Value.ref T) = (kA ++ [Value.ref T]).toArray := by simp
    refine wpAny_bind (listUpdate_at nk rfl ?_ (by rw [List.size_toArray, sizeLine_eq]; lia) (Nat.le_trans (Nat.le_of_eq (Array.size_push ..)) (by rw [List.size_toArray, sizeLine_eq]; lia)))
    refine wpAny_pure ⟨rfl, kA ++ [.ref T], _, r1.off fk.1 fk.2.1 fk.2.2 (fun b o hb e => u1.extBut b o hb e), ?_, (u1.extBut a _ (Ne.symm hka) na), by rw [← ea]; exact get?_update_seq nk (·.push (.ref T)), by simp [q5], fun i v k' hv hk' => ?_⟩
    rotate_left
    · by_cases hi : i < j
      · rw [List.getElem?_append_left (by lia)] at hv
        exact ((q6 i v k' hv hk').step r2).upd u1 (by simp)
      · have hij : i = j := by
          have := (List.getElem?_eq_some_iff.mp hv).1
          simp at this; lia
        subst hij
        rw [List.getElem?_append_right (by lia), q5, Nat.sub_self] at hv
        rw [hkj] at hk'
        cases hk'
        cases hv
        exact PairAt.upd ⟨T, t1, t2, n2, rfl, hTo, hT, hTL, by simp [hTa, hTk]⟩ u1 (by simp)
    have t2 : StepX [kS] L H H s'' { s'' with heap := s''.heap.update kS (Obj.mapSeq (·.push (.ref T))) } := StepX.off (fun b o hb e => u1.extBut b o (fun q => hb (by simp [q])) e)
    have t1 : StepX [a] L H H s s'' := q2.trans r2.toX
    have t3 : StepX [a, kS] L H H s { s'' with heap := s''.heap.update kS (Obj.mapSeq (·.push (.ref T))) } := (t1.mono (ex' := [a, kS]) (fun b hb o _ => by simp at hb; simp [hb])).trans (t2.mono (ex' := [a, kS]) (fun b hb o _ => by simp at hb; simp [hb]))
    exact t3.mono (ex' := [a]) (fun b hb o e => by
      simp at hb
      rcases hb with q | q
      · simp [q]
      · rw [q, hkn] at e; cases e)
  case done =>
    rintro s' ⟨kA, e, q1, q2, q3, q4, q5, q6⟩
    have hkl : kA.length = vs.length := by (clear q6 q4 q3 q2 q1 hinit st6 hs6 hk6 hka fk hkn hkS' ho6 hx ho1 s1 ha h hkey h64 hlen haL haB haH ho hs; lia)
    refine wpAny_bind (listItems_at q4 rfl ?_)
    have fin : ∀ (p : Array Nat) (st' : SortSt), In vs.length p → SP (lx (plt kz)) p vs.length → arrOf st' = p.map (kas_item (kA.toArray.zip vs.toArray)) → failedOf st' = none → wpAny C.M A (ksk_tail a false e1 (.ref kS) st') P E s' := by
      intro p st' hp hsp har hf
      have hout : (arrOf st').map (·.2) = List.toArray (p.toList.map fun i => vs.getD i Value.none) := by
        apply Array.toList_inj.mp
        rw [har, Array.map_map, Array.toList_map]
        exact List.map_congr_left fun i _ => by show (kas_item (kA.toArray.zip vs.toArray) i).2 = _; rw [zip_getD hkl]
      have hsz : (List.toArray (p.toList.map fun i => vs.getD i Value.none)).size = vs.length := by rw [List.size_toArray, List.length_map, Array.length_toList, hp.size]
      have u1 := Heap.SameBut.update s'.heap kS (Obj.mapSeq fun _ => (#[] : Array Value))
      have na1 := u1.extBut a _ (Ne.symm hka) q3
      have u2 := Heap.SameBut.update (s'.heap.update kS (Obj.mapSeq fun _ => (#[] : Array Value))) a (Obj.mapSeq fun _ => List.toArray (p.toList.map fun i => vs.getD i Value.none))
      unfold ksk_tail
      try dsimp only
      rw [hout]
      refine wpAny_bind (listUpdate_at q4 rfl ?_ (by rw [List.size_toArray, sizeLine_eq]; lia) (Nat.zero_le _))
      refine wpAny_bind (wpAny_letGo ?_)
      refine wpAny_bind (seqEpoch_at na1 rfl ?_)
      refine wpAny_bind (listUpdate_at na1 rfl ?_ (Nat.zero_le _) (Nat.le_trans (Nat.le_of_eq hsz) (by rw [sizeLine_eq]; lia)))
      rw [hf]
      simp only [bne_self_eq_false, Bool.false_eq_true, if_false]
      refine wpAny_pure (h p _ _ hp hsp ((q1.off fk.1 fk.2.1 fk.2.2 (fun b o hb e => u1.extBut b o hb e)).off haH haB haL (fun b o hb e => u2.extBut b o hb e)) ?_ (get?_update_seq na1 fun _ => List.toArray (p.toList.map fun i => vs.getD i Value.none)))
      have t2 : StepX [a, kS] L H H s' { s' with heap := ((s'.heap.update kS (Obj.mapSeq fun _ => (#[] : Array Value))).update a (Obj.mapSeq fun _ => List.toArray (p.toList.map fun i => vs.getD i Value.none))) } := StepX.off (fun b o hb e => u2.extBut b o (fun q => hb (by simp [q])) (u1.extBut b o (fun q => hb (by simp [q])) e))
      have t3 := (q2.mono (ex' := [a, kS]) (fun b hb o _ => by simp at hb; simp [hb])).trans t2
      exact t3.mono (ex' := [a]) (fun b hb o e => by
        simp at hb
        rcases hb with q | q
        · simp [q]
        · rw [q, hkn] at e; cases e)
    unfold ksk_end
    try dsimp only
    show wpAny C.M A (do
      let kind ← if vs.toArray.size < 2 then pure general' else keyKind' kA.toArray
      let ((), s) ← (if vs.toArray.size < 2 then pure () else sortRuns').run (SortSt.mk' kind (kA.toArray.zip vs.toArray) #[] 7 none)
      ksk_tail a false e1 (.ref kS) s) P E s'
    have hzs : (kA.toArray.zip vs.toArray).size = vs.length := by simp; lia
    by_cases h2 : vs.toArray.size < 2
    · rw [if_pos h2, if_pos h2]
      refine wpAny_bind (wpAny_pure ?_)
      dsimp only
      rw [StateT.run_pure]
      refine wpAny_bind (wpAny_pure ?_)
      rw [List.size_toArray] at h2
      refine fin (List.toArray (List.range vs.length)) (SortSt.mk' general' (kA.toArray.zip vs.toArray) #[] 7 none) (in_range _) (sp_small (plt_ord kz) h2) ?_ rfl
      have e := kas_range (kA.toArray.zip vs.toArray)
      rw [hzs] at e
      exact e.symm
    · rw [if_neg h2, if_neg h2]
      rw [List.size_toArray] at h2
      have hpa : ∀ i, i < vs.length → PairAt s'.heap H L [a, kS] (kA.getD i Value.none) (kz.getD i ([], 0)) := fun i hi => by
        refine q6 i _ _ ?_ ?_
        · rw [List.getD_eq_getElem?_getD, List.getElem?_eq_getElem (by lia)]; rfl
        · rw [List.getD_eq_getElem?_getD, List.getElem?_eq_getElem (by lia)]; rfl
      have hkat : ∀ (us : List Value), (∀ v ∈ us, ∃ k, PairAt s'.heap H L [a, kS] v k) → ∃ fs, KatTups s'.heap us fs ∧ fs.length = us.length ∧ ∀ v ∈ fs, ∃ x t, v = .str x t := by
        intro us
        induction us with
        | nil => intro _; exact ⟨[], .nil, rfl, by simp⟩
        | cons v r ih =>
          intro hq
          obtain ⟨fs, a1, a2, a3⟩ := ih fun p hp => hq p (List.mem_cons_of_mem _ hp)
          obtain ⟨k, T, t, u, n, rfl, e, _⟩ := hq v (List.mem_cons_self ..)
          refine ⟨.str (S k.1) t :: fs, .cons e rfl rfl rfl a1, by simp [a2], fun v hv => ?_⟩
          rcases List.mem_cons.mp hv with rfl | hv
          · exact ⟨_, _, rfl⟩
          · exact a3 v hv
      obtain ⟨fs, f1, f2, f3⟩ := hkat kA fun v hv => by
        obtain ⟨i, hi, e⟩ := List.mem_iff_getElem.mp hv
        have := hpa i (by lia)
        rw [List.getD_eq_getElem?_getD, List.getElem?_eq_getElem hi, Option.getD_some, e] at this
        exact ⟨_, this⟩
      refine wpAny_bind (kat_kind (T := .type "str") f1 (by lia) (fun v hv => by obtain ⟨i, t, rfl⟩ := f3 v hv; exact Looks.of_pure rfl) (by decide) ?_)
      dsimp only
      refine wpAny_bind (runs_small (N := vs.length) (lt := plt kz) (by lia) h64 hzs (plt_ord kz) (fun i j Q hi hj hq => ?_) fun p st' b1 b2 b3 b4 => fin p st' b1 b2 b3 b4)
      rw [zip_getD hkl, zip_getD hkl]
      show wpAny C.M A (keyLt' (tuples' (Value.type "str" != Value.type "tuple")) (kA.getD i Value.none) (kA.getD j Value.none)) Q _ _
      obtain ⟨T, t, u, n, e1, e2, _⟩ := hpa i hi
      obtain ⟨T', t', u', n', e1', e2', _⟩ := hpa j hj
      rw [e1, e1']
      unfold plt at hq
      generalize kz.getD i ([], 0) = p at *
      generalize kz.getD j ([], 0) = q at *
      refine kat_lt e2 rfl e2' rfl ?_
      show KatLex C.prog C.w A _ _ Q [(Value.str (S p.1) t, Value.str (S q.1) t'), (Value.int p.2 u, Value.int q.2 u')] 0 s'
      refine kat_cons (eqBool_str ?_)
      by_cases z1 : p.1 = q.1
      · rw [show (S p.1 == S q.1) = true by rw [z1]; simp]
        refine kat_yes (kat_cons (PySem.wpAny_eqBool_int ?_))
        by_cases z2 : p.2 = q.2
        · rw [show (p.2 == q.2) = true by simpa using z2]
          refine kat_yes (kat_nil ?_)
          have : plt1 p q = false := by unfold plt1; simp [z1, z2, slt_irrefl]
          rw [this] at hq; exact hq
        · rw [show (p.2 == q.2) = false by simpa using z2]
          refine kat_no (kat_one _ _ (PySem.wpAny_lt_int ?_))
          have : plt1 p q = decide (p.2 < q.2) := by unfold plt1; simp [z1, slt_irrefl]
          rw [this] at hq; exact hq
      · rw [show (S p.1 == S q.1) = false by
          rw [beq_eq_false_iff_ne]; exact fun e => z1 (S_inj e)]
        refine kat_no (oneLt_str ?_)
        rw [S_list, S_list, slt_eq]
        have : plt1 p q = slt p.1 q.1 := by unfold plt1; simp [z1]
        rw [this] at hq; exact hq
end
section
variable {C : Cx} {A : Around} {env : Env} {ρ : Lo} {H : AH}
/-- sorted(v, key=f) -/
theorem WCall.sortedKeyP {x : V} {g : Addr} {R : List V → Prop} {kf : V → List Nat × Int} {Q : V → AH → Prop} (hcol : ∀ A', Nr A A' → Coll C A' H x R) (h64 : ∀ us, R us → us.length < 128)
    (hkey : ∀ A', Nr A A' → ∀ us, R us → ∀ v ∈ us, WCall C A' (.ref g) [v] [] H (fun r H' => ∃ T, H T = none ∧ H' = H.set T (.tup [.str (S (kf v).1), .int (kf v).2]) ∧ r = .ref T))
    (h : ∀ us D p, R us → H D = none → In us.length p → SP (lx (plt (us.map kf))) p us.length → Q (.ref D) (H.set D (.list (p.toList.map fun i => us.getD i .none)))) : WCall C A (.bi "sorted") [x] [("key", .ref g)] H Q := by
  intro L ρ fv vals kvs e1 e2 e3
  cases ab_bi e1
  obtain ⟨xv, rfl, ex⟩ := vals1 e2
  obtain ⟨⟨kn, kv⟩, rfl, ek⟩ : ∃ q, kvs = [q] ∧ (q.1, ab q.2) = (("key" : Str), V.ref g) := by
    have hl := congrArg List.length e3
    rw [List.length_map] at hl
    obtain ⟨q, rfl⟩ := List.length_eq_one_iff.mp hl
    exact ⟨q, rfl, (List.cons.inj e3).1⟩
  simp only [Prod.mk.injEq] at ek
  obtain ⟨rfl, ek⟩ := ek
  cases ab_ref ek
  intro s hs
  refine call_function_entry_kw kind_sorted plain_sorted entry_sorted (ksk_s1 xv (.ref g)) ?_
  unfold Builtin.«sorted»
  refine wpAny_bind (m := checkCount "sorted" 1 1 _) (wpAny_pure ?_)
  refine wpAny_bind (hcol _ (Nr.one A) L ρ xv s _ _ ex hs fun us s1 hR hsz hs1 st1 => ?_)
  have hl64 := h64 _ hR
  rw [List.length_map] at hl64
  refine wpAny_bind (wpAny_newList ?_ (by rw [sizeLine_eq]; lia))
  have k2 : ∀ b o, s1.heap.get? b = some o → (s1.heap.push (seqObj "list" us.toArray 0)).get? b = some o := fun b o e => Heap.get?_push_of_some _ e
  have hn := get?_size_none s1.heap
  have hf := hs1.fresh hn
  have hs2 : St C L ρ H (s1.heap.push (seqObj "list" us.toArray 0)) := hs1.ext k2
  have hoL : (s1.heap.push (seqObj "list" us.toArray 0)).get? s1.heap.objs.size = some (seqObj "list" us.toArray 0) := Heap.get?_push_size _ rfl
  have hnS : s.heap.get? s1.heap.objs.size = none := by
    cases q : s.heap.get? s1.heap.objs.size with
    | none => rfl
    | some o => obtain ⟨o', e'⟩ := st1.live _ o q; rw [hn] at e'; cases e'
  show wpAny C.M _ _ _ _ { s1 with heap := s1.heap.push (seqObj "list" us.toArray 0) }
  refine wpAny_bind (wpAny_holding (wpAny_call_entry_kw slot_list_sort ⟨_, hoL, rfl⟩ entry_list_sort ?body (ksk_l1 _ (.ref g))))
  case body =>
    show wpAny C.M A.in1.in1 (Builtin.«list.sort» ⟨[.ref s1.heap.objs.size], [(Str.ofString "key", .ref g)]⟩) _ _ _
    rw [ksk_t1]
    refine sort_keyedP (C := C) (L := L) (ρ := ρ) (H := H) (kz := (us.map ab).map kf) (vs := us) (s := { s1 with heap := s1.heap.push (seqObj "list" us.toArray 0) }) hs2 hoL hf.1 hf.2.1 hf.2.2 (by simp) hl64 (fun i v k hv hk => ?_) fun p s' c hp hsp hs' st' hD => ⟨.none, rfl, wpAny_pure ⟨.ref s1.heap.objs.size, rfl, ?_⟩⟩
    · have hk' : k = kf (ab v) := by
        rw [List.getElem?_map, List.getElem?_map, hv] at hk
        exact (Option.some.inj hk).symm
      subst hk'
      refine W.mono (hkey _ (Nr.two A) _ hR (ab v) (List.mem_map.mpr ⟨v, List.mem_of_getElem? hv, rfl⟩) L ρ (.ref g) [v] [] rfl rfl rfl) ?_
      rintro r ρ' H' ⟨rfl, T, e1, e2, e3⟩
      exact ⟨rfl, T, e1, e2, e3⟩
    · have hlen : (us.map ab).length = us.length := by simp
      refine ⟨ρ, H.set s1.heap.objs.size (.list (p.toList.map fun i => (us.map ab).getD i V.none)), hs'.track hf.1 hf.2.1 hf.2.2 hD ⟨_, _, rfl, by rw [List.toList_toArray]; exact map_getD hp rfl, by rw [List.length_map, Array.length_toList, hp.size]; exact hsz⟩, ?_, rfl, h _ _ p hR hf.1 (by rw [hlen]; exact hp) (by rw [hlen]; exact hsp)⟩
      have t1 : StepX [s1.heap.objs.size] L H H s s' := ((st1.trans (Step.ext (tk := s1.toks) k2) (fun _ _ => hs1.nl)).toX).trans st'
      have ne : ∀ b o, s.heap.get? b = some o → b ∉ [s1.heap.objs.size] := fun b o e q => by rw [List.mem_singleton.mp q, hnS] at e; cases e
      refine ⟨t1.same, fun b o e eb eL => t1.kept b o (ne b o e) e eb eL, fun b o e eb => ?_, fun b o e => t1.live b o (ne b o e) e⟩
      rw [AH.set_ne _ _ (fun q => ne b o e (by simp [q]))]; exact t1.new b o (ne b o e) e eb
/-- sorted(v) of texts -/
theorem WCall.sortedStrsC {x : V} {R : List (List Nat) → Prop} {Q : V → AH → Prop} (hcol : ∀ A', Nr A A' → Coll C A' H x (fun us => ∃ ns, us = vstrs ns ∧ R ns)) (h64 : ∀ ns, R ns → ns.length < 128)
    (h : ∀ ns D ns', R ns → H D = none → ns'.length = ns.length → (∀ y ∈ ns', y ∈ ns) → Q (.ref D) (H.set D (.list (vstrs ns')))) : WCall C A (.bi "sorted") [x] [] H Q := by
  intro L ρ fv vals kvs e1 e2 e3
  cases ab_bi e1
  obtain ⟨xv, rfl, ex⟩ := vals1 e2
  cases ab_nil e3
  intro s hs
  refine Calls.call_function_entry kind_sorted plain_sorted entry_sorted (args_sorted1 _) ?_
  unfold Builtin.«sorted»
  refine wpAny_bind (m := checkCount "sorted" 1 1 _) (wpAny_pure ?_)
  refine wpAny_bind (hcol _ (Nr.one A) L ρ xv s _ _ ex hs fun us s1 hR hsz hs1 st1 => ?_)
  obtain ⟨ns, hus, hR⟩ := hR
  have hul : us.length = ns.length := by have := congrArg List.length hus; simpa [vstrs_length] using this
  have hl64 := h64 _ hR
  refine wpAny_bind (wpAny_newList ?_ (by rw [sizeLine_eq]; lia))
  have k2 : ∀ b o, s1.heap.get? b = some o → (s1.heap.push (seqObj "list" us.toArray 0)).get? b = some o := fun b o e => Heap.get?_push_of_some _ e
  have hn := get?_size_none s1.heap
  have hf := hs1.fresh hn
  have hs2 : St C L ρ H (s1.heap.push (seqObj "list" us.toArray 0)) := hs1.ext k2
  have hoL : (s1.heap.push (seqObj "list" us.toArray 0)).get? s1.heap.objs.size = some (seqObj "list" us.toArray 0) := Heap.get?_push_size _ rfl
  have hnS : s.heap.get? s1.heap.objs.size = none := by
    cases q : s.heap.get? s1.heap.objs.size with
    | none => rfl
    | some o => obtain ⟨o', e'⟩ := st1.live _ o q; rw [hn] at e'; cases e'
  have hints : ∀ (i : Nat), i < us.length → ∃ t, us.getD i Value.none = .str (S (ns.getD i [])) t := fun i hi => by
    have e : (us.map ab)[i]? = some (.str (S (ns.getD i []))) := by
      rw [hus]; unfold vstrs
      rw [List.getElem?_map, List.getD_eq_getElem?_getD, List.getElem?_eq_getElem (by lia : i < ns.length)]; rfl
    rw [List.getElem?_map, List.getElem?_eq_getElem hi] at e
    obtain ⟨t, ht⟩ := ab_str (Option.some.inj e)
    exact ⟨t, by rw [List.getD_eq_getElem?_getD, List.getElem?_eq_getElem hi, Option.getD_some, ht]⟩
  show wpAny C.M _ _ _ _ { s1 with heap := s1.heap.push (seqObj "list" us.toArray 0) }
  refine wpAny_bind (wpAny_holding (wpAny_call_entry slot_list_sort ⟨_, hoL, rfl⟩ entry_list_sort ?body (args_list_sort _)))
  case body =>
    show wpAny C.M A.in1.in1 (Builtin.«list.sort» ⟨[.ref s1.heap.objs.size], []⟩) _ _ _
    refine sort_plain (prog := C.prog) (w := C.w) (κ := oneType') (lt := fun i j => slt (ns.getD i []) (ns.getD j [])) (vs := us) (s := { s1 with heap := s1.heap.push (seqObj "list" us.toArray 0) }) hoL (by lia) ⟨fun a b h => slt_asym _ _ h, fun a b c h1 h2 => slt_trans _ _ _ h1 h2⟩ (fun h2 h' hx Q hq => ?_) (fun h2 h' hx i j Q hi hj hq => ?_) fun p h' c hp hsp hx hD => ⟨.none, rfl, wpAny_pure ⟨.ref s1.heap.objs.size, rfl, ?_⟩⟩
    · obtain ⟨v₁, v₂, vs, e⟩ := two_of h2
      have hS : StrsAre us (ns.map S) := strsAre_of hus
      have hkk : keyKind' us.toArray = pure oneType' := by rw [e] at hS ⊢; exact keyKind_strs hS
      rw [hkk]
      exact wpAny_pure hq
    · obtain ⟨t, ht⟩ := hints i hi
      obtain ⟨u, hu⟩ := hints j hj
      rw [ht, hu, keyLt'_oneType]
      refine oneLt_str ?_
      rw [S_list, S_list, slt_eq]; exact hq
    · have hb : ∀ b o, b ≠ s1.heap.objs.size → (s1.heap.push (seqObj "list" us.toArray 0)).get? b = some o → h'.get? b = some o := fun b o hb e => hx b o hb e
      have hs3 : St C L ρ H h' := hs2.off hf.1 hf.2.1 hf.2.2 hb
      have hvs : ((p.toList.map fun i => us.getD i Value.none).map ab) = vstrs (p.toList.map fun i => ns.getD i []) := by
        rw [map_getD hp rfl, hus]
        unfold vstrs
        rw [List.map_map]
        apply List.map_congr_left
        intro i hi
        have hi' : i < ns.length := by rw [← hul]; simpa using hp.perm.mem_iff.mp hi
        show (ns.map fun l => V.str (S l)).getD i V.none = V.str (S (ns.getD i []))
        rw [List.getD_eq_getElem?_getD, List.getD_eq_getElem?_getD, List.getElem?_map, List.getElem?_eq_getElem hi']; rfl
      refine ⟨ρ, H.set s1.heap.objs.size (.list (vstrs (p.toList.map fun i => ns.getD i []))), hs3.track hf.1 hf.2.1 hf.2.2 hD ⟨_, _, rfl, by rw [List.toList_toArray]; exact hvs, by rw [vstrs_length, List.length_map, Array.length_toList, hp.size]; exact hsz⟩, ?_, rfl, h ns _ _ hR hf.1 (by rw [List.length_map, Array.length_toList, hp.size, hul]) ?_⟩
      · have t1 : StepX [s1.heap.objs.size] L H H s { s1 with heap := h' } := ((st1.trans (Step.ext (tk := s1.toks) k2) (fun _ _ => hs1.nl)).toX).trans (StepX.off (fun b o hbm e => hb b o (fun q => hbm (by simp [q])) e))
        have ne : ∀ b o, s.heap.get? b = some o → b ∉ [s1.heap.objs.size] := fun b o e q => by rw [List.mem_singleton.mp q, hnS] at e; cases e
        refine ⟨t1.same, fun b o e eb eL => t1.kept b o (ne b o e) e eb eL, fun b o e eb => ?_, fun b o e => t1.live b o (ne b o e) e⟩
        rw [AH.set_ne _ _ (fun q => ne b o e (by simp [q]))]; exact t1.new b o (ne b o e) e eb
      · intro y hy
        obtain ⟨i, hi, rfl⟩ := List.mem_map.mp hy
        have hi' : i < ns.length := by rw [← hul]; simpa using hp.perm.mem_iff.mp hi
        rw [List.getD_eq_getElem?_getD, List.getElem?_eq_getElem hi']
        exact List.getElem_mem hi'
end
end Mine

set_option maxHeartbeats 4000000
namespace Mine
open PySem PySem.W PyProof.Rows
open_top hd for PySem.Challenge.rw_dm0010_12
end Mine

set_option maxHeartbeats 4000000
namespace Mine
open PySem PySem.W PyProof.Rows

/-- bisect_right, all shapes of call -/
theorem br_core {C : Cx} {A : Around} {H : AH} {P : Params} (hK : (hd.heap_39 P).In C.base) (hlen : C.gl "len" = some (.builtin "len")) (hh : A.handled = none) (hdep : A.depth < recursionLimit)
    {args : List V} {kw : List (Str × V)} {a : Addr} {ob : O} {vs : List V} {x hiV keyV : V} {lo hi : Nat} (f : Nat → Bool)
    (hbind : ∀ vals kvs, vals.map ab = args → kvs.map (fun p => (p.1, ab p.2)) = kw → ∃ binds, (∀ s, Keep C s → BindsTo s (fdOf (hd.heap_39 P) 23) ⟨vals, kvs⟩ binds) ∧ binds.map (fun p => (p.1, ab p.2)) = ([("a", .ref a), ("x", x), ("lo", .int lo), ("hi", hiV), ("key", keyV)] : List (Str × V)))
    (ha : H a = some ob) (hl : lst ob = some vs) (hhi : (hiV = .none ∧ hi = vs.length) ∨ (hiV = .int hi ∧ hi ≤ vs.length))
    (hkey : ∀ A', Nx A A' → (keyV = .none ∧ ∀ i v, lo ≤ i → i < hi → vs[i]? = some v → LtOk C A' H x v (f i)) ∨ (∃ g o fd, keyV = .ref g ∧ FnAt C H g o fd ∧ ∀ i v, lo ≤ i → i < hi → vs[i]? = some v → ∃ kv, KeyOk C A' H g v kv ∧ LtOk C A' H x kv (f i)))
    {Q : V → AH → Prop} (hQ : Q (.int (bis f lo hi)) H) : WCall C A (.ref 23) args kw H Q := by
  refine WCall.def (fn_in hK 23 rfl) hdep rfl (noCell rfl) (fun h k => codeRec_of (hK.keeps k) rfl) (bs := [("a", .ref a), ("x", x), ("lo", .int lo), ("hi", hiV), ("key", keyV)]) hbind (allLocal rfl) ?_
  intro L hL
  have hNx := Nx.of A (callEnv (fdOf (hd.heap_39 P) 23) L 23)
  generalize hA' : A.deeper (callEnv (fdOf (hd.heap_39 P) 23) L 23) = A' at *
  have F : Fx C A' (callEnv (fdOf (hd.heap_39 P) 23) L 23) := ⟨rfl, rfl, rfl, hNx.2.2.trans hh⟩
  generalize hρ : (fun y => List.lookup y (([("a", .ref a), ("x", x), ("lo", .int lo), ("hi", hiV), ("key", keyV)] : List (Str × V)).reverse)) = ρ
  have ra : ρ "a" = some (.ref a) := by rw [← hρ]; rfl
  have rx : ρ "x" = some x := by rw [← hρ]; rfl
  have rlo : ρ "lo" = some (.int lo) := by rw [← hρ]; rfl
  have rhi : ρ "hi" = some hiV := by rw [← hρ]; rfl
  have rk : ρ "key" = some keyV := by rw [← hρ]; rfl
  have hhl : hi ≤ vs.length := by rcases hhi with ⟨_, q⟩ | ⟨_, q⟩ <;> lia
  refine WS.seq (W1.if (WT.of (b := false) (EvT.icmp (Ev.local F rfl rlo) Ev.int (by simp [icmp])) ⟨fun e => by simp at e, fun _ => WS.nil ⟨rfl, ?_⟩⟩))
  refine WS.seq (W1.if (WT.of (EvT.isNone (Ev.local F rfl rhi)) ?_))
  suffices goal : ∀ ρ : Lo, ρ "a" = some (.ref a) → ρ "x" = some x → ρ "lo" = some (.int lo) → ρ "hi" = some (.int hi) → ρ "key" = some keyV → WS C A' (callEnv (fdOf (hd.heap_39 P) 23) L 23) ((bodyOf (fdOf (hd.heap_39 P) 23)).drop 2) ρ H (fun f _ H' => Q (retv f) H') by
    refine ⟨fun e => ?_, fun e => ?_⟩
    · have hn : hiV = .none := by simpa using e
      rcases hhi with ⟨_, q⟩ | ⟨q, _⟩
      · refine WS.seq (W1.asgLocal F rfl (WE.of (Ev.len (Ev.glob F rfl hlen) (Ev.local F rfl ra) ha hl) ⟨rfl, WS.nil ⟨rfl, ?_⟩⟩))
        rw [← q]
        exact goal _ ra rx rlo rfl rk
      · rw [hn] at q; cases q
    · rcases hhi with ⟨q, _⟩ | ⟨q, _⟩
      · rw [q] at e; simp at e
      · refine WS.nil ⟨rfl, ?_⟩
        exact goal _ ra rx rlo (by rw [rhi, q]) rk
  clear rlo rhi ra rx rk hρ
  intro ρ ra rx rlo rhi rk
  have hkey' := hkey A' hNx
  refine WS.seq (W1.if (WT.of (EvT.isNone (Ev.local F rfl rk)) ⟨fun e => ?_, fun e => ?_⟩))
  · have hn : keyV = .none := by simpa using e
    obtain ⟨_, hlt⟩ : keyV = .none ∧ ∀ i v, lo ≤ i → i < hi → vs[i]? = some v → LtOk C A' H x v (f i) := by
      rcases hkey' with q | ⟨g, o, fd, q, _⟩
      · exact q
      · rw [hn] at q; cases q
    refine WS.seq (W1.while F (fun n ρ1 H1 => ∃ l h : Nat, n = h - l ∧ lo ≤ l ∧ h ≤ hi ∧ H1 = H ∧ ρ1 "a" = some (.ref a) ∧ ρ1 "x" = some x ∧ ρ1 "lo" = some (.int l) ∧ ρ1 "hi" = some (.int h) ∧ bis f l h = bis f lo hi) _ ⟨lo, hi, rfl, Nat.le_refl _, Nat.le_refl _, rfl, ra, rx, rlo, rhi, rfl⟩ ?_)
    rintro n ρ1 H1 ⟨l, h, rfl, hle, hhi', rfl, ra, rx, rlo, rhi, hb⟩
    refine WT.of (EvT.icmp (Ev.local F rfl rlo) (Ev.local F rfl rhi) rfl) ⟨fun e => ?_, fun e => ?_⟩
    · have hlt' : l < h := by simpa using e
      have hmid : ((l : Int) + (h : Int)).fdiv 2 = ((l + h) / 2 : Nat) := by
        rw [Int.fdiv_eq_ediv_of_nonneg _ (by decide)]; lia
      refine WS.seq (W1.asgLocal F rfl (WE.of (Ev.fdiv (Ev.add (Ev.local F rfl rlo) (Ev.local F rfl rhi)) Ev.int (by decide) (by decide)) ?_))
      rw [hmid]
      refine ⟨rfl, ?_⟩
      have hm : (l + h) / 2 < vs.length := by omega
      refine WS.seq (W1.if (WT.of (EvT.ltOk (Ev.local F rfl rx) (Ev.item (v := vs[(l + h) / 2]) (Ev.local F rfl ra) (Ev.local F rfl rfl) ha hl (by omega) (by rw [Int.toNat_natCast]; exact List.getElem?_eq_getElem hm)) (hlt _ _ (by omega) (by omega) (List.getElem?_eq_getElem hm))) ⟨fun e2 => ?_, fun e2 => ?_⟩))
      · refine WS.seq (W1.asgLocal F rfl (WE.of (Ev.local F rfl rfl) ⟨rfl, WS.nil ⟨rfl, WS.nil ⟨(l + h) / 2 - l, by omega, l, (l + h) / 2, rfl, by omega, by omega, rfl, ra, rx, rlo, rfl, ?_⟩⟩⟩))
        rw [← hb, bis_true hlt' e2]
      · refine WS.seq (W1.asgLocal F rfl (WE.of (Ev.add (Ev.local F rfl rfl) Ev.int) ⟨rfl, WS.nil ⟨rfl, WS.nil ⟨h - ((l + h) / 2 + 1), by omega, (l + h) / 2 + 1, h, rfl, by omega, by omega, rfl, ra, rx, rfl, rhi, ?_⟩⟩⟩))
        rw [← hb, bis_false hlt' e2]
    · have hge : ¬ l < h := by simpa using e
      rw [← hb, bis_cross (by omega)] at hQ
      exact ⟨rfl, WS.nil ⟨rfl, WS.cons (W1.ret (WE.of (Ev.local F rfl rlo) hQ))⟩⟩
  · have hn : keyV ≠ .none := by simpa using e
    obtain ⟨g, o, fd, rfl, hfn, hlt⟩ : ∃ g o fd, keyV = .ref g ∧ FnAt C H g o fd ∧ ∀ i v, lo ≤ i → i < hi → vs[i]? = some v → ∃ kv, KeyOk C A' H g v kv ∧ LtOk C A' H x kv (f i) := by
      rcases hkey' with ⟨q, _⟩ | q
      · exact absurd q hn
      · exact q
    refine WS.seq (W1.while F (fun n ρ1 H1 => ∃ l h : Nat, n = h - l ∧ lo ≤ l ∧ h ≤ hi ∧ H1 = H ∧ ρ1 "a" = some (.ref a) ∧ ρ1 "x" = some x ∧ ρ1 "key" = some (.ref g) ∧ ρ1 "lo" = some (.int l) ∧ ρ1 "hi" = some (.int h) ∧ bis f l h = bis f lo hi) _ ⟨lo, hi, rfl, Nat.le_refl _, Nat.le_refl _, rfl, ra, rx, rk, rlo, rhi, rfl⟩ ?_)
    rintro n ρ1 H1 ⟨l, h, rfl, hle, hhi', rfl, ra, rx, rk, rlo, rhi, hb⟩
    refine WT.of (EvT.icmp (Ev.local F rfl rlo) (Ev.local F rfl rhi) rfl) ⟨fun e => ?_, fun e => ?_⟩
    · have hlt' : l < h := by simpa using e
      have hmid : ((l : Int) + (h : Int)).fdiv 2 = ((l + h) / 2 : Nat) := by
        rw [Int.fdiv_eq_ediv_of_nonneg _ (by decide)]; lia
      refine WS.seq (W1.asgLocal F rfl (WE.of (Ev.fdiv (Ev.add (Ev.local F rfl rlo) (Ev.local F rfl rhi)) Ev.int (by decide) (by decide)) ?_))
      rw [hmid]
      refine ⟨rfl, ?_⟩
      have hm : (l + h) / 2 < vs.length := by omega
      obtain ⟨kv, hkv, hlk⟩ := hlt _ _ (by omega) (by omega) (List.getElem?_eq_getElem hm)
      refine WS.seq (W1.if (WT.of (EvT.ltOk (Ev.local F rfl rx) (Ev.key (Ev.local F rfl rk) hfn (Ev.item (v := vs[(l + h) / 2]) (Ev.local F rfl ra) (Ev.local F rfl rfl) ha hl (by lia) (by rw [Int.toNat_natCast]; exact List.getElem?_eq_getElem hm)) hkv) hlk) ⟨fun e2 => ?_, fun e2 => ?_⟩))
      · refine WS.seq (W1.asgLocal F rfl (WE.of (Ev.local F rfl rfl) ⟨rfl, WS.nil ⟨rfl, WS.nil ⟨(l + h) / 2 - l, by omega, l, (l + h) / 2, rfl, by omega, by omega, rfl, ra, rx, rk, rlo, rfl, ?_⟩⟩⟩))
        rw [← hb, bis_true hlt' e2]
      · refine WS.seq (W1.asgLocal F rfl (WE.of (Ev.add (Ev.local F rfl rfl) Ev.int) ⟨rfl, WS.nil ⟨rfl, WS.nil ⟨h - ((l + h) / 2 + 1), by omega, (l + h) / 2 + 1, h, rfl, by omega, by omega, rfl, ra, rx, rk, rfl, rhi, ?_⟩⟩⟩))
        rw [← hb, bis_false hlt' e2]
    · have hge : ¬ l < h := by simpa using e
      rw [← hb, bis_cross (by omega)] at hQ
      exact ⟨rfl, WS.nil ⟨rfl, WS.cons (W1.ret (WE.of (Ev.local F rfl rlo) hQ))⟩⟩

/-- bisect_left, all shapes of call -/
theorem bl_core {C : Cx} {A : Around} {H : AH} {P : Params} (hK : (hd.heap_39 P).In C.base) (hlen : C.gl "len" = some (.builtin "len")) (hh : A.handled = none) (hdep : A.depth < recursionLimit)
    {args : List V} {kw : List (Str × V)} {a : Addr} {ob : O} {vs : List V} {x hiV keyV : V} {lo hi : Nat} (f : Nat → Bool)
    (hbind : ∀ vals kvs, vals.map ab = args → kvs.map (fun p => (p.1, ab p.2)) = kw → ∃ binds, (∀ s, Keep C s → BindsTo s (fdOf (hd.heap_39 P) 41) ⟨vals, kvs⟩ binds) ∧ binds.map (fun p => (p.1, ab p.2)) = ([("a", .ref a), ("x", x), ("lo", .int lo), ("hi", hiV), ("key", keyV)] : List (Str × V)))
    (ha : H a = some ob) (hl : lst ob = some vs) (hhi : (hiV = .none ∧ hi = vs.length) ∨ (hiV = .int hi ∧ hi ≤ vs.length))
    (hkey : ∀ A', Nx A A' → (keyV = .none ∧ ∀ i v, lo ≤ i → i < hi → vs[i]? = some v → LtOk C A' H v x (!f i)) ∨ (∃ g o fd, keyV = .ref g ∧ FnAt C H g o fd ∧ ∀ i v, lo ≤ i → i < hi → vs[i]? = some v → ∃ kv, KeyOk C A' H g v kv ∧ LtOk C A' H kv x (!f i)))
    {Q : V → AH → Prop} (hQ : Q (.int (bis f lo hi)) H) : WCall C A (.ref 41) args kw H Q := by
  refine WCall.def (fn_in hK 41 rfl) hdep rfl (noCell rfl) (fun h k => codeRec_of (hK.keeps k) rfl) (bs := [("a", .ref a), ("x", x), ("lo", .int lo), ("hi", hiV), ("key", keyV)]) hbind (allLocal rfl) ?_
  intro L hL
  have hNx := Nx.of A (callEnv (fdOf (hd.heap_39 P) 41) L 41)
  generalize hA' : A.deeper (callEnv (fdOf (hd.heap_39 P) 41) L 41) = A' at *
  have F : Fx C A' (callEnv (fdOf (hd.heap_39 P) 41) L 41) := ⟨rfl, rfl, rfl, hNx.2.2.trans hh⟩
  generalize hρ : (fun y => List.lookup y (([("a", .ref a), ("x", x), ("lo", .int lo), ("hi", hiV), ("key", keyV)] : List (Str × V)).reverse)) = ρ
  have ra : ρ "a" = some (.ref a) := by rw [← hρ]; rfl
  have rx : ρ "x" = some x := by rw [← hρ]; rfl
  have rlo : ρ "lo" = some (.int lo) := by rw [← hρ]; rfl
  have rhi : ρ "hi" = some hiV := by rw [← hρ]; rfl
  have rk : ρ "key" = some keyV := by rw [← hρ]; rfl
  have hhl : hi ≤ vs.length := by rcases hhi with ⟨_, q⟩ | ⟨_, q⟩ <;> lia
  refine WS.seq (W1.if (WT.of (b := false) (EvT.icmp (Ev.local F rfl rlo) Ev.int (by simp [icmp])) ⟨fun e => by simp at e, fun _ => WS.nil ⟨rfl, ?_⟩⟩))
  refine WS.seq (W1.if (WT.of (EvT.isNone (Ev.local F rfl rhi)) ?_))
  suffices goal : ∀ ρ : Lo, ρ "a" = some (.ref a) → ρ "x" = some x → ρ "lo" = some (.int lo) → ρ "hi" = some (.int hi) → ρ "key" = some keyV → WS C A' (callEnv (fdOf (hd.heap_39 P) 41) L 41) ((bodyOf (fdOf (hd.heap_39 P) 41)).drop 2) ρ H (fun f _ H' => Q (retv f) H') by
    refine ⟨fun e => ?_, fun e => ?_⟩
    · have hn : hiV = .none := by simpa using e
      rcases hhi with ⟨_, q⟩ | ⟨q, _⟩
      · refine WS.seq (W1.asgLocal F rfl (WE.of (Ev.len (Ev.glob F rfl hlen) (Ev.local F rfl ra) ha hl) ⟨rfl, WS.nil ⟨rfl, ?_⟩⟩))
        rw [← q]
        exact goal _ ra rx rlo rfl rk
      · rw [hn] at q; cases q
    · rcases hhi with ⟨q, _⟩ | ⟨q, _⟩
      · rw [q] at e; simp at e
      · refine WS.nil ⟨rfl, ?_⟩
        exact goal _ ra rx rlo (by rw [rhi, q]) rk
  clear rlo rhi ra rx rk hρ
  intro ρ ra rx rlo rhi rk
  have hkey' := hkey A' hNx
  refine WS.seq (W1.if (WT.of (EvT.isNone (Ev.local F rfl rk)) ⟨fun e => ?_, fun e => ?_⟩))
  · have hn : keyV = .none := by simpa using e
    obtain ⟨_, hlt⟩ : keyV = .none ∧ ∀ i v, lo ≤ i → i < hi → vs[i]? = some v → LtOk C A' H v x (!f i) := by
      rcases hkey' with q | ⟨g, o, fd, q, _⟩
      · exact q
      · rw [hn] at q; cases q
    refine WS.seq (W1.while F (fun n ρ1 H1 => ∃ l h : Nat, n = h - l ∧ lo ≤ l ∧ h ≤ hi ∧ H1 = H ∧ ρ1 "a" = some (.ref a) ∧ ρ1 "x" = some x ∧ ρ1 "lo" = some (.int l) ∧ ρ1 "hi" = some (.int h) ∧ bis f l h = bis f lo hi) _ ⟨lo, hi, rfl, Nat.le_refl _, Nat.le_refl _, rfl, ra, rx, rlo, rhi, rfl⟩ ?_)
    rintro n ρ1 H1 ⟨l, h, rfl, hle, hhi', rfl, ra, rx, rlo, rhi, hb⟩
    refine WT.of (EvT.icmp (Ev.local F rfl rlo) (Ev.local F rfl rhi) rfl) ⟨fun e => ?_, fun e => ?_⟩
    · have hlt' : l < h := by simpa using e
      have hmid : ((l : Int) + (h : Int)).fdiv 2 = ((l + h) / 2 : Nat) := by
        rw [Int.fdiv_eq_ediv_of_nonneg _ (by decide)]; lia
      refine WS.seq (W1.asgLocal F rfl (WE.of (Ev.fdiv (Ev.add (Ev.local F rfl rlo) (Ev.local F rfl rhi)) Ev.int (by decide) (by decide)) ?_))
      rw [hmid]
      refine ⟨rfl, ?_⟩
      have hm : (l + h) / 2 < vs.length := by omega
      refine WS.seq (W1.if (WT.of (EvT.ltOk (Ev.item (v := vs[(l + h) / 2]) (Ev.local F rfl ra) (Ev.local F rfl rfl) ha hl (by omega) (by rw [Int.toNat_natCast]; exact List.getElem?_eq_getElem hm)) (Ev.local F rfl rx) (hlt _ _ (by omega) (by omega) (List.getElem?_eq_getElem hm))) ⟨fun e2 => ?_, fun e2 => ?_⟩))
      · refine WS.seq (W1.asgLocal F rfl (WE.of (Ev.add (Ev.local F rfl rfl) Ev.int) ⟨rfl, WS.nil ⟨rfl, WS.nil ⟨h - ((l + h) / 2 + 1), by omega, (l + h) / 2 + 1, h, rfl, by omega, by omega, rfl, ra, rx, rfl, rhi, ?_⟩⟩⟩))
        rw [← hb, bis_false hlt' (by simpa using e2)]
      · refine WS.seq (W1.asgLocal F rfl (WE.of (Ev.local F rfl rfl) ⟨rfl, WS.nil ⟨rfl, WS.nil ⟨(l + h) / 2 - l, by omega, l, (l + h) / 2, rfl, by omega, by omega, rfl, ra, rx, rlo, rfl, ?_⟩⟩⟩))
        rw [← hb, bis_true hlt' (by simpa using e2)]
    · have hge : ¬ l < h := by simpa using e
      rw [← hb, bis_cross (by omega)] at hQ
      exact ⟨rfl, WS.nil ⟨rfl, WS.cons (W1.ret (WE.of (Ev.local F rfl rlo) hQ))⟩⟩
  · have hn : keyV ≠ .none := by simpa using e
    obtain ⟨g, o, fd, rfl, hfn, hlt⟩ : ∃ g o fd, keyV = .ref g ∧ FnAt C H g o fd ∧ ∀ i v, lo ≤ i → i < hi → vs[i]? = some v → ∃ kv, KeyOk C A' H g v kv ∧ LtOk C A' H kv x (!f i) := by
      rcases hkey' with ⟨q, _⟩ | q
      · exact absurd q hn
      · exact q
    refine WS.seq (W1.while F (fun n ρ1 H1 => ∃ l h : Nat, n = h - l ∧ lo ≤ l ∧ h ≤ hi ∧ H1 = H ∧ ρ1 "a" = some (.ref a) ∧ ρ1 "x" = some x ∧ ρ1 "key" = some (.ref g) ∧ ρ1 "lo" = some (.int l) ∧ ρ1 "hi" = some (.int h) ∧ bis f l h = bis f lo hi) _ ⟨lo, hi, rfl, Nat.le_refl _, Nat.le_refl _, rfl, ra, rx, rk, rlo, rhi, rfl⟩ ?_)
    rintro n ρ1 H1 ⟨l, h, rfl, hle, hhi', rfl, ra, rx, rk, rlo, rhi, hb⟩
    refine WT.of (EvT.icmp (Ev.local F rfl rlo) (Ev.local F rfl rhi) rfl) ⟨fun e => ?_, fun e => ?_⟩
    · have hlt' : l < h := by simpa using e
      have hmid : ((l : Int) + (h : Int)).fdiv 2 = ((l + h) / 2 : Nat) := by
        rw [Int.fdiv_eq_ediv_of_nonneg _ (by decide)]; lia
      refine WS.seq (W1.asgLocal F rfl (WE.of (Ev.fdiv (Ev.add (Ev.local F rfl rlo) (Ev.local F rfl rhi)) Ev.int (by decide) (by decide)) ?_))
      rw [hmid]
      refine ⟨rfl, ?_⟩
      have hm : (l + h) / 2 < vs.length := by omega
      obtain ⟨kv, hkv, hlk⟩ := hlt _ _ (by omega) (by omega) (List.getElem?_eq_getElem hm)
      refine WS.seq (W1.if (WT.of (EvT.ltOk (Ev.key (Ev.local F rfl rk) hfn (Ev.item (v := vs[(l + h) / 2]) (Ev.local F rfl ra) (Ev.local F rfl rfl) ha hl (by lia) (by rw [Int.toNat_natCast]; exact List.getElem?_eq_getElem hm)) hkv) (Ev.local F rfl rx) hlk) ⟨fun e2 => ?_, fun e2 => ?_⟩))
      · refine WS.seq (W1.asgLocal F rfl (WE.of (Ev.add (Ev.local F rfl rfl) Ev.int) ⟨rfl, WS.nil ⟨rfl, WS.nil ⟨h - ((l + h) / 2 + 1), by omega, (l + h) / 2 + 1, h, rfl, by omega, by omega, rfl, ra, rx, rk, rfl, rhi, ?_⟩⟩⟩))
        rw [← hb, bis_false hlt' (by simpa using e2)]
      · refine WS.seq (W1.asgLocal F rfl (WE.of (Ev.local F rfl rfl) ⟨rfl, WS.nil ⟨rfl, WS.nil ⟨(l + h) / 2 - l, by omega, l, (l + h) / 2, rfl, by omega, by omega, rfl, ra, rx, rk, rlo, rfl, ?_⟩⟩⟩))
        rw [← hb, bis_true hlt' (by simpa using e2)]
    · have hge : ¬ l < h := by simpa using e
      rw [← hb, bis_cross (by omega)] at hQ
      exact ⟨rfl, WS.nil ⟨rfl, WS.cons (W1.ret (WE.of (Ev.local F rfl rlo) hQ))⟩⟩


theorem WKs.one {C : Cx} {A : Around} {env : Env} {ρ : Lo} {H : AH} {n : Str} {e : Expr} {p : Pos} {Q : List (Str × V) → AH → Prop} (h : WE C A env e ρ H (fun v H1 => Q [(n, v)] H1)) : WKs C A env [⟨some n, e, p⟩] ρ H Q := h
theorem vals4 {vals : List Value} {a b c d : V} (e : vals.map ab = [a, b, c, d]) : ∃ x y z u, vals = [x, y, z, u] ∧ ab x = a ∧ ab y = b ∧ ab z = c ∧ ab u = d := by
  cases vals with
  | nil => simp at e
  | cons x r =>
    simp only [List.map_cons, List.cons.injEq] at e
    obtain ⟨y, z, u, rfl, h⟩ := vals3 e.2
    exact ⟨x, y, z, u, rfl, e.1, h⟩
theorem kw1 {kvs : List (Str × Value)} {n : Str} {v : V} (e : kvs.map (fun p => (p.1, ab p.2)) = [(n, v)]) : ∃ x, kvs = [(n, x)] ∧ ab x = v := by
  cases kvs with
  | nil => simp at e
  | cons p r =>
    cases r with
    | nil => obtain ⟨a, b⟩ := p; simp at e; exact ⟨b, by rw [e.1], e.2⟩
    | cons q r => simp at e


/-- insort_left, all shapes of call -/
theorem il_core {C : Cx} {A : Around} {H : AH} {P : Params} (hK : (hd.heap_39 P).In C.base) (hlen : C.gl "len" = some (.builtin "len")) (hbr : C.gl "bisect_left" = some (.ref 41)) (hh : A.handled = none) (hdep : A.depth + 2 < recursionLimit)
    {args : List V} {kw : List (Str × V)} {a : Addr} {vs : List V} {x hiV keyV : V} {lo hi : Nat} (f : Nat → Bool)
    (hbind : ∀ vals kvs, vals.map ab = args → kvs.map (fun p => (p.1, ab p.2)) = kw → ∃ binds, (∀ s, Keep C s → BindsTo s (fdOf (hd.heap_39 P) 32) ⟨vals, kvs⟩ binds) ∧ binds.map (fun p => (p.1, ab p.2)) = ([("a", .ref a), ("x", x), ("lo", .int lo), ("hi", hiV), ("key", keyV)] : List (Str × V)))
    (ha : H a = some (.list vs)) (hz : vs.length < sizeLine) (hlh : bis f lo hi ≤ vs.length) (hhi : (hiV = .none ∧ hi = vs.length) ∨ (hiV = .int hi ∧ hi ≤ vs.length))
    (hkey : (keyV = .none ∧ ∀ A' A'', Nx A A' → Nx A' A'' → ∀ i v, lo ≤ i → i < hi → vs[i]? = some v → LtOk C A'' H v x (!f i)) ∨ (∃ g o fd kx, keyV = .ref g ∧ FnAt C H g o fd ∧ (∀ A', Nx A A' → KeyOk C A' H g x kx) ∧ ∀ A' A'', Nx A A' → Nx A' A'' → ∀ i v, lo ≤ i → i < hi → vs[i]? = some v → ∃ kv, KeyOk C A'' H g v kv ∧ LtOk C A'' H kv kx (!f i)))
    {Q : V → AH → Prop} (hQ : Q .none (H.set a (.list (vs.take (bis f lo hi) ++ x :: vs.drop (bis f lo hi))))) : WCall C A (.ref 32) args kw H Q := by
  refine WCall.def (fn_in hK 32 rfl) (by lia) rfl (noCell rfl) (fun h k => codeRec_of (hK.keeps k) rfl) (bs := [("a", .ref a), ("x", x), ("lo", .int lo), ("hi", hiV), ("key", keyV)]) hbind (allLocal rfl) ?_
  intro L hL
  have hNx := Nx.of A (callEnv (fdOf (hd.heap_39 P) 32) L 32)
  generalize hA' : A.deeper (callEnv (fdOf (hd.heap_39 P) 32) L 32) = A' at *
  have F : Fx C A' (callEnv (fdOf (hd.heap_39 P) 32) L 32) := ⟨rfl, rfl, rfl, hNx.2.2.trans hh⟩
  have hdep' : A'.depth < recursionLimit := by rw [hNx.1]; lia
  generalize hρ : (fun y => List.lookup y (([("a", .ref a), ("x", x), ("lo", .int lo), ("hi", hiV), ("key", keyV)] : List (Str × V)).reverse)) = ρ
  have ra : ρ "a" = some (.ref a) := by rw [← hρ]; rfl
  have rx : ρ "x" = some x := by rw [← hρ]; rfl
  have rlo : ρ "lo" = some (.int lo) := by rw [← hρ]; rfl
  have rhi : ρ "hi" = some hiV := by rw [← hρ]; rfl
  have rk : ρ "key" = some keyV := by rw [← hρ]; rfl
  suffices goal : ∀ ρ : Lo, ρ "a" = some (.ref a) → ρ "x" = some x → ρ "lo" = some (.int (bis f lo hi)) → WS C A' (callEnv (fdOf (hd.heap_39 P) 32) L 32) ((bodyOf (fdOf (hd.heap_39 P) 32)).drop 1) ρ H (fun f _ H' => Q (retv f) H') by
    refine WS.seq (W1.if (WT.of (EvT.isNone (Ev.local F rfl rk)) ⟨fun e => ?_, fun e => ?_⟩))
    · have hn : keyV = .none := by simpa using e
      refine WS.seq (W1.asgLocal F rfl (WE.callB (fun _ => fn_in hK 41 rfl) (Ev.glob F rfl hbr) (WEs.of (.cons (Ev.local F rfl ra) (.cons (Ev.local F rfl rx) (.cons (Ev.local F rfl rlo) (.cons (Ev.local F rfl rhi) .nil)))) (WKs.nil (bl_core hK hlen F.hh hdep' (x := x) (keyV := .none) f ?_ ha rfl hhi (fun A'' hA'' => ?_) ⟨rfl, WS.nil ⟨rfl, goal _ ra rx rfl⟩⟩)))))
      · intro vals kvs e1 e2
        obtain ⟨x1, x2, x3, x4, rfl, y1, y2, y3, y4⟩ := vals4 e1
        cases ab_nil e2
        refine ⟨[("a", x1), ("x", x2), ("lo", x3), ("hi", x4), ("key", .none)], fun s hs => kp_binds (hK.keeps hs) (fun S => by kernel_rfl), ?_⟩
        show [(_, ab x1), (_, ab x2), (_, ab x3), (_, ab x4), _] = _
        rw [y1, y2, y3, y4]; rfl
      · rcases hkey with ⟨_, q⟩ | ⟨g, o, fd, kx, q, _⟩
        · exact .inl ⟨rfl, q A' A'' hNx hA''⟩
        · rw [hn] at q; cases q
    · have hn : keyV ≠ .none := by simpa using e
      obtain ⟨g, o, fd, kx, rfl, hfn, hkx, hlt⟩ : ∃ g o fd kx, keyV = .ref g ∧ FnAt C H g o fd ∧ (∀ A', Nx A A' → KeyOk C A' H g x kx) ∧ ∀ A' A'', Nx A A' → Nx A' A'' → ∀ i v, lo ≤ i → i < hi → vs[i]? = some v → ∃ kv, KeyOk C A'' H g v kv ∧ LtOk C A'' H kv kx (!f i) := by
        rcases hkey with ⟨q, _⟩ | q
        · exact absurd q hn
        · exact q
      refine WS.seq (W1.asgLocal F rfl (WE.callB (fun _ => fn_in hK 41 rfl) (Ev.glob F rfl hbr) (WEs.of (.cons (Ev.local F rfl ra) (.cons (Ev.key (Ev.local F rfl rk) hfn (Ev.local F rfl rx) (hkx A' hNx)) (.cons (Ev.local F rfl rlo) (.cons (Ev.local F rfl rhi) .nil)))) (WKs.one (WE.of (Ev.local F rfl rk) (bl_core hK hlen F.hh hdep' (x := kx) (keyV := .ref g) f ?_ ha rfl hhi (fun A'' hA'' => .inr ⟨g, o, fd, rfl, hfn, hlt A' A'' hNx hA''⟩) ⟨rfl, WS.nil ⟨rfl, goal _ ra rx rfl⟩⟩))))))
      intro vals kvs e1 e2
      obtain ⟨x1, x2, x3, x4, rfl, y1, y2, y3, y4⟩ := vals4 e1
      obtain ⟨x5, rfl, y5⟩ := kw1 e2
      refine ⟨[("a", x1), ("x", x2), ("lo", x3), ("hi", x4), ("key", x5)], fun s hs => kp_binds (hK.keeps hs) (fun S => by kernel_rfl), ?_⟩
      show [(_, ab x1), (_, ab x2), (_, ab x3), (_, ab x4), (_, ab x5)] = _
      rw [y1, y2, y3, y4, y5]
  clear rlo rhi ra rx rk hρ
  intro ρ ra rx rlo
  refine WS.cons (W1.expr F (WE.listMeth PySem.F.slot_list_insert rfl (WE.of (Ev.local F rfl ra) ⟨a, _, rfl, ha, WEs.of (.cons (Ev.local F rfl rlo) (.cons (Ev.local F rfl rx) .nil)) (WCall.insert ha hlh hz ⟨(by intro a e; cases e), WS.nil hQ⟩)⟩)))


end Mine

namespace Mine
open PySem PySem.W PyProof.Rows

/-! ## maths of law 12 -/
noncomputable def pre (tx : List Nat) (d k : Nat) : List Nat := (tx.drop k).take d
noncomputable abbrev TA := Addr × Nat
noncomputable def trefs (ts : List TA) : List V := ts.map fun p => V.ref p.1
theorem trefs_len (ts : List TA) : (trefs ts).length = ts.length := by simp [trefs]
/-- by rising beginnings, the later place first -/
noncomputable def tlt (tx : List Nat) (d : Nat) (a b : Nat) : Prop := slt (pre tx d b) (pre tx d a) = false ∧ (pre tx d a = pre tx d b → b < a)
noncomputable def OrdT (tx : List Nat) (d : Nat) (ks : List Nat) : Prop := ks.Pairwise (tlt tx d)
section
variable {α : Type} {kf : α → List Nat} {xs : List α} {x : List Nat}
noncomputable def SrtS (kf : α → List Nat) (xs : List α) : Prop := xs.Pairwise fun p q => slt (kf q) (kf p) = false
theorem SrtS.lt (h : SrtS kf xs) (x : List Nat) : xs.Pairwise (fun p q => slt (kf q) x = true → slt (kf p) x = true) :=
  List.Pairwise.imp (fun {p q} e e1 => by
    cases q2 : slt (kf p) x with
    | true => rfl
    | false => rw [slt_trans _ _ _ q2 e] at e1; cases e1) h
theorem SrtS.le (h : SrtS kf xs) (x : List Nat) : xs.Pairwise (fun p q => (!slt x (kf q)) = true → (!slt x (kf p)) = true) :=
  List.Pairwise.imp (fun {p q} e e1 => by
    simp only [Bool.not_eq_true'] at e1 ⊢
    exact slt_trans _ _ _ e e1) h
theorem le_split : ∀ (xs : List α), xs.countP (fun p => !slt x (kf p)) = xs.countP (fun p => slt (kf p) x) + xs.countP (fun p => decide (kf p = x))
  | [] => rfl
  | p :: r => by
    rw [List.countP_cons, List.countP_cons, List.countP_cons, le_split r]
    by_cases h1 : kf p = x
    · rw [h1, slt_irrefl]; simp; lia
    · cases h2 : slt (kf p) x with
      | true => rw [slt_asym _ _ h2]; simp [h1]; lia
      | false =>
        have h3 : slt x (kf p) = true := by
          cases h3 : slt x (kf p) with
          | true => rfl
          | false => exact absurd (slt_total _ _ h2 h3) h1
        rw [h3]; simp [h1]
end
theorem OrdT.srt {tx : List Nat} {d : Nat} {ks : List Nat} (h : OrdT tx d ks) {m : Nat} (hm : m ≤ d) : SrtS (pre tx m) ks :=
  List.Pairwise.imp (fun {a b} e => by
    have h1 := slt_take m _ _ e.1
    unfold pre at h1 ⊢
    rwa [List.take_take, List.take_take, Nat.min_eq_left hm] at h1) h
/-- the new place, greater than all before, put in ahead of those that begin alike -/
theorem OrdT.ins {tx : List Nat} {d : Nat} {ks : List Nat} {n : Nat} (h : OrdT tx d ks) (hp : ks.Perm (List.range n)) : OrdT tx d (ins ks (ks.countP fun k => slt (pre tx d k) (pre tx d n)) n) ∧ (ins ks (ks.countP fun k => slt (pre tx d k) (pre tx d n)) n).Perm (List.range (n + 1)) := by
  have hs := split_at ((h.srt (Nat.le_refl d)).lt (pre tx d n))
  have hmem : ∀ k ∈ ks, k < n := fun k hk => by simpa using hp.mem_iff.mp hk
  have h0 := h
  unfold OrdT at h0
  rw [← List.take_append_drop (ks.countP fun k => slt (pre tx d k) (pre tx d n)) ks, List.pairwise_append] at h0
  obtain ⟨h1, h2, h3⟩ := h0
  refine ⟨?_, ?_⟩
  · unfold OrdT Mine.ins
    rw [List.pairwise_append, List.pairwise_cons]
    refine ⟨h1, ⟨fun k hk => ?_, h2⟩, fun a ha b hb => ?_⟩
    · refine ⟨hs.2 k hk, fun _ => hmem k (List.mem_of_mem_drop hk)⟩
    · rcases List.mem_cons.mp hb with rfl | hb
      · have := hs.1 a ha
        refine ⟨slt_asym _ _ this, fun e => ?_⟩
        rw [e, slt_irrefl] at this; cases this
      · exact h3 a ha b hb
  · rw [List.range_succ]
    refine List.Perm.trans ?_ (hp.append_right [n])
    unfold Mine.ins
    refine (List.perm_middle).trans ?_
    rw [List.take_append_drop]
    exact (List.perm_append_singleton n ks).symm
theorem ordT_eq {tx : List Nat} {d : Nat} : ∀ {a b : List Nat}, a.Perm b → OrdT tx d a → OrdT tx d b → a = b
  | [], b, hp, _, _ => by rw [List.nil_perm.mp hp]
  | x :: a, [], hp, _, _ => absurd hp.length_eq (by simp)
  | x :: a, y :: b, hp, ha, hb => by
    have key : x = y := by
      have h1 : x ∈ y :: b := hp.mem_iff.mp (List.mem_cons_self ..)
      have h2 : y ∈ x :: a := hp.mem_iff.mpr (List.mem_cons_self ..)
      rcases List.mem_cons.mp h1 with e | e1
      · exact e
      · rcases List.mem_cons.mp h2 with e | e2
        · exact e.symm
        · have p1 := (List.pairwise_cons.mp hb).1 x e1
          have p2 := (List.pairwise_cons.mp ha).1 y e2
          have e3 := slt_total _ _ p2.1 p1.1
          have := p1.2 e3
          have := p2.2 e3.symm
          lia
    subst key
    rw [ordT_eq ((List.perm_cons x).mp hp) (List.pairwise_cons.mp ha).2 (List.pairwise_cons.mp hb).2]
theorem len_sub {α : Type} [DecidableEq α] : ∀ {a b : List α}, a.Nodup → (∀ x ∈ a, x ∈ b) → a.length ≤ b.length
  | [], _, _, _ => Nat.zero_le _
  | x :: a, b, hn, hs => by
    have hx := hs x (List.mem_cons_self ..)
    have := len_sub (a := a) (b := b.erase x) (List.nodup_cons.mp hn).2 fun y hy => by
      have hne : y ≠ x := fun e => (List.nodup_cons.mp hn).1 (by rw [← e]; exact hy)
      exact (List.mem_erase_of_ne hne).mpr (hs y (List.mem_cons_of_mem _ hy))
    rw [List.length_erase_of_mem hx] at this
    have := List.length_pos_of_mem hx
    simp; omega
noncomputable def cands (tx : List Nat) : List (List Nat) := [] :: (List.range 17).flatMap fun k => (List.range 7).map fun j => (tx.drop k).take (j + 1)
theorem cands_len (tx : List Nat) : (cands tx).length = 120 := by
  unfold cands
  rw [List.length_cons, List.length_flatMap]
  simp only [List.length_map, List.length_range]
  decide
theorem mem_cands {tx : List Nat} {k j : Nat} (hk : k < 17) (hj : j < 8) : (tx.drop k).take j ∈ cands tx := by
  unfold cands
  cases j with
  | zero => simp
  | succ j =>
    refine List.mem_cons_of_mem _ (List.mem_flatMap.mpr ⟨k, by simpa using hk, List.mem_map.mpr ⟨j, ?_, rfl⟩⟩)
    simp; lia
/-- the counts -/
theorem less_cut {tx : List Nat} {d : Nat} {p : List Nat} (hp : p.length ≤ d) (k : Nat) : slt (pre tx p.length k) p = slt (pre tx d k) p := by
  rw [← slt_cut (pre tx d k) p p.length rfl]
  unfold pre
  rw [List.take_take, Nat.min_eq_left hp]
end Mine

set_option maxHeartbeats 4000000
namespace Mine
open PySem PySem.W PyProof.Rows

noncomputable abbrev law12 (P : Params) : FuncData := fdOf (hd.heap_39 P) 46
noncomputable abbrev env12 (P : Params) (L : Addr) : Env := callEnvC (law12 P) L 46
noncomputable abbrev xb12 (P : Params) : List Stmt := forBody (stAt (bodyOf (law12 P)) 9)
noncomputable def kwE : Expr → Expr
  | .Call _ _ (k :: _) _ => k.value
  | .Compare l _ _ _ => (match l with | .Call _ _ (k :: _) _ => k.value | _ => .Constant .none 0 ⟨0, 0, 0, 0⟩)
  | _ => .Constant .none 0 ⟨0, 0, 0, 0⟩
noncomputable def stE : Stmt → Expr
  | .Assign _ e _ => e
  | .Expr e _ => e
  | .If e _ _ _ => e
  | .For _ e _ _ _ => e
  | _ => .Constant .none 0 ⟨0, 0, 0, 0⟩
noncomputable def cmpR : Expr → Expr
  | .Compare _ _ (e :: _) _ => e
  | _ => .Constant .none 0 ⟨0, 0, 0, 0⟩
noncomputable def lamFc (C : Cx) (env : Env) (e : Expr) (clos : List (Str × Addr)) (c' : Addr) (ctv : Value) : FuncData := match e with
  | .Lambda params body scope pos => lamFd C env params body scope clos c' ctv
  | _ => default
noncomputable def lam0 (P : Params) : Expr := kwE (stE (stAt (forBody (stAt (bodyOf (law12 P)) 5)) 0))
noncomputable def lam1 (P : Params) : Expr := kwE (cmpR (stE (stAt (bodyOf (law12 P)) 6)))
noncomputable def lam2 (P : Params) : Expr := kwE (stE (stAt (xb12 P) 3))
noncomputable def lam3 (P : Params) : Expr := kwE (stE (stAt (xb12 P) 4))
structure Gl12 (C : Cx) : Prop where
  len : C.gl "len" = some (.builtin "len")
  range : C.gl "range" = some (.type "range")
  sorted : C.gl "sorted" = some (.builtin "sorted")
  set : C.gl "set" = some (.type "set")
  il : C.gl "insort_left" = some (.ref 32)
  bl : C.gl "bisect_left" = some (.ref 41)
  br : C.gl "bisect_right" = some (.ref 23)
section
variable {C : Cx} {A : Around} {ρ : Lo} {H : AH} {P : Params} {env : Env}
theorem bind2k (hK : (hd.heap_39 P).In C.base) (f : Addr) (hf : f = 23 ∨ f = 32 ∨ f = 41) {a : Addr} {x keyV : V} : ∀ (vals : List Value) (kvs : List (Str × Value)), vals.map ab = [.ref a, x] → kvs.map (fun p => (p.1, ab p.2)) = ([("key", keyV)] : List (Str × V)) → ∃ binds, (∀ s, Keep C s → BindsTo s (fdOf (hd.heap_39 P) f) ⟨vals, kvs⟩ binds) ∧ binds.map (fun p => (p.1, ab p.2)) = ([("a", .ref a), ("x", x), ("lo", .int (0 : Nat)), ("hi", .none), ("key", keyV)] : List (Str × V)) := by
  intro vals kvs e1 e2
  obtain ⟨x1, x2, rfl, y1, y2⟩ := vals2 e1
  obtain ⟨x5, rfl, y5⟩ := kw1 e2
  have e : ∀ t, ([("a", x1), ("x", x2), ("lo", .int 0 t), ("hi", .none), ("key", x5)] : List (Str × Value)).map (fun p => (p.1, ab p.2)) = ([("a", .ref a), ("x", x), ("lo", .int (0 : Nat)), ("hi", .none), ("key", keyV)] : List (Str × V)) := fun t => by
    show [(_, ab x1), (_, ab x2), _, _, (_, ab x5)] = _
    rw [y1, y2, y5]; rfl
  rcases hf with rfl | rfl | rfl
  · exact ⟨[("a", x1), ("x", x2), ("lo", .int 0 189), ("hi", .none), ("key", x5)], fun s hs => kp_binds (hK.keeps hs) (fun S => by kernel_rfl), e _⟩
  · exact ⟨[("a", x1), ("x", x2), ("lo", .int 0 203), ("hi", .none), ("key", x5)], fun s hs => kp_binds (hK.keeps hs) (fun S => by kernel_rfl), e _⟩
  · exact ⟨[("a", x1), ("x", x2), ("lo", .int 0 216), ("hi", .none), ("key", x5)], fun s hs => kp_binds (hK.keeps hs) (fun S => by kernel_rfl), e _⟩
theorem bind2 (hK : (hd.heap_39 P).In C.base) (f : Addr) (hf : f = 23 ∨ f = 41) {a : Addr} {x : V} : ∀ (vals : List Value) (kvs : List (Str × Value)), vals.map ab = [.ref a, x] → kvs.map (fun p => (p.1, ab p.2)) = ([] : List (Str × V)) → ∃ binds, (∀ s, Keep C s → BindsTo s (fdOf (hd.heap_39 P) f) ⟨vals, kvs⟩ binds) ∧ binds.map (fun p => (p.1, ab p.2)) = ([("a", .ref a), ("x", x), ("lo", .int (0 : Nat)), ("hi", .none), ("key", .none)] : List (Str × V)) := by
  intro vals kvs e1 e2
  obtain ⟨x1, x2, rfl, y1, y2⟩ := vals2 e1
  cases ab_nil e2
  have e : ∀ t, ([("a", x1), ("x", x2), ("lo", .int 0 t), ("hi", .none), ("key", .none)] : List (Str × Value)).map (fun p => (p.1, ab p.2)) = ([("a", .ref a), ("x", x), ("lo", .int (0 : Nat)), ("hi", .none), ("key", .none)] : List (Str × V)) := fun t => by
    show [(_, ab x1), (_, ab x2), _, _, _] = _
    rw [y1, y2]; rfl
  rcases hf with rfl | rfl
  · exact ⟨[("a", x1), ("x", x2), ("lo", .int 0 189), ("hi", .none), ("key", .none)], fun s hs => kp_binds (hK.keeps hs) (fun S => by kernel_rfl), e _⟩
  · exact ⟨[("a", x1), ("x", x2), ("lo", .int 0 216), ("hi", .none), ("key", .none)], fun s hs => kp_binds (hK.keeps hs) (fun S => by kernel_rfl), e _⟩
section
variable {α : Type} {r : α → V} {kf : α → List Nat} {xs : List α}
theorem at_map {i : Nat} {u : V} (h : (xs.map r)[i]? = some u) : ∃ p, xs[i]? = some p ∧ u = r p := by
  rw [List.getElem?_map] at h
  cases q : xs[i]? with
  | none => rw [q] at h; cases h
  | some p => rw [q] at h; exact ⟨p, rfl, (Option.some.inj h).symm⟩
theorem bl_sk (hK : (hd.heap_39 P).In C.base) (hlen : C.gl "len" = some (.builtin "len")) (hh : A.handled = none) (hdep : A.depth + 4 < recursionLimit) (hu : A.units + 100 < cLine) {a g : Addr} {o : Obj} {fd : FuncData} {x : List Nat} (ha : H a = some (.list (xs.map r))) (hs : SrtS kf xs) (hfn : FnAt C H g o fd) (hkey : ∀ A', Sm A' → ∀ p ∈ xs, KeyOk C A' H g (r p) (.str (S (kf p)))) :
    WCall C A (.ref 41) [.ref a, .str (S x)] [("key", .ref g)] H (fun r H' => r = .int (xs.countP (fun p => slt (kf p) x) : Nat) ∧ H' = H) := by
  have hb : bis (fun i => !((xs[i]?).elim false fun p => slt (kf p) x)) 0 xs.length = xs.countP (fun p => slt (kf p) x) := by
    have := bis_part (f := fun i => !((xs[i]?).elim false fun p => slt (kf p) x)) (lo := 0) (hi := xs.length) (hs.lt x) (by simp) (fun j y hj => by show (!((xs[0 + j]?).elim false fun p => slt (kf p) x)) = _; rw [Nat.zero_add, hj]; rfl)
    rw [this, Nat.zero_add]
  refine bl_core hK hlen hh (by lia) (fun i => !((xs[i]?).elim false fun p => slt (kf p) x)) (bind2k hK 41 (by simp)) (hi := xs.length) ha rfl (.inl ⟨rfl, by rw [List.length_map]⟩) (fun A' hA' => .inr ⟨g, o, fd, rfl, hfn, fun i v _ _ hv => ?_⟩) ⟨by rw [hb], rfl⟩
  obtain ⟨p, hp, rfl⟩ := at_map hv
  refine ⟨_, hkey A' (Sm.nx hA' hh hdep hu) p (List.mem_of_getElem? hp), ?_⟩
  show LtOk C A' H _ _ (!!((xs[i]?).elim false fun p => slt (kf p) x))
  rw [Bool.not_not, hp]
  exact LtOk.str
theorem br_sk (hK : (hd.heap_39 P).In C.base) (hlen : C.gl "len" = some (.builtin "len")) (hh : A.handled = none) (hdep : A.depth + 4 < recursionLimit) (hu : A.units + 100 < cLine) {a g : Addr} {o : Obj} {fd : FuncData} {x : List Nat} (ha : H a = some (.list (xs.map r))) (hs : SrtS kf xs) (hfn : FnAt C H g o fd) (hkey : ∀ A', Sm A' → ∀ p ∈ xs, KeyOk C A' H g (r p) (.str (S (kf p)))) :
    WCall C A (.ref 23) [.ref a, .str (S x)] [("key", .ref g)] H (fun r H' => r = .int (xs.countP (fun p => !slt x (kf p)) : Nat) ∧ H' = H) := by
  have hb : bis (fun i => !((xs[i]?).elim false fun p => !slt x (kf p))) 0 xs.length = xs.countP (fun p => !slt x (kf p)) := by
    have := bis_part (f := fun i => !((xs[i]?).elim false fun p => !slt x (kf p))) (lo := 0) (hi := xs.length) (hs.le x) (by simp) (fun j y hj => by show (!((xs[0 + j]?).elim false fun p => !slt x (kf p))) = _; rw [Nat.zero_add, hj]; rfl)
    rw [this, Nat.zero_add]
  refine br_core hK hlen hh (by lia) (fun i => !((xs[i]?).elim false fun p => !slt x (kf p))) (bind2k hK 23 (by simp)) (hi := xs.length) ha rfl (.inl ⟨rfl, by rw [List.length_map]⟩) (fun A' hA' => .inr ⟨g, o, fd, rfl, hfn, fun i v _ _ hv => ?_⟩) ⟨by rw [hb], rfl⟩
  obtain ⟨p, hp, rfl⟩ := at_map hv
  refine ⟨_, hkey A' (Sm.nx hA' hh hdep hu) p (List.mem_of_getElem? hp), ?_⟩
  show LtOk C A' H _ _ (!((xs[i]?).elim false fun p => !slt x (kf p)))
  rw [hp]
  show LtOk C A' H _ _ (!!slt x (kf p))
  rw [Bool.not_not]
  exact LtOk.str
end
theorem vstrs_at {xs : List (List Nat)} {i : Nat} {u : V} (h : (vstrs xs)[i]? = some u) : ∃ p, xs[i]? = some p ∧ u = .str (S p) := at_map h
theorem bl_s0 (hK : (hd.heap_39 P).In C.base) (hlen : C.gl "len" = some (.builtin "len")) (hh : A.handled = none) (hdep : A.depth + 4 < recursionLimit) {a : Addr} {x : List Nat} {xs : List (List Nat)} (ha : H a = some (.list (vstrs xs))) (hs : SrtS (fun l => l) xs) :
    WCall C A (.ref 41) [.ref a, .str (S x)] [] H (fun r H' => r = .int (xs.countP (fun p => slt p x) : Nat) ∧ H' = H) := by
  have hb : bis (fun i => !((xs[i]?).elim false fun p => slt p x)) 0 xs.length = xs.countP (fun p => slt p x) := by
    have := bis_part (f := fun i => !((xs[i]?).elim false fun p => slt p x)) (lo := 0) (hi := xs.length) (hs.lt x) (by simp) (fun j y hj => by show (!((xs[0 + j]?).elim false fun p => slt p x)) = _; rw [Nat.zero_add, hj]; rfl)
    rw [this, Nat.zero_add]
  refine bl_core hK hlen hh (by lia) (fun i => !((xs[i]?).elim false fun p => slt p x)) (bind2 hK 41 (by simp)) (hi := xs.length) ha rfl (.inl ⟨rfl, by rw [vstrs_length]⟩) (fun A' hA' => .inl ⟨rfl, fun i v _ _ hv => ?_⟩) ⟨by rw [hb], rfl⟩
  obtain ⟨p, hp, rfl⟩ := vstrs_at hv
  show LtOk C A' H _ _ (!!((xs[i]?).elim false fun p => slt p x))
  rw [Bool.not_not, hp]
  exact LtOk.str
theorem br_s0 (hK : (hd.heap_39 P).In C.base) (hlen : C.gl "len" = some (.builtin "len")) (hh : A.handled = none) (hdep : A.depth + 4 < recursionLimit) {a : Addr} {x : List Nat} {xs : List (List Nat)} (ha : H a = some (.list (vstrs xs))) (hs : SrtS (fun l => l) xs) :
    WCall C A (.ref 23) [.ref a, .str (S x)] [] H (fun r H' => r = .int (xs.countP (fun p => !slt x p) : Nat) ∧ H' = H) := by
  have hb : bis (fun i => !((xs[i]?).elim false fun p => !slt x p)) 0 xs.length = xs.countP (fun p => !slt x p) := by
    have := bis_part (f := fun i => !((xs[i]?).elim false fun p => !slt x p)) (lo := 0) (hi := xs.length) (hs.le x) (by simp) (fun j y hj => by show (!((xs[0 + j]?).elim false fun p => !slt x p)) = _; rw [Nat.zero_add, hj]; rfl)
    rw [this, Nat.zero_add]
  refine br_core hK hlen hh (by lia) (fun i => !((xs[i]?).elim false fun p => !slt x p)) (bind2 hK 23 (by simp)) (hi := xs.length) ha rfl (.inl ⟨rfl, by rw [vstrs_length]⟩) (fun A' hA' => .inl ⟨rfl, fun i v _ _ hv => ?_⟩) ⟨by rw [hb], rfl⟩
  obtain ⟨p, hp, rfl⟩ := vstrs_at hv
  show LtOk C A' H _ _ (!((xs[i]?).elim false fun p => !slt x p))
  rw [hp]
  show LtOk C A' H _ _ (!!slt x p)
  rw [Bool.not_not]
  exact LtOk.str
theorem il_sk (hK : (hd.heap_39 P).In C.base) (hlen : C.gl "len" = some (.builtin "len")) (hbl : C.gl "bisect_left" = some (.ref 41)) (hh : A.handled = none) (hdep : A.depth + 4 < recursionLimit) (hu : A.units + 100 < cLine) {a g I : Addr} {o : Obj} {fd : FuncData} {xs : List TA} {kf : TA → List Nat} {x : List Nat} (ha : H a = some (.list (trefs xs))) (hz : xs.length < sizeLine) (hs : SrtS kf xs) (hfn : FnAt C H g o fd) (hkey : ∀ A', Sm A' → ∀ p ∈ xs, KeyOk C A' H g (.ref p.1) (.str (S (kf p)))) (hkI : ∀ A', Sm A' → KeyOk C A' H g (.ref I) (.str (S x)))
    {Q : V → AH → Prop} (hQ : Q .none (H.set a (.list (ins (trefs xs) (xs.countP (fun p => slt (kf p) x)) (.ref I))))) : WCall C A (.ref 32) [.ref a, .ref I] [("key", .ref g)] H Q := by
  have hb : bis (fun i => !((xs[i]?).elim false fun p => slt (kf p) x)) 0 xs.length = xs.countP (fun p => slt (kf p) x) := by
    have := bis_part (f := fun i => !((xs[i]?).elim false fun p => slt (kf p) x)) (lo := 0) (hi := xs.length) (hs.lt x) (by simp) (fun j y hj => by show (!((xs[0 + j]?).elim false fun p => slt (kf p) x)) = _; rw [Nat.zero_add, hj]; rfl)
    rw [this, Nat.zero_add]
  have hc := List.countP_le_length (p := fun p => slt (kf p) x) (l := xs)
  refine il_core hK hlen hbl hh (by lia) (fun i => !((xs[i]?).elim false fun p => slt (kf p) x)) (bind2k hK 32 (by simp)) (hi := xs.length) ha (by rw [trefs_len]; exact hz) (by rw [hb, trefs_len]; exact hc) (.inl ⟨rfl, by rw [trefs_len]⟩) (.inr ⟨g, o, fd, .str (S x), rfl, hfn, fun A' hA' => hkI A' (Sm.nx hA' hh hdep hu), fun A' A'' h1 h2 i v _ _ hv => ?_⟩) (by rw [hb]; exact hQ)
  obtain ⟨p, hp, rfl⟩ := at_map hv
  refine ⟨_, hkey A'' (Sm.nx2 h1 h2 hh hdep hu) p (List.mem_of_getElem? hp), ?_⟩
  show LtOk C A'' H _ _ (!!((xs[i]?).elim false fun p => slt (kf p) x))
  rw [Bool.not_not, hp]
  exact LtOk.str

/-! ## what stands on the heap -/
noncomputable abbrev IsTl (tx : List Nat) (H : AH) (p : TA) : Prop := H p.1 = some (.list [.str (S (tx.drop p.2)), .int p.2])
theorem key0 {L g c' : Addr} {ctv : Value} {p : TA} {tx : List Nat} {d : Nat} (hS : Sm A) (hz : tx.length ≤ 1000) (hg : H g = some (.fn (lamFc C (env12 P L) (lam0 P) [("deep", L + 2)] c' ctv))) (hc : H c' = some (.code ((env12 P L).qual ++ "<lambda>"))) (hdp : H (L + 2) = some (.cell (some (.int d)))) (ha : IsTl tx H p) : KeyOk C A H g (.ref p.1) (.str (S (pre tx d p.2))) := by
  refine WCall.lam (bs := [("one", .ref p.1)]) hg hS.2.1 rfl rfl hc (noCell rfl) ?_ (allLocal rfl) ?_
  · intro vals e
    obtain ⟨x, rfl, ex⟩ := vals1 e
    exact ⟨[("one", x)], by kernel_rfl, by show [(_, ab x)] = _; rw [ex]⟩
  · intro L' hL'
    exact WE.of (Ev.strTo (Ev.item (k := 0) (Ev.local ⟨rfl, rfl, rfl, hS.1⟩ rfl rfl) Ev.int ha rfl (by lia) rfl) (Ev.free ⟨rfl, rfl, rfl, hS.1⟩ rfl rfl hdp) (by rw [List.length_drop]; omega)) ⟨rfl, rfl⟩
theorem key1 {L g c' : Addr} {ctv : Value} {k : Nat} {tx : List Nat} {d : Nat} (hS : Sm A) (hz : tx.length ≤ 1000) (hg : H g = some (.fn (lamFc C (env12 P L) (lam1 P) [("text", L + 4), ("deep", L + 2)] c' ctv))) (hc : H c' = some (.code ((env12 P L).qual ++ "<lambda>"))) (hdp : H (L + 2) = some (.cell (some (.int d)))) (htx : H (L + 4) = some (.cell (some (.str (S tx))))) :
    WCall C A (.ref g) [.int k] [] H (fun r H' => ∃ T, H T = none ∧ H' = H.set T (.tup [.str (S (pre tx d k)), .int (-(k : Int))]) ∧ r = .ref T) := by
  refine WCall.lam (bs := [("k", .int k)]) hg hS.2.1 rfl rfl hc (noCell rfl) ?_ (allLocal rfl) ?_
  · intro vals e
    obtain ⟨x, rfl, ex⟩ := vals1 e
    exact ⟨[("k", x)], by kernel_rfl, by show [(_, ab x)] = _; rw [ex]⟩
  · intro L' hL'
    exact WE.tuple rfl (by decide) (WEs.of (.cons (Ev.strPart (Ev.free ⟨rfl, rfl, rfl, hS.1⟩ rfl rfl htx) (Ev.local ⟨rfl, rfl, rfl, hS.1⟩ rfl rfl) (Ev.add (Ev.local ⟨rfl, rfl, rfl, hS.1⟩ rfl rfl) (Ev.free ⟨rfl, rfl, rfl, hS.1⟩ rfl rfl hdp)) hz) (.cons (Ev.neg (Ev.local ⟨rfl, rfl, rfl, hS.1⟩ rfl rfl)) .nil)) fun T hT => ⟨T, hT, rfl, rfl⟩)
theorem key2 {L g c' : Addr} {ctv : Value} {p : TA} {tx pt : List Nat} (hlen : C.gl "len" = some (.builtin "len")) (hS : Sm A) (hz : tx.length ≤ 1000) (hzp : pt.length ≤ 1000) (hg : H g = some (.fn (lamFc C (env12 P L) (lam2 P) [("part", L + 3)] c' ctv))) (hc : H c' = some (.code ((env12 P L).qual ++ "<lambda>"))) (hpt : H (L + 3) = some (.cell (some (.str (S pt))))) (ha : IsTl tx H p) : KeyOk C A H g (.ref p.1) (.str (S (pre tx pt.length p.2))) := by
  refine WCall.lam (bs := [("one", .ref p.1)]) hg hS.2.1 rfl rfl hc (noCell rfl) ?_ (allLocal rfl) ?_
  · intro vals e
    obtain ⟨x, rfl, ex⟩ := vals1 e
    exact ⟨[("one", x)], by kernel_rfl, by show [(_, ab x)] = _; rw [ex]⟩
  · intro L' hL'
    have F : Fx C (A.deeper (lamEnv (lamFc C (env12 P L) (lam2 P) [(Str.ofString "part", L + 3)] c' ctv) L' g)) (lamEnv (lamFc C (env12 P L) (lam2 P) [(Str.ofString "part", L + 3)] c' ctv) L' g) := ⟨rfl, rfl, rfl, hS.1⟩
    exact WE.of (Ev.strTo (Ev.item (k := 0) (Ev.local F rfl rfl) Ev.int ha rfl (by lia) rfl) (Ev.lenS (Ev.glob F rfl hlen) (Ev.free F rfl rfl hpt) hzp) (by rw [List.length_drop]; omega)) ⟨rfl, rfl⟩
theorem key3 {L g c' : Addr} {ctv : Value} {p : TA} {tx pt : List Nat} (hlen : C.gl "len" = some (.builtin "len")) (hS : Sm A) (hz : tx.length ≤ 1000) (hzp : pt.length ≤ 1000) (hg : H g = some (.fn (lamFc C (env12 P L) (lam3 P) [("part", L + 3)] c' ctv))) (hc : H c' = some (.code ((env12 P L).qual ++ "<lambda>"))) (hpt : H (L + 3) = some (.cell (some (.str (S pt))))) (ha : IsTl tx H p) : KeyOk C A H g (.ref p.1) (.str (S (pre tx pt.length p.2))) := by
  refine WCall.lam (bs := [("one", .ref p.1)]) hg hS.2.1 rfl rfl hc (noCell rfl) ?_ (allLocal rfl) ?_
  · intro vals e
    obtain ⟨x, rfl, ex⟩ := vals1 e
    exact ⟨[("one", x)], by kernel_rfl, by show [(_, ab x)] = _; rw [ex]⟩
  · intro L' hL'
    have F : Fx C (A.deeper (lamEnv (lamFc C (env12 P L) (lam3 P) [(Str.ofString "part", L + 3)] c' ctv) L' g)) (lamEnv (lamFc C (env12 P L) (lam3 P) [(Str.ofString "part", L + 3)] c' ctv) L' g) := ⟨rfl, rfl, rfl, hS.1⟩
    exact WE.of (Ev.strTo (Ev.item (k := 0) (Ev.local F rfl rfl) Ev.int ha rfl (by lia) rfl) (Ev.lenS (Ev.glob F rfl hlen) (Ev.free F rfl rfl hpt) hzp) (by rw [List.length_drop]; omega)) ⟨rfl, rfl⟩
end
end Mine

set_option maxHeartbeats 4000000
namespace Mine
open PySem PySem.W PyProof.Rows

section
variable {C : Cx} {A : Around} {env : Env} {ρ : Lo} {H : AH}
/-- a list of values is made, the heap left alone -/
theorem comp_vals {n : Nat} {g : Nat → V} {elt tgt : Expr} {Ok : Nat → AH → Prop} {Pd : Nat → AH → Dv → Prop} {Q : AH → List V → Prop} (hn : n ≤ sizeLine)
    (ht : ∀ i (ρ1 : Lo), i < n → Ok i H ∧ ∀ d, Pd i H d → Asg C A env tgt d ρ1 H (fun ρ2 H3 => H3 = H ∧ Ev C A env ρ2 H elt (g i))) (hOk : Ok n H) (hQ : Q H ((List.range n).map g)) :
    LoopOk C A env elt tgt [] [] H n Ok Pd (fun _ => none) [] (fun _ H2 zs => Q H2 zs) := by
  refine ⟨fun i ρ1 H1 zs => H1 = H ∧ zs = (List.range i).map g, ⟨rfl, rfl⟩, ?_, ?_⟩
  · rintro i ρ1 H1 zs hi ⟨rfl, rfl⟩
    obtain ⟨ok, t⟩ := ht i ρ1 hi
    refine ⟨ok, fun d hd => Asg.mono (t d hd) ?_⟩
    rintro ρ2 H3 ⟨rfl, v⟩
    exact ⟨fun _ => WE.of v ⟨by simp; lia, rfl, by rw [List.range_succ]; simp⟩, fun e => by cases e⟩
  · rintro ρ1 H1 zs ⟨rfl, rfl⟩
    exact ⟨hOk, hQ⟩
/-- of the numbers below n those that pass -/
theorem comp_rangeG {n : Nat} {p : Nat → Bool} {elt c : Expr} {x : Str} {pos : Pos} {Ok : Nat → AH → Prop} {Pd : Nat → AH → Dv → Prop} {Q : AH → List V → Prop} (F : Fx C A env) (hx : env.kindOf x = some .local) (hn : n ≤ sizeLine)
    (hOk : ∀ i, Ok i H) (hP : ∀ i d, Pd i H d → d = .one (.int (i : Nat))) (he : ∀ i (ρ : Lo), i < n → ρ x = some (.int (i : Nat)) → Ev C A env ρ H elt (.int (i : Nat))) (hc : ∀ i (ρ : Lo), i < n → ρ x = some (.int (i : Nat)) → EvT C A env ρ H c (p i)) (hQ : Q H (vints (((List.range n).filter p).map fun (t : Nat) => (t : Int)))) :
    LoopOk C A env elt (.Name x pos) [c] [] H n Ok Pd (fun _ => none) [] (fun _ H2 zs => Q H2 zs) := by
  refine ⟨fun i ρ1 H1 zs => H1 = H ∧ zs = vints (((List.range i).filter p).map fun (t : Nat) => (t : Int)), ⟨rfl, rfl⟩, ?_, ?_⟩
  · rintro i ρ1 H1 zs hi ⟨rfl, rfl⟩
    refine ⟨hOk i, fun d hd => ?_⟩
    rw [hP i d hd]
    refine Asg.local F hx (WT.of (hc i _ hi (Lo.set_same ..)) ⟨fun e => ⟨fun _ => ?_, fun e => (by cases e)⟩, fun e => ⟨fun e => (by cases e), fun _ => ⟨rfl, ?_⟩⟩⟩)
    · refine WE.of (he i _ hi (Lo.set_same ..)) ⟨?_, rfl, ?_⟩
      · have := List.length_filter_le p (List.range i)
        rw [ints_length, List.length_map]
        rw [List.length_range] at this
        lia
      · rw [List.range_succ, List.filter_append]; simp [e, vints]
    · rw [List.range_succ, List.filter_append]; simp [e, vints]
  · rintro ρ1 H1 zs ⟨rfl, rfl⟩
    exact ⟨hOk _, hQ⟩
/-- two loops, the inner one over a walk of m turns -/
theorem comp_two {n m : Nat} {g : Nat → Nat → V} {w : Nat → V} {elt tgt it2 : Expr} {y : Str} {p2 : Pos} {Ok : Nat → AH → Prop} {Pd : Nat → AH → Dv → Prop} {Q : AH → List V → Prop} (F : Fx C A env) (hy : env.kindOf y = some .local) (hn : n * m ≤ 10000)
    (ht : ∀ i (ρ1 : Lo), i < n → Ok i H ∧ ∀ d, Pd i H d → Asg C A env tgt d ρ1 H (fun ρ2 H3 => H3 = H ∧
      (∀ K : AH → Nat → (Nat → AH → Prop) → (Nat → AH → Dv → Prop) → Prop, (∀ Ok2 Pd2, (∀ j, Ok2 j H) → (∀ j d2, j < m → Pd2 j H d2 → d2 = .one (w j)) → K H m Ok2 Pd2) → WIt C A env it2 (.Name y p2) ρ2 H K) ∧
      ∀ j (ρ4 : Lo), j < m → ρ4 y = some (w j) → (∀ x v, x ≠ y → ρ2 x = some v → ρ4 x = some v) → Ev C A env ρ4 H elt (g i j))) (hOk : Ok n H)
    (hQ : Q H ((List.range n).flatMap fun i => (List.range m).map (g i))) :
    LoopOk C A env elt tgt [] [⟨.Name y p2, it2, [], 0⟩] H n Ok Pd (fun _ => none) [] (fun _ H2 zs => Q H2 zs) := by
  have hs : 10000 < sizeLine := by decide
  have hlen : ∀ i, ((List.range i).flatMap fun i => (List.range m).map (g i)).length = i * m := fun i => by
    induction i with
    | zero => simp
    | succ i ih => rw [List.range_succ, List.flatMap_append, List.length_append, ih, Nat.succ_mul]; simp
  refine ⟨fun i ρ1 H1 zs => H1 = H ∧ zs = (List.range i).flatMap fun i => (List.range m).map (g i), ⟨rfl, rfl⟩, ?_, ?_⟩
  · rintro i ρ1 H1 zs hi ⟨rfl, rfl⟩
    obtain ⟨ok, t⟩ := ht i ρ1 hi
    refine ⟨ok, fun d hd => Asg.mono (t d hd) ?_⟩
    rintro ρ2 H3 ⟨rfl, v, e⟩
    refine ⟨fun _ => v _ fun Ok2 Pd2 hok hit => ?_, fun e => by cases e⟩
    have him : i * m + m ≤ n * m := by
      have := Nat.mul_le_mul_right m (Nat.succ_le_of_lt hi)
      rw [Nat.succ_mul] at this; exact this
    refine ⟨fun j ρ3 H4 us => H4 = H3 ∧ us = ((List.range i).flatMap fun i => (List.range m).map (g i)) ++ (List.range j).map (g i) ∧ (∀ x v, x ≠ y → ρ2 x = some v → ρ3 x = some v), ⟨rfl, by simp, fun _ _ _ e => e⟩, ?_, ?_⟩
    · rintro j ρ3 H4 us hj ⟨rfl, rfl, hr⟩
      refine ⟨hok j, fun d2 hd2 => ?_⟩
      rw [hit j d2 hj hd2]
      have hr4 : ∀ x v, x ≠ y → ρ2 x = some v → (ρ3.set y (w j)) x = some v := fun x v hx e => by rw [Lo.set_ne _ _ hx]; exact hr x v hx e
      refine Asg.local F hy ⟨fun _ => WE.of (e j _ hj (Lo.set_same ..) hr4) ⟨?_, rfl, ?_, hr4⟩, fun e => by cases e⟩
      · rw [List.length_append, hlen, List.length_map, List.length_range]; lia
      · rw [List.range_succ]; simp
    · rintro ρ3 H4 us ⟨rfl, rfl, hr⟩
      exact ⟨hok m, rfl, by rw [List.range_succ]; simp⟩
  · rintro ρ1 H1 zs ⟨rfl, rfl⟩
    exact ⟨hOk, hQ⟩
end
theorem Sm.nr {A A' : Around} (h : Nr A A') (hh : A.handled = none) (hd : A.depth < recursionLimit) (hu : A.units + 100 < cLine) : Sm A' := ⟨h.2.1.trans hh, by rw [h.1]; exact hd, by have := h.2.2.2; lia⟩

structure J12 (P : Params) (L TL : Addr) (tx lt : List Nat) (d : Nat) (ts : List TA) (H : AH) : Prop where
  cl : H (L + 1) = some (.cell (some (.str (S lt))))
  cd : H (L + 2) = some (.cell (some (.int d)))
  cp : ∃ v, H (L + 3) = some (.cell v)
  ct : H (L + 4) = some (.cell (some (.str (S tx))))
  tl : H TL = some (.list (trefs ts))
  hI : ∀ p ∈ ts, IsTl tx H p
  t : Tab H 43 ((env12 P L).qual ++ "<lambda>")
section
variable {P : Params} {L TL : Addr} {tx lt : List Nat} {d : Nat} {ts : List TA} {H : AH}
theorem J12.up {H' : AH} (h : J12 P L TL tx lt d ts H) (k : ∀ a o, H a = some o → (∀ es, o ≠ .tab es) → H' a = some o) (t : Tab H' 43 ((env12 P L).qual ++ "<lambda>")) : J12 P L TL tx lt d ts H' :=
  ⟨k _ _ h.cl (by simp), k _ _ h.cd (by simp), let ⟨v, e⟩ := h.cp; ⟨v, k _ _ e (by simp)⟩, k _ _ h.ct (by simp), k _ _ h.tl (by simp), fun p hp => k _ _ (h.hI p hp) (by simp), t⟩
theorem J12.grow {H' : AH} (h : J12 P L TL tx lt d ts H) (k : H.le H') : J12 P L TL tx lt d ts H' := h.up (fun a o e _ => k a o e) (h.t.le k)
theorem J12.nt {a : Addr} {o : O} (h : J12 P L TL tx lt d ts H) (e : H a = some o) (ho : ∀ es, o ≠ .tab es) : a ≠ 43 := fun q => by
  obtain ⟨es, e1, _⟩ := h.t
  rw [q, e1] at e
  exact ho es (Option.some.inj e).symm
theorem not_trefs {x : V} {k : Int} {ts : List TA} (hx : ∀ a, x ≠ .ref a) : ([x, .int k] : List V) ≠ trefs ts := fun e => by
  cases ts with
  | nil => cases e
  | cons p r => exact hx _ (List.cons.inj e).1
theorem J12.kept (h : J12 P L TL tx lt d ts H) {ts' : List TA} (hI : ∀ p ∈ ts', IsTl tx H p) : J12 P L TL tx lt d ts' (H.set TL (.list (trefs ts'))) := by
  have s : ∀ {a : Addr} {o : O}, H a = some o → (∀ vs, o ≠ .list vs) → (H.set TL (.list (trefs ts'))) a = some o := fun e hn => by rw [AH.set_ne _ _ (fun q => by rw [q, h.tl] at e; exact hn _ (Option.some.inj e).symm)]; exact e
  refine ⟨s h.cl (by simp), s h.cd (by simp), let ⟨v, e⟩ := h.cp; ⟨v, s e (by simp)⟩, s h.ct (by simp), AH.set_same .., fun p hp => ?_, let ⟨es, e1, e2⟩ := h.t; ⟨es, s e1 (by simp), fun e he => s (e2 e he) (by simp)⟩⟩
  have e := hI p hp
  show (H.set TL (.list (trefs ts'))) p.1 = _
  rw [AH.set_ne _ _ (fun q => by unfold IsTl at e; rw [q, h.tl] at e; exact not_trefs (by simp) (O.list.inj (Option.some.inj e)).symm)]; exact e
theorem J12.part (h : J12 P L TL tx lt d ts H) {v : Option V} : J12 P L TL tx lt d ts (H.set (L + 3) (.cell v)) := by
  obtain ⟨w, hc⟩ := h.cp
  have s : ∀ {a : Addr} {o : O}, H a = some o → (∀ w, o ≠ .cell w) → (H.set (L + 3) (.cell v)) a = some o := fun e hn => by rw [AH.set_ne _ _ (fun q => by rw [q, hc] at e; exact hn _ (Option.some.inj e).symm)]; exact e
  exact ⟨by rw [AH.set_ne _ _ (addr_ne L 1 3 rfl)]; exact h.cl, by rw [AH.set_ne _ _ (addr_ne L 2 3 rfl)]; exact h.cd, ⟨_, AH.set_same ..⟩, by rw [AH.set_ne _ _ (addr_ne L 4 3 rfl)]; exact h.ct, s h.tl (by simp), fun p hp => s (h.hI p hp) (by simp), let ⟨es, e1, e2⟩ := h.t; ⟨es, s e1 (by simp), fun e he => s (e2 e he) (by simp)⟩⟩
end
section
variable {C : Cx} {A : Around} {ρ : Lo} {H : AH} {P : Params} {L TL : Addr} {tx lt : List Nat} {d : Nat} {ts : List TA}
theorem srt_ts {m : Nat} (h : OrdT tx d (ts.map (·.2))) (hm : m ≤ d) : SrtS (fun p : TA => pre tx m p.2) ts := by
  have := h.srt hm
  unfold SrtS at this ⊢
  rwa [List.pairwise_map] at this
/-- the tails are put in -/
theorem tails_loop (hK : (hd.heap_39 P).In C.base) (G : Gl12 C) (F : Fx C A (env12 P L)) (hdep : A.depth + 20 < recursionLimit) (hu : A.units + 300 < cLine) (hbm : Bm C) (hC : CodeHd C.base 45 43) (hz : tx.length ≤ 17)
    (h : J12 P L TL tx lt d [] H) (rz : ρ "size" = some (.int tx.length)) (rt : ρ "tails" = some (.ref TL))
    {Q : Fl → Lo → AH → Prop} (hQ : ∀ ρ' H' ts, J12 P L TL tx lt d ts H' → OrdT tx d (ts.map (·.2)) → (ts.map (·.2)).Perm (List.range tx.length) → ρ' "size" = some (.int tx.length) → ρ' "tails" = some (.ref TL) → Q .next ρ' H') :
    W1 C A (env12 P L) (stAt (bodyOf (law12 P)) 5) ρ H Q := by
  have hsz : 1000 ≤ sizeLine := by decide
  refine W1.for (WIt.range1 F (Ev.glob F rfl G.range) (Ev.local F rfl rz) (by lia) (by lia) ?_)
  rw [Int.toNat_natCast]
  refine ⟨fun i ρ1 H1 => ∃ ts, J12 P L TL tx lt d ts H1 ∧ OrdT tx d (ts.map (·.2)) ∧ (ts.map (·.2)).Perm (List.range i) ∧ ρ1 "size" = some (.int tx.length) ∧ ρ1 "tails" = some (.ref TL), ⟨[], h, List.Pairwise.nil, by simp, rz, rt⟩, ?_, ?_⟩
  · rintro i ρ1 H1 hi ⟨ts, h1, ho, hp, rz1, rt1⟩
    refine ⟨trivial, ?_⟩
    rintro dd rfl
    refine Asg.local F rfl ?_
    have hl : ts.length = i := by have := hp.length_eq; simpa using this
    refine WS.cons (W1.expr F (WE.callB (fun _ => fn_in hK 32 rfl) (Ev.glob F rfl G.il) (WEs.cons (WE.of (Ev.local F rfl (by exact rt1)) (WEs.cons (WE.list rfl (by decide) (WEs.of (.cons (Ev.strFrom (Ev.cell F rfl rfl h1.ct) (Ev.local F rfl rfl) (by lia)) (.cons (Ev.local F rfl rfl) .nil)) fun I hI => WEs.nil (WKs.one (WE.lamT F hbm rfl hC (h1.grow (AH.le_set (AH.le_refl _) hI)).t fun H2 g c' ctv up tb hg hc' hgn nn => ?_)))))))))
    have leI : H1.le (H1.set I (.list [.str (S (tx.drop i)), .int i])) := AH.le_set (AH.le_refl _) hI
    have h2 := h1.grow leI
    have h3 : J12 P L TL tx lt d ts H2 := h2.up (fun a o e hn => up a o e (h2.nt e hn)) tb
    have hI3 : IsTl tx H2 (I, i) := up _ _ (AH.set_same ..) (h2.nt (AH.set_same ..) (by simp))
    refine il_sk (kf := fun p : TA => pre tx d p.2) (x := pre tx d i) hK G.len G.bl F.hh (by lia) (by lia) h3.tl (by lia) (srt_ts ho (Nat.le_refl d)) ⟨rfl, .inr ⟨hg, rfl⟩⟩ (fun A' hS p hp => key0 hS (by lia) hg hc' h3.cd (h3.hI p hp)) (fun A' hS => key0 (p := (I, i)) hS (by lia) hg hc' h3.cd hI3) ⟨(by intro a e; cases e), ?_⟩
    have hcnt : ts.countP (fun p => slt (pre tx d p.2) (pre tx d i)) = (ts.map (·.2)).countP (fun k => slt (pre tx d k) (pre tx d i)) := by rw [List.countP_map]; rfl
    obtain ⟨o1, o2⟩ := ho.ins hp
    rw [hcnt]
    generalize (ts.map (·.2)).countP (fun k => slt (pre tx d k) (pre tx d i)) = c at *
    have hins : ins (trefs ts) c (V.ref I) = trefs (ins ts c (I, i)) := by unfold trefs; rw [map_ins]
    rw [hins]
    refine WS.nil ⟨ins ts c (I, i), h3.kept fun q hq => ?_, by rw [map_ins]; exact o1, by rw [map_ins]; exact o2, rz1, rt1⟩
    rcases mem_ins hq with rfl | hq
    · exact hI3
    · exact h3.hI q hq
  · rintro ρ1 H1 ⟨ts, h1, ho, hp, rz1, rt1⟩
    exact ⟨trivial, hQ ρ1 H1 ts h1 ho hp rz1 rt1⟩
end
end Mine

set_option maxHeartbeats 4000000
namespace Mine
open PySem PySem.W PyProof.Rows

section
variable {C : Cx} {A : Around} {env : Env} {ρ : Lo} {H : AH}
/-- len([k for k in range(n) if c]) -/
theorem Ev.lenRange {n : Nat} {p : Nat → Bool} {x : Str} {e c : Expr} {q q' q2 q3 pos pos' pos2 : Pos} {id rid : Str} {scope : Scope} {cl : List (Str × Addr)} (F : Fx C A env) (hf : Ev C A env ρ H (.Name id q2) (.bi "len")) (hr : Ev C A env ρ H (.Name rid q3) (.ty "range")) (hclos : closureFor scope env = pure cl)
    (he : Ev C A env ρ H e (.int n)) (hn : n ≤ 1000) (hx : ∀ Cn, (compEnvC scope cl Cn env).kindOf x = some .local)
    (hc : ∀ Cn i (ρ : Lo), i < n → ρ x = some (.int (i : Nat)) → EvT C A (compEnvC scope cl Cn env) ρ H c (p i))
    (hcell : ∀ y ∈ scope.names, y.2 ≠ .cell := by decide) (hkind : scope.kind = .function := by rfl) (hnames : ∀ x ∈ scope.names, x.2 = .local → scope.names.lookup x.1 = some .local := by decide)
    (hd : (x == ("__debug__" : Str)) = false := by decide) (hns : noStar [e] = true := by rfl) (hfs : ∀ x, foldedSetIterable (.Call (.Name rid q3) [e] [] pos2) env x = pure x := by intro _; rfl) :
    Ev C A env ρ H (.Call (.Name id q2) [.ListComp (.Name x q) [⟨.Name x q', .Call (.Name rid q3) [e] [] pos2, [c], 0⟩] scope pos] [] pos') (.int ((List.range n).countP p : Nat)) := by
  have hsz : 1000 ≤ sizeLine := by decide
  refine WE.ev (WE.drop (WE.callBi hf (WEs.cons (WE.listComp hclos (WIt.range1 F hr he (by lia) (by lia) (fun Cn hCn => ?_) hns) hcell hkind hnames hfs)) rfl))
  rw [Int.toNat_natCast]
  refine comp_rangeG (p := p) (F.comp hkind) (hx Cn) (by lia) (fun _ => trivial) (fun i d hd => hd) (fun i ρ _ hv => Ev.local (F.comp hkind) (hx Cn) hv hd) (hc Cn) fun D hD => ?_
  refine WEs.nil (WKs.nil (WCall.len (AH.set_same ..) rfl ⟨H, AH.le_set (AH.le_refl _) hD, ?_, rfl⟩))
  rw [ints_length, List.length_map, List.countP_eq_length_filter]
end
noncomputable def Up (H H' : AH) : Prop := ∀ a o, H a = some o → (∀ es, o ≠ .tab es) → H' a = some o
theorem Up.trans {H H' H'' : AH} (x : Up H H') (y : Up H' H'') : Up H H'' := fun a o e n => y a o (x a o e n) n
theorem Up.of_le {H H' : AH} (x : H.le H') : Up H H' := fun a o e _ => x a o e
section
variable {C : Cx} {A : Around} {ρ : Lo} {H : AH} {P : Params} {L TL : Addr} {tx lt : List Nat} {d : Nat} {ts : List TA}
theorem J12.lamUp {H' : AH} (h : J12 P L TL tx lt d ts H) (up : ∀ a o, H a = some o → a ≠ 43 → H' a = some o) : Up H H' := fun a o e n => up a o e (h.nt e n)
theorem part_body (hK : (hd.heap_39 P).In C.base) (G : Gl12 C) (F : Fx C A (env12 P L)) (hdep : A.depth + 20 < recursionLimit) (hu : A.units + 300 < cLine) (hbm : Bm C) (hC : CodeHd C.base 45 43) (hz : tx.length ≤ 17) {pt : List Nat} (hd8 : d ≤ 8) (hpl : pt.length ≤ d)
    (h : J12 P L TL tx lt d ts H) (hpt : H (L + 3) = some (.cell (some (.str (S pt))))) (ho : OrdT tx d (ts.map (·.2))) (hp : (ts.map (·.2)).Perm (List.range tx.length)) {BG : Addr} (hb : H BG = some (.list (vstrs (ts.map fun p => pre tx d p.2))))
    (rz : ρ "size" = some (.int tx.length)) (rt : ρ "tails" = some (.ref TL)) (rb : ρ "begins" = some (.ref BG))
    {Q : Fl → Lo → AH → Prop} (hQ : ∀ ρ' H', Up H H' → Tab H' 43 ((env12 P L).qual ++ "<lambda>") → ρ' "size" = some (.int tx.length) → ρ' "tails" = some (.ref TL) → ρ' "begins" = some (.ref BG) → Q .next ρ' H') :
    WS C A (env12 P L) (xb12 P) ρ H Q := by
  have hsz : 1000 ≤ sizeLine := by decide
  have hsrt := srt_ts (m := pt.length) ho hpl
  have hbs : SrtS (fun l => l) (ts.map fun p => pre tx d p.2) := by
    have := srt_ts (m := d) ho (Nat.le_refl d)
    unfold SrtS at this ⊢
    rwa [List.pairwise_map]
  have hcnt : ∀ (f : Nat → Bool), ts.countP (fun p => f p.2) = (List.range tx.length).countP f := fun f => by
    rw [← hp.countP_eq, List.countP_map]; rfl
  -- less, often, same
  refine WS.seq (W1.asgLocal F rfl (WE.of (Ev.lenRange (n := tx.length) (p := fun k => slt (pre tx d k) pt) (cl := [("text", L + 4), ("part", L + 3), ("deep", L + 2)]) F (Ev.glob F rfl G.len) (Ev.glob F rfl G.range) rfl (Ev.local F rfl rz) (by lia) (fun _ => rfl) (fun Cn i ρ1 hi hk => ?_)) ⟨rfl, ?_⟩))
  · exact EvT.ltOk (Ev.strPart (Ev.cell (F.comp rfl) rfl rfl h.ct) (Ev.local (F.comp rfl) rfl hk) (Ev.add (Ev.local (F.comp rfl) rfl hk) (Ev.cell (F.comp rfl) rfl rfl h.cd)) (by lia)) (Ev.cell (F.comp rfl) rfl rfl hpt) LtOk.str
  refine WS.seq (W1.asgLocal F rfl (WE.of (Ev.lenRange (n := tx.length) (p := fun k => decide (pre tx pt.length k = pt)) (cl := [("text", L + 4), ("part", L + 3)]) F (Ev.glob F rfl G.len) (Ev.glob F rfl G.range) rfl (Ev.local F rfl (by exact rz)) (by lia) (fun _ => rfl) (fun Cn i ρ1 hi hk => ?_)) ⟨rfl, ?_⟩))
  · exact EvT.strEq (Ev.strPart (Ev.cell (F.comp rfl) rfl rfl h.ct) (Ev.local (F.comp rfl) rfl hk) (Ev.add (Ev.local (F.comp rfl) rfl hk) (Ev.lenS (Ev.glob (F.comp rfl) rfl G.len) (Ev.cell (F.comp rfl) rfl rfl hpt) (by lia))) (by lia)) (Ev.cell (F.comp rfl) rfl rfl hpt)
  refine WS.seq (W1.asgLocal F rfl (WE.of (Ev.lenRange (n := tx.length) (p := fun k => decide (pre tx d k = pt)) (cl := [("text", L + 4), ("part", L + 3), ("deep", L + 2)]) F (Ev.glob F rfl G.len) (Ev.glob F rfl G.range) rfl (Ev.local F rfl (by exact rz)) (by lia) (fun _ => rfl) (fun Cn i ρ1 hi hk => ?_)) ⟨rfl, ?_⟩))
  · exact EvT.strEq (Ev.strPart (Ev.cell (F.comp rfl) rfl rfl h.ct) (Ev.local (F.comp rfl) rfl hk) (Ev.add (Ev.local (F.comp rfl) rfl hk) (Ev.cell (F.comp rfl) rfl rfl h.cd)) (by lia)) (Ev.cell (F.comp rfl) rfl rfl hpt)
  generalize hless : (List.range tx.length).countP (fun k => slt (pre tx d k) pt) = less at *
  generalize hoften : (List.range tx.length).countP (fun k => decide (pre tx pt.length k = pt)) = often at *
  generalize hsame : (List.range tx.length).countP (fun k => decide (pre tx d k = pt)) = same at *
  -- begin
  refine WS.seq (W1.asgLocal F rfl (WE.callB (fun _ => fn_in hK 41 rfl) (Ev.glob F rfl G.bl) (WEs.of (.cons (Ev.local F rfl (by exact rt)) (.cons (Ev.cell F rfl rfl hpt) .nil)) (WKs.one (WE.lamT F hbm rfl hC h.t fun H1 g c' ctv up tb hg hc' hgn nn => ?_)))))
  have u1 := h.lamUp up
  have h1 := h.up u1 tb
  have hpt1 := u1 _ _ hpt (by simp)
  refine WCall.mono (bl_sk (kf := fun p : TA => pre tx pt.length p.2) (x := pt) hK G.len F.hh (by lia) (by lia) h1.tl hsrt ⟨rfl, .inr ⟨hg, rfl⟩⟩ (fun A' hS p hp => key2 G.len hS (by lia) (by lia) hg hc' hpt1 (h1.hI p hp))) ?_
  rintro v H2 ⟨rfl, rfl⟩
  refine ⟨rfl, ?_⟩
  -- end
  refine WS.seq (W1.asgLocal F rfl (WE.callB (fun _ => fn_in hK 23 rfl) (Ev.glob F rfl G.br) (WEs.of (.cons (Ev.local F rfl (by exact rt)) (.cons (Ev.cell F rfl rfl hpt1) .nil)) (WKs.one (WE.lamT F hbm rfl hC h1.t fun H3 g2 c2 ctv2 up2 tb2 hg2 hc2 hgn2 nn2 => ?_)))))
  have u2 := h1.lamUp up2
  have h2 := h1.up u2 tb2
  have hpt2 := u2 _ _ hpt1 (by simp)
  refine WCall.mono (br_sk (kf := fun p : TA => pre tx pt.length p.2) (x := pt) hK G.len F.hh (by lia) (by lia) h2.tl hsrt ⟨rfl, .inr ⟨hg2, rfl⟩⟩ (fun A' hS p hp => key3 G.len hS (by lia) (by lia) hg2 hc2 hpt2 (h2.hI p hp))) ?_
  rintro v H4 ⟨rfl, rfl⟩
  refine ⟨rfl, ?_⟩
  have hbegin : ts.countP (fun p => slt (pre tx pt.length p.2) pt) = less := by
    rw [← hless, hcnt (fun k => slt (pre tx pt.length k) pt)]
    congr 1; funext k; exact less_cut hpl k
  have hend : ts.countP (fun p => !slt pt (pre tx pt.length p.2)) = less + often := by
    rw [le_split (kf := fun p : TA => pre tx pt.length p.2), hbegin, ← hoften, hcnt (fun k => decide (pre tx pt.length k = pt))]
  rw [hbegin, hend]
  -- the first test
  refine WS.cons (W1.if (WT.neD (by lia) (WE.list rfl (by decide) (WEs.of (.cons (Ev.local F rfl rfl) (.cons (Ev.local F rfl rfl) .nil)) fun l1 hl1 => WE.list rfl (by decide) (WEs.of (.cons (Ev.local F rfl rfl) (.cons (Ev.add (Ev.local F rfl rfl) (Ev.local F rfl rfl)) .nil)) fun l2 hl2 => ⟨dints [less, (less + often : Nat)], dints [less, (less : Int) + often], Rd_ints (AH.get_of_set (AH.set_same ..) hl2) rfl, Rd_ints (AH.set_same ..) rfl, shaped_ints _, shaped_ints _, fun e => ?_, fun e => ?_⟩)))))
  · rw [eqv_ints] at e; simp at e
  refine WS.nil ?_
  have le1 := AH.le_set (o := .list [.int less, .int (less + often : Nat)]) (AH.le_refl H4) hl1
  have le2 := AH.le_set (o := .list [.int less, .int ((less : Int) + often)]) (AH.le_refl (H4.set l1 (.list [.int less, .int (less + often : Nat)]))) hl2
  have le3 := AH.le_trans le1 le2
  generalize (H4.set l1 (.list [.int less, .int (less + often : Nat)])).set l2 (.list [.int less, .int ((less : Int) + often)]) = H5 at *
  have h3 := h2.grow le3
  have hpt3 := le3 _ _ hpt2
  have hb3 := le3 _ _ (u2 _ _ (u1 _ _ hb (by simp)) (by simp))
  have u5 : Up H H5 := u1.trans (u2.trans (Up.of_le le3))
  have hb1 : (ts.map fun p => pre tx d p.2).countP (fun p => slt p pt) = less := by
    rw [← hless, ← hcnt, List.countP_map]; rfl
  have hb2 : (ts.map fun p => pre tx d p.2).countP (fun p => !slt pt p) = less + same := by
    rw [le_split (kf := fun l : List Nat => l), hb1, ← hsame, ← hcnt, List.countP_map]; rfl
  -- the second test
  refine WS.cons (W1.if (WT.neD (by lia) (WE.list rfl (by decide) (WEs.cons (WE.callB (fun _ => fn_in hK 41 rfl) (Ev.glob F rfl G.bl) (WEs.of (.cons (Ev.local F rfl (by exact rb)) (.cons (Ev.cell F rfl rfl hpt3) .nil)) (WKs.nil (WCall.mono (bl_s0 hK G.len F.hh (by lia) hb3 hbs) ?_))))))))
  rintro v H6 ⟨rfl, rfl⟩
  rw [hb1]
  refine WEs.cons (WE.callB (fun _ => fn_in hK 23 rfl) (Ev.glob F rfl G.br) (WEs.of (.cons (Ev.local F rfl (by exact rb)) (.cons (Ev.cell F rfl rfl hpt3) .nil)) (WKs.nil (WCall.mono (br_s0 hK G.len F.hh (by lia) hb3 hbs) ?_))))
  rintro v H7 ⟨rfl, rfl⟩
  rw [hb2]
  refine WEs.nil fun l3 hl3 => WE.list rfl (by decide) (WEs.of (.cons (Ev.local F rfl rfl) (.cons (Ev.add (Ev.local F rfl rfl) (Ev.local F rfl rfl)) .nil)) fun l4 hl4 => ⟨dints [less, (less + same : Nat)], dints [less, (less : Int) + same], Rd_ints (AH.get_of_set (AH.set_same ..) hl4) rfl, Rd_ints (AH.set_same ..) rfl, shaped_ints _, shaped_ints _, fun e => ?_, fun e => ?_⟩)
  · rw [eqv_ints] at e; simp at e
  have le4 := AH.le_trans (AH.le_set (o := .list [.int less, .int (less + same : Nat)]) (AH.le_refl H7) hl3) (AH.le_set (o := .list [.int less, .int ((less : Int) + same)]) (AH.le_refl _) hl4)
  exact WS.nil (WS.nil (hQ _ _ (u5.trans (Up.of_le le4)) (h3.t.le le4) rz rt rb))
end
end Mine

set_option maxHeartbeats 4000000
namespace Mine
open PySem PySem.W PyProof.Rows

theorem Coll.mono {C : Cx} {A : Around} {H : AH} {x : V} {R R' : List V → Prop} (h : Coll C A H x R) (k : ∀ us, R us → R' us) : Coll C A H x R' :=
  fun L ρ v s E Q ev hs hq => h L ρ v s E Q ev hs fun us s' r => hq us s' (k _ r)
theorem vstrs_of_all : ∀ {us : List V}, (∀ u ∈ us, ∃ k, u = V.str (S k)) → ∃ ns, us = vstrs ns
  | [], _ => ⟨[], rfl⟩
  | u :: us, h => by
    obtain ⟨k, rfl⟩ := h u (List.mem_cons_self ..)
    obtain ⟨ns, rfl⟩ := vstrs_of_all (us := us) fun v hv => h v (List.mem_cons_of_mem _ hv)
    exact ⟨k :: ns, rfl⟩
noncomputable def kf12 (tx : List Nat) (d : Nat) : V → List Nat × Int
  | .int k => (pre tx d k.toNat, -(k.toNat : Int))
  | _ => ([], 0)
theorem trefs_at {ts : List TA} {i : Nat} {u : V} (h : (trefs ts)[i]? = some u) : ∃ p, ts[i]? = some p ∧ u = .ref p.1 := at_map h
/-- what the sorting by beginning and place gives is the order of the tails -/
theorem sorted_ord {tx : List Nat} {d n : Nat} {p : Array Nat} (hp : In n p) (hsp : SP (lx (plt (((List.range n).map fun (i : Nat) => V.int ((0 : Int) + i)).map (kf12 tx d)))) p n) : OrdT tx d p.toList := by
  unfold OrdT
  rw [List.pairwise_iff_getElem]
  intro i j hi hj hij
  have hsz : p.toList.length = n := by rw [Array.length_toList, hp.size]
  rw [hsz] at hi hj
  have h1 := lx_false.mp (hsp i j (by lia) hj)
  have g : ∀ k (hk : k < n), gP p k = p.toList[k]'(by lia) := fun k hk => by simp [gP, Array.getD, hp.size, hk]
  have kz : ∀ k, k < n → (((List.range n).map fun (i : Nat) => V.int ((0 : Int) + i)).map (kf12 tx d)).getD k ([], 0) = (pre tx d k, -(k : Int)) := fun k hk => by
    rw [List.getD_eq_getElem?_getD, List.getElem?_map, List.getElem?_map, List.getElem?_range hk]
    show kf12 tx d (V.int ((0 : Int) + k)) = _
    simp [kf12]
  have bi := hp.bd hi
  have bj := hp.bd hj
  have hne : gP p i ≠ gP p j := fun e => by have := hp.inj hi hj e; lia
  unfold plt at h1
  rw [kz _ bi, kz _ bj] at h1
  rw [← g i hi, ← g j hj]
  have h2 := h1.1
  unfold plt1 at h2
  simp only [Bool.or_eq_false_iff, Bool.and_eq_false_iff, decide_eq_false_iff_not] at h2
  refine ⟨h2.1, fun e => ?_⟩
  rcases h2.2 with q | q
  · exact absurd e.symm q
  · omega
section
variable {C : Cx} {A : Around} {ρ : Lo} {H : AH} {P : Params} {L TL : Addr} {tx lt : List Nat} {d : Nat} {ts : List TA}
theorem law_rest (hK : (hd.heap_39 P).In C.base) (G : Gl12 C) (F : Fx C A (env12 P L)) (hdep : A.depth + 20 < recursionLimit) (hu : A.units + 300 < cLine) (hbm : Bm C) (hC : CodeHd C.base 45 43) (hz : tx.length ≤ 17) (hd8 : d ≤ 8) (hlt : lt.length ≤ 4)
    (h : J12 P L TL tx lt d ts H) (ho : OrdT tx d (ts.map (·.2))) (hp : (ts.map (·.2)).Perm (List.range tx.length)) (rz : ρ "size" = some (.int tx.length)) (rt : ρ "tails" = some (.ref TL)) :
    WS C A (env12 P L) ((bodyOf (law12 P)).drop 6) ρ H (fun f _ H' => retv f = .bool true ∧ (∃ es, H' 43 = some (.tab es))) := by
  have hsz : 10000 ≤ sizeLine := by decide
  have hl : ts.length = tx.length := by have := hp.length_eq; simpa using this
  -- the order
  refine WS.cons (W1.if (WT.neD (by lia) (WE.listComp (cl := []) rfl (WIt.list F (WE.of (Ev.local F rfl rt) ⟨TL, _, _, rfl, h.tl, rfl, fun Cn hCn => ?_⟩)))))
  refine comp_vals (g := fun i => V.int ((ts.map (·.2)).getD i 0 : Nat)) (by rw [trefs_len]; lia) (fun i ρ1 hi => ⟨h.tl, ?_⟩) h.tl ?_
  · rintro dd ⟨u, hu1, rfl⟩
    obtain ⟨p, hp1, rfl⟩ := trefs_at hu1
    refine Asg.unpackL (F.comp rfl) rfl (h.hI p (List.mem_of_getElem? hp1)) rfl rfl (Asg.local (F.comp rfl) rfl (Asg.local (F.comp rfl) rfl ⟨rfl, ?_⟩))
    have : (ts.map (·.2)).getD i 0 = p.2 := by rw [List.getD_eq_getElem?_getD, List.getElem?_map, hp1]; rfl
    rw [this]
    exact Ev.local (F.comp rfl) rfl rfl
  intro l1 hl1
  have hcs : ((List.range (trefs ts).length).map fun i => V.int ((ts.map (·.2)).getD i 0 : Nat)) = vints ((ts.map (·.2)).map fun (k : Nat) => (k : Int)) := by
    rw [trefs_len]
    apply List.ext_getElem?
    intro i
    by_cases hi : i < ts.length
    · simp [vints, hi]
    · rw [List.getElem?_eq_none (by simp; (clear hl1 hCn hl hsz rt rz hp ho h hlt hd8 hz hC hbm hu hdep F G hK; lia)), List.getElem?_eq_none (by simp [vints]; (clear hl1 hCn hl hsz rt rz hp ho h hlt hd8 hz hC hbm hu hdep F G hK; lia))]
  rw [hcs]
  have le1 := AH.le_set (o := .list (vints ((ts.map (·.2)).map fun (k : Nat) => (k : Int)))) (AH.le_refl H) hl1
  have e1 : (H.set l1 (.list (vints ((ts.map (·.2)).map fun (k : Nat) => (k : Int))))) l1 = some (.list (vints ((ts.map (·.2)).map fun (k : Nat) => (k : Int)))) := AH.set_same ..
  have h1 := h.grow le1
  have u1 := Up.of_le le1
  generalize H.set l1 (.list (vints ((ts.map (·.2)).map fun (k : Nat) => (k : Int)))) = H1 at *
  refine WE.callBi (Ev.glob F rfl G.sorted) (WEs.cons (WE.rangeObj (Ev.glob F rfl G.range) (Ev.local F rfl rz) (by lia) (by lia) fun r c hr hf => WEs.nil (WKs.one (WE.lamT F hbm rfl hC (h1.grow (AH.le_set (AH.le_refl _) hr)).t fun H2 g c' ctv up tb hg hc' hgn nn => ?_))))
  rw [Int.toNat_natCast] at hf
  have le2 := AH.le_set (o := .raw c) (AH.le_refl H1) hr
  have h2 := h1.grow le2
  have u2 := h2.lamUp up
  have h3 := h2.up u2 tb
  have er : H2 r = some (.raw c) := u2 _ _ (AH.set_same ..) (by simp)
  have e2 : H2 l1 = some (.list (vints ((ts.map (·.2)).map fun (k : Nat) => (k : Int)))) := u2 _ _ (le2 _ _ e1) (by simp)
  have u3 : Up H H2 := u1.trans ((Up.of_le le2).trans u2)
  refine WCall.sortedKeyP (R := fun us => us = (List.range tx.length).map fun (i : Nat) => V.int ((0 : Int) + i)) (kf := kf12 tx d) (fun A' hA' => Coll.range (hA'.2.1.trans F.hh) er hf (by lia)) (fun us hus => by rw [hus]; simp; lia) (fun A' hA' us hus v hv => ?_) fun us D p hus hD hpi hsp => ?_
  · subst hus
    obtain ⟨k, hk, rfl⟩ := List.mem_map.mp hv
    have e : (0 : Int) + (k : Int) = (k : Int) := by lia
    rw [e]
    show WCall C A' (.ref g) [.int (k : Nat)] [] H2 _
    exact key1 (k := k) (Sm.nr hA' F.hh (by lia) (by lia)) (by lia) hg hc' h3.cd h3.ct
  have hun : us.length = tx.length := by rw [hus]; simp
  rw [hun] at hpi hsp
  subst hus
  have hpk : (p.toList.map fun i => ((List.range tx.length).map fun (i : Nat) => V.int ((0 : Int) + i)).getD i V.none) = vints (p.toList.map fun (k : Nat) => (k : Int)) := by
    unfold vints
    rw [List.map_map]
    apply List.map_congr_left
    intro i hi
    have hi' : i < tx.length := by simpa using hpi.perm.mem_iff.mp hi
    rw [List.getD_eq_getElem?_getD, List.getElem?_map, List.getElem?_range hi']
    show V.int ((0 : Int) + i) = V.int i
    congr 1; lia
  rw [hpk]
  have hpl : p.toList = ts.map (·.2) := ordT_eq (hpi.perm.trans hp.symm) (sorted_ord hpi hsp) ho
  rw [hpl]
  refine ⟨dints ((ts.map (·.2)).map fun (k : Nat) => (k : Int)), dints ((ts.map (·.2)).map fun (k : Nat) => (k : Int)), Rd_ints (AH.get_of_set e2 hD) rfl, Rd_ints (AH.set_same ..) rfl, shaped_ints _, shaped_ints _, fun e => ?_, fun e => ?_⟩
  · rw [eqv_ints] at e; simp at e
  refine WS.nil ?_
  have le4 := AH.le_set (o := .list (vints ((ts.map (·.2)).map fun (k : Nat) => (k : Int)))) (AH.le_refl H2) hD
  have h4 := h3.grow le4
  generalize H2.set D (.list (vints ((ts.map (·.2)).map fun (k : Nat) => (k : Int)))) = H4 at *
  clear hpl hpk hsp hpi le2 le1 u1 u2 u3 e1 e2 er hf hcs hl1 hr hg hc' hgn nn up tb h1 h2 h3
  -- begins
  refine WS.seq (W1.asgComp F rfl (cl := [("deep", L + 2)]) rfl (WIt.list F (WE.of (Ev.local F rfl (by exact rt)) ⟨TL, _, _, rfl, h4.tl, rfl, fun Cn hCn => ?_⟩)) rfl)
  refine comp_vals (g := fun i => V.str (S (pre tx d ((ts.map (·.2)).getD i 0)))) (by rw [trefs_len]; lia) (fun i ρ1 hi => ⟨h4.tl, ?_⟩) h4.tl ?_
  · rintro dd ⟨u, hu1, rfl⟩
    obtain ⟨p, hp1, rfl⟩ := trefs_at hu1
    refine Asg.unpackL (F.comp rfl) rfl (h4.hI p (List.mem_of_getElem? hp1)) rfl rfl (Asg.local (F.comp rfl) rfl (Asg.local (F.comp rfl) rfl ⟨rfl, ?_⟩))
    have : (ts.map (·.2)).getD i 0 = p.2 := by rw [List.getD_eq_getElem?_getD, List.getElem?_map, hp1]; rfl
    rw [this]
    exact Ev.strTo (Ev.local (F.comp rfl) rfl rfl) (Ev.cell (F.comp rfl) rfl rfl h4.cd) (by rw [List.length_drop]; omega)
  intro BG hBG
  refine ⟨rfl, ?_⟩
  have hbs : ((List.range (trefs ts).length).map fun i => V.str (S (pre tx d ((ts.map (·.2)).getD i 0)))) = vstrs (ts.map fun p => pre tx d p.2) := by
    rw [trefs_len]
    apply List.ext_getElem?
    intro i
    by_cases hi : i < ts.length
    · simp [vstrs, hi]
    · rw [List.getElem?_eq_none (by simp; omega), List.getElem?_eq_none (by simp [vstrs]; omega)]
  rw [hbs]
  have le5 := AH.le_set (o := .list (vstrs (ts.map fun p => pre tx d p.2))) (AH.le_refl H4) hBG
  have eB : (H4.set BG (.list (vstrs (ts.map fun p => pre tx d p.2)))) BG = some (.list (vstrs (ts.map fun p => pre tx d p.2))) := AH.set_same ..
  have h5 := h4.grow le5
  generalize H4.set BG (.list (vstrs (ts.map fun p => pre tx d p.2))) = H5 at *
  clear le5 hBG hbs h4 le4
  -- parts
  refine WS.seq (W1.asgLocal F rfl (WE.callBi (Ev.glob F rfl G.sorted) (WEs.cons (WE.callTy (Ev.glob F rfl G.set) (WEs.cons (WE.listComp (cl := [("text", L + 4), ("deep", L + 2)]) rfl (WIt.range1 F (Ev.glob F rfl G.range) (Ev.local F rfl (by exact rz)) (by lia) (by lia) fun Cn hCn => ?_) (hgs := fun g hg => by rw [List.mem_singleton.mp hg]; exact ⟨rfl, fun _ _ => rfl⟩)))))))
  rw [Int.toNat_natCast]
  refine comp_two (m := d) (w := fun j => V.int (j : Nat)) (g := fun k j => V.str (S ((tx.drop k).take j))) (F.comp rfl) rfl (by have := Nat.mul_le_mul hz hd8; lia) (fun i ρ1 hi => ⟨trivial, ?_⟩) trivial ?_
  · rintro dd rfl
    refine Asg.local (F.comp rfl) rfl ⟨rfl, fun K hK' => ?_, fun j ρ4 hj hj1 hr => ?_⟩
    · refine WIt.range1 (F.comp rfl) (Ev.glob (F.comp rfl) rfl G.range) (Ev.cell (F.comp rfl) rfl rfl h5.cd) (by lia) (by lia) ?_
      rw [Int.toNat_natCast]
      exact hK' _ _ (fun _ => trivial) (fun j d2 _ e => e)
    · have hki := hr "k" (.int i) (by decide) (Lo.set_same ..)
      exact Ev.strPart (Ev.cell (F.comp rfl) rfl rfl h5.ct) (Ev.local (F.comp rfl) rfl hki) (Ev.add (Ev.local (F.comp rfl) rfl hki) (Ev.local (F.comp rfl) rfl hj1)) (by lia)
  intro l2 hl2
  generalize hall : ((List.range tx.length).flatMap fun k => (List.range d).map fun j => (tx.drop k).take j) = all
  have hallV : ((List.range tx.length).flatMap fun k => (List.range d).map fun j => V.str (S ((tx.drop k).take j))) = vstrs all := by
    rw [← hall]; unfold vstrs
    rw [List.map_flatMap]
    congr 1; funext k; rw [List.map_map]; rfl
  have hallm : ∀ y ∈ all, y ∈ cands tx ∧ y.length < d := fun y hy => by
    rw [← hall] at hy
    obtain ⟨k, hk, hy⟩ := List.mem_flatMap.mp hy
    obtain ⟨j, hj, rfl⟩ := List.mem_map.mp hy
    have hk' : k < tx.length := by simpa using hk
    have hj' : j < d := by simpa using hj
    exact ⟨mem_cands (by lia) (by lia), by rw [List.length_take]; lia⟩
  have halll : all.length ≤ 1000 := by
    have : all.length = tx.length * d := by
      rw [← hall, List.length_flatMap]
      simp only [List.length_map, List.length_range]
      rw [List.map_const', List.sum_replicate_nat, List.length_range]
    have h2 := Nat.mul_le_mul hz hd8
    lia
  rw [hallV]
  have le6 := AH.le_set (o := .list (vstrs all)) (AH.le_refl H5) hl2
  have e6 : (H5.set l2 (.list (vstrs all))) l2 = some (.list (vstrs all)) := AH.set_same ..
  have h6 := h5.grow le6
  have eB6 := le6 _ _ eB
  generalize H5.set l2 (.list (vstrs all)) = H6 at *
  refine WEs.nil (WCall.set (knd := strKind C.prog C.w) (vk := V.str) F.hh strKind_ab (fun k v e => by obtain ⟨t, rfl⟩ := ab_str e; rfl) e6 rfl (fun v hv => by obtain ⟨z, _, rfl⟩ := List.mem_map.mp hv; exact ⟨_, rfl⟩) (by rw [vstrs_length]; lia) fun sa c hsa hf => WEs.nil (WKs.nil ?_))
  have le7 : H6.le (H6.set sa (.raw c)) := AH.le_set (AH.le_refl _) hsa
  have esa : (H6.set sa (.raw c)) sa = some (.raw c) := AH.set_same ..
  have h7 := h6.grow le7
  have eB7 := le7 _ _ eB6
  generalize H6.set sa (.raw c) = H7 at *
  refine WCall.sortedStrsC (R := fun ns => ns.Nodup ∧ ∀ y ∈ ns, y ∈ all) (fun A' hA' => (Coll.set (hA'.2.1.trans F.hh) esa hf).mono fun us hus => ?_) (fun ns hns => ?_) fun ns PL ns' hR hPL hlen hmem => ⟨rfl, ?_⟩
  · obtain ⟨n1, n2, n3⟩ := hus
    obtain ⟨ns, rfl⟩ := vstrs_of_all (us := us) fun u hu' => by
      obtain ⟨z, _, rfl⟩ := List.mem_map.mp ((n3 u).mp hu')
      exact ⟨z, rfl⟩
    refine ⟨ns, rfl, ?_, fun y hy => ?_⟩
    · have : (vstrs ns).Pairwise (· ≠ ·) := n1
      unfold vstrs at this
      rw [List.pairwise_map] at this
      exact List.Pairwise.imp (fun {a b} hab e => hab (by rw [e])) this
    · obtain ⟨z, hz', e⟩ := List.mem_map.mp ((n3 (.str (S y))).mp (List.mem_map.mpr ⟨y, hy, rfl⟩))
      have : z = y := S_inj (V.str.inj e)
      rw [← this]; exact hz'
  · have := len_sub (b := cands tx) hns.1 fun y hy => (hallm y (hns.2 y hy)).1
    rw [cands_len] at this; lia
  have hns' : ∀ y ∈ ns', y ∈ all := fun y hy => hR.2 y (hmem y hy)
  have hnl : ns'.length ≤ 120 := by
    have := len_sub (b := cands tx) hR.1 fun y hy => (hallm y (hR.2 y hy)).1
    rw [cands_len] at this; lia
  have le8 := AH.le_set (o := .list (vstrs ns')) (AH.le_refl H7) hPL
  have e8 : (H7.set PL (.list (vstrs ns'))) PL = some (.list (vstrs ns')) := AH.set_same ..
  have h8 := h7.grow le8
  have eB8 := le8 _ _ eB7
  generalize H7.set PL (.list (vstrs ns')) = H8 at *
  clear hR hmem hlen hallV le7 le6 esa hf hsa h6 h7 e6 eB eB6 eB7 h5 hl2 hPL
  -- the longer parts
  refine WS.cons (W1.for (WIt.list F (WE.listComp (cl := [("letters", L + 1)]) rfl (WIt.list F (WE.of (Ev.local F rfl rfl) ⟨PL, _, _, rfl, e8, rfl, fun Cn hCn => ?_⟩)) (hgs := fun g hg => by rw [List.mem_singleton.mp hg]; exact ⟨rfl, fun _ _ => rfl⟩))))
  refine comp_two (m := (lt ++ [65]).length) (w := fun j => V.str (S [(lt ++ [65]).getD j 0])) (g := fun i j => V.str (S (ns'.getD i [] ++ [(lt ++ [65]).getD j 0]))) (F.comp rfl) rfl (by
    rw [vstrs_length, List.length_append, List.length_singleton]
    have := Nat.mul_le_mul hnl (show lt.length + 1 ≤ 5 by lia); lia) (fun i ρ1 hi => ⟨e8, ?_⟩) e8 ?_
  · rintro dd ⟨u, hu1, rfl⟩
    obtain ⟨p, hp1, rfl⟩ := vstrs_at hu1
    have hpi : ns'.getD i [] = p := by rw [List.getD_eq_getElem?_getD, hp1]; rfl
    have hpd := (hallm p (hns' p (List.mem_of_getElem? hp1))).2
    rw [hpi]
    refine Asg.local (F.comp rfl) rfl ⟨rfl, fun K hK' => ?_, fun j ρ4 hj hj1 hr => ?_⟩
    · refine WIt.str (l := lt ++ [65]) (F.comp rfl) (Ev.strAdd (Ev.cell (F.comp rfl) rfl rfl h8.cl) Ev.str (by simp; lia)) ?_
      refine hK' _ _ (fun _ => trivial) (fun j d2 _ e => ?_)
      obtain ⟨c, hc, rfl⟩ := e
      rw [List.getD_eq_getElem?_getD, hc]; rfl
    · exact Ev.strAdd (Ev.local (F.comp rfl) rfl (hr "one" _ (by decide) (Lo.set_same ..))) (Ev.local (F.comp rfl) rfl hj1) (by simp; lia)
  intro WL hWL
  generalize hlp : ((List.range (vstrs ns').length).flatMap fun i => (List.range (lt ++ [65]).length).map fun j => ns'.getD i [] ++ [(lt ++ [65]).getD j 0]) = lp
  have hlpV : ((List.range (vstrs ns').length).flatMap fun i => (List.range (lt ++ [65]).length).map fun j => V.str (S (ns'.getD i [] ++ [(lt ++ [65]).getD j 0]))) = vstrs lp := by
    rw [← hlp]; unfold vstrs
    rw [List.map_flatMap]
    congr 1; funext k; rw [List.map_map]; rfl
  have hlpm : ∀ y ∈ lp, y.length ≤ d := fun y hy => by
    rw [← hlp] at hy
    obtain ⟨k, hk, hy⟩ := List.mem_flatMap.mp hy
    obtain ⟨j, hj, rfl⟩ := List.mem_map.mp hy
    have hk' : k < ns'.length := by simpa [vstrs_length] using hk
    have hkm : ns'.getD k [] ∈ ns' := by rw [List.getD_eq_getElem?_getD, List.getElem?_eq_getElem hk']; exact List.getElem_mem hk'
    have := (hallm _ (hns' _ hkm)).2
    simp only [List.length_append, List.length_singleton]; lia
  rw [hlpV]
  have le9 := AH.le_set (o := .list (vstrs lp)) (AH.le_refl H8) hWL
  have e9 : (H8.set WL (.list (vstrs lp))) WL = some (.list (vstrs lp)) := AH.set_same ..
  have h9 := h8.grow le9
  have eB9 := le9 _ _ eB8
  generalize H8.set WL (.list (vstrs lp)) = H9 at *
  refine ⟨WL, _, _, rfl, e9, rfl, fun i ρ1 H1 => J12 P L TL tx lt d ts H1 ∧ H1 WL = some (.list (vstrs lp)) ∧ H1 BG = some (.list (vstrs (ts.map fun p => pre tx d p.2))) ∧ ρ1 "size" = some (.int tx.length) ∧ ρ1 "tails" = some (.ref TL) ∧ ρ1 "begins" = some (.ref BG), ⟨h9, e9, eB9, rz, rt, rfl⟩, ?_, ?_⟩
  · rintro i ρ1 H1 hi ⟨g1, g2, g3, g4, g5, g6⟩
    refine ⟨g2, ?_⟩
    rintro dd ⟨u, hu1, rfl⟩
    obtain ⟨pt, hpt, rfl⟩ := vstrs_at hu1
    obtain ⟨v3, c3⟩ := g1.cp
    refine Asg.cell F rfl rfl c3 ?_
    have k1 := g1.part (v := some (.str (S pt)))
    have s : ∀ {a : Addr} {o : O}, H1 a = some o → (∀ w, o ≠ .cell w) → (H1.set (L + 3) (.cell (some (.str (S pt))))) a = some o := fun e hn => by rw [AH.set_ne _ _ (fun q => by rw [q, c3] at e; exact hn _ (Option.some.inj e).symm)]; exact e
    have k2 := s g2 (by simp)
    have k3 := s g3 (by simp)
    have k4 : (H1.set (L + 3) (.cell (some (.str (S pt))))) (L + 3) = some (.cell (some (.str (S pt)))) := AH.set_same ..
    generalize H1.set (L + 3) (.cell (some (.str (S pt)))) = H2 at *
    exact part_body hK G F hdep hu hbm hC hz hd8 (hlpm pt (List.mem_of_getElem? hpt)) k1 k4 ho hp k3 g4 g5 g6 fun ρ' H' up tb a1 a2 a3 => ⟨k1.up up tb, up _ _ k2 (by simp), up _ _ k3 (by simp), a1, a2, a3⟩
  · rintro ρ1 H1 ⟨g1, g2, g3, g4, g5, g6⟩
    obtain ⟨es, t1, _⟩ := g1.t
    exact ⟨g2, WS.cons (W1.ret (WE.of Ev.bool ⟨rfl, es, t1⟩))⟩
end
end Mine

set_option maxHeartbeats 4000000
namespace Mine
open PySem PySem.W PyProof.Rows

theorem abcd : ("abcd" : Str) = S [97, 98, 99, 100] := by decide +kernel
theorem clip_17 (n : Nat) : clipAt n 17 - clipAt n 1 ≤ 16 := by
  cases n with
  | zero => decide
  | succ n =>
    have h1 : clipAt (n + 1) 17 ≤ 17 := Int.toNat_le.mpr (Int.max_le.mpr ⟨by decide, Int.min_le_left _ _⟩)
    have h2 : 1 ≤ clipAt (n + 1) 1 := (Int.le_toNat (Int.le_max_left _ _)).mpr (Int.le_trans (Int.le_min.mpr ⟨Int.le_refl _, Int.ofNat_le.mpr (Nat.le_add_left 1 n)⟩) (Int.le_max_right _ _))
    exact Nat.sub_le_of_le_add (Nat.le_trans h1 (Nat.add_le_add_left h2 16))
section
variable {C : Cx} {A : Around} {ρ : Lo} {H : AH} {P : Params} {L : Addr}
theorem law_body (hK : (hd.heap_39 P).In C.base) (G : Gl12 C) {L : Addr} (F : Fx C A (env12 P L)) (hdep : A.depth + 20 < recursionLimit) (hu : A.units + 300 < cLine) (hbm : Bm C) (hC : CodeHd C.base 45 43)
    {sc : Addr} {ns : List Int} {ρ : Lo} (rs : ρ "script" = some (.ref sc)) (hsc : H sc = some (.scr (vints ns))) (hns : ns.length ≤ 63) (hT1 : H 43 = some (.tab []))
    (c1 : H (L + 1) = some (.cell none)) (c2 : H (L + 2) = some (.cell none)) (c3 : H (L + 3) = some (.cell none)) (c4 : H (L + 4) = some (.cell none)) :
    WS C A (env12 P L) (bodyOf (law12 P)) ρ H (fun f _ H' => retv f = .bool true ∧ (∃ es, H' 43 = some (.tab es))) := by
  have hsz : 1000 ≤ sizeLine := by decide
  refine WS.seq (W1.asgLocal F rfl (WE.of (v := .int (ns.headD 0)) (Ev.ifexp (c := !(vints ns).isEmpty) (EvT.of (Ev.local F rfl rs) (by simp [truth, hsc]) (by intro x e; cases e)) (fun e => ?_) (fun e => ?_)) ⟨rfl, ?_⟩))
  · cases ns with
    | nil => simp [vints] at e
    | cons x r => exact Ev.item (k := 0) (Ev.local F rfl rs) Ev.int hsc rfl (by lia) rfl
  · cases ns with
    | nil => exact Ev.int
    | cons x r => simp [vints] at e
  generalize ns.headD 0 = first
  have hm1 : (2 : Int) + first.fmod 3 = ((2 + (first.fmod 3).toNat : Nat) : Int) := by
    have : 0 ≤ first.fmod 3 := Int.fmod_nonneg_of_pos _ (by lia)
    lia
  have hm1' : (first.fmod 3).toNat ≤ 2 := by
    have : first.fmod 3 < 3 := Int.fmod_lt_of_pos _ (by lia)
    (clear hsz c4 c3 c2 c1 hT1 hns hsc rs hC hbm hu hdep F G hK; omega)
  have hm2 : (1 : Int) + (first.fdiv 3).fmod 8 = ((1 + ((first.fdiv 3).fmod 8).toNat : Nat) : Int) := by
    have : 0 ≤ (first.fdiv 3).fmod 8 := Int.fmod_nonneg_of_pos _ (by lia)
    (clear hm1' hm1 hsz c4 c3 c2 c1 hT1 hns hsc rs hC hbm hu hdep F G hK; omega)
  have hm2' : ((first.fdiv 3).fmod 8).toNat ≤ 7 := by
    have : (first.fdiv 3).fmod 8 < 8 := Int.fmod_lt_of_pos _ (by lia)
    (clear hm1' hm1 hsz c4 c3 c2 c1 hT1 hns hsc rs hC hbm hu hdep F G hK; omega)
  generalize hc : 2 + (first.fmod 3).toNat = cnt at *
  generalize hd' : 1 + ((first.fdiv 3).fmod 8).toNat = d at *
  -- letters, deep
  refine WS.seq (W1.asgTup F (WEs.of (.cons (v := .str (S (([97, 98, 99, 100] : List Nat).take cnt))) (Ev.strTo (b := cnt) (Ev.as Ev.str (by rw [abcd])) (Ev.as (Ev.add Ev.int (Ev.mod (Ev.local F rfl rfl) Ev.int (by decide))) (by rw [hm1])) (by decide)) (.cons (v := .int d) (Ev.as (Ev.add Ev.int (Ev.mod (Ev.fdiv (Ev.local F rfl rfl) Ev.int (by decide) (by decide)) Ev.int (by decide))) (by rw [hm2])) .nil)) (Asg.cell F rfl rfl c1 (Asg.cell (o := none) F rfl rfl (by rw [AH.set_ne _ _ (addr_ne L 2 1 rfl)]; exact c2) ⟨rfl, ?_⟩))))
  generalize hlt : ([97, 98, 99, 100] : List Nat).take cnt = lt at *
  have hltl : 2 ≤ lt.length ∧ lt.length ≤ 4 := by rw [← hlt, List.length_take]; simp; (clear hlt hd' hm2' hsz c4 c3 c2 c1 hT1 hns hsc rs hC hbm hu hdep F G hK; omega)
  have d1 : ((H.set (L + 1) (.cell (some (.str (S lt))))).set (L + 2) (.cell (some (.int d)))) (L + 1) = some (.cell (some (.str (S lt)))) := by rw [AH.set_ne _ _ (addr_ne L 1 2 rfl)]; exact AH.set_same ..
  have d2 : ((H.set (L + 1) (.cell (some (.str (S lt))))).set (L + 2) (.cell (some (.int d)))) (L + 2) = some (.cell (some (.int d))) := AH.set_same ..
  have s : ∀ {a : Addr} {o : O}, H a = some o → a ≠ L + 1 → a ≠ L + 2 → ((H.set (L + 1) (.cell (some (.str (S lt))))).set (L + 2) (.cell (some (.int d)))) a = some o := fun e n1 n2 => by rw [AH.set_ne _ _ n2, AH.set_ne _ _ n1]; exact e
  have d3 := s c3 (addr_ne L 3 1 rfl) (addr_ne L 3 2 rfl)
  have d4 := s c4 (addr_ne L 4 1 rfl) (addr_ne L 4 2 rfl)
  have dT := s hT1 (fun q => by rw [q, c1] at hT1; cases hT1) (fun q => by rw [q, c2] at hT1; cases hT1)
  have ds := s hsc (fun q => by rw [q, c1] at hsc; cases hsc) (fun q => by rw [q, c2] at hsc; cases hsc)
  generalize (H.set (L + 1) (.cell (some (.str (S lt))))).set (L + 2) (.cell (some (.int d))) = H1 at *
  clear s c1 c2 c3 c4 hT1 hsc
  -- text
  refine WS.seq (W1.asg (WE.strMeth PySem.F.slot_str_join rfl Ev.str (WEs.cons (WE.listComp (cl := [("letters", L + 1)]) rfl (WIt.list F (WE.addList (WE.slice (lo := some 1) (hi := some 17) (WE.of (Ev.local F rfl rs) ⟨sc, _, _, rfl, ds, rfl, .some Ev.int, .some Ev.int, fun a ha => WE.list rfl (by decide) (WEs.of (.cons Ev.int .nil) fun b hb => ⟨a, b, _, _, _, _, rfl, rfl, AH.get_of_set (AH.set_same ..) hb, AH.set_same .., rfl, rfl, ?_, fun X hX => ⟨X, _, _, rfl, AH.set_same .., rfl, fun Cn hCn => ?_⟩⟩)⟩))))))))
  · have := slc_len (some 1) (some 17) (vints ns)
    rw [ints_length] at this
    simp; lia
  have hsl : ∃ ks : List Int, slc (some 1) (some 17) (vints ns) = vints ks ∧ ks.length ≤ 16 := by
    refine ⟨(ns.drop ((some (1 : Int)).elim 0 (clipAt (vints ns).length))).take ((some (17 : Int)).elim (vints ns).length (clipAt (vints ns).length) - (some (1 : Int)).elim 0 (clipAt (vints ns).length)), ?_, ?_⟩
    · unfold slc vints
      rw [List.map_take, List.map_drop]
    · exact Nat.le_trans (List.length_take_le ..) (clip_17 _)
  obtain ⟨ks, hks, hkl⟩ := hsl
  have hxs : slc (some 1) (some 17) (vints ns) ++ [V.int 0] = vints (ks ++ [0]) := by rw [hks]; simp [vints]
  have leA : H1.le (((H1.set a (.list (slc (some 1) (some 17) (vints ns)))).set b (.list [.int 0])).set X (.list (slc (some 1) (some 17) (vints ns) ++ [.int 0]))) := AH.le_trans (AH.le_trans (AH.le_set (AH.le_refl _) ha) (AH.le_set (AH.le_refl _) hb)) (AH.le_set (AH.le_refl _) hX)
  have eX : (((H1.set a (.list (slc (some 1) (some 17) (vints ns)))).set b (.list [.int 0])).set X (.list (slc (some 1) (some 17) (vints ns) ++ [.int 0]))) X = some (.list (slc (some 1) (some 17) (vints ns) ++ [.int 0])) := AH.set_same ..
  rw [hxs] at *
  generalize hxsd : ks ++ [0] = xs at *
  have hxl : xs.length ≤ 17 := by rw [← hxsd]; simp; lia
  clear hks
  generalize ((H1.set a (.list (slc (some 1) (some 17) (vints ns)))).set b (.list [.int 0])).set X (.list (vints xs)) = H2 at *
  have g1 := leA _ _ d1
  have g2 := leA _ _ d2
  have g3 := leA _ _ d3
  have g4 := leA _ _ d4
  have gT := leA _ _ dT
  clear d1 d2 d3 d4 dT ds leA
  refine comp_vals (g := fun i => V.str (S [lt.getD ((xs.getD i 0).fmod (lt.length : Int)).toNat 0])) (by rw [ints_length]; lia) (fun i ρ1 hi => ⟨eX, ?_⟩) eX ?_
  · rintro dd ⟨u, hu1, rfl⟩
    obtain ⟨rfl, hi2⟩ := vints_at hu1
    refine Asg.local (F.comp rfl) rfl ⟨rfl, ?_⟩
    have b1 : 0 ≤ (xs.getD i 0).fmod (lt.length : Int) := Int.fmod_nonneg_of_pos _ (by lia)
    have b2 : (xs.getD i 0).fmod (lt.length : Int) < lt.length := Int.fmod_lt_of_pos _ (by lia)
    generalize hk : (xs.getD i 0).fmod (lt.length : Int) = k at *
    refine Ev.strItem (k := k.toNat) (Ev.cell (F.comp rfl) rfl rfl g1) (Ev.as (Ev.mod (Ev.local (F.comp rfl) rfl rfl) (Ev.lenS (Ev.glob (F.comp rfl) rfl G.len) (Ev.cell (F.comp rfl) rfl rfl g1) (by lia)) (by lia)) ?_) ?_ (by lia)
    · rw [hk]; congr 1; (clear b2 hk hu1 hi2 hi gT g4 g3 g2 g1 eX hxl hxs hxsd hkl hCn hX hb ha hltl hlt hm2 hd' hm1 hc hm2' hm1' hsz hns rs hC hbm hu hdep F G hK; lia)
    · rw [List.getD_eq_getElem?_getD, List.getElem?_eq_getElem (by (clear b1 hk hu1 hi2 hi gT g4 g3 g2 g1 eX hxl hxs hxsd hkl hCn hX hb ha hlt hm2 hd' hm1 hc hm2' hm1' hsz hns rs hC hbm hu hdep F G hK; lia))]; rfl
  intro Y hY
  have hjl : (List.range (vints xs).length).map (fun i => V.str (S [lt.getD ((xs.getD i 0).fmod (lt.length : Int)).toNat 0])) = ((List.range xs.length).map fun i => lt.getD ((xs.getD i 0).fmod (lt.length : Int)).toNat 0).map fun c => V.str (S [c]) := by
    rw [ints_length, List.map_map]; rfl
  rw [hjl]
  generalize htx : ((List.range xs.length).map fun i => lt.getD ((xs.getD i 0).fmod (lt.length : Int)).toNat 0) = tx
  have htl : tx.length ≤ 17 := by rw [← htx]; simp; lia
  refine WEs.nil (WCall.join (l := tx) (AH.set_same ..) (by lia) ?_)
  have leY : H2.le (H2.set Y (.list (tx.map fun c => V.str (S [c])))) := AH.le_set (AH.le_refl _) hY
  have f1 := leY _ _ g1
  have f2 := leY _ _ g2
  have f3 := leY _ _ g3
  have f4 := leY _ _ g4
  have fT := leY _ _ gT
  generalize H2.set Y (.list (tx.map fun c => V.str (S [c]))) = H3 at *
  refine Asg.cell F rfl rfl f4 ⟨rfl, ?_⟩
  have k1 : (H3.set (L + 4) (.cell (some (.str (S tx))))) (L + 1) = some (.cell (some (.str (S lt)))) := by rw [AH.set_ne _ _ (addr_ne L 1 4 rfl)]; exact f1
  have k2 : (H3.set (L + 4) (.cell (some (.str (S tx))))) (L + 2) = some (.cell (some (.int d))) := by rw [AH.set_ne _ _ (addr_ne L 2 4 rfl)]; exact f2
  have k3 : (H3.set (L + 4) (.cell (some (.str (S tx))))) (L + 3) = some (.cell none) := by rw [AH.set_ne _ _ (addr_ne L 3 4 rfl)]; exact f3
  have k4 : (H3.set (L + 4) (.cell (some (.str (S tx))))) (L + 4) = some (.cell (some (.str (S tx)))) := AH.set_same ..
  have kT : (H3.set (L + 4) (.cell (some (.str (S tx))))) 43 = some (.tab []) := by rw [AH.set_ne _ _ (fun q => by rw [← q, fT] at f4; cases f4)]; exact fT
  generalize H3.set (L + 4) (.cell (some (.str (S tx)))) = H4 at *
  -- size, tails
  refine WS.seq (W1.asgLocal F rfl (WE.of (Ev.lenS (Ev.glob F rfl G.len) (Ev.cell F rfl rfl k4) (by lia)) ⟨rfl, ?_⟩))
  refine WS.seq (W1.asgLocal F rfl (WE.list rfl (by decide) (WEs.nil fun TL hTL => ⟨rfl, ?_⟩)))
  have leT : H4.le (H4.set TL (.list [])) := AH.le_set (AH.le_refl _) hTL
  have h0 : J12 P L TL tx lt d [] (H4.set TL (.list [])) := ⟨leT _ _ k1, leT _ _ k2, ⟨_, leT _ _ k3⟩, leT _ _ k4, AH.set_same .., by simp, ⟨[], leT _ _ kT, by simp⟩⟩
  refine WS.seq (tails_loop hK G F hdep hu hbm hC htl h0 rfl rfl fun ρ' H' ts h1 ho hp rz rt => ⟨rfl, ?_⟩)
  exact law_rest hK G F hdep hu hbm hC htl (by (clear rt rz hp ho h1 h0 leT hTL kT k4 k3 k2 k1 fT f4 f3 f2 f1 leY htl htx hjl hY gT g4 g3 g2 g1 eX hxl hxs hxsd hkl hCn hX hb ha hltl hlt hm2 hm1 hc hm1' hsz hns rs hC hbm hu hdep F G hK; omega)) hltl.2 h1 ho hp rz rt
end
end Mine

open PySem PySem.W PyProof.Rows Mine in
set_option maxRecDepth 100000 in
set_option maxHeartbeats 8000000 in
theorem PySem.Challenge.cw_dm0010_12_holds : PySem.Challenge.rw_dm0010_12.Holds :=
  Mine.hd (by
  w_strict (
  k_fill
  intro w s₀ s₁ mg mb G Y fa o pm cd doc dV kV ho hd hcd hD hmg hg args vals as hpre hlay hrd hwl hlo
  have KX := km_in_of Y
  refine Ground.open G ?_
  intro T B D TE TW
  clear ho hd hcd hD
  wrow_args hpre hlay hrd hwl hlo
  rename_i ns _ _ _ _ _ _ _ sc vs _ hL _ _ _ hI _ hlen _
  have hfa : fa = 46 := by
    have h1 : mg "law" = some (.ref 46) := mg_of KX T.g rfl
    have h2 : mg "law" = some (.ref fa) := hmg
    rw [h1] at h2; cases h2; rfl
  subst hfa
  have hTb1 : CodeHd s₁.heap 45 43 ∧ s₁.heap.get? 43 = some (tabObj #[]) := ⟨codeHd_of_K KX (by kernel_rfl), km_tabs_of Y 43 (by simp)⟩
  have hTA : TabsAt [(45, 43)] s₁.heap := fun q hq => by
    rw [List.mem_singleton.mp hq]; exact hTb1
  have hTt : ∀ b ∈ ([43] : List Addr), s₁.heap.get? b = some (tabObj #[]) ∧ ∃ c, CodeHd s₁.heap c b := fun b hb => by
    rw [List.mem_singleton.mp hb]; exact ⟨hTb1.2, _, hTb1.1⟩
  let C : Cx := { prog := Challenge.rw_dm0010_12.row.prog, w := w, base := ghostOf s₁.heap [(45, 43)], mg := mg, mb := mb, hg := ghost_ns hTA T.g, hb := ghost_ns hTA T.b, lim := (ghost_top hTA T).nolimit }
  have KX' : (Mine.hd.heap_39 w.params).In C.base := ghost_K hTA KX rfl
  have bt : ∀ x : Str, x ≠ "__name__" → C.mb x = bootBuiltins x := T.builtins
  have hBm : Bm C := by
    obtain ⟨bm, ob, b1, b2, b3, b4, b5, b6⟩ := (ghost_top hTA T).bmain
    refine ⟨bm, ob, b1, b2, fun q => ?_, b3, b4, b5, b6⟩
    obtain ⟨o, es, ep, e, hd, _⟩ := C.hg
    have b3' : C.base.get? mainGlobals = some ob := q ▸ b3
    rw [b3'] at e; cases e; rw [b6] at hd; cases hd
  have hns : ns.length ≤ 63 := by omega
  have hmap : vs.map ab = vints ns := ints_of hI
  have hscT : ∀ b ∈ ([43] : List Addr), sc ≠ b := fun b hb q => by
    obtain ⟨o, ho, hc, _⟩ := hL
    rw [q, (hTt b hb).1] at ho; cases ho; cases hc
  have key := top_call2 (C := C) (A := callerA) (H := (fun b => if b = sc then some (.scr (vints ns)) else if b ∈ ([43] : List Addr) then some (.tab []) else none)) (Q := fun v H' => v = .bool true ∧ (∃ es, H' 43 = some (.tab es))) (s := s₁) (a := 46) (fd := fdOf (Mine.hd.heap_39 w.params) 46) (vals := [.ref sc]) (bs := [("script", .ref sc)]) (fun b o e => of_hideAll _ e) ?_ ?_ (KX 46 ⟨.type "function", none, .func (fdOf (Mine.hd.heap_39 w.params) 46), #[]⟩ rfl) rfl (by decide) rfl rfl (codeRec_of KX rfl) (binds := [("script", .ref sc)]) rfl rfl rfl (show (["text", "part", "deep", "letters"] : List Str).Nodup by decide) (aL (kinds (fdOf (Mine.hd.heap_39 w.params) 46)) [("script", .ref sc)] fun _ => none) (aC (kinds (fdOf (Mine.hd.heap_39 w.params) 46)) [("script", .ref sc)] fun _ => none) (fun L x => bindL_ab (fun _ => rfl) x) (fun L x => bindC_ab (fun _ => rfl) x) ?_
  · refine wpAny_mono key (fun v s' ⟨⟨H', ⟨hv, hes1⟩, hrep⟩, hbk, hk, hlv, hgn, hos⟩ => ?_) fun _ _ e => e.elim
    cases ab_bool hv
    refine law_end2 (H := H') (H' := H') (tabs := [43]) rfl (by wrow_post) (fun P hP => ?_) hrep (fun b o hb e => hbk b o (ghost_ne e hb)) hlv (hgn.trans hg) hos
    refine ⟨?_, ?_⟩
    · obtain ⟨h1, c, h2⟩ := hTt P hP
      exact ⟨c, h2.tab h1⟩
    · skip
      rw [List.mem_singleton.mp hP]; exact hes1
  · intro b ob hb
    by_cases q : b = sc
    · subst q
      rw [if_pos rfl] at hb; cases hb
      obtain ⟨o, ho, hc, n, hd⟩ := hL
      exact ⟨o, ho, hc, _, n, hd, hmap, by rw [ints_length]; exact Nat.le_trans hns (by decide)⟩
    · rw [if_neg q] at hb
      by_cases q2 : b ∈ ([43] : List Addr)
      · rw [if_pos q2] at hb; cases hb
        exact ⟨_, (hTt b q2).1, rfl⟩
      · rw [if_neg q2] at hb; cases hb
  · intro b ob hb hm
    by_cases q : b = sc
    · subst q
      rw [if_pos rfl] at hb; cases hb; cases hm
    · rw [if_neg q] at hb
      by_cases q2 : b ∈ ([43] : List Addr)
      · exact hideAll_none _ q2
      · rw [if_neg q2] at hb; cases hb
  · intro L hL0 hcs
    have hscL : ∀ p ∈ cellsFrom (L + 1) (fdOf (Mine.hd.heap_39 w.params) 46).scope.names [], sc ≠ p.2 ∧ p.2 ∉ ([43] : List Addr) := fun p hp => by
      have := (hcs p hp).1
      refine ⟨fun q => ?_, fun q => ?_⟩
      · rw [if_pos q.symm] at this; cases this
      · have hne : ¬ p.2 = sc := fun e => hscT p.2 q e.symm
        rw [if_neg hne, if_pos q] at this; cases this
    have hTH : ∀ b ∈ ([43] : List Addr), ((fun b => if b = sc then some (.scr (vints ns)) else if b ∈ ([43] : List Addr) then some (.tab []) else none) : AH) b = some (.tab []) := fun b hb => (if_neg (fun e => hscT b hb e.symm)).trans (if_pos hb)
    obtain ⟨n1, t1⟩ := hscL ("letters", L + 1) (.tail _ (.tail _ (.tail _ (.head _))))
    obtain ⟨n2, t2⟩ := hscL ("deep", L + 2) (.tail _ (.tail _ (.head _)))
    obtain ⟨n3, t3⟩ := hscL ("part", L + 3) (.tail _ (.head _))
    obtain ⟨n4, t4⟩ := hscL ("text", L + 4) (.head _)
    refine law_body (C := C) (sc := sc) (ns := ns) KX' ⟨(gl_boot KX' rfl ((bt _ (by decide)).trans (by decide +kernel))), (gl_boot KX' rfl ((bt _ (by decide)).trans (by decide +kernel))), (gl_boot KX' rfl ((bt _ (by decide)).trans (by decide +kernel))), (gl_boot KX' rfl ((bt _ (by decide)).trans (by decide +kernel))), (gl_own KX' rfl), (gl_own KX' rfl), (gl_own KX' rfl)⟩ ⟨rfl, rfl, rfl, rfl⟩ (show callerA.depth + 1 + 20 < recursionLimit by decide) (show callerA.units + 3 + 300 < cLine by decide) hBm (ghost_code hTA).1 rfl ?_ hns ?_ ?_ ?_ ?_ ?_
    · show ((AH.set (AH.set (AH.set (AH.set _ (L + 1) (.cell none)) (L + 2) (.cell none)) (L + 3) (.cell none)) (L + 4) (.cell none)) sc) = _
      rw [AH.set_ne _ _ n4, AH.set_ne _ _ n3, AH.set_ne _ _ n2, AH.set_ne _ _ n1]; exact if_pos rfl
    · show ((AH.set (AH.set (AH.set (AH.set _ (L + 1) (.cell none)) (L + 2) (.cell none)) (L + 3) (.cell none)) (L + 4) (.cell none)) 43) = _
      rw [AH.set_ne _ _ (fun e : 43 = L + 4 => t4 (e ▸ by simp)), AH.set_ne _ _ (fun e : 43 = L + 3 => t3 (e ▸ by simp)), AH.set_ne _ _ (fun e : 43 = L + 2 => t2 (e ▸ by simp)), AH.set_ne _ _ (fun e : 43 = L + 1 => t1 (e ▸ by simp))]; exact hTH 43 (by simp)
    · show ((AH.set (AH.set (AH.set (AH.set _ (L + 1) (.cell none)) (L + 2) (.cell none)) (L + 3) (.cell none)) (L + 4) (.cell none)) (L + 1)) = _
      rw [AH.set_ne _ _ (addr_ne L 1 4 rfl), AH.set_ne _ _ (addr_ne L 1 3 rfl), AH.set_ne _ _ (addr_ne L 1 2 rfl), AH.set_same]
    · show ((AH.set (AH.set (AH.set (AH.set _ (L + 1) (.cell none)) (L + 2) (.cell none)) (L + 3) (.cell none)) (L + 4) (.cell none)) (L + 2)) = _
      rw [AH.set_ne _ _ (addr_ne L 2 4 rfl), AH.set_ne _ _ (addr_ne L 2 3 rfl), AH.set_same]
    · show ((AH.set (AH.set (AH.set (AH.set _ (L + 1) (.cell none)) (L + 2) (.cell none)) (L + 3) (.cell none)) (L + 4) (.cell none)) (L + 3)) = _
      rw [AH.set_ne _ _ (addr_ne L 3 4 rfl), AH.set_same]
    · show ((AH.set (AH.set (AH.set (AH.set _ (L + 1) (.cell none)) (L + 2) (.cell none)) (L + 3) (.cell none)) (L + 4) (.cell none)) (L + 4)) = _
      rw [AH.set_same]))

