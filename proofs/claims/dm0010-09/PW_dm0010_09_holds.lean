import PyProof.Rows.All
import Wide.All
import OpenK.AllK
import Wide.FinOn
import PySem.Challenge.RW_dm0010_09
set_option Elab.async false
set_option linter.unusedVariables false
set_option maxRecDepth 100000
namespace Mine
open PySem PySem.W PyProof.Rows

/-! ## abstract values, objects, heaps -/
inductive V where
  | none | bool (b : Bool) | int (i : Int) | str (x : Str) | ref (a : Addr) | bi (id : String) | ty (n : String) | oth
  deriving DecidableEq

noncomputable def ab : Value → V
  | .none => .none
  | .bool b => .bool b
  | .int i _ => .int i
  | .str x _ => .str x
  | .ref a => .ref a
  | .builtin i => .bi i
  | .type n => .ty n
  | _ => .oth

theorem ab_none {v : Value} (h : ab v = .none) : v = .none := by cases v <;> simp_all [ab]
theorem ab_bool {v : Value} {b} (h : ab v = .bool b) : v = .bool b := by cases v <;> simp_all [ab]
theorem ab_int {v : Value} {i} (h : ab v = .int i) : ∃ t, v = .int i t := by cases v <;> simp_all [ab]
theorem ab_str {v : Value} {x} (h : ab v = .str x) : ∃ t, v = .str x t := by cases v <;> simp_all [ab]
theorem ab_ref {v : Value} {a} (h : ab v = .ref a) : v = .ref a := by cases v <;> simp_all [ab]
theorem ab_bi {v : Value} {a} (h : ab v = .bi a) : v = .builtin a := by cases v <;> simp_all [ab]
theorem ab_ty {v : Value} {a} (h : ab v = .ty a) : v = .type a := by cases v <;> simp_all [ab]

inductive O where
  | list (vs : List V)
  | scr (vs : List V)
  | tup (vs : List V)
  | cell (v : Option V)
  | fn (fd : FuncData)
  | rng (a n c : Int)
  | tab (es : List (Nat × Nat × Addr))
  | code (q : Str)
  | raw (c : Obj)
  | frm (o : Obj)

noncomputable def O.mut : O → Bool
  | .list _ => true
  | .cell _ => true
  | .tab _ => true
  | .frm _ => true
  | _ => false

noncomputable def tabItems (es : List (Nat × Nat × Addr)) : List Value := es.flatMap fun e => [rawInt e.1, rawInt e.2.1, .ref e.2.2]

noncomputable def Rep : O → Obj → Prop
  | .list vs, c => ∃ xs n, c = { cls := .type "list", data := .seq xs n } ∧ xs.toList.map ab = vs ∧ vs.length ≤ sizeLine
  | .scr vs, c => c.cls = .type "list" ∧ ∃ xs n, c.data = .seq xs n ∧ xs.toList.map ab = vs ∧ vs.length ≤ sizeLine
  | .tup vs, c => ∃ xs n, c = { cls := .type "tuple", data := .seq xs n } ∧ xs.toList.map ab = vs ∧ vs.length ≤ sizeLine
  | .cell v, c => ∃ u, c.data = .cell u ∧ u.map ab = v
  | .fn fd, c => c = { cls := .type "function", data := .func fd }
  | .rng a n d, c => c.cls = .type "range" ∧ c.data = .fields #[.int a 0, .int (a + n * d) 0, .int d 0]
  | .tab es, c => c = { cls := .none, data := .fields (tabItems es).toArray }
  | .code q, c => ∃ vs t, c.data = .fields vs ∧ vs[1]? = some (.str q t)
  | .raw c', c => c = c'
  | .frm o, c => ∃ sl, c = { o with slots := sl }

noncomputable abbrev AH := Addr → Option O
noncomputable abbrev Lo := Str → Option V

noncomputable def AH.set (H : AH) (a : Addr) (o : O) : AH := fun b => if b = a then some o else H b
@[simp] theorem AH.set_same (H : AH) (a : Addr) (o : O) : (H.set a o) a = some o := by simp [AH.set]
theorem AH.set_ne (H : AH) {a b : Addr} (o : O) (h : b ≠ a) : (H.set a o) b = H b := by simp [AH.set, h]
noncomputable def Lo.set (ρ : Lo) (x : Str) (v : V) : Lo := fun y => if y = x then some v else ρ y
@[simp] theorem Lo.set_same (ρ : Lo) (x : Str) (v : V) : (ρ.set x v) x = some v := by simp [Lo.set]

structure Cx where
  prog : Program
  w : World
  base : Heap
  mg : Str → Option Value
  mb : Str → Option Value
  hg : base.Ns mainGlobals mg
  hb : base.Ns builtinsNs mb
  lim : base.NoLimit

noncomputable def Cx.gl (C : Cx) (x : Str) : Option Value := match C.mg x with | some v => some v | none => C.mb x
noncomputable abbrev Cx.M (C : Cx) : Model := model C.prog C.w

structure St (C : Cx) (L : Addr) (ρ : Lo) (H : AH) (h : Heap) : Prop where
  keep : ∀ b o, C.base.get? b = some o → h.get? b = some o
  rep : ∀ a o, H a = some o → ∃ c, h.get? a = some c ∧ Rep o c
  own : ∀ a o, H a = some o → o.mut = true → C.base.get? a = none
  loc : ∃ m, h.Ns L m ∧ ∀ x, (m x).map ab = ρ x
  nl : H L = none
  bl : C.base.get? L = none

structure Step (L : Addr) (H H' : AH) (s s' : Shared) : Prop where
  same : s'.gens = s.gens ∧ s'.os = s.os
  kept : ∀ b o, s.heap.get? b = some o → H b = none → b ≠ L → s'.heap.get? b = some o
  new : ∀ b o, s.heap.get? b = some o → H b = none → H' b = none
  live : ∀ b o, s.heap.get? b = some o → ∃ o', s'.heap.get? b = some o'

theorem Step.refl (L : Addr) (H : AH) (s : Shared) : Step L H H s s := ⟨⟨rfl, rfl⟩, fun _ _ e _ _ => e, fun _ _ _ e => e, fun _ o e => ⟨o, e⟩⟩
theorem Step.trans {L : Addr} {H H' H'' : AH} {s s' s'' : Shared} (x : Step L H H' s s') (y : Step L H' H'' s' s'') (hL : H L = none → H' L = none → H'' L = none) : Step L H H'' s s'' := by
  obtain ⟨m1, k1, n1, l1⟩ := x
  obtain ⟨m2, k2, n2, l2⟩ := y
  refine ⟨⟨m2.1.trans m1.1, m2.2.trans m1.2⟩, fun b o e eH eL => k2 b o (k1 b o e eH eL) (n1 b o e eH) eL, fun b o e eH => ?_, fun b o e => let ⟨o', e'⟩ := l1 b o e; l2 b o' e'⟩
  by_cases hb : b = L
  · subst hb; exact hL eH (n1 _ o e eH)
  · exact n2 b o (k1 b o e eH hb) (n1 b o e eH)

noncomputable abbrev False2 : Value → Shared → Prop := fun _ _ => False

noncomputable def Post {α : Type} (C : Cx) (L : Addr) (H : AH) (s : Shared) (Q : α → Lo → AH → Prop) (a : α) (s' : Shared) : Prop := ∃ ρ' H', St C L ρ' H' s'.heap ∧ Step L H H' s s' ∧ Q a ρ' H'

noncomputable def W {α : Type} (C : Cx) (A : Around) (L : Addr) (t : Sem α) (ρ : Lo) (H : AH) (Q : α → Lo → AH → Prop) : Prop :=
  ∀ s : Shared, St C L ρ H s.heap → wpAny C.M A t (Post C L H s Q) False2 s

section
variable {α β : Type} {C : Cx} {A : Around} {L : Addr} {ρ : Lo} {H : AH}

theorem W.pure {a : α} {Q : α → Lo → AH → Prop} (h : Q a ρ H) : W C A L (Pure.pure a) ρ H Q := fun s hs => wpAny_pure ⟨ρ, H, hs, .refl .., h⟩
theorem W.mono {t : Sem α} {Q Q' : α → Lo → AH → Prop} (h : W C A L t ρ H Q) (hq : ∀ a ρ' H', Q a ρ' H' → Q' a ρ' H') : W C A L t ρ H Q' := fun s hs =>
  wpAny_mono (h s hs) (fun a s' ⟨ρ', H', x, y, z⟩ => ⟨ρ', H', x, y, hq _ _ _ z⟩) fun _ _ e => e
theorem W.bind {t : Sem α} {f : α → Sem β} {Q : β → Lo → AH → Prop} (h : W C A L t ρ H (fun a ρ' H' => W C A L (f a) ρ' H' Q)) : W C A L (t >>= f) ρ H Q := fun s hs =>
  wpAny_bind (wpAny_mono (h s hs) (fun a s' ⟨ρ', H', x, y, z⟩ => wpAny_mono (z s' x) (fun b s'' ⟨ρ'', H'', x', y', z'⟩ =>
    ⟨ρ'', H'', x', y.trans y' (fun _ _ => x'.nl), z'⟩) fun _ _ e => e) fun _ _ e => e)
theorem W.holding {vs : List Value} {t : Sem α} {Q : α → Lo → AH → Prop} (h : W C A L t ρ H Q) : W C A L (PySem.holding vs t) ρ H Q := fun s hs => wpAny_holding (h s hs)
theorem W.standAt {p : Pos} {Q : Unit → Lo → AH → Prop} (h : Q () ρ H) : W C A L (PySem.standAt p) ρ H Q := fun s hs => wpAny_standAt ⟨ρ, H, hs, .refl .., h⟩

/-- continue behind a step of a library rule -/
theorem W.at {t : Sem α} {Q : α → Lo → AH → Prop} {s s' : Shared} {ρ' : Lo} {H' : AH} (h : W C A L t ρ' H' Q) (hs : St C L ρ' H' s'.heap) (hst : Step L H H' s s') :
    wpAny C.M A t (Post C L H s Q) False2 s' :=
  wpAny_mono (h s' hs) (fun a s'' ⟨ρ'', H'', x', y', z'⟩ => ⟨ρ'', H'', x', hst.trans y' (fun _ _ => x'.nl), z'⟩) fun _ _ e => e
theorem W.at2 {t : Sem α} {f : α → Sem β} {Q : β → Lo → AH → Prop} {s s' : Shared} {ρ' : Lo} {H' : AH} (h : W C A L t ρ' H' (fun a ρ2 H2 => W C A L (f a) ρ2 H2 Q)) (hs : St C L ρ' H' s'.heap) (hst : Step L H H' s s') :
    wpAny C.M A t (fun a s2 => wpAny C.M A (f a) (Post C L H s Q) False2 s2) False2 s' :=
  wpAny_mono (h s' hs) (fun a s'' ⟨ρ'', H'', x', y', z'⟩ => z'.at x' (hst.trans y' (fun _ _ => x'.nl))) fun _ _ e => e
theorem W.at3 {γ : Type} {t : Sem α} {f : α → Sem β} {g : α → β → Sem γ} {Q : γ → Lo → AH → Prop} {s s' : Shared} {ρ' : Lo} {H' : AH} (h : W C A L t ρ' H' (fun a ρ2 H2 => W C A L (f a) ρ2 H2 (fun b ρ3 H3 => W C A L (g a b) ρ3 H3 Q))) (hs : St C L ρ' H' s'.heap) (hst : Step L H H' s s') :
    wpAny C.M A t (fun a s2 => wpAny C.M A (f a) (fun b s3 => wpAny C.M A (g a b) (Post C L H s Q) False2 s3) False2 s2) False2 s' :=
  wpAny_mono (h s' hs) (fun a s'' ⟨ρ'', H'', x', y', z'⟩ => z'.at2 x' (hst.trans y' (fun _ _ => x'.nl))) fun _ _ e => e

/-- only tokens, or new untracked objects -/
theorem St.ext {h h' : Heap} (x : St C L ρ H h) (k : ∀ b o, h.get? b = some o → h'.get? b = some o) : St C L ρ H h' where
  keep := fun b o e => k _ _ (x.keep b o e)
  rep := fun a o e => let ⟨c, e1, e2⟩ := x.rep a o e; ⟨c, k _ _ e1, e2⟩
  own := x.own
  loc := let ⟨m, e1, e2⟩ := x.loc; ⟨m, e1.keeps k, e2⟩
  nl := x.nl
  bl := x.bl
theorem Step.ext {s : Shared} {h' : Heap} {tk : Nat} (k : ∀ b o, s.heap.get? b = some o → h'.get? b = some o) : Step L H H s { s with heap := h', toks := tk } :=
  ⟨⟨rfl, rfl⟩, fun b o e _ _ => k b o e, fun _ _ _ e => e, fun b o e => ⟨o, k b o e⟩⟩
theorem Step.toks {s : Shared} {tk : Nat} : Step L H H s { s with toks := tk } := ⟨⟨rfl, rfl⟩, fun _ _ e _ _ => e, fun _ _ _ e => e, fun _ o e => ⟨o, e⟩⟩

/-- an address that is not tracked, not the base's and not the locals' may change -/
theorem St.off {h h' : Heap} {I : Addr} (x : St C L ρ H h) (hI : H I = none) (hB : C.base.get? I = none) (hL : I ≠ L) (k : ∀ b o, b ≠ I → h.get? b = some o → h'.get? b = some o) : St C L ρ H h' where
  keep := fun b o e => k _ _ (fun q => by rw [q, hB] at e; cases e) (x.keep b o e)
  rep := fun a o e => let ⟨c, e1, e2⟩ := x.rep a o e; ⟨c, k _ _ (fun q => by rw [q, hI] at e; cases e) e1, e2⟩
  own := x.own
  loc := let ⟨m, e1, e2⟩ := x.loc; ⟨m, e1.extBut (b := I) (fun b o hb e => k b o hb e) (Ne.symm hL), e2⟩
  nl := x.nl
  bl := x.bl

theorem St.fresh {h : Heap} (x : St C L ρ H h) {a : Addr} (ha : h.get? a = none) : H a = none ∧ C.base.get? a = none ∧ a ≠ L := by
  refine ⟨?_, ?_, ?_⟩
  · cases e : H a with
    | none => rfl
    | some o => obtain ⟨c, e1, _⟩ := x.rep a o e; rw [ha] at e1; cases e1
  · cases e : C.base.get? a with
    | none => rfl
    | some o => have := x.keep a o e; rw [ha] at this; cases this
  · rintro rfl
    obtain ⟨m, ⟨o, _, _, ho, _⟩, _⟩ := x.loc
    rw [ha] at ho; cases ho

theorem get?_size_none (h : Heap) : h.get? h.objs.size = none := by
  cases e : h.get? h.objs.size with
  | none => rfl
  | some o => exact absurd (Heap.lt_size e) (Nat.lt_irrefl _)

/-- a new tracked object -/
theorem St.alloc {h h' : Heap} {a : Addr} {c : Obj} {o : O} (x : St C L ρ H h) (ha : h.get? a = none) (hc : h'.get? a = some c) (hr : Rep o c) (k : ∀ b o, h.get? b = some o → h'.get? b = some o) : St C L ρ (H.set a o) h' where
  keep := fun b o e => k _ _ (x.keep b o e)
  rep := fun b o' e => by
    by_cases q : b = a
    · subst q; rw [AH.set_same] at e; cases e; exact ⟨c, hc, hr⟩
    · rw [AH.set_ne _ _ q] at e; obtain ⟨c, e1, e2⟩ := x.rep b o' e; exact ⟨c, k _ _ e1, e2⟩
  own := fun b o' e hm => by
    by_cases q : b = a
    · subst q; exact (x.fresh ha).2.1
    · rw [AH.set_ne _ _ q] at e; exact x.own b o' e hm
  loc := let ⟨m, e1, e2⟩ := x.loc; ⟨m, e1.keeps k, e2⟩
  nl := by rw [AH.set_ne _ _ (Ne.symm (x.fresh ha).2.2)]; exact x.nl
  bl := x.bl
theorem Step.alloc {s : Shared} {h' : Heap} {tk : Nat} {a : Addr} {o : O} (ha : s.heap.get? a = none) (k : ∀ b o, s.heap.get? b = some o → h'.get? b = some o) : Step L H (H.set a o) s { s with heap := h', toks := tk } :=
  ⟨⟨rfl, rfl⟩, fun b o e _ _ => k b o e, fun b o e hb => by rw [AH.set_ne _ _ (fun q => by rw [q, ha] at e; cases e)]; exact hb, fun b o e => ⟨o, k b o e⟩⟩

/-- a tracked object changed -/
theorem St.upd {h h' : Heap} {a : Addr} {c : Obj} {o₀ o : O} (x : St C L ρ H h) (hH : H a = some o₀) (hm : o₀.mut = true) (hc : h'.get? a = some c) (hr : Rep o c) (k : ∀ b o, b ≠ a → h.get? b = some o → h'.get? b = some o) : St C L ρ (H.set a o) h' where
  keep := fun b o e => k _ _ (fun q => by rw [q, x.own a o₀ hH hm] at e; cases e) (x.keep b o e)
  rep := fun b o' e => by
    by_cases q : b = a
    · subst q; rw [AH.set_same] at e; cases e; exact ⟨c, hc, hr⟩
    · rw [AH.set_ne _ _ q] at e; obtain ⟨c, e1, e2⟩ := x.rep b o' e; exact ⟨c, k _ _ q e1, e2⟩
  own := fun b o' e hm' => by
    by_cases q : b = a
    · subst q; exact x.own _ _ hH hm
    · rw [AH.set_ne _ _ q] at e; exact x.own b o' e hm'
  loc := let ⟨m, e1, e2⟩ := x.loc; ⟨m, e1.extBut (b := a) (fun b o hb e => k b o hb e) (fun q => by rw [← q, x.nl] at hH; cases hH), e2⟩
  nl := by rw [AH.set_ne _ _ (fun q => by rw [← q, x.nl] at hH; cases hH)]; exact x.nl
  bl := x.bl
theorem Step.upd {s : Shared} {h' : Heap} {tk : Nat} {a : Addr} {c : Obj} {o₀ o : O} (hH : H a = some o₀) (hc : h'.get? a = some c) (k : ∀ b o, b ≠ a → s.heap.get? b = some o → h'.get? b = some o) : Step L H (H.set a o) s { s with heap := h', toks := tk } :=
  ⟨⟨rfl, rfl⟩, fun b o e hb _ => k b o (fun q => by rw [q, hH] at hb; cases hb) e, fun b o e hb => by rw [AH.set_ne _ _ (fun q => by rw [q, hH] at hb; cases hb)]; exact hb, fun b o e => by
    by_cases q : b = a
    · subst q; exact ⟨c, hc⟩
    · exact ⟨o, k b o q e⟩⟩

/-- a local stored -/
theorem St.store {h h' : Heap} {x : Str} {v : Value} {m : Str → Option Value} (X : St C L ρ H h) (hm : ∀ x, (m x).map ab = ρ x) (hn : h'.Ns L (fun y => if y = x then some v else m y)) (hs : Heap.SameBut L h h') : St C L (ρ.set x (ab v)) H h' where
  keep := fun b o e => hs.extBut b o (fun q => by rw [q, X.bl] at e; cases e) (X.keep b o e)
  rep := fun a o e => let ⟨c, e1, e2⟩ := X.rep a o e; ⟨c, hs.extBut _ _ (fun q => by rw [q, X.nl] at e; cases e) e1, e2⟩
  own := X.own
  loc := ⟨_, hn, fun y => by
    unfold Lo.set
    by_cases q : y = x
    · simp [q]
    · simp [q, hm]⟩
  nl := X.nl
  bl := X.bl
theorem Step.store {s : Shared} {h' : Heap} {tk : Nat} {m : Str → Option Value} (hn : h'.Ns L m) (hs : Heap.SameBut L s.heap h') : Step L H H s { s with heap := h', toks := tk } :=
  ⟨⟨rfl, rfl⟩, fun b o e _ hb => hs.extBut b o hb e, fun _ _ _ e => e, fun b o e => by
    by_cases q : b = L
    · subst q; obtain ⟨o', _, _, ho, _⟩ := hn; exact ⟨o', ho⟩
    · exact ⟨o, hs.extBut b o q e⟩⟩

end
end Mine

namespace Mine
open PySem PySem.W PyProof.Rows

/-! ## facts of tracked objects -/
noncomputable def lst : O → Option (List V)
  | .list vs => some vs
  | .scr vs => some vs
  | _ => none

section
variable {C : Cx} {A : Around} {L : Addr} {ρ : Lo} {H : AH} {h : Heap} {a : Addr} {vs : List V}

theorem St.list (x : St C L ρ H h) {o : O} (e : H a = some o) (hl : lst o = some vs) : ∃ xs : Array Value, h.IsList a xs ∧ xs.toList.map ab = vs ∧ vs.length ≤ sizeLine := by
  obtain ⟨c, hc, r⟩ := x.rep a o e
  cases o <;> simp only [lst] at hl <;> try cases hl
  · obtain ⟨xs, n, rfl, e2, e3⟩ := r; exact ⟨xs, ⟨_, hc, rfl, n, rfl⟩, e2, e3⟩
  · obtain ⟨e1, xs, n, ed, e2, e3⟩ := r; exact ⟨xs, ⟨_, hc, e1, n, ed⟩, e2, e3⟩
theorem St.plist (x : St C L ρ H h) (e : H a = some (.list vs)) : ∃ xs : Array Value, h.PlainList a xs ∧ xs.toList.map ab = vs ∧ vs.length ≤ sizeLine := by
  obtain ⟨c, hc, xs, n, rfl, e2, e3⟩ := x.rep a _ e
  exact ⟨xs, ⟨n, hc⟩, e2, e3⟩
theorem St.tup (x : St C L ρ H h) (e : H a = some (.tup vs)) : ∃ xs : Array Value, IsTup h a xs ∧ xs.toList.map ab = vs ∧ vs.length ≤ sizeLine := by
  obtain ⟨c, hc, xs, n, rfl, e2, e3⟩ := x.rep a _ e
  exact ⟨xs, ⟨_, hc, rfl, n, rfl⟩, e2, e3⟩
theorem St.cell (x : St C L ρ H h) {v : Option V} (e : H a = some (.cell v)) : ∃ u, h.IsCell a u ∧ u.map ab = v := by
  obtain ⟨c, hc, u, e1, e2⟩ := x.rep a _ e
  exact ⟨u, ⟨c, hc, e1⟩, e2⟩
theorem St.func (x : St C L ρ H h) {fd : FuncData} (e : H a = some (.fn fd)) : h.get? a = some { cls := .type "function", data := .func fd } := by
  obtain ⟨c, hc, e1⟩ := x.rep a _ e
  rw [hc, e1]

theorem arr_get {xs : Array Value} {i : Nat} {v : V} (e : xs.toList.map ab = vs) (hi : vs[i]? = some v) : ∃ x, xs[i]? = some x ∧ ab x = v := by
  subst e
  rw [List.getElem?_map] at hi
  cases hx : xs.toList[i]? with
  | none => rw [hx] at hi; cases hi
  | some x => rw [hx] at hi; exact ⟨x, by rw [← Array.getElem?_toList]; exact hx, by simpa using hi⟩
theorem arr_size {xs : Array Value} (e : xs.toList.map ab = vs) : xs.size = vs.length := by subst e; simp
end

structure Fx (C : Cx) (A : Around) (env : Env) : Prop where
  kind : env.scope.kind = .function
  gl : env.globals = mainGlobals
  bu : env.builtins = builtinsNs
  hh : A.handled = none

section
variable {C : Cx} {A : Around} {env : Env} {ρ : Lo} {H : AH}


theorem W.BinOp {l r : Expr} {op : Operator} {pos : Pos} {Q : Value → Lo → AH → Prop} {L : Addr}
    (h : W C A L (eval l env) ρ H (fun a ρ1 H1 => W C A L (eval r env) ρ1 H1 (fun b ρ2 H2 => W C A L (binaryOp op a b) ρ2 H2 Q))) :
    W C A L (eval (.BinOp l op r pos) env) ρ H Q := fun s hs => wpAny_BinOp (h.at3 hs (.refl ..))
theorem W.Compare1 {l r : Expr} {op : CmpOp} {pos : Pos} {Q : Value → Lo → AH → Prop} {L : Addr} (hm : behindInMarks op r = false)
    (h : W C A L (eval l env) ρ H (fun a ρ1 H1 => W C A L (eval r env) ρ1 H1 (fun b ρ2 H2 => W C A L (compareOp op a b) ρ2 H2 Q))) :
    W C A L (eval (.Compare l [op] [r] pos) env) ρ H Q := fun s hs => wpAny_Compare1 (h.at3 hs (.refl ..)) hm
theorem W.UnaryOp {x : Expr} {op : UnaryOp} {pos : Pos} {Q : Value → Lo → AH → Prop} {L : Addr}
    (h : W C A L (eval x env) ρ H (fun a ρ1 H1 => W C A L (unaryOp op a) ρ1 H1 Q)) :
    W C A L (eval (.UnaryOp op x pos) env) ρ H Q := fun s hs => wpAny_UnaryOp (h.at2 hs (.refl ..))
theorem W.Subscript {o i : Expr} {pos : Pos} {Q : Value → Lo → AH → Prop} {L : Addr}
    (h : W C A L (eval o env) ρ H (fun a ρ1 H1 => W C A L (eval i env) ρ1 H1 (fun b ρ2 H2 => W C A L (subscriptTail o i a b) ρ2 H2 Q))) :
    W C A L (eval (.Subscript o i pos) env) ρ H Q := fun s hs => Subscript_ (h.at3 hs (.refl ..))

/-! ## pure evaluation -/
noncomputable def Ev (C : Cx) (A : Around) (env : Env) (ρ : Lo) (H : AH) (e : Expr) (v : V) : Prop :=
  W C A env.locals (eval e env) ρ H (fun x ρ' H' => ρ' = ρ ∧ H' = H ∧ ab x = v)
noncomputable def EvT (C : Cx) (A : Around) (env : Env) (ρ : Lo) (H : AH) (e : Expr) (b : Bool) : Prop :=
  W C A env.locals (isTrue e env (eval e env)) ρ H (fun x ρ' H' => ρ' = ρ ∧ H' = H ∧ x = b)

theorem Ev.then {e : Expr} {v : V} {f : Value → Sem β} {Q : β → Lo → AH → Prop} (h : Ev C A env ρ H e v) (k : ∀ x, ab x = v → W C A env.locals (f x) ρ H Q) :
    W C A env.locals (eval e env) ρ H (fun x ρ1 H1 => W C A env.locals (f x) ρ1 H1 Q) :=
  W.mono h (by rintro x _ _ ⟨rfl, rfl, e⟩; exact k x e)

theorem Ev.local {x : Str} {pos : Pos} {v : V} (F : Fx C A env) (hl : env.kindOf x = some .local) (hv : ρ x = some v) (hd : (x == ("__debug__" : Str)) = false := by decide) : Ev C A env ρ H (.Name x pos) v := fun s hs => by
  obtain ⟨m, hn, hm⟩ := hs.loc
  have := hm x
  rw [hv] at this
  cases hx : m x with
  | none => rw [hx] at this; cases this
  | some y =>
    rw [hx] at this
    exact wpAny_Name (wpAny_loadName_local F.kind hl hn hx ⟨ρ, H, hs, .refl .., rfl, rfl, by simpa using this⟩) hd
theorem Ev.cell {x : Str} {pos : Pos} {v : V} {c : Addr} (F : Fx C A env) (hl : env.kindOf x = some .cell) (hc : env.cells.lookup x = some c) (hv : H c = some (.cell (some v))) (hd : (x == ("__debug__" : Str)) = false := by decide) : Ev C A env ρ H (.Name x pos) v := fun s hs => by
  obtain ⟨u, h1, h2⟩ := hs.cell hv
  cases u with
  | none => cases h2
  | some y => exact wpAny_Name (wpAny_loadName_cell F.kind hl hc h1 ⟨ρ, H, hs, .refl .., rfl, rfl, by simpa using h2⟩) hd
theorem Ev.free {x : Str} {pos : Pos} {v : V} {c : Addr} (F : Fx C A env) (hl : env.kindOf x = some .free) (hc : env.cells.lookup x = some c) (hv : H c = some (.cell (some v))) (hd : (x == ("__debug__" : Str)) = false := by decide) (hn : (x == ("__classdict__" : Str)) = false := by decide) : Ev C A env ρ H (.Name x pos) v := fun s hs => by
  obtain ⟨u, h1, h2⟩ := hs.cell hv
  cases u with
  | none => cases h2
  | some y => exact wpAny_Name (wpAny_loadName_free F.kind hl hc h1 ⟨ρ, H, hs, .refl .., rfl, rfl, by simpa using h2⟩ hn) hd
theorem Ev.glob {x : Str} {pos : Pos} {v : Value} (F : Fx C A env) (hl : env.kindOf x = some .globalImplicit) (hv : C.gl x = some v) (hd : (x == ("__debug__" : Str)) = false := by decide) : Ev C A env ρ H (.Name x pos) (ab v) := fun s hs => by
  refine wpAny_Name ?_ hd
  rw [loadName_read F.kind hl]
  unfold loadGlobal
  unfold Cx.gl at hv
  refine wpAny_bind (wpAny_nsGet (by rw [F.gl]; exact C.hg.keeps hs.keep) ?_)
  cases hm : C.mg x with
  | some y =>
    rw [hm] at hv; cases hv
    exact wpAny_pure ⟨ρ, H, hs, .refl .., rfl, rfl, rfl⟩
  | none =>
    rw [hm] at hv
    dsimp only
    refine wpAny_bind (wpAny_nsGet (by rw [F.bu]; exact C.hb.keeps hs.keep) ?_)
    dsimp only at hv
    rw [hv]
    exact wpAny_pure ⟨ρ, H, hs, .refl .., rfl, rfl, rfl⟩

theorem Ev.int {i : Int} {k : Nat} {pos : Pos} : Ev C A env ρ H (.Constant (.int i) k pos) (.int i) := fun s hs => wpAny_Constant_int ⟨ρ, H, hs, .toks, rfl, rfl, rfl⟩
theorem Ev.str {x : Str} {k : Nat} {pos : Pos} : Ev C A env ρ H (.Constant (.str x) k pos) (.str x) := fun s hs => wpAny_Constant_str ⟨ρ, H, hs, .toks, rfl, rfl, rfl⟩
theorem Ev.none {k : Nat} {pos : Pos} : Ev C A env ρ H (.Constant .none k pos) .none := fun s hs => wpAny_Constant_none ⟨ρ, H, hs, .refl .., rfl, rfl, rfl⟩
theorem Ev.bool {b : Bool} {k : Nat} {pos : Pos} : Ev C A env ρ H (.Constant (.bool b) k pos) (.bool b) := fun s hs => wpAny_Constant_bool ⟨ρ, H, hs, .refl .., rfl, rfl, rfl⟩

theorem Ev.bin {l r : Expr} {op : Operator} {pos : Pos} {a b v : V} (h1 : Ev C A env ρ H l a) (h2 : Ev C A env ρ H r b)
    (h : ∀ x y, ab x = a → ab y = b → W C A env.locals (binaryOp op x y) ρ H (fun z ρ' H' => ρ' = ρ ∧ H' = H ∧ ab z = v)) : Ev C A env ρ H (.BinOp l op r pos) v :=
  W.BinOp (W.mono h1 (by rintro x _ _ ⟨rfl, rfl, e⟩; exact h2.then fun y e' => h x y e e'))
theorem Ev.add {l r : Expr} {pos : Pos} {a b : Int} (h1 : Ev C A env ρ H l (.int a)) (h2 : Ev C A env ρ H r (.int b)) : Ev C A env ρ H (.BinOp l .Add r pos) (.int (a + b)) :=
  Ev.bin h1 h2 fun x y e e' => by
    obtain ⟨t, rfl⟩ := ab_int e; obtain ⟨u, rfl⟩ := ab_int e'
    exact fun s hs => add_int ⟨ρ, H, hs, .toks, rfl, rfl, rfl⟩
theorem Ev.sub {l r : Expr} {pos : Pos} {a b : Int} (h1 : Ev C A env ρ H l (.int a)) (h2 : Ev C A env ρ H r (.int b)) : Ev C A env ρ H (.BinOp l .Sub r pos) (.int (a - b)) :=
  Ev.bin h1 h2 fun x y e e' => by
    obtain ⟨t, rfl⟩ := ab_int e; obtain ⟨u, rfl⟩ := ab_int e'
    exact fun s hs => sub_int' ⟨ρ, H, hs, .toks, rfl, rfl, rfl⟩
theorem Ev.mul {l r : Expr} {pos : Pos} {a b : Int} (h1 : Ev C A env ρ H l (.int a)) (h2 : Ev C A env ρ H r (.int b)) (hm : IntMulOk a b) : Ev C A env ρ H (.BinOp l .Mult r pos) (.int (a * b)) :=
  Ev.bin h1 h2 fun x y e e' => by
    obtain ⟨t, rfl⟩ := ab_int e; obtain ⟨u, rfl⟩ := ab_int e'
    exact fun s hs => mul_int ⟨ρ, H, hs, .toks, rfl, rfl, rfl⟩ hm
theorem Ev.mod {l r : Expr} {pos : Pos} {a b : Int} (h1 : Ev C A env ρ H l (.int a)) (h2 : Ev C A env ρ H r (.int b)) (hb : b ≠ 0) : Ev C A env ρ H (.BinOp l .Mod r pos) (.int (a.fmod b)) :=
  Ev.bin h1 h2 fun x y e e' => by
    obtain ⟨t, rfl⟩ := ab_int e; obtain ⟨u, rfl⟩ := ab_int e'
    exact fun s hs => mod_int' hb ⟨ρ, H, hs, .toks, rfl, rfl, rfl⟩
theorem Ev.fdiv {l r : Expr} {pos : Pos} {a b : Int} (h1 : Ev C A env ρ H l (.int a)) (h2 : Ev C A env ρ H r (.int b)) (hb : 0 < b) (hb' : b < 1000000) : Ev C A env ρ H (.BinOp l .FloorDiv r pos) (.int (a.fdiv b)) :=
  Ev.bin h1 h2 fun x y e e' => by
    obtain ⟨t, rfl⟩ := ab_int e; obtain ⟨u, rfl⟩ := ab_int e'
    exact fun s hs => floordiv_int (by lia) ⟨ρ, H, hs, .toks, rfl, rfl, rfl⟩ (Or.inl (PyProof.noPylong_small (by omega)))
theorem Ev.neg {x : Expr} {pos : Pos} {a : Int} (h1 : Ev C A env ρ H x (.int a)) : Ev C A env ρ H (.UnaryOp .USub x pos) (.int (-a)) :=
  W.UnaryOp (h1.then fun y e => by
    obtain ⟨t, rfl⟩ := ab_int e
    exact fun s hs => neg_int ⟨ρ, H, hs, .toks, rfl, rfl, rfl⟩)

/-! comparisons of ints -/
noncomputable def icmp : CmpOp → Int → Int → Option Bool
  | .Lt, a, b => some (decide (a < b))
  | .LtE, a, b => some (decide (a ≤ b))
  | .Gt, a, b => some (decide (b < a))
  | .GtE, a, b => some (decide (b ≤ a))
  | .Eq, a, b => some (a == b)
  | .NotEq, a, b => some (a != b)
  | _, _, _ => none

theorem W.icmp {L : Addr} {op : CmpOp} {a b : Int} {c : Bool} {x y : Value} {Q : Value → Lo → AH → Prop} (hx : ab x = .int a) (hy : ab y = .int b) (hc : icmp op a b = some c) (h : Q (.bool c) ρ H) : W C A L (compareOp op x y) ρ H Q := by
  obtain ⟨t, rfl⟩ := ab_int hx; obtain ⟨u, rfl⟩ := ab_int hy
  intro s hs
  have k : Post C L H s Q (Value.bool c) s := ⟨ρ, H, hs, .refl .., h⟩
  cases op <;> simp only [Mine.icmp] at hc <;> cases hc
  · exact eq_int k
  · exact ne_int k
  · exact lt_int k
  · exact le_int k
  · exact gt_int k
  · exact ge_int k
theorem Ev.icmp {l r : Expr} {op : CmpOp} {pos : Pos} {a b : Int} {c : Bool} (h1 : Ev C A env ρ H l (.int a)) (h2 : Ev C A env ρ H r (.int b)) (hc : Mine.icmp op a b = some c) (hm : behindInMarks op r = false := by with_unfolding_all rfl) :
    Ev C A env ρ H (.Compare l [op] [r] pos) (.bool c) :=
  W.Compare1 hm (W.mono h1 (by rintro x _ _ ⟨rfl, rfl, e⟩; exact h2.then fun y e' => W.icmp e e' hc ⟨rfl, rfl, rfl⟩))

theorem W.isTrue_Compare1 {l r : Expr} {op : CmpOp} {pos : Pos} {whole : Sem Value} {Q : Bool → Lo → AH → Prop} {L : Addr} (hm : behindInMarks op r = false)
    (h : W C A L (eval l env) ρ H (fun a ρ1 H1 => W C A L (eval r env) ρ1 H1 (fun b ρ2 H2 => W C A L (compareOp op a b) ρ2 H2 (fun c ρ3 H3 => W C A L (truthy c) ρ3 H3 Q)))) :
    W C A L (isTrue (.Compare l [op] [r] pos) env whole) ρ H Q := fun s hs => by
  refine wpAny_isTrue_Compare1 ?_ hm
  exact wpAny_mono (h s hs) (fun a s1 ⟨ρ1, H1, x1, y1, z1⟩ => z1.at3 x1 y1) fun _ _ e => e
theorem W.truthy_bool {L : Addr} {b : Bool} {Q : Bool → Lo → AH → Prop} (h : Q b ρ H) : W C A L (truthy (.bool b)) ρ H Q := fun s hs => wpAny_truthy_bool ⟨ρ, H, hs, .refl .., h⟩
theorem EvT.icmp {l r : Expr} {op : CmpOp} {pos : Pos} {a b : Int} {c : Bool} (h1 : Ev C A env ρ H l (.int a)) (h2 : Ev C A env ρ H r (.int b)) (hc : Mine.icmp op a b = some c) (hm : behindInMarks op r = false := by with_unfolding_all rfl) :
    EvT C A env ρ H (.Compare l [op] [r] pos) c :=
  W.isTrue_Compare1 hm (W.mono h1 (by rintro x _ _ ⟨rfl, rfl, e⟩; exact h2.then fun y e' => W.icmp e e' hc (W.truthy_bool ⟨rfl, rfl, rfl⟩)))

/-! is None -/
theorem beq_none {x : Value} {a : V} (h : ab x = a) : (x == Value.none) = decide (a = .none) := by
  subst h
  cases x <;> simp [ab]
theorem EvT.isNone {l : Expr} {k : Nat} {p pos : Pos} {a : V} (h1 : Ev C A env ρ H l a) : EvT C A env ρ H (.Compare l [.Is] [.Constant .none k p] pos) (decide (a = .none)) :=
  W.isTrue_Compare1 rfl (W.mono h1 (by
    rintro x _ _ ⟨rfl, rfl, e⟩
    refine Ev.none.then fun y e' => ?_
    rw [ab_none e']
    intro s hs
    refine is_none_gen ⟨_, _, hs, .refl .., ?_⟩
    rw [beq_none e]
    exact W.truthy_bool ⟨rfl, rfl, rfl⟩))

/-! truth -/
noncomputable def truth (H : AH) : V → Option Bool
  | .none => some false
  | .bool b => some b
  | .int i => some (i != 0)
  | .str x => some (decide (x.length ≠ 0))
  | .ref a => match H a with
    | some (.list vs) => some (!vs.isEmpty)
    | some (.scr vs) => some (!vs.isEmpty)
    | some (.tup vs) => some (!vs.isEmpty)
    | _ => none
  | _ => none

theorem W.truthy {L : Addr} {x : Value} {b : Bool} {Q : Bool → Lo → AH → Prop} (hb : truth H (ab x) = some b) (hx : ∀ y t, x = .str y t → y.length ≤ sizeLine) (h : Q b ρ H) : W C A L (PySem.truthy x) ρ H Q := fun s hs => by
  have hsl : (sizeLine : Int) < 2 ^ 63 := by decide
  cases x with
  | none => cases hb; exact truthy_none ⟨ρ, H, hs, .refl .., h⟩
  | bool c => cases hb; exact wpAny_truthy_bool ⟨ρ, H, hs, .refl .., h⟩
  | int i t => cases hb; exact truthy_int ⟨ρ, H, hs, .refl .., h⟩
  | str y t =>
    cases hb
    have := hx y t rfl
    refine P.truthy_str (by lia) ⟨ρ, H, hs, .toks, ?_⟩
    have e : ((y.length : Int) != 0) = decide (y.length ≠ 0) := by
      by_cases q : y.length = 0 <;> simp [q]
    rw [e]; exact h
  | ref a =>
    simp only [ab, truth] at hb
    split at hb
    · rename_i vs e; cases hb
      obtain ⟨xs, h1, h2, h3⟩ := hs.list e (vs := vs) rfl
      refine wpAny_truthy_list h1 (by rw [arr_size h2]; lia) ⟨ρ, H, hs, .toks, ?_⟩
      have e : xs.isEmpty = vs.isEmpty := by subst h2; obtain ⟨l⟩ := xs; cases l <;> simp
      rw [e]; exact h
    · rename_i vs e; cases hb
      obtain ⟨xs, h1, h2, h3⟩ := hs.list e (vs := vs) rfl
      refine wpAny_truthy_list h1 (by rw [arr_size h2]; lia) ⟨ρ, H, hs, .toks, ?_⟩
      have e : xs.isEmpty = vs.isEmpty := by subst h2; obtain ⟨l⟩ := xs; cases l <;> simp
      rw [e]; exact h
    · rename_i vs e; cases hb
      obtain ⟨xs, h1, h2, h3⟩ := hs.tup e
      refine truthy_tuple h1 (by rw [arr_size h2]; lia) ⟨ρ, H, hs, .toks, ?_⟩
      have e : xs.isEmpty = vs.isEmpty := by subst h2; obtain ⟨l⟩ := xs; cases l <;> simp
      rw [e]; exact h
    · cases hb
  | _ => cases hb

theorem EvT.of {e : Expr} {v : V} {b : Bool} (h : Ev C A env ρ H e v) (hb : truth H v = some b) (hs : ∀ x, v = .str x → x.length ≤ sizeLine)
    (he : isTrue e env (eval e env) = (do let v ← eval e env; standAt e.pos; holding [v] (PySem.truthy v)) := by rfl) : EvT C A env ρ H e b := by
  unfold EvT
  rw [he]
  exact W.bind (h.then fun x ex => W.bind (W.standAt (W.holding (W.truthy (by rw [ex]; exact hb) (fun y t ey => hs y (by rw [← ex, ey]; rfl)) ⟨rfl, rfl, rfl⟩))))
theorem EvT.not {x : Expr} {pos : Pos} {b : Bool} (h : EvT C A env ρ H x b) : EvT C A env ρ H (.UnaryOp .Not x pos) (!b) := fun s hs =>
  wpAny_isTrue_Not (wpAny_mono (h s hs) (fun c s' ⟨ρ', H', x', y', e1, e2, e3⟩ => ⟨ρ', H', x', y', e1, e2, by rw [e3]⟩) fun _ _ e => e)

noncomputable def AllT (C : Cx) (A : Around) (env : Env) (ρ : Lo) (H : AH) (op : BoolOp) (es : List Expr) (b : Bool) : Prop :=
  W C A env.locals (allTrue op es env) ρ H (fun x ρ' H' => ρ' = ρ ∧ H' = H ∧ x = b)
theorem EvT.boolop {op : BoolOp} {es : List Expr} {pos : Pos} {b : Bool} (h : AllT C A env ρ H op es b) : EvT C A env ρ H (.BoolOp op es pos) b := fun s hs => wpAny_isTrue_BoolOp (h s hs)
theorem AllT.and_nil : AllT C A env ρ H .And [] true := fun s hs => wpAny_allTrue_And_nil ⟨ρ, H, hs, .refl .., rfl, rfl, rfl⟩
theorem AllT.or_nil : AllT C A env ρ H .Or [] false := fun s hs => wpAny_allTrue_Or_nil ⟨ρ, H, hs, .refl .., rfl, rfl, rfl⟩
theorem AllT.and_cons {e : Expr} {es : List Expr} {b c : Bool} (h : EvT C A env ρ H e b) (h2 : b = true → AllT C A env ρ H .And es c) : AllT C A env ρ H .And (e :: es) (b && c) := fun s hs =>
  wpAny_allTrue_And_cons (wpAny_mono (h s hs) (fun x s1 ⟨ρ1, H1, x1, y1, e1, e2, e3⟩ => by
    subst e1 e2 e3
    cases x with
    | true => exact (h2 rfl).at x1 y1
    | false => exact ⟨_, _, x1, y1, rfl, rfl, rfl⟩) fun _ _ e => e)
theorem AllT.or_cons {e : Expr} {es : List Expr} {b c : Bool} (h : EvT C A env ρ H e b) (h2 : b = false → AllT C A env ρ H .Or es c) : AllT C A env ρ H .Or (e :: es) (b || c) := fun s hs =>
  wpAny_allTrue_Or_cons (wpAny_mono (h s hs) (fun x s1 ⟨ρ1, H1, x1, y1, e1, e2, e3⟩ => by
    subst e1 e2 e3
    cases x with
    | false => exact (h2 rfl).at x1 y1
    | true => exact ⟨_, _, x1, y1, rfl, rfl, rfl⟩) fun _ _ e => e)

theorem Ev.ifexp {t b o : Expr} {pos : Pos} {c : Bool} {v : V} (h : EvT C A env ρ H t c) (h1 : c = true → Ev C A env ρ H b v) (h2 : c = false → Ev C A env ρ H o v) : Ev C A env ρ H (.IfExp t b o pos) v := fun s hs =>
  wpAny_IfExp (wpAny_mono (h s hs) (fun x s1 ⟨ρ1, H1, x1, y1, e1, e2, e3⟩ => by
    subst e1 e2 e3
    cases x with
    | true => exact (h1 rfl).at x1 y1
    | false => exact (h2 rfl).at x1 y1) fun _ _ e => e)

/-! items -/
theorem Ev.item {o i : Expr} {pos : Pos} {a : Addr} {ob : O} {vs : List V} {k : Int} {v : V} (h1 : Ev C A env ρ H o (.ref a)) (h2 : Ev C A env ρ H i (.int k)) (hH : H a = some ob) (hl : lst ob = some vs) (h0 : 0 ≤ k) (hx : vs[k.toNat]? = some v)
    (hs : ∀ t, subscripted i false (.ref a) (.int k t) = operate [.ref a, .int k t] (getItem (.ref a) (.int k t)) := by intro _; with_unfolding_all rfl) : Ev C A env ρ H (.Subscript o i pos) v :=
  W.Subscript (W.mono h1 (by
    rintro x _ _ ⟨rfl, rfl, e⟩
    refine h2.then fun y e' => ?_
    cases ab_ref e
    obtain ⟨t, rfl⟩ := ab_int e'
    intro s hst
    obtain ⟨xs, q1, q2, q3⟩ := hst.list hH hl
    obtain ⟨y, y1, y2⟩ := arr_get q2 hx
    have hlt : k.toNat < vs.length := (List.getElem?_eq_some_iff.mp hx).1
    have hsl : (sizeLine : Int) < 2 ^ 63 := by decide
    exact tail_any q1.typeIs slot_list_getitem.lookup (wpAny_getItem_list q1 h0 (by lia) y1 ⟨_, _, hst, .refl .., rfl, rfl, y2⟩) (hs t)))
end
end Mine

namespace Mine
open PySem PySem.W PyProof.Rows

inductive Fl where
  | next | brk | cont | ret (v : V)
noncomputable def abF : Flow → Fl
  | .next => .next
  | .brk => .brk
  | .cont => .cont
  | .ret v => .ret (ab v)

noncomputable def WE (C : Cx) (A : Around) (env : Env) (e : Expr) (ρ : Lo) (H : AH) (Q : V → AH → Prop) : Prop :=
  W C A env.locals (eval e env) ρ H (fun v ρ' H' => ρ' = ρ ∧ Q (ab v) H')
noncomputable def WT (C : Cx) (A : Around) (env : Env) (e : Expr) (ρ : Lo) (H : AH) (Q : Bool → AH → Prop) : Prop :=
  W C A env.locals (isTrue e env (eval e env)) ρ H (fun b ρ' H' => ρ' = ρ ∧ Q b H')
noncomputable def WS (C : Cx) (A : Around) (env : Env) (ss : List Stmt) (ρ : Lo) (H : AH) (Q : Fl → Lo → AH → Prop) : Prop :=
  W C A env.locals (execs ss env) ρ H (fun f ρ' H' => Q (abF f) ρ' H')
noncomputable def W1 (C : Cx) (A : Around) (env : Env) (st : Stmt) (ρ : Lo) (H : AH) (Q : Fl → Lo → AH → Prop) : Prop :=
  W C A env.locals (exec st env) ρ H (fun f ρ' H' => Q (abF f) ρ' H')
noncomputable def WCall (C : Cx) (A : Around) (f : V) (args : List V) (kw : List (Str × V)) (H : AH) (Q : V → AH → Prop) : Prop :=
  ∀ L ρ (fv : Value) (vals : List Value) (kvs : List (Str × Value)), ab fv = f → vals.map ab = args → kvs.map (fun p => (p.1, ab p.2)) = kw →
    W C A L (call fv vals kvs) ρ H (fun v ρ' H' => ρ' = ρ ∧ Q (ab v) H')
theorem WCall.mono {C : Cx} {A : Around} {f : V} {args : List V} {kw : List (Str × V)} {H : AH} {Q Q' : V → AH → Prop} (h : WCall C A f args kw H Q) (hq : ∀ v H', Q v H' → Q' v H') : WCall C A f args kw H Q' :=
  fun L ρ fv vals kvs a b c => W.mono (h L ρ fv vals kvs a b c) fun _ _ _ q => ⟨q.1, hq _ _ q.2⟩

section
variable {C : Cx} {A : Around} {env : Env} {ρ : Lo} {H : AH}

theorem WE.of {e : Expr} {v : V} {Q : V → AH → Prop} (h : Ev C A env ρ H e v) (q : Q v H) : WE C A env e ρ H Q := W.mono h (by rintro x _ _ ⟨rfl, rfl, rfl⟩; exact ⟨rfl, q⟩)
theorem WE.mono {e : Expr} {Q Q' : V → AH → Prop} (h : WE C A env e ρ H Q) (hq : ∀ v H', Q v H' → Q' v H') : WE C A env e ρ H Q' := W.mono h fun _ _ _ q => ⟨q.1, hq _ _ q.2⟩
theorem WE.ev {e : Expr} {v : V} (h : WE C A env e ρ H (fun v' H' => v' = v ∧ H' = H)) : Ev C A env ρ H e v := W.mono h (by rintro x _ _ ⟨rfl, rfl, rfl⟩; exact ⟨rfl, rfl, rfl⟩)
theorem WT.of {e : Expr} {b : Bool} {Q : Bool → AH → Prop} (h : EvT C A env ρ H e b) (q : Q b H) : WT C A env e ρ H Q := W.mono h (by rintro x _ _ ⟨rfl, rfl, rfl⟩; exact ⟨rfl, q⟩)
theorem WE.then {β : Type} {e : Expr} {f : Value → Sem β} {Q : β → Lo → AH → Prop} (h : WE C A env e ρ H (fun v H1 => ∀ x, ab x = v → W C A env.locals (f x) ρ H1 Q)) :
    W C A env.locals (eval e env) ρ H (fun x ρ1 H1 => W C A env.locals (f x) ρ1 H1 Q) := W.mono h (by rintro x _ _ ⟨rfl, q⟩; exact q x rfl)
theorem W1.mono {ss : Stmt} {Q Q' : Fl → Lo → AH → Prop} (h : W1 C A env ss ρ H Q) (hq : ∀ f ρ' H', Q f ρ' H' → Q' f ρ' H') : W1 C A env ss ρ H Q' := W.mono h fun _ _ _ q => hq _ _ _ q

theorem WS.nil {Q : Fl → Lo → AH → Prop} (h : Q .next ρ H) : WS C A env [] ρ H Q := fun s hs => wpAny_execs_nil ⟨ρ, H, hs, .refl .., h⟩
theorem WS.cons {st : Stmt} {rest : List Stmt} {Q : Fl → Lo → AH → Prop} (h : W1 C A env st ρ H (fun f ρ1 H1 => match f with | .next => WS C A env rest ρ1 H1 Q | f => Q f ρ1 H1)) : WS C A env (st :: rest) ρ H Q := fun s hs =>
  wpAny_execs_cons (wpAny_mono (h s hs) (fun f s' ⟨ρ', H', x, y, z⟩ => by
    cases f with
    | next => exact W.at z x y
    | brk => exact ⟨ρ', H', x, y, z⟩
    | cont => exact ⟨ρ', H', x, y, z⟩
    | ret v => exact ⟨ρ', H', x, y, z⟩) fun _ _ e => e)
/-- a statement that goes on -/
theorem WS.seq {st : Stmt} {rest : List Stmt} {Q : Fl → Lo → AH → Prop} (h : W1 C A env st ρ H (fun f ρ1 H1 => f = .next ∧ WS C A env rest ρ1 H1 Q)) : WS C A env (st :: rest) ρ H Q :=
  WS.cons (W1.mono h fun f ρ' H' q => by obtain ⟨rfl, q⟩ := q; exact q)

theorem W1.ret {e : Expr} {pos : Pos} {Q : Fl → Lo → AH → Prop} (h : WE C A env e ρ H (fun v H1 => Q (.ret v) ρ H1)) : W1 C A env (.Return (some e) pos) ρ H Q := fun s hs =>
  wpAny_Return_some (wpAny_mono (h s hs) (fun v s' ⟨ρ', H', x, y, z⟩ => ⟨ρ', H', x, y, by rw [z.1]; exact z.2⟩) fun _ _ e => e)
theorem W1.if {t : Expr} {b o : List Stmt} {pos : Pos} {Q : Fl → Lo → AH → Prop} (h : WT C A env t ρ H (fun c H1 => (c = true → WS C A env b ρ H1 Q) ∧ (c = false → WS C A env o ρ H1 Q))) : W1 C A env (.If t b o pos) ρ H Q := fun s hs =>
  wpAny_If (wpAny_mono (h s hs) (fun c s' ⟨ρ', H', x, y, z1, z2⟩ => by
    subst z1
    cases c with
    | true => exact W.at (z2.1 rfl) x y
    | false => exact W.at (z2.2 rfl) x y) fun _ _ e => e)

/-! ## stores -/
theorem W.storeLocal {x : Str} {v : Value} {Q : Unit → Lo → AH → Prop} (F : Fx C A env) (hl : env.kindOf x = some .local) (h : Q () (ρ.set x (ab v)) H) : W C A env.locals (storeName env x v) ρ H Q := fun s hs => by
  obtain ⟨m, hn, hm⟩ := hs.loc
  exact wpAny_storeName_local hl hn (fun h' hn' hsb => ⟨_, H, hs.store hm hn' hsb, .store hn' hsb, h⟩) (by simp [F.kind])
theorem W.storeCell {x : Str} {v : Value} {c : Addr} {o : Option V} {Q : Unit → Lo → AH → Prop} (F : Fx C A env) (hl : env.kindOf x = some .cell) (hc : env.cells.lookup x = some c) (hH : H c = some (.cell o)) (h : Q () ρ (H.set c (.cell (some (ab v))))) :
    W C A env.locals (storeName env x v) ρ H Q := fun s hs => by
  obtain ⟨u, h1, h2⟩ := hs.cell hH
  exact wpAny_storeName_cell F.kind hl hc h1 (fun h' hc' hsb => by
    obtain ⟨oc, e1, e2⟩ := hc'
    exact ⟨_, _, hs.upd (o := .cell (some (ab v))) hH rfl e1 ⟨some v, e2, rfl⟩ (fun b o hb e => hsb.extBut b o hb e), .upd hH e1 (fun b o hb e => hsb.extBut b o hb e), h⟩)

/-- what is drawn: a value, or a tuple of values -/
inductive Dv where
  | one (v : V) | tup (vs : List V)
noncomputable def Dv.Is (h : Heap) : Dv → Value → Prop
  | .one v, x => ab x = v
  | .tup vs, x => ∃ T xs, x = .ref T ∧ IsTup h T xs ∧ xs.toList.map ab = vs

noncomputable def Asg (C : Cx) (A : Around) (env : Env) (tgt : Expr) (d : Dv) (ρ : Lo) (H : AH) (Q : Lo → AH → Prop) : Prop :=
  ∀ s x, St C env.locals ρ H s.heap → d.Is s.heap x → wpAny C.M A (assign tgt env x) (Post C env.locals H s (fun _ => Q)) False2 s
noncomputable def AsgL (C : Cx) (A : Around) (env : Env) (ts : List Expr) (vs : List V) (ρ : Lo) (H : AH) (Q : Lo → AH → Prop) : Prop :=
  match ts, vs with
  | [], [] => Q ρ H
  | t :: ts, v :: vs => Asg C A env t (.one v) ρ H (fun ρ1 H1 => AsgL C A env ts vs ρ1 H1 Q)
  | _, _ => False

theorem Asg.mono {tgt : Expr} {d : Dv} {Q Q' : Lo → AH → Prop} (h : Asg C A env tgt d ρ H Q) (hq : ∀ ρ' H', Q ρ' H' → Q' ρ' H') : Asg C A env tgt d ρ H Q' := fun s x hs hd =>
  wpAny_mono (h s x hs hd) (fun _ s' ⟨ρ', H', x, y, z⟩ => ⟨ρ', H', x, y, hq _ _ z⟩) fun _ _ e => e
theorem Asg.local {x : Str} {pos : Pos} {v : V} {Q : Lo → AH → Prop} (F : Fx C A env) (hl : env.kindOf x = some .local) (h : Q (ρ.set x v) H) : Asg C A env (.Name x pos) (.one v) ρ H Q := fun s y hs hd => by
  have e : ab y = v := hd
  subst e
  exact wpAny_assign_Name (W.storeLocal F hl h s hs)
theorem Asg.cell {x : Str} {pos : Pos} {v : V} {c : Addr} {o : Option V} {Q : Lo → AH → Prop} (F : Fx C A env) (hl : env.kindOf x = some .cell) (hc : env.cells.lookup x = some c) (hH : H c = some (.cell o)) (h : Q ρ (H.set c (.cell (some v)))) : Asg C A env (.Name x pos) (.one v) ρ H Q := fun s y hs hd => by
  have e : ab y = v := hd
  subst e
  exact wpAny_assign_Name (W.storeCell F hl hc hH h s hs)
noncomputable def noStar : List Expr → Bool
  | [] => true
  | .Starred _ _ :: _ => false
  | _ :: r => noStar r
theorem assignEach_plain : ∀ {ts : List Expr}, noStar ts = true → assignEach ts env = ts.map (fun t => (false, assign t env))
  | [], _ => rfl
  | t :: r, h => by
    have hr : noStar r = true := by
      unfold noStar at h; split at h <;> simp_all
    have e : assignEach (t :: r) env = (false, assign t env) :: assignEach r env := by
      cases t <;> first | rfl | (simp [noStar] at h)
    rw [e, assignEach_plain hr]; rfl
theorem Asg.inOrder : ∀ {ts : List Expr} {vs : List V} {ρ : Lo} {H : AH} {Q : Lo → AH → Prop} (xs : List Value), xs.map ab = vs → AsgL C A env ts vs ρ H Q →
    W C A env.locals (assignInOrder (ts.map fun t => assign t env) xs) ρ H (fun _ => Q)
  | [], [], _, _, _, [], _, h => W.pure h
  | [], _ :: _, _, _, _, _, _, h => h.elim
  | _ :: _, [], _, _, _, _, _, h => h.elim
  | t :: ts, v :: vs, ρ, H, Q, x :: xs, e, h => by
    simp only [List.map_cons, List.cons.injEq] at e
    show W C A env.locals (holding xs (assign t env x) >>= fun _ => assignInOrder (ts.map fun t => assign t env) xs) ρ H _
    refine W.bind (W.holding (fun s hs => ?_))
    exact wpAny_mono (h s x hs e.1) (fun _ s' ⟨ρ', H', a, b, c⟩ => ⟨ρ', H', a, b, Asg.inOrder xs e.2 c⟩) fun _ _ e => e
theorem Asg.tuple {ts : List Expr} {k : Nat} {pos : Pos} {vs : List V} {Q : Lo → AH → Prop} (F : Fx C A env) (hst : noStar ts = true) (hlen : ts.length = vs.length) (h : AsgL C A env ts vs ρ H Q) : Asg C A env (.Tuple ts k pos) (.tup vs) ρ H Q := fun s x hs hd => by
  obtain ⟨T, xs, rfl, hT, e⟩ := hd
  have hsz : xs.size = vs.length := by rw [← e]; simp
  refine assign_Tuple_tuple F.hh hT (by rw [assignEach_plain hst, List.length_map, hlen, hsz]) (by rw [assignEach_plain hst]; simp) fun h' hx => ?_
  have k : ∀ b o, s.heap.get? b = some o → h'.get? b = some o := fun b o eb => hx b o (Nat.ne_of_lt (Heap.lt_size eb)) eb
  have := Asg.inOrder (C := C) (A := A) (env := env) xs.toList e h
  rw [assignEach_plain hst, List.map_map]
  exact this.at (hs.ext k) (.ext k)
end
end Mine

namespace Mine
open PySem PySem.W PyProof.Rows

section
variable {C : Cx} {A : Around} {env : Env} {ρ : Lo} {H : AH}



/-! ## assignment statements -/
theorem W1.asg {tgt e : Expr} {pos : Pos} {Q : Fl → Lo → AH → Prop} (h : WE C A env e ρ H (fun v H1 => Asg C A env tgt (.one v) ρ H1 (fun ρ2 H2 => Q .next ρ2 H2)))
    (hs : swapsWithSole [tgt] e pos.line env = pure false := by rfl) (hw : swappedStores [tgt] e env = pure none := by rfl) (hn : noStar [tgt] = true := by rfl) : W1 C A env (.Assign [tgt] e pos) ρ H Q := by
  show W C A env.locals (standAt pos >>= fun _ => swapsWithSole [tgt] e pos.line env >>= fun b => if b then (evalThenUse e env (fun v => assignAll v ((assignEach [tgt] env).map (·.2))) >>= fun _ => pure .next) else
    (eval e env >>= fun v => swappedStores [tgt] e env >>= fun sw => assignStores env v sw ((assignEach [tgt] env).map (·.2)))) ρ H _
  refine W.bind (W.standAt ?_)
  rw [hs]
  refine W.bind (W.pure ?_)
  rw [if_neg Bool.false_ne_true]
  refine W.bind (WE.then (WE.mono h fun v H1 k x ex => ?_))
  rw [hw, assignEach_plain hn]
  refine W.bind (W.pure ?_)
  show W C A env.locals (assign tgt env x >>= fun _ => pure Flow.next) ρ H1 _
  refine W.bind (fun s hs => wpAny_mono (k s x hs ex) (fun _ s' ⟨ρ', H', a, b, c⟩ => ⟨ρ', H', a, b, W.pure c⟩) fun _ _ e => e)

theorem W1.asgLocal {x : Str} {p pos : Pos} {e : Expr} {Q : Fl → Lo → AH → Prop} (F : Fx C A env) (hl : env.kindOf x = some .local) (h : WE C A env e ρ H (fun v H1 => Q .next (ρ.set x v) H1))
    (hs : swapsWithSole [.Name x p] e pos.line env = pure false := by rfl) (hw : swappedStores [.Name x p] e env = pure none := by rfl) : W1 C A env (.Assign [.Name x p] e pos) ρ H Q :=
  W1.asg (WE.mono h fun v H1 q => Asg.local F hl q) hs hw rfl


/-! ## argument lists, displays -/
noncomputable def WEs (C : Cx) (A : Around) (env : Env) : List Expr → Lo → AH → (List V → AH → Prop) → Prop
  | [], _, H, Q => Q [] H
  | e :: es, ρ, H, Q => WE C A env e ρ H (fun v H1 => WEs C A env es ρ H1 (fun vs H2 => Q (v :: vs) H2))
theorem starEach_plain : ∀ {es : List Expr}, noStar es = true → starEach es env = es.map fun e => (false, eval e env)
  | [], _ => rfl
  | t :: r, h => by
    have hr : noStar r = true := by
      unfold noStar at h; split at h <;> simp_all
    have e : starEach (t :: r) env = (false, eval t env) :: starEach r env := by
      cases t <;> first | rfl | (simp [noStar] at h)
    rw [e, starEach_plain hr]; rfl
theorem backTo_plain {pos : Pos} {es : List Expr} (h : noStar es = true) : backTo pos (starEach es env) = es.map fun e => (false, eval e env) := by
  rw [starEach_plain h]
  unfold backTo
  rw [List.map_map]
  rfl
theorem WEs.run : ∀ {es : List Expr} {ρ : Lo} {H : AH} {Q : List V → AH → Prop}, WEs C A env es ρ H Q → W C A env.locals (spliced (es.map fun e => (false, eval e env))) ρ H (fun vs ρ' H' => ρ' = ρ ∧ Q (vs.map ab) H')
  | [], ρ, H, Q, h => W.pure ⟨rfl, h⟩
  | e :: es, ρ, H, Q, h => fun s hs => PySem.Calls.spliced_cons (wpAny_mono (h s hs) (fun v s1 ⟨ρ1, H1, a1, b1, c1, d1⟩ => by
      subst c1
      exact wpAny_mono (WEs.run d1 s1 a1) (fun vs s2 ⟨ρ2, H2, a2, b2, c2, d2⟩ => ⟨ρ2, H2, a2, b1.trans b2 (fun _ _ => a2.nl), c2, d2⟩) fun _ _ e => e) fun _ _ e => e)
theorem WEs.mono : ∀ {es : List Expr} {ρ : Lo} {H : AH} {Q Q' : List V → AH → Prop}, WEs C A env es ρ H Q → (∀ vs H', Q vs H' → Q' vs H') → WEs C A env es ρ H Q'
  | [], _, _, _, _, h, k => k _ _ h
  | _ :: es, _, _, _, _, h, k => WE.mono h fun _ _ q => WEs.mono q fun _ _ r => k _ _ r
/-- all pure -/
inductive Evs (C : Cx) (A : Around) (env : Env) (ρ : Lo) (H : AH) : List Expr → List V → Prop
  | nil : Evs C A env ρ H [] []
  | cons {e : Expr} {es : List Expr} {v : V} {vs : List V} : Ev C A env ρ H e v → Evs C A env ρ H es vs → Evs C A env ρ H (e :: es) (v :: vs)
theorem WEs.of {es : List Expr} {vs : List V} {Q : List V → AH → Prop} (h : Evs C A env ρ H es vs) (q : Q vs H) : WEs C A env es ρ H Q := by
  induction h generalizing Q with
  | nil => exact q
  | cons h1 _ ih => exact WE.of h1 (ih q)

theorem WE.list {es : List Expr} {pos : Pos} {Q : V → AH → Prop} (hn : noStar es = true) (hlen : es.length ≤ 1000) (h : WEs C A env es ρ H (fun vs H1 => ∀ a, H1 a = none → Q (.ref a) (H1.set a (.list vs)))) : WE C A env (.List es pos) ρ H Q := fun s hs => by
  refine wpAny_List ?_
  rw [backTo_plain hn]
  have hl : ∀ {es : List Expr} {ρ : Lo} {H : AH} {Q : List V → AH → Prop}, WEs C A env es ρ H Q → WEs C A env es ρ H (fun vs H' => vs.length = es.length ∧ Q vs H') := by
    intro es
    induction es with
    | nil => intro ρ H Q h; exact ⟨rfl, h⟩
    | cons e es ih => intro ρ H Q h; exact WE.mono h fun v H1 q => WEs.mono (ih q) fun vs H2 r => ⟨by simp [r.1], r.2⟩
  refine wpAny_mono (WEs.run (hl h) s hs) (fun vs s1 ⟨ρ1, H1, a1, b1, c1, d1⟩ => ?_) fun _ _ e => e
  subst c1
  obtain ⟨d0, d1⟩ := d1
  rw [List.length_map] at d0
  have hz : vs.length ≤ sizeLine := by rw [d0]; exact Nat.le_trans hlen (by decide)
  have ha := get?_size_none s1.heap
  refine ⟨hz, _, _, a1.alloc (o := .list (vs.map ab)) ha (Heap.get?_push_size _ rfl) ⟨vs.toArray, 0, rfl, rfl, by simpa using hz⟩ (fun b o e => Heap.get?_push_of_some _ e), ?_, rfl, d1 _ (a1.fresh ha).1⟩
  exact b1.trans (Step.alloc (tk := s1.toks) ha (fun b o e => Heap.get?_push_of_some _ e)) (fun _ _ => by rw [AH.set_ne _ _ (Ne.symm (a1.fresh ha).2.2)]; exact a1.nl)


/-! a tuple display unpacked at once: the tuple is not tracked -/
theorem WEs.hidden {es : List Expr} {k : Nat} {pos : Pos} {s : Shared} {R : List V → AH → Prop} (hn : noStar es = true) (hlen : es.length ≤ 1000) (hs : St C env.locals ρ H s.heap) (h : WEs C A env es ρ H R) {Q : Value → Shared → Prop}
    (hq : ∀ T (xs : Array Value) s1 H1, IsTup s1.heap T xs → St C env.locals ρ H1 s1.heap → Step env.locals H H1 s s1 → xs.size = es.length → R (xs.toList.map ab) H1 → Q (.ref T) s1) :
    wpAny C.M A (eval (.Tuple es k pos) env) Q False2 s := by
  refine wpAny_Tuple ?_
  rw [backTo_plain hn]
  have hl : ∀ {es : List Expr} {ρ : Lo} {H : AH} {Q : List V → AH → Prop}, WEs C A env es ρ H Q → WEs C A env es ρ H (fun vs H' => vs.length = es.length ∧ Q vs H') := by
    intro es
    induction es with
    | nil => intro ρ H Q h; exact ⟨rfl, h⟩
    | cons e es ih => intro ρ H Q h; exact WE.mono h fun v H1 q => WEs.mono (ih q) fun vs H2 r => ⟨by simp [r.1], r.2⟩
  refine wpAny_mono (WEs.run (hl h) s hs) (fun vs s1 ⟨ρ1, H1, a1, b1, c1, d1⟩ => ?_) fun _ _ e => e
  subst c1
  obtain ⟨d0, d1⟩ := d1
  rw [List.length_map] at d0
  have hz : vs.length ≤ sizeLine := by rw [d0]; exact Nat.le_trans hlen (by decide)
  have k' : ∀ b o, s1.heap.get? b = some o → (s1.heap.push { cls := .type "tuple", data := .seq vs.toArray }).get? b = some o := fun b o e => Heap.get?_push_of_some _ e
  refine ⟨hz, hq _ vs.toArray _ H1 ⟨_, Heap.get?_push_size _ rfl, rfl, _, rfl⟩ (a1.ext k') (b1.trans (Step.ext (tk := s1.toks) k') (fun _ _ => a1.nl)) (by simp [d0]) d1⟩

theorem W1.asgTup {ts es : List Expr} {k k' : Nat} {p p' pos : Pos} {Q : Fl → Lo → AH → Prop} (F : Fx C A env) (h : WEs C A env es ρ H (fun vs H1 => AsgL C A env ts vs ρ H1 (fun ρ2 H2 => Q .next ρ2 H2)))
    (hs : swapsWithSole [.Tuple ts k p] (.Tuple es k' p') pos.line env = pure false := by rfl) (hw : swappedStores [.Tuple ts k p] (.Tuple es k' p') env = pure none := by rfl) (hn : noStar es = true := by rfl) (hnt : noStar ts = true := by rfl) (hlen : es.length = ts.length := by rfl) (hl : es.length ≤ 1000 := by decide) :
    W1 C A env (.Assign [.Tuple ts k p] (.Tuple es k' p') pos) ρ H Q := fun s hs' => by
  refine Assign_Tuple ?_ hs hw
  refine WEs.hidden hn hl hs' h fun T xs s1 H1 hT a1 b1 hz r => ?_
  refine wpAny_mono (Asg.tuple F hnt (by simp [← hlen, ← hz]) r s1 (.ref T) a1 ⟨T, xs, rfl, hT, rfl⟩) (fun _ s2 ⟨ρ2, H2, a2, b2, c2⟩ => ⟨ρ2, H2, a2, b1.trans b2 (fun _ _ => a2.nl), c2⟩) fun _ _ e => e


/-! ## expression statements -/
theorem W1.expr {e : Expr} {pos : Pos} {Q : Fl → Lo → AH → Prop} (F : Fx C A env) (h : WE C A env e ρ H (fun v H1 => (∀ a, v ≠ .ref a) ∧ Q .next ρ H1)) (hs : swapsWith e none pos.line env = pure false := by rfl) : W1 C A env (.Expr e pos) ρ H Q := fun s hs' => by
  refine wpAny_Expr (wpAny_mono (h s hs') (fun v s1 ⟨ρ1, H1, a1, b1, c1, d1, d2⟩ => ?_) fun _ _ e => e) (by simp [interactive, F.kind]) hs
  subst c1
  cases v <;> first | exact ⟨ρ1, H1, a1, b1, d2⟩ | exact absurd rfl (d1 _)
end
end Mine

namespace Mine
open PySem PySem.W PyProof.Rows

section
variable {C : Cx} {A : Around} {env : Env} {ρ : Lo} {H : AH}

/-! ## calls by a name -/
noncomputable def FnAt (C : Cx) (H : AH) (a : Addr) (o : Obj) (fd : FuncData) : Prop := o.data = .func fd ∧ (C.base.get? a = some o ∨ (H a = some (.fn fd) ∧ o = { cls := .type "function", data := .func fd }))
theorem FnAt.obj {a : Addr} {o : Obj} {fd : FuncData} {L : Addr} {h : Heap} (f : FnAt C H a o fd) (hs : St C L ρ H h) : h.get? a = some o ∧ o.data = .func fd := by
  obtain ⟨e, e1 | ⟨e1, rfl⟩⟩ := f
  · exact ⟨hs.keep _ _ e1, e⟩
  · exact ⟨hs.func e1, e⟩

noncomputable def WKs (C : Cx) (A : Around) (env : Env) : List Keyword → Lo → AH → (List (Str × V) → AH → Prop) → Prop
  | [], _, H, Q => Q [] H
  | ⟨some n, e, _⟩ :: ks, ρ, H, Q => WE C A env e ρ H (fun v H1 => WKs C A env ks ρ H1 (fun vs H2 => Q ((n, v) :: vs) H2))
  | ⟨none, _, _⟩ :: _, _, _, _ => False
theorem WKs.nil {Q : List (Str × V) → AH → Prop} (h : Q [] H) : WKs C A env [] ρ H Q := h
theorem WKs.run {pos : Pos} : ∀ {ks : List Keyword} {ρ : Lo} {H : AH} {Q : List (Str × V) → AH → Prop}, WKs C A env ks ρ H Q →
    W C A env.locals (evalAll ((backToKw pos (keywordEach ks env)).map (·.2))) ρ H (fun vs ρ' H' => ρ' = ρ ∧ Q ((((backToKw pos (keywordEach ks env)).filterMap (·.1)).zip vs).map fun p => (p.1, ab p.2)) H')
  | [], ρ, H, Q, h => W.pure ⟨rfl, h⟩
  | ⟨none, e, p⟩ :: ks, ρ, H, Q, h => h.elim
  | ⟨some n, e, p⟩ :: ks, ρ, H, Q, h => fun s hs => by
    show wpAny C.M A (evalAll ((do let v ← eval e env; standAt pos; pure v) :: (backToKw pos (keywordEach ks env)).map (·.2))) _ _ s
    refine wpAny_evalAll_cons (wpAny_bind (wpAny_mono (h s hs) (fun v s1 ⟨ρ1, H1, a1, b1, c1, d1⟩ => ?_) fun _ _ e => e))
    subst c1
    refine wpAny_bind (wpAny_standAt (wpAny_pure ?_))
    exact wpAny_mono (WKs.run (pos := pos) d1 s1 a1) (fun vs s2 ⟨ρ2, H2, a2, b2, c2, d2⟩ => ⟨ρ2, H2, a2, b1.trans b2 (fun _ _ => a2.nl), c2, d2⟩) fun _ _ e => e
theorem WKs.all {pos : Pos} : ∀ {ks : List Keyword} {ρ : Lo} {H : AH} {Q : List (Str × V) → AH → Prop}, ks.all (·.arg.isSome) = true → (backToKw pos (keywordEach ks env)).all (·.1.isSome) = true
  | [], _, _, _, _ => rfl
  | ⟨none, e, p⟩ :: ks, _, _, _, h => by simp at h
  | ⟨some n, e, p⟩ :: ks, ρ, H, Q, h => by
    have := WKs.all (pos := pos) (ks := ks) (ρ := ρ) (H := H) (Q := Q) (by simpa using h)
    simpa [backToKw, keywordEach] using this

theorem evalArgs_run {f : Value} {pos : Pos} {es : List Expr} {ks : List Keyword} {Q : List V → List (Str × V) → AH → Prop} (hn : noStar es = true) (hk : ks.all (·.arg.isSome) = true) (h : WEs C A env es ρ H (fun vs H1 => WKs C A env ks ρ H1 (fun kv H2 => Q vs kv H2))) :
    W C A env.locals (evalArgs f true (backTo pos (starEach es env)) (backToKw pos (keywordEach ks env))) ρ H (fun a ρ' H' => ρ' = ρ ∧ Q (a.pos.map ab) (a.kw.map fun p => (p.1, ab p.2)) H') := fun s hs => by
  have hall := WKs.all (env := env) (pos := pos) (ks := ks) (ρ := ρ) (H := H) (Q := fun _ _ => True) hk
  rw [backTo_plain hn]
  cases es with
  | nil =>
    refine evalArgs_kw_nil hall ?_
    exact wpAny_mono (WKs.run (pos := pos) h s hs) (fun vs s2 ⟨ρ2, H2, a2, b2, c2, d2⟩ => ⟨ρ2, H2, a2, b2, c2, d2⟩) fun _ _ e => e
  | cons e es =>
    refine evalArgs_kw hall ?_
    refine wpAny_mono (WEs.run h s hs) (fun vs s1 ⟨ρ1, H1, a1, b1, c1, d1⟩ => ?_) fun _ _ e => e
    subst c1
    exact wpAny_mono (WKs.run (pos := pos) d1 s1 a1) (fun vs s2 ⟨ρ2, H2, a2, b2, c2, d2⟩ => ⟨ρ2, H2, a2, b1.trans b2 (fun _ _ => a2.nl), c2, d2⟩) fun _ _ e => e

theorem WE.callFn {id : Str} {p pos : Pos} {a : Addr} {o : Obj} {fd : FuncData} {es : List Expr} {ks : List Keyword} {Q : V → AH → Prop} (hf : Ev C A env ρ H (.Name id p) (.ref a))
    (h : WEs C A env es ρ H (fun vs H1 => WKs C A env ks ρ H1 (fun kv H2 => FnAt C H2 a o fd ∧ WCall C A (.ref a) vs kv H2 Q))) (hn : noStar es = true := by rfl) (hk : ks.all (·.arg.isSome) = true := by rfl) :
    WE C A env (.Call (.Name id p) es ks pos) ρ H Q := fun s hs => by
  refine wpAny_Call_Name_kw ?_
  refine wpAny_mono (hf s hs) (fun f s1 ⟨ρ1, H1, a1, b1, c1, c2, c3⟩ => ?_) fun _ _ e => e
  subst c1 c2
  cases ab_ref c3
  refine callWith_function_kw (o := o) (fd := fd) ?_
  refine wpAny_mono (evalArgs_run hn hk h s1 a1) (fun x s2 ⟨ρ2, H2, a2, b2, c2, hfn, d2⟩ => ⟨hfn.obj a2, ?_⟩) fun _ _ e => e
  subst c2
  exact wpAny_mono (d2 env.locals ρ2 (.ref a) x.pos x.kw rfl rfl rfl s2 a2) (fun v s3 ⟨ρ3, H3, a3, b3, c3, d3⟩ => ⟨ρ3, H3, a3, (b1.trans b2 (fun _ _ => a2.nl)).trans b3 (fun _ _ => a3.nl), c3, d3⟩) fun _ _ e => e

theorem backTo_any {pos : Pos} {es : List Expr} (h : noStar es = true) : (backTo pos (starEach es env)).any (·.1) = false := by
  rw [backTo_plain h]; induction es with
  | nil => rfl
  | cons e es ih =>
    have : noStar es = true := by unfold noStar at h; split at h <;> simp_all
    simp
theorem WE.callBi {id : Str} {p pos : Pos} {b : String} {es : List Expr} {ks : List Keyword} {Q : V → AH → Prop} (hf : Ev C A env ρ H (.Name id p) (.bi b))
    (h : WEs C A env es ρ H (fun vs H1 => WKs C A env ks ρ H1 (fun kv H2 => WCall C A (.bi b) vs kv H2 Q))) (hn : noStar es = true := by rfl) (hk : ks.all (·.arg.isSome) = true := by rfl) :
    WE C A env (.Call (.Name id p) es ks pos) ρ H Q := fun s hs => by
  refine wpAny_Call_Name_kw ?_
  refine wpAny_mono (hf s hs) (fun f s1 ⟨ρ1, H1, a1, b1, c1, c2, c3⟩ => ?_) fun _ _ e => e
  subst c1 c2
  cases ab_bi c3
  have hall := WKs.all (env := env) (pos := pos) (ks := ks) (ρ := ρ1) (H := H1) (Q := fun _ _ => True) hk
  refine callWith_builtin_kwB (backTo_any hn) ?_ ?_
  · rw [List.any_eq_false]
    intro x hx
    have := List.all_eq_true.mp hall x hx
    cases hx1 : x.1 <;> simp_all
  refine wpAny_mono (evalArgs_run hn hk h s1 a1) (fun x s2 ⟨ρ2, H2, a2, b2, c2, d2⟩ => ?_) fun _ _ e => e
  subst c2
  exact wpAny_mono (d2 env.locals ρ2 (.builtin b) x.pos x.kw rfl rfl rfl s2 a2) (fun v s3 ⟨ρ3, H3, a3, b3, c3, d3⟩ => ⟨ρ3, H3, a3, (b1.trans b2 (fun _ _ => a2.nl)).trans b3 (fun _ _ => a3.nl), c3, d3⟩) fun _ _ e => e
theorem WE.callTy {id : Str} {p pos : Pos} {b : String} {es : List Expr} {Q : V → AH → Prop} (hf : Ev C A env ρ H (.Name id p) (.ty b))
    (h : WEs C A env es ρ H (fun vs H1 => WCall C A (.ty b) vs [] H1 Q)) (hn : noStar es = true := by rfl) :
    WE C A env (.Call (.Name id p) es [] pos) ρ H Q := fun s hs => by
  refine wpAny_Call_Name_kw ?_
  refine wpAny_mono (hf s hs) (fun f s1 ⟨ρ1, H1, a1, b1, c1, c2, c3⟩ => ?_) fun _ _ e => e
  subst c1 c2
  cases ab_ty c3
  refine PySem.callWith_type (backTo_any hn) ?_
  refine wpAny_mono (evalArgs_run (ks := []) (Q := fun vs kv H2 => kv = [] ∧ WCall C A (.ty b) vs [] H2 Q) hn rfl (WEs.mono h fun vs H1 q => ⟨rfl, q⟩) s1 a1) (fun x s2 ⟨ρ2, H2, a2, b2, c2, d1, d2⟩ => ?_) fun _ _ e => e
  subst c2
  have hkw : x.kw = [] := by simpa using d1
  rw [hkw]
  exact wpAny_mono (d2 env.locals ρ2 (.type b) x.pos [] rfl rfl rfl s2 a2) (fun v s3 ⟨ρ3, H3, a3, b3, c3, d3⟩ => ⟨ρ3, H3, a3, (b1.trans b2 (fun _ _ => a2.nl)).trans b3 (fun _ _ => a3.nl), c3, d3⟩) fun _ _ e => e

theorem vals1 {vals : List Value} {a : V} (e : vals.map ab = [a]) : ∃ x, vals = [x] ∧ ab x = a := by
  cases vals with
  | nil => simp at e
  | cons x r => cases r with
    | nil => simp at e; exact ⟨x, rfl, e⟩
    | cons => simp at e
theorem vals2 {vals : List Value} {a b : V} (e : vals.map ab = [a, b]) : ∃ x y, vals = [x, y] ∧ ab x = a ∧ ab y = b := by
  cases vals with
  | nil => simp at e
  | cons x r =>
    simp only [List.map_cons, List.cons.injEq] at e
    obtain ⟨y, rfl, h⟩ := vals1 e.2
    exact ⟨x, y, rfl, e.1, h⟩
theorem vals3 {vals : List Value} {a b c : V} (e : vals.map ab = [a, b, c]) : ∃ x y z, vals = [x, y, z] ∧ ab x = a ∧ ab y = b ∧ ab z = c := by
  cases vals with
  | nil => simp at e
  | cons x r =>
    simp only [List.map_cons, List.cons.injEq] at e
    obtain ⟨y, z, rfl, h⟩ := vals2 e.2
    exact ⟨x, y, z, rfl, e.1, h⟩

/-! ## methods of lists -/
theorem WE.listMeth {o : Expr} {name : Str} {id : String} {apos pos : Pos} {es : List Expr} {Q : V → AH → Prop} (slot : Slot "list" name id) (hty : typeOf (.builtin id) = pure (.type "method_descriptor"))
    (h : WE C A env o ρ H (fun v H1 => ∃ a vs, v = .ref a ∧ H1 a = some (.list vs) ∧ WEs C A env es ρ H1 (fun ws H2 => WCall C A (.bi id) (.ref a :: ws) [] H2 Q)))
    (hbase : attributeBase o name env (eval o env) = eval o env := by rfl) (hfew : ((backTo pos (starEach es env)).all (fun x => !x.1) && (backToKw pos (keywordEach [] env)).all (fun x => x.1.isSome) && decide (es.length + ([] : List Keyword).length + (if ([] : List Keyword).isEmpty then 0 else 1) < 30)) = true := by rfl)
    (hline : (apos.endLine == pos.line) = true := by rfl) (hn : noStar es = true := by rfl) : WE C A env (.Call (.Attribute o name apos) es [] pos) ρ H Q := fun s hs => by
  refine wpAny_Call_method hbase hfew hline PySem.F.plainAttrs_list slot hty ?_
  refine wpAny_mono (h s hs) (fun v s1 ⟨ρ1, H1, a1, b1, c1, a, vs, d1, d2, d3⟩ => ?_) fun _ _ e => e
  subst c1
  cases ab_ref d1
  obtain ⟨xs, ⟨n, e1⟩, e2, e3⟩ := a1.plist d2
  refine ⟨⟨_, e1, rfl⟩, fun b hb => ⟨_, by cases hb; exact e1, rfl⟩, ?_⟩
  refine PySem.Calls.callWith_builtin (backTo_any hn) ?_
  refine wpAny_mono (evalArgs_run (ks := []) (Q := fun ws kv H2 => kv = [] ∧ WCall C A (.bi id) (.ref a :: ws) [] H2 Q) hn rfl (WEs.mono d3 fun vs H1 q => ⟨rfl, q⟩) s1 a1) (fun x s2 ⟨ρ2, H2, a2, b2, c2, d1, d2⟩ => ?_) fun _ _ e => e
  subst c2
  have hkw : x.kw = [] := by simpa using d1
  rw [hkw]
  exact wpAny_mono (d2 env.locals ρ2 (.builtin id) (.ref a :: x.pos) [] rfl rfl rfl s2 a2) (fun v s3 ⟨ρ3, H3, a3, b3, c3, d3⟩ => ⟨ρ3, H3, a3, (b1.trans b2 (fun _ _ => a2.nl)).trans b3 (fun _ _ => a3.nl), c3, d3⟩) fun _ _ e => e

theorem WCall.append {a : Addr} {vs : List V} {v : V} {Q : V → AH → Prop} (hH : H a = some (.list vs)) (hz : vs.length < sizeLine) (h : Q .none (H.set a (.list (vs ++ [v])))) : WCall C A (.bi "list.append") [.ref a, v] [] H Q := by
  intro L ρ fv vals kvs e1 e2 e3
  cases ab_bi e1
  obtain ⟨x, y, rfl, ex, ey⟩ := vals2 e2
  cases ab_ref ex
  have : kvs = [] := by simpa using e3
  subst this
  intro s hs
  obtain ⟨xs, h1, h2, h3⟩ := hs.plist hH
  refine wpAny_list_append_plain h1 (fun h' ⟨n, hp⟩ hsb => ?_) (by rw [arr_size h2]; lia)
  refine ⟨_, _, hs.upd hH rfl hp (o := .list (vs ++ [v])) ⟨_, n, rfl, by simp [h2, ey], by simp; lia⟩ (fun b o hb e => hsb.extBut b o hb e), .upd hH hp (fun b o hb e => hsb.extBut b o hb e), rfl, h⟩

/-! ## built-in functions -/
theorem WCall.len {a : Addr} {o : O} {vs : List V} {Q : V → AH → Prop} (hH : H a = some o) (hl : lst o = some vs) (h : Q (.int vs.length) H) : WCall C A (.bi "len") [.ref a] [] H Q := by
  intro L ρ fv vals kvs e1 e2 e3
  cases ab_bi e1
  obtain ⟨x, rfl, ex⟩ := vals1 e2
  cases ab_ref ex
  have : kvs = [] := by simpa using e3
  subst this
  intro s hs
  obtain ⟨xs, h1, h2, h3⟩ := hs.list hH hl
  have hsl : (sizeLine : Int) < 2 ^ 63 := by decide
  refine len_list h1 (by rw [arr_size h2]; lia) ⟨ρ, H, hs, .toks, rfl, ?_⟩
  show Q (.int xs.size) H
  rw [arr_size h2]; exact h
/-- len(e) as a pure expression -/
theorem Ev.len {e : Expr} {p pos : Pos} {a : Addr} {o : O} {vs : List V} {id : Str} (hf : Ev C A env ρ H (.Name id p) (.bi "len")) (h : Ev C A env ρ H e (.ref a)) (hH : H a = some o) (hl : lst o = some vs) (hn : noStar [e] = true := by rfl) : Ev C A env ρ H (.Call (.Name id p) [e] [] pos) (.int vs.length) :=
  WE.ev (WE.callBi hf (WEs.of (.cons h .nil) (WKs.nil (WCall.len hH hl ⟨rfl, rfl⟩))) hn)
end
end Mine

namespace Mine
open PySem PySem.W PyProof.Rows

section
variable {C : Cx} {A : Around} {env : Env} {ρ : Lo} {H : AH}

/-! ## a def called -/
noncomputable def retv : Fl → V
  | .ret v => v
  | _ => .none
noncomputable def Keep (C : Cx) (s : Shared) : Prop := ∀ b o, C.base.get? b = some o → s.heap.get? b = some o
theorem lookup_ab (x : Str) (l : List (Str × Value)) : (l.lookup x).map ab = (l.map fun p => (p.1, ab p.2)).lookup x := by
  induction l with
  | nil => rfl
  | cons p r ih =>
    obtain ⟨n, v⟩ := p
    rw [List.map_cons, List.lookup_cons, List.lookup_cons]
    cases x == n
    · exact ih
    · rfl
/-- the frame left -/
theorem St.back {L L' : Addr} {s s1 s' : Shared} {ρ' : Lo} {H1 H' : AH} (hs : St C L ρ H s.heap) (hk : ∀ b o, s.heap.get? b = some o → s1.heap.get? b = some o) (hL' : s.heap.get? L' = none) (h1 : ∀ b o, s.heap.get? b = some o → H b = none → H1 b = none) (x : St C L' ρ' H' s'.heap) (y : Step L' H1 H' s1 s') :
    St C L ρ H' s'.heap ∧ (∀ b o, s.heap.get? b = some o → H b = none → s'.heap.get? b = some o) ∧ (∀ b o, s.heap.get? b = some o → H b = none → H' b = none) ∧ (∀ b o, s.heap.get? b = some o → ∃ o', s'.heap.get? b = some o') := by
  obtain ⟨m, ⟨o, es, ep, ho, r⟩, hm⟩ := hs.loc
  have ne : ∀ b o, s.heap.get? b = some o → b ≠ L' := fun b o e q => by rw [q, hL'] at e; cases e
  have kept : ∀ b o, s.heap.get? b = some o → H b = none → s'.heap.get? b = some o := fun b o e eb => y.kept b o (hk b o e) (h1 b o e eb) (ne b o e)
  have new : ∀ b o, s.heap.get? b = some o → H b = none → H' b = none := fun b o e eb => y.new b o (hk b o e) (h1 b o e eb)
  exact ⟨⟨x.keep, x.rep, x.own, ⟨m, ⟨o, es, ep, kept L o ho hs.nl, r⟩, hm⟩, new L o ho hs.nl, hs.bl⟩, kept, new, fun b o e => y.live b o (hk b o e)⟩

theorem WCall.def {a : Addr} {o : Obj} {fd : FuncData} {body : List Stmt} {args : List V} {kw bs : List (Str × V)} {Q : V → AH → Prop} (hfn : FnAt C H a o fd) (hdep : A.depth < recursionLimit)
    (hb : fd.body = .stmts body) (hcell : ∀ x ∈ fd.scope.names, x.2 ≠ .cell) (hcd : ∀ h : Heap, (∀ b o, C.base.get? b = some o → h.get? b = some o) → h.CodeRec fd.code fd.qualname)
    (hbind : ∀ vals kvs, vals.map ab = args → kvs.map (fun p => (p.1, ab p.2)) = kw → ∃ binds, (∀ s, Keep C s → BindsTo s fd ⟨vals, kvs⟩ binds) ∧ binds.map (fun p => (p.1, ab p.2)) = bs)
    (hloc : ∀ x ∈ bs, fd.scope.names.lookup x.1 = some .local)
    (h : ∀ L, H L = none → WS C (A.deeper (callEnv fd L a)) (callEnv fd L a) body (fun y => bs.reverse.lookup y) H (fun f _ H' => Q (retv f) H'))
    (hco : fd.scope.isCoroutine = false := by rfl) (hgen : fd.scope.isGenerator = false := by rfl) (hk : fd.scope.kind = .function := by rfl) : WCall C A (.ref a) args kw H Q := by
  intro L ρ fv vals kvs e1 e2 e3
  cases ab_ref e1
  obtain ⟨binds, hbt, hbs⟩ := hbind vals kvs e2 e3
  intro s hs
  obtain ⟨ho, hd⟩ := hfn.obj hs
  have hnone := get?_size_none s.heap
  refine wpAny_call (codeAny_call_def hdep ho hd (C.lim.keeps hs.keep) (hcd _ hs.keep) hb (hbt s hs.keep) hcell (fun x hx => hloc (x.1, ab x.2) (by rw [← hbs]; exact List.mem_map.mpr ⟨x, hx, rfl⟩)) (fun h₀ hn hk0 => ?_) hco hgen hk)
  have hst : St C s.heap.objs.size (fun y => bs.reverse.lookup y) H h₀ := by
    refine ⟨fun b o e => hk0 _ _ (hs.keep b o e), fun a o e => let ⟨c, e1, e2⟩ := hs.rep a o e; ⟨c, hk0 _ _ e1, e2⟩, hs.own, ⟨_, hn, fun x => ?_⟩, (hs.fresh hnone).1, (hs.fresh hnone).2.1⟩
    rw [← hbs, ← List.map_reverse]
    exact lookup_ab x binds.reverse
  have henv : (callEnv fd s.heap.objs.size a).locals = s.heap.objs.size := rfl
  refine wpAny_mono (h s.heap.objs.size (hs.fresh hnone).1 { s with heap := h₀, toks := s.toks + binds.length } hst) (fun f s' ⟨ρ', H', x, y, z⟩ => ?_) fun _ _ e => e.elim
  obtain ⟨q1, q2, q3, q4⟩ := hs.back (s1 := { s with heap := h₀, toks := s.toks + binds.length }) (L' := s.heap.objs.size) hk0 hnone (fun _ _ _ e => e) x y
  refine ⟨ρ, H', q1, ⟨?_, fun b o e eb _ => q2 b o e eb, q3, q4⟩, rfl, by cases f <;> exact z⟩
  exact y.same

/-! with cells -/
noncomputable def cellH (cm : Str → Option V) : List (Str × Addr) → AH → AH
  | [], H => H
  | (n, c) :: r, H => (cellH cm r H).set c (.cell (cm n))
theorem cellH_get {cm : Str → Option V} : ∀ {cs : List (Str × Addr)} {H : AH} {b : Addr}, (∀ p ∈ cs, p.2 ≠ b) → cellH cm cs H b = H b
  | [], _, _, _ => rfl
  | (n, c) :: r, H, b, h => by
    rw [cellH, AH.set_ne _ _ (Ne.symm (h (n, c) (List.mem_cons_self ..)))]
    exact cellH_get fun p hp => h p (List.mem_cons_of_mem _ hp)
theorem cellH_some {cm : Str → Option V} : ∀ {cs : List (Str × Addr)} {H : AH} {b : Addr} {o : O}, cellH cm cs H b = some o → (∃ n, (n, b) ∈ cs ∧ o = .cell (cm n)) ∨ H b = some o
  | [], _, _, _, h => .inr h
  | (n, c) :: r, H, b, o, h => by
    rw [cellH] at h
    by_cases q : b = c
    · subst q; rw [AH.set_same] at h; cases h; exact .inl ⟨n, List.mem_cons_self .., rfl⟩
    · rw [AH.set_ne _ _ q] at h
      rcases cellH_some h with ⟨m, hm, e⟩ | e
      · exact .inl ⟨m, List.mem_cons_of_mem _ hm, e⟩
      · exact .inr e

theorem WCall.defC {a : Addr} {o : Obj} {fd : FuncData} {body : List Stmt} {args : List V} {bs : List (Str × V)} {Q : V → AH → Prop} (hfn : FnAt C H a o fd) (hdep : A.depth < recursionLimit)
    (hb : fd.body = .stmts body) (hclo : fd.closure = []) (hcd : ∀ h : Heap, (∀ b o, C.base.get? b = some o → h.get? b = some o) → h.CodeRec fd.code fd.qualname)
    (hbind : ∀ vals, vals.map ab = args → ∃ binds, bindArgs fd ⟨vals, []⟩ = pure binds ∧ binds.map (fun p => (p.1, ab p.2)) = bs)
    (hkind : (bs.all fun y => fd.scope.names.lookup y.1 == some .local || fd.scope.names.lookup y.1 == some .cell) = true)
    (hnd : ((cellsFrom 0 fd.scope.names []).map (·.1)).Nodup)
    (lm cm : Str → Option V) (hlm : ∀ L binds, binds.map (fun p => (p.1, ab p.2)) = bs → ∀ x, (bindL (callEnvC fd L a).kindOf binds (fun _ => none) x).map ab = lm x) (hcm : ∀ L binds, binds.map (fun p => (p.1, ab p.2)) = bs → ∀ x, (bindC (callEnvC fd L a).kindOf binds (fun _ => none) x).map ab = cm x)
    (h : ∀ L, H L = none → (∀ p ∈ cellsFrom (L + 1) fd.scope.names [], H p.2 = none ∧ p.2 ≠ L) → WS C (A.deeper (callEnvC fd L a)) (callEnvC fd L a) body lm (cellH cm (cellsFrom (L + 1) fd.scope.names []) H) (fun f _ H' => Q (retv f) H'))
    (hco : fd.scope.isCoroutine = false := by rfl) (hgen : fd.scope.isGenerator = false := by rfl) (hk : fd.scope.kind = .function := by rfl) : WCall C A (.ref a) args [] H Q := by
  intro L ρ fv vals kvs e1 e2 e3
  cases ab_ref e1
  have : kvs = [] := by simpa using e3
  subst this
  obtain ⟨binds, hbt, hbs⟩ := hbind vals e2
  intro s hs
  obtain ⟨ho, hd⟩ := hfn.obj hs
  have hnone := get?_size_none s.heap
  have hkind' : ∀ n, ∀ x ∈ binds, fd.scope.names.lookup x.1 = some .local ∨ (fd.scope.names.lookup x.1 = some .cell ∧ ((cellsFrom n fd.scope.names []).lookup x.1).isSome = true) := fun n x hx => by
    have hm : (x.1, ab x.2) ∈ bs := by rw [← hbs]; exact List.mem_map.mpr ⟨x, hx, rfl⟩
    have := kindsX (scope := fd.scope) (binds := binds) (by
      rw [List.all_eq_true]; intro y hy
      exact List.all_eq_true.mp hkind (y.1, ab y.2) (by rw [← hbs]; exact List.mem_map.mpr ⟨y, hy, rfl⟩)) n x hx
    exact this
  refine wpAny_call (codeAny_call_cells hdep ho hd (C.lim.keeps hs.keep) (hcd _ hs.keep) hb hbt hclo (hkind' _) (fun s₁ X => ?_) hco hgen hk)
  have hnames : ∀ (n : Nat) (names : List (Str × NameKind)) (acc : List (Str × Addr)) (p : Str × Addr), p ∈ cellsFrom n names acc → p ∈ acc ∨ n ≤ p.2 := by
    intro n names
    induction names generalizing n with
    | nil => intro acc p hp; exact .inl hp
    | cons x r ih =>
      intro acc p hp
      obtain ⟨nm, k⟩ := x
      unfold cellsFrom at hp
      split at hp
      · rcases ih (n + 1) _ p hp with q | q
        · rcases List.mem_cons.mp q with rfl | q
          · exact .inr (Nat.le_refl _)
          · exact .inl q
        · exact .inr (by lia)
      · exact ih n acc p hp
  have habove : ∀ p ∈ cellsFrom (s.heap.objs.size + 1) fd.scope.names [], s.heap.objs.size < p.2 := fun p hp => by
    rcases hnames _ _ _ p hp with q | q
    · cases q
    · lia
  have hfresh : ∀ p ∈ cellsFrom (s.heap.objs.size + 1) fd.scope.names [], s.heap.get? p.2 = none := fun p hp => by
    cases e : s.heap.get? p.2 with
    | none => rfl
    | some o => exact absurd (Heap.lt_size e) (Nat.lt_asymm (habove p hp))
  have same_names : ∀ (n n' : Nat) (names : List (Str × NameKind)) (acc acc' : List (Str × Addr)), acc.map (·.1) = acc'.map (·.1) → (cellsFrom n names acc).map (·.1) = (cellsFrom n' names acc').map (·.1) := by
    intro n n' names
    induction names generalizing n n' with
    | nil => intro acc acc' e; exact e
    | cons x r ih =>
      intro acc acc' e
      obtain ⟨nm, k⟩ := x
      unfold cellsFrom
      split
      · exact ih _ _ _ _ (by simp [e])
      · exact ih _ _ _ _ e
  have hnd' : ((cellsFrom (s.heap.objs.size + 1) fd.scope.names []).map (·.1)).Nodup := by rw [same_names _ 0 _ _ [] rfl]; exact hnd
  have lookup_mem : ∀ {cs : List (Str × Addr)}, (cs.map (·.1)).Nodup → ∀ n c, (n, c) ∈ cs → cs.lookup n = some c := by
    intro cs
    induction cs with
    | nil => intro _ n c hm; cases hm
    | cons p r ih =>
      intro hn n c hm
      obtain ⟨pn, pc⟩ := p
      simp only [List.map_cons, List.nodup_cons] at hn
      rcases List.mem_cons.mp hm with e | hm
      · cases e; simp [List.lookup_cons]
      · have hne : n ≠ pn := fun q => hn.1 (q ▸ List.mem_map.mpr ⟨(n, c), hm, rfl⟩)
        rw [List.lookup_cons, beq_false_of_ne hne]; exact ih hn.2 n c hm
  obtain ⟨⟨⟨h1, tk1, rfl⟩, hns, hkeep, hab⟩, hcell, hap, hgt⟩ := X
  have hst : St C s.heap.objs.size lm (cellH cm (cellsFrom (s.heap.objs.size + 1) fd.scope.names []) H) h1 := by
    refine ⟨fun b o e => hkeep _ _ (hs.keep b o e), fun b o e => ?_, fun b o e hm => ?_, ⟨_, hns, fun x => hlm _ binds hbs x⟩, ?_, (hs.fresh hnone).2.1⟩
    · rcases cellH_some e with ⟨n, hm, rfl⟩ | e
      · obtain ⟨oc, ho, hd⟩ := hcell n b (lookup_mem hnd' n b hm)
        exact ⟨oc, ho, _, hd, hcm _ binds hbs n⟩
      · obtain ⟨c, e1, e2⟩ := hs.rep b o e; exact ⟨c, hkeep _ _ e1, e2⟩
    · rcases cellH_some e with ⟨n, hm', rfl⟩ | e
      · exact (hs.fresh (hfresh _ hm')).2.1
      · exact hs.own b o e hm
    · rw [cellH_get (fun p hp q => Nat.ne_of_gt (habove p hp) q)]; exact (hs.fresh hnone).1
  refine wpAny_mono (h s.heap.objs.size (hs.fresh hnone).1 (fun p hp => ⟨(hs.fresh (hfresh p hp)).1, Nat.ne_of_gt (habove p hp)⟩) { s with heap := h1, toks := tk1 } hst) (fun f s' ⟨ρ', H', x, y, z⟩ => ?_) fun _ _ e => e.elim
  obtain ⟨q1, q2, q3, q4⟩ := hs.back (s1 := { s with heap := h1, toks := tk1 }) (L' := s.heap.objs.size) hkeep hnone (fun b o e eb => by rw [cellH_get (fun p hp q => by have := hfresh p hp; rw [q, e] at this; cases this)]; exact eb) x y
  refine ⟨ρ, H', q1, ⟨?_, fun b o e eb _ => q2 b o e eb, q3, q4⟩, rfl, by cases f <;> exact z⟩
  exact y.same

/-! ## while -/
theorem W1.while {t : Expr} {body : List Stmt} {pos : Pos} {Q : Fl → Lo → AH → Prop} (F : Fx C A env) (I : Nat → Lo → AH → Prop) (n : Nat) (h0 : I n ρ H)
    (turn : ∀ n ρ1 H1, I n ρ1 H1 → WT C A env t ρ1 H1 (fun c H2 => (c = true → WS C A env body ρ1 H2 (fun f ρ3 H3 => match f with | .next => ∃ m, m < n ∧ I m ρ3 H3 | .cont => ∃ m, m < n ∧ I m ρ3 H3 | .brk => Q .next ρ3 H3 | .ret v => Q (.ret v) ρ3 H3)) ∧ (c = false → Q .next ρ1 H2))) :
    W1 C A env (.While t body [] pos) ρ H Q := fun s hs => by
  refine wpAny_While ?_
  refine codeAny_whileLoop (fun k s' => ∃ ρ1 H1, St C env.locals ρ1 H1 s'.heap ∧ Step env.locals H H1 s s' ∧ I k ρ1 H1) ?_ n ⟨ρ, H, hs, .refl .., h0⟩
  rintro k s1 ⟨ρ1, H1, a1, b1, c1⟩
  refine wpAny_mono (turn k ρ1 H1 c1 s1 a1) (fun c s2 ⟨ρ2, H2, a2, b2, c2, d2⟩ => ?_) fun _ _ e => e.elim
  subst c2
  have b12 := b1.trans b2 (fun _ _ => a2.nl)
  cases c with
  | true =>
    refine wpAny_mono (d2.1 rfl s2 a2) (fun f s3 ⟨ρ3, H3, a3, b3, c3⟩ => ?_) fun _ _ e => e.elim
    have b13 := b12.trans b3 (fun _ _ => a3.nl)
    cases f with
    | next => obtain ⟨m, hm, hI⟩ := c3; exact ⟨m, hm, ρ3, H3, a3, b13, hI⟩
    | cont => obtain ⟨m, hm, hI⟩ := c3; exact ⟨m, hm, ρ3, H3, a3, b13, hI⟩
    | brk => exact ⟨ρ3, H3, a3, b13, c3⟩
    | ret v => exact ⟨ρ3, H3, a3, b13, c3⟩
  | false => exact wpAny_execs_nil ⟨ρ2, H2, a2, b12, d2.2 rfl⟩
end
end Mine

namespace Mine
open PySem PySem.W PyProof.Rows

/-! ## iterators (their own objects are not tracked) -/
noncomputable def Drawn (C : Cx) (A : Around) (tgt : Expr) (I : Addr) (Q : Option Value → Shared → Prop) (r : Option Value) (s₁ : Shared) : Prop :=
  match r with
  | none => Q none s₁
  | some v => wpAny C.M A (letOwnedTupleGo tgt (.ref I) v) (fun _ s₂ => Q (some v) s₂) False2 s₁

noncomputable def Off (C : Cx) (L : Addr) (H : AH) (wr : List Addr) : Prop := ∀ b ∈ wr, H b = none ∧ C.base.get? b = none ∧ b ≠ L

structure Itr (C : Cx) (A : Around) (I : Addr) (wr : List Addr) (tgt : Expr) (n : Nat) (Rr : Nat → Heap → Prop) (Ok : Nat → AH → Prop) (P : Nat → AH → Dv → Prop) : Prop where
  live : ∀ i h, Rr i h → ∀ b ∈ wr, ∃ o, h.get? b = some o
  frame : ∀ i h h', Rr i h → (∀ b ∈ wr, ∀ o, h.get? b = some o → h'.get? b = some o) → Rr i h'
  item : ∀ i (s : Shared) L ρ H (Q : Option Value → Shared → Prop), i < n → Rr i s.heap → St C L ρ H s.heap → Off C L H wr → Ok i H →
    (∀ v d h' tk, P i H d → d.Is h' v → St C L ρ H h' → Rr (i + 1) h' → (∀ b o, b ∉ wr → s.heap.get? b = some o → h'.get? b = some o) → Q (some v) { s with heap := h', toks := tk }) →
    wpAny C.M A (pyNext (.ref I)) (Drawn C A tgt I Q) False2 s
  done : ∀ (s : Shared) L ρ H (Q : Option Value → Shared → Prop), Rr n s.heap → St C L ρ H s.heap → Off C L H wr → Ok n H →
    (∀ h' tk, St C L ρ H h' → (∀ b o, b ∉ wr → s.heap.get? b = some o → h'.get? b = some o) → Q none { s with heap := h', toks := tk }) →
    wpAny C.M A (pyNext (.ref I)) (Drawn C A tgt I Q) False2 s
  self : ∀ i (s : Shared) (Q : Value → Shared → Prop), Rr i s.heap → Q (.ref I) s → wpAny C.M A (pyIter (.ref I)) Q False2 s

noncomputable def WIt (C : Cx) (A : Around) (env : Env) (e tgt : Expr) (ρ : Lo) (H : AH) (K : AH → Nat → (Nat → AH → Prop) → (Nat → AH → Dv → Prop) → Prop) : Prop :=
  ∀ s : Shared, St C env.locals ρ H s.heap → ∀ Q : Value → Shared → Prop,
    (∀ H1 n Ok P I wr Rr s', K H1 n Ok P → Itr C A I wr tgt n Rr Ok P → Rr 0 s'.heap → St C env.locals ρ H1 s'.heap → Step env.locals H H1 s s' → (∀ b ∈ wr, s.heap.get? b = none ∧ H1 b = none) → Q (.ref I) s') →
    wpAny C.M A (eval e env) (fun x s₁ => wpAny C.M A (pyIter x) Q False2 s₁) False2 s

section
variable {C : Cx} {A : Around} {env : Env} {ρ : Lo} {H : AH}

theorem St.offL {L : Addr} {h h' : Heap} {wr : List Addr} (x : St C L ρ H h) (hw : Off C L H wr) (k : ∀ b o, b ∉ wr → h.get? b = some o → h'.get? b = some o) : St C L ρ H h' where
  keep := fun b o e => k _ _ (fun q => by rw [(hw b q).2.1] at e; cases e) (x.keep b o e)
  rep := fun a o e => let ⟨c, e1, e2⟩ := x.rep a o e; ⟨c, k _ _ (fun q => by rw [(hw a q).1] at e; cases e) e1, e2⟩
  own := x.own
  loc := let ⟨m, ⟨o, es, ep, e1, r⟩, e2⟩ := x.loc; ⟨m, ⟨o, es, ep, k L o (fun q => (hw L q).2.2 rfl) e1, r⟩, e2⟩
  nl := x.nl
  bl := x.bl

theorem Step.offL {L : Addr} {H H' : AH} {s s2 : Shared} {h' : Heap} {tk : Nat} {wr : List Addr} (x : Step L H H' s s2) (hw : ∀ b ∈ wr, s.heap.get? b = none) (k : ∀ b o, b ∉ wr → s2.heap.get? b = some o → h'.get? b = some o) : Step L H H' s { s2 with heap := h', toks := tk } := by
  obtain ⟨m1, k1, n1, l1⟩ := x
  exact ⟨m1, fun b o e eb eL => k b o (fun q => by rw [hw b q] at e; cases e) (k1 b o e eb eL), n1, fun b o e => let ⟨o', e'⟩ := l1 b o e; ⟨o', k b o' (fun q => by rw [hw b q] at e; cases e) e'⟩⟩
/-! the loop itself -/
theorem forLoop_run {tgt : Expr} {it : Addr} {body : List Stmt} {R : Result → Shared → Prop} {s : Shared} (I : Nat → Shared → Prop)
    (turn : ∀ n s, I n s → wpAny C.M A (pyNext (.ref it)) (Drawn C A tgt it (fun r s₁ => match r with
      | none => R (.ok .next) s₁
      | some v => wpAny C.M A (PySem.assign tgt env v) (fun _ s₂ => wpAny C.M A (execs body env) (fun f s₃ => match f with
          | .next | .cont => ∃ m, m < n ∧ I m s₃
          | .brk => R (.ok .next) s₃
          | .ret v => R (.ok (.ret v)) s₃) False2 s₂) False2 s₁)) False2 s)
    (n : Nat) (h : I n s) : codeAny C.M A (.forLoop tgt (.ref it) body [] env) R s := by
  refine codeAny_loop' rfl I (fun n s hI => ?_) n h
  show wpAny _ _ ((forTurn tgt (.ref it) body [] env).onRaise (fun x => do noteFrame x env; theTreesLotGoes x)) _ _ s
  refine wpAny_noted ?_
  simp only [forTurn]
  refine wpAny_bind (wpAny_standAt (wpAny_bind (wpAny_onRaise (wpAny_mono (turn n s hI) (fun r s₁ h₁ => ?_) fun _ _ e => e.elim))))
  cases r with
  | none => exact wpAny_pure (.inr ⟨rfl, codeAny_block (wpAny_execs_nil h₁)⟩)
  | some v =>
    refine wpAny_bind (wpAny_mono h₁ (fun _ s₁' h₁' => ?_) fun _ _ e => e.elim)
    refine wpAny_bind (wpAny_mono h₁' (fun _ s₂ h₂ => wpAny_bind (wpAny_mono h₂ (fun f s₃ h₃ => ?_) fun _ _ e => e.elim)) fun _ _ e => e.elim)
    cases f with
    | next => exact wpAny_pure (.inl ⟨rfl, h₃⟩)
    | cont => exact wpAny_pure (.inl ⟨rfl, h₃⟩)
    | brk => exact wpAny_pure h₃
    | ret v => exact wpAny_pure h₃

theorem Off.step {L : Addr} {H H' : AH} {wr : List Addr} {s s' : Shared} (x : Off C L H wr) (hl : ∀ b ∈ wr, ∃ o, s.heap.get? b = some o) (y : Step L H H' s s') : Off C L H' wr := fun b hb =>
  ⟨let ⟨o, e⟩ := hl b hb; y.new b o e (x b hb).1, (x b hb).2⟩

theorem W1.for {tgt iter : Expr} {body : List Stmt} {pos : Pos} {Q : Fl → Lo → AH → Prop}
    (h : WIt C A env iter tgt ρ H (fun H1 n Ok P => ∃ Inv : Nat → Lo → AH → Prop, Inv 0 ρ H1 ∧
      (∀ i ρ1 H2, i < n → Inv i ρ1 H2 → Ok i H2 ∧ ∀ d, P i H2 d → Asg C A env tgt d ρ1 H2 (fun ρ2 H3 => WS C A env body ρ2 H3 (fun f ρ3 H4 => match f with
        | .next => Inv (i + 1) ρ3 H4
        | .cont => Inv (i + 1) ρ3 H4
        | .brk => Q .next ρ3 H4
        | .ret v => Q (.ret v) ρ3 H4))) ∧
      (∀ ρ1 H2, Inv n ρ1 H2 → Ok n H2 ∧ Q .next ρ1 H2)))
    (hs : ∀ x, foldedSetIterable iter env x = pure x := by intro _; rfl) : W1 C A env (.For tgt iter body [] pos) ρ H Q := fun s hst => by
  refine wpAny_For ?_ hs
  refine h s hst _ (fun H1 n Ok P I wr Rr s' ⟨Inv, h0, turn, fin⟩ it r0 a1 b1 hw => ?_)
  have hoff : Off C env.locals H1 wr := fun b hb => ⟨(hw b hb).2, (hst.fresh (hw b hb).1).2⟩
  refine forLoop_run (fun k s2 => ∃ i ρ2 H2, i ≤ n ∧ k = n - i ∧ St C env.locals ρ2 H2 s2.heap ∧ Step env.locals H H2 s s2 ∧ Rr i s2.heap ∧ Off C env.locals H2 wr ∧ Inv i ρ2 H2) ?_ n ⟨0, ρ, H1, Nat.zero_le _, rfl, a1, b1, r0, hoff, h0⟩
  rintro k s2 ⟨i, ρ2, H2, hi, rfl, a2, b2, r2, o2, i2⟩
  by_cases hlt : i < n
  · obtain ⟨ok, t⟩ := turn i ρ2 H2 hlt i2
    refine it.item i s2 env.locals ρ2 H2 _ hlt r2 a2 o2 ok fun v d h' tk hP hd a3 r3 k3 => ?_
    have b3 : Step env.locals H H2 s { s2 with heap := h', toks := tk } := b2.offL (fun b hb => (hw b hb).1) k3
    refine wpAny_mono (t d hP { s2 with heap := h', toks := tk } v a3 hd) (fun _ s4 ⟨ρ4, H4, a4, b4, c4⟩ => ?_) fun _ _ e => e
    have b14 := b3.trans b4 (fun _ _ => a4.nl)
    have r4 : Rr (i + 1) s4.heap := it.frame _ _ _ r3 fun b hb o e => b4.kept b o e (o2 b hb).1 (o2 b hb).2.2
    have o4 : Off C env.locals H4 wr := o2.step (it.live _ _ r3) b4
    refine wpAny_mono (c4 s4 a4) (fun f s5 ⟨ρ5, H5, a5, b5, c5⟩ => ?_) fun _ _ e => e
    have b15 := b14.trans b5 (fun _ _ => a5.nl)
    have r5 : Rr (i + 1) s5.heap := it.frame _ _ _ r4 fun b hb o e => b5.kept b o e (o4 b hb).1 (o4 b hb).2.2
    have o5 : Off C env.locals H5 wr := o4.step (it.live _ _ r4) b5
    cases f with
    | next => exact ⟨n - (i + 1), by omega, i + 1, ρ5, H5, hlt, rfl, a5, b15, r5, o5, c5⟩
    | cont => exact ⟨n - (i + 1), by omega, i + 1, ρ5, H5, hlt, rfl, a5, b15, r5, o5, c5⟩
    | brk => exact ⟨ρ5, H5, a5, b15, c5⟩
    | ret v => exact ⟨ρ5, H5, a5, b15, c5⟩
  · have hin : i = n := by lia
    subst hin
    obtain ⟨ok, q⟩ := fin ρ2 H2 i2
    exact it.done s2 env.locals ρ2 H2 _ r2 a2 o2 ok fun h' tk a3 k3 => ⟨ρ2, H2, a3, b2.offL (fun b hb => (hw b hb).1) k3, q⟩

/-! ## lists, ranges -/
theorem letOwned_list {tgt : Expr} {I l : Addr} {i : Nat} {v : Value} {s : Shared} {Q : Unit → Shared → Prop} (h : s.heap.IsListIter I l i) (q : Q () s) : wpAny C.M A (letOwnedTupleGo tgt (.ref I) v) Q False2 s := by
  obtain ⟨o, ho, hc, hd⟩ := h
  cases tgt <;> first | exact wpAny_pure q | skip
  all_goals
    cases v <;> first | exact wpAny_pure q | skip
    refine wpAny_bind (wpAny_load ho ?_)
    rw [hc, hd]
    show wpAny _ _ (if _ then _ else _) _ _ _
    rw [if_neg (by simp)]
    exact wpAny_pure q

theorem Itr.list {I l : Addr} {tgt : Expr} {ob : O} {vs : List V} (hh : A.handled = none) (hne : l ≠ I) (hl : lst ob = some vs) :
    Itr C A I [I] tgt vs.length (fun i h => h.IsListIter I l i) (fun _ H => H l = some ob) (fun i H d => ∃ v, vs[i]? = some v ∧ d = .one v) where
  live := fun i h ⟨o, ho, _⟩ b hb => by rw [List.mem_singleton.mp hb]; exact ⟨o, ho⟩
  frame := fun i h h' ⟨o, ho, r⟩ k => ⟨o, k I (List.mem_singleton.mpr rfl) o ho, r⟩
  item := fun i s L ρ H Q hi hr hs hw hok hq => by
    obtain ⟨xs, h1, h2, h3⟩ := hs.list hok hl
    obtain ⟨x, x1, x2⟩ := arr_get (i := i) (v := vs[i]) h2 (by simp [hi])
    refine wpAny_pyNext_list_item hr h1 x1 fun h' hit' hs' => ?_
    refine letOwned_list hit' ?_
    have k : ∀ b o, b ∉ [I] → s.heap.get? b = some o → h'.get? b = some o := fun b o hb e => hs'.extBut b o (fun q => hb (by simp [q])) e
    exact hq x (.one vs[i]) h' s.toks ⟨_, by simp [hi], rfl⟩ x2 (hs.offL hw k) hit' k
  done := fun s L ρ H Q hr hs hw hok hq => by
    obtain ⟨xs, h1, h2, h3⟩ := hs.list hok hl
    refine wpAny_pyNext_list_end hh hr h1 (by rw [← arr_size h2]; simp) fun h' he' => ?_
    have k : ∀ b o, b ∉ [I] → s.heap.get? b = some o → h'.get? b = some o := fun b o hb e => he' b o (fun q => hb (by simp [q])) e
    exact hq h' s.toks (hs.offL hw k) k
  self := fun i s Q hr hq => wpAny_pyIter_listiter hr hq

theorem WIt.list {e tgt : Expr} {K : AH → Nat → (Nat → AH → Prop) → (Nat → AH → Dv → Prop) → Prop} (F : Fx C A env)
    (h : WE C A env e ρ H (fun v H1 => ∃ l ob vs, v = .ref l ∧ H1 l = some ob ∧ lst ob = some vs ∧ K H1 vs.length (fun _ H2 => H2 l = some ob) (fun i _ d => ∃ v, vs[i]? = some v ∧ d = .one v))) : WIt C A env e tgt ρ H K := fun s hs Q hq => by
  refine wpAny_mono (h s hs) (fun x s1 ⟨ρ1, H1, a1, b1, c1, l, ob, vs, d1, d2, d3, d4⟩ => ?_) fun _ _ e => e
  subst c1
  cases ab_ref d1
  obtain ⟨xs, h1, h2, h3⟩ := a1.list d2 d3
  refine wpAny_pyIter_list h1 ?_
  have hn := get?_size_none s1.heap
  have hne : l ≠ s1.heap.objs.size := fun q => by obtain ⟨o, ho, _⟩ := h1; rw [q, hn] at ho; cases ho
  have k : ∀ b o, s1.heap.get? b = some o → (s1.heap.push { cls := .type "list_iterator", data := .fields #[.ref l, .int 0 0] }).get? b = some o := fun b o e => Heap.get?_push_of_some _ e
  refine hq H1 _ _ _ s1.heap.objs.size [s1.heap.objs.size] _ _ d4 (Itr.list F.hh hne d3) ⟨_, Heap.get?_push_size _ rfl, rfl, rfl⟩ (a1.ext k) (b1.trans (Step.ext (tk := s1.toks) k) (fun _ _ => a1.nl)) fun b hb => ?_
  rw [List.mem_singleton.mp hb]
  refine ⟨?_, (a1.fresh hn).1⟩
  cases e : s.heap.get? s1.heap.objs.size with
  | none => rfl
  | some o =>
    obtain ⟨o', e'⟩ := b1.live _ o e
    rw [hn] at e'; cases e'
end
end Mine

namespace Mine
open PySem PySem.W PyProof.Rows

section
variable {C : Cx} {A : Around} {env : Env} {ρ : Lo} {H : AH}

theorem letOwned_range {tgt : Expr} {I : Addr} {x left step : Int} {i : Int} {t : Tok} {s : Shared} {Q : Unit → Shared → Prop} (q : Q () s) : wpAny C.M A (letOwnedTupleGo tgt (.ref I) (.int i t)) Q False2 s := by
  cases tgt <;> exact wpAny_pure q

theorem Itr.range {I : Addr} {tgt : Expr} {a c : Int} {n : Nat} (hh : A.handled = none) :
    Itr C A I [I] tgt n (fun i h => IsRangeIter h I (a + (i : Nat) * c) ((n : Int) - (i : Nat)) c) (fun _ _ => True) (fun i H d => d = .one (.int (a + (i : Nat) * c))) where
  live := fun i h ho b hb => by rw [List.mem_singleton.mp hb]; exact ⟨_, ho⟩
  frame := fun i h h' ho k => k I (List.mem_singleton.mpr rfl) _ ho
  item := fun i s L ρ H Q hi hr hs hw hok hq => by
    refine wpAny_pyNext_range_item hr (by lia) fun h' hit' hs' => ?_
    refine letOwned_range (x := 0) (left := 0) (step := 0) ?_
    have k : ∀ b o, b ∉ [I] → s.heap.get? b = some o → h'.get? b = some o := fun b o hb e => hs'.extBut b o (fun q => hb (by simp [q])) e
    refine hq (.int (a + (i : Nat) * c) s.toks) _ h' (s.toks + 1) rfl rfl (hs.offL hw k) ?_ k
    have e1 : a + ((i + 1 : Nat) : Int) * c = a + (i : Int) * c + c := by push_cast; rw [Int.add_mul, Int.one_mul, Int.add_assoc]
    have e2 : (n : Int) - ((i + 1 : Nat) : Int) = (n : Int) - (i : Int) - 1 := by push_cast; lia
    rw [e1, e2]; exact hit'
  done := fun s L ρ H Q hr hs hw hok hq => by
    refine wpAny_pyNext_range_end hh hr (by lia) fun h' he' => ?_
    have k : ∀ b o, b ∉ [I] → s.heap.get? b = some o → h'.get? b = some o := fun b o hb e => he' b o (fun q => hb (by simp [q])) e
    exact hq h' s.toks (hs.offL hw k) k
  self := fun i s Q hr hq => wpAny_pyIter_rangeiter hr hq

/-- behind the call of range -/
theorem WIt.range_core {r : Addr} {tgt : Expr} {a b c : Int} {t u v : Tok} {n : Nat} {s s1 : Shared} {H1 : AH} {K : AH → Nat → (Nat → AH → Prop) → (Nat → AH → Dv → Prop) → Prop} (hh : A.handled = none)
    (hr : IsRange s1.heap r a b c t u v) (hsm : Builtin.Range.small a b c = true) (hn : Builtin.Range.rangeSize a b c = (n : Int)) (a1 : St C env.locals ρ H1 s1.heap) (b1 : Step env.locals H H1 s s1)
    (hK : K H1 n (fun _ _ => True) (fun i H d => d = .one (.int (a + (i : Nat) * c)))) {Q : Value → Shared → Prop}
    (hq : ∀ H1 n Ok P I wr Rr s', K H1 n Ok P → Itr C A I wr tgt n Rr Ok P → Rr 0 s'.heap → St C env.locals ρ H1 s'.heap → Step env.locals H H1 s s' → (∀ b ∈ wr, s.heap.get? b = none ∧ H1 b = none) → Q (.ref I) s') :
    wpAny C.M A (pyIter (.ref r)) Q False2 s1 := by
  refine wpAny_pyIter_range hr hsm ?_
  have hnn := get?_size_none s1.heap
  have k : ∀ b' o, s1.heap.get? b' = some o → (s1.heap.push { cls := .type "range_iterator", data := .fields #[rawInt a, rawInt (Builtin.Range.rangeSize a b c), rawInt c] }).get? b' = some o := fun b' o e => Heap.get?_push_of_some _ e
  refine hq H1 n _ _ s1.heap.objs.size [s1.heap.objs.size] _ _ hK (Itr.range (a := a) (c := c) hh) ?_ (a1.ext k) (b1.trans (Step.ext (tk := s1.toks) k) (fun _ _ => a1.nl)) fun b hb => ?_
  · have := Heap.get?_push_size s1.heap (o := { cls := .type "range_iterator", data := .fields #[rawInt a, rawInt (Builtin.Range.rangeSize a b c), rawInt c] }) rfl
    rw [hn] at this
    have e : a + ((0 : Nat) : Int) * c = a := by simp
    have e' : (n : Int) - ((0 : Nat) : Int) = n := by simp
    show IsRangeIter _ _ (a + ((0 : Nat) : Int) * c) ((n : Int) - ((0 : Nat) : Int)) c
    rw [e, e', hn]; exact this
  · rw [List.mem_singleton.mp hb]
    refine ⟨?_, (a1.fresh hnn).1⟩
    cases e : s.heap.get? s1.heap.objs.size with
    | none => rfl
    | some o =>
      obtain ⟨o', e'⟩ := b1.live _ o e
      rw [hnn] at e'; cases e'

theorem WIt.range1 {e tgt : Expr} {id : Str} {p pos : Pos} {b : Int} {K : AH → Nat → (Nat → AH → Prop) → (Nat → AH → Dv → Prop) → Prop} (F : Fx C A env) (hf : Ev C A env ρ H (.Name id p) (.ty "range")) (he : Ev C A env ρ H e (.int b)) (hb : -(2 ^ 62) ≤ b) (hb' : b < 2 ^ 62)
    (hK : K H b.toNat (fun _ _ => True) (fun i _ d => d = .one (.int i))) (hn : noStar [e] = true := by rfl) : WIt C A env (.Call (.Name id p) [e] [] pos) tgt ρ H K := fun s hs Q hq => by
  refine wpAny_Call_Name_kw (wpAny_mono (hf s hs) (fun f s1 ⟨ρ1, H1, a1, b1, c1, c2, c3⟩ => ?_) fun _ _ e => e)
  subst c1 c2
  cases ab_ty c3
  refine PySem.callWith_type (backTo_any hn) (wpAny_mono (evalArgs_run (ks := []) (Q := fun vs kv H2 => vs = [.int b] ∧ kv = [] ∧ H2 = H1) hn rfl (WEs.of (.cons he .nil) ⟨rfl, rfl, rfl⟩) s1 a1) (fun x s2 ⟨ρ2, H2, a2, b2, c2, d1, d2, d3⟩ => ?_) fun _ _ e => e)
  subst c2 d3
  have hkw : x.kw = [] := by simpa using d2
  obtain ⟨y, ey, ey'⟩ := vals1 d1
  obtain ⟨t, rfl⟩ := ab_int ey'
  rw [hkw, ey]
  have k : ∀ b' o, s2.heap.get? b' = some o → (s2.heap.push { cls := .type "range", data := .fields #[.int 0 s2.toks, .int b t, .int 1 (s2.toks + 1)] }).get? b' = some o := fun b' o e => Heap.get?_push_of_some _ e
  refine call_range_1 (WIt.range_core (n := b.toNat) F.hh (IsRange.new _ _ _ _ _ _ _) (small_one (by decide) (by decide) hb hb') (by rw [rangeSize_nat]; simp) (a2.ext k) ((b1.trans b2 (fun _ _ => a2.nl)).trans (Step.ext (tk := s2.toks + 1 + 1) k) (fun _ _ => a2.nl)) ?_ hq)
  have e : (fun (i : Nat) (H : AH) (d : Dv) => d = Dv.one (V.int (0 + (i : Int) * 1))) = fun i _ d => d = .one (.int i) := by funext i _ d; simp
  rw [e]; exact hK
theorem WIt.range2 {e1 e2 tgt : Expr} {id : Str} {p pos : Pos} {a b : Int} {K : AH → Nat → (Nat → AH → Prop) → (Nat → AH → Dv → Prop) → Prop} (F : Fx C A env) (hf : Ev C A env ρ H (.Name id p) (.ty "range")) (he1 : Ev C A env ρ H e1 (.int a)) (he2 : Ev C A env ρ H e2 (.int b)) (ha : -(2 ^ 62) ≤ a) (ha' : a < 2 ^ 62) (hb : -(2 ^ 62) ≤ b) (hb' : b < 2 ^ 62)
    (hK : K H (b - a).toNat (fun _ _ => True) (fun i _ d => d = .one (.int (a + i)))) (hn : noStar [e1, e2] = true := by rfl) : WIt C A env (.Call (.Name id p) [e1, e2] [] pos) tgt ρ H K := fun s hs Q hq => by
  refine wpAny_Call_Name_kw (wpAny_mono (hf s hs) (fun f s1 ⟨ρ1, H1, a1, b1, c1, c2, c3⟩ => ?_) fun _ _ e => e)
  subst c1 c2
  cases ab_ty c3
  refine PySem.callWith_type (backTo_any hn) (wpAny_mono (evalArgs_run (ks := []) (Q := fun vs kv H2 => vs = [.int a, .int b] ∧ kv = [] ∧ H2 = H1) hn rfl (WEs.of (.cons he1 (.cons he2 .nil)) ⟨rfl, rfl, rfl⟩) s1 a1) (fun x s2 ⟨ρ2, H2, a2, b2, c2, d1, d2, d3⟩ => ?_) fun _ _ e => e)
  subst c2 d3
  have hkw : x.kw = [] := by simpa using d2
  obtain ⟨y, z, ey, ey', ez'⟩ := vals2 d1
  obtain ⟨t, rfl⟩ := ab_int ey'
  obtain ⟨u, rfl⟩ := ab_int ez'
  rw [hkw, ey]
  have k : ∀ b' o, s2.heap.get? b' = some o → (s2.heap.push { cls := .type "range", data := .fields #[.int a t, .int b u, .int 1 s2.toks] }).get? b' = some o := fun b' o e => Heap.get?_push_of_some _ e
  refine call_range_2 (WIt.range_core (n := (b - a).toNat) F.hh (IsRange.new _ _ _ _ _ _ _) (small_one ha ha' hb hb') (by rw [rangeSize_nat]) (a2.ext k) ((b1.trans b2 (fun _ _ => a2.nl)).trans (Step.ext (tk := s2.toks + 1) k) (fun _ _ => a2.nl)) ?_ hq)
  have e : (fun (i : Nat) (H : AH) (d : Dv) => d = Dv.one (V.int (a + (i : Int) * 1))) = fun i _ d => d = .one (.int (a + i)) := by funext i _ d; simp
  rw [e]; exact hK
end
end Mine

namespace Mine
open PySem PySem.W PyProof.Rows

section
variable {C : Cx} {A : Around} {env : Env} {ρ : Lo} {H : AH}

/-! ## tests of a clause -/
noncomputable def WIf (C : Cx) (A : Around) (env : Env) : List Expr → Lo → AH → (Bool → AH → Prop) → Prop
  | [], _, H, Q => Q true H
  | c :: cs, ρ, H, Q => WT C A env c ρ H (fun b H1 => (b = true → WIf C A env cs ρ H1 Q) ∧ (b = false → Q false H1))
theorem ifs_false {env : Env} : ∀ (ifs : List Expr), (forIn ifs false fun c r => if r = true then do let ok ← isTrue c env (eval c env); pure (ForInStep.yield ok) else pure (ForInStep.yield r) : Sem Bool) = pure false
  | [] => rfl
  | c :: cs => by
    rw [List.forIn_cons]
    show (if false = true then _ else pure (ForInStep.yield false) : Sem (ForInStep Bool)) >>= _ = _
    rw [if_neg Bool.false_ne_true]
    exact ifs_false cs
theorem WIf.run : ∀ {ifs : List Expr} {ρ : Lo} {H : AH} {Q : Bool → AH → Prop}, WIf C A env ifs ρ H Q →
    W C A env.locals (forIn ifs true fun c r => if r = true then do let ok ← isTrue c env (eval c env); pure (ForInStep.yield ok) else pure (ForInStep.yield r)) ρ H (fun b ρ' H' => ρ' = ρ ∧ Q b H')
  | [], ρ, H, Q, h => W.pure ⟨rfl, h⟩
  | c :: cs, ρ, H, Q, h => by
    rw [List.forIn_cons]
    refine W.bind (W.bind (W.mono h ?_))
    rintro b ρ1 H1 ⟨rfl, h1, h2⟩
    refine W.pure ?_
    cases b with
    | true => exact WIf.run (h1 rfl)
    | false =>
      show W C A env.locals (forIn cs false _) ρ1 H1 _
      rw [ifs_false]
      exact W.pure ⟨rfl, h2 rfl⟩

/-! ## comprehensions -/
structure StepX (ex : List Addr) (L : Addr) (H H' : AH) (s s' : Shared) : Prop where
  same : s'.gens = s.gens ∧ s'.os = s.os
  kept : ∀ b o, b ∉ ex → s.heap.get? b = some o → H b = none → b ≠ L → s'.heap.get? b = some o
  new : ∀ b o, b ∉ ex → s.heap.get? b = some o → H b = none → H' b = none
  live : ∀ b o, b ∉ ex → s.heap.get? b = some o → ∃ o', s'.heap.get? b = some o'
theorem Step.toX {ex : List Addr} {L : Addr} {H H' : AH} {s s' : Shared} (x : Step L H H' s s') : StepX ex L H H' s s' := ⟨x.same, fun b o _ e eb eL => x.kept b o e eb eL, fun b o _ => x.new b o, fun b o _ => x.live b o⟩
theorem StepX.trans {ex : List Addr} {L : Addr} {H H' H'' : AH} {s s' s'' : Shared} (x : StepX ex L H H' s s') (y : StepX ex L H' H'' s' s'') : StepX ex L H H'' s s'' := by
  obtain ⟨m1, k1, n1, l1⟩ := x
  obtain ⟨m2, k2, n2, l2⟩ := y
  exact ⟨⟨m2.1.trans m1.1, m2.2.trans m1.2⟩, fun b o hb e eH eL => k2 b o hb (k1 b o hb e eH eL) (n1 b o hb e eH) eL, fun b o hb e eH => let ⟨o', e'⟩ := l1 b o hb e; n2 b o' hb e' (n1 b o hb e eH), fun b o hb e => let ⟨o', e'⟩ := l1 b o hb e; l2 b o' hb e'⟩
/-- changes at untracked places -/
theorem StepX.off {ex : List Addr} {L : Addr} {H : AH} {s : Shared} {h' : Heap} {tk : Nat} (k : ∀ b o, b ∉ ex → s.heap.get? b = some o → h'.get? b = some o) : StepX ex L H H s { s with heap := h', toks := tk } :=
  ⟨⟨rfl, rfl⟩, fun b o hb e _ _ => k b o hb e, fun _ _ _ _ e => e, fun b o hb e => ⟨o, k b o hb e⟩⟩
theorem StepX.mono {ex ex' : List Addr} {L : Addr} {H H' : AH} {s s' : Shared} (x : StepX ex L H H' s s') (h : ∀ b ∈ ex, ∀ o, s.heap.get? b = some o → b ∈ ex') : StepX ex' L H H' s s' :=
  ⟨x.same, fun b o hb e eb eL => x.kept b o (fun q => hb (h b q o e)) e eb eL, fun b o hb e => x.new b o (fun q => hb (h b q o e)) e, fun b o hb e => x.live b o (fun q => hb (h b q o e)) e⟩

/-- the accumulator, not tracked -/
structure Acc (C : Cx) (L : Addr) (D : Addr) (H : AH) (ys : List V) (h : Heap) : Prop where
  off : H D = none ∧ C.base.get? D = none ∧ D ≠ L
  arr : ∃ xs : Array Value, h.PlainList D xs ∧ xs.toList.map ab = ys
  sz : ys.length ≤ sizeLine
theorem Acc.step {L D : Addr} {H H' : AH} {ys : List V} {s s' : Shared} (x : Acc C L D H ys s.heap) (y : Step L H H' s s') : Acc C L D H' ys s'.heap := by
  obtain ⟨o, ⟨xs, ⟨n, hp⟩, e⟩, z⟩ := x
  exact ⟨⟨y.new _ _ hp o.1, o.2⟩, ⟨xs, ⟨n, y.kept _ _ hp o.1 o.2.2⟩, e⟩, z⟩

noncomputable def CompR (C : Cx) (L D : Addr) (ex : List Addr) (H : AH) (s : Shared) (Q : Lo → AH → List V → Prop) (r : Result) (s' : Shared) : Prop :=
  match r with
  | .ok .next => ∃ ρ' H' zs, St C L ρ' H' s'.heap ∧ Acc C L D H' zs s'.heap ∧ StepX ex L H H' s s' ∧ Q ρ' H' zs
  | _ => False

/-- what is done for each item of the clauses behind -/
noncomputable def CompI (C : Cx) (A : Around) (env : Env) (elt : Expr) : List Comprehension → Lo → AH → List V → (Lo → AH → List V → Prop) → Prop
  | [], ρ, H, ys, Q => WE C A env elt ρ H (fun v H1 => ys.length < sizeLine ∧ Q ρ H1 (ys ++ [v]))
  | ⟨tgt, iter, ifs, _⟩ :: gs, ρ, H, ys, Q => WIt C A env iter tgt ρ H (fun H1 n Ok P => ∃ Inv : Nat → Lo → AH → List V → Prop, Inv 0 ρ H1 ys ∧
      (∀ i ρ1 H2 zs, i < n → Inv i ρ1 H2 zs → Ok i H2 ∧ ∀ d, P i H2 d → Asg C A env tgt d ρ1 H2 (fun ρ2 H3 => WIf C A env ifs ρ2 H3 (fun b H4 => (b = true → CompI C A env elt gs ρ2 H4 zs (fun ρ5 H5 us => Inv (i + 1) ρ5 H5 us)) ∧ (b = false → Inv (i + 1) ρ2 H4 zs)))) ∧
      (∀ ρ1 H2 zs, Inv n ρ1 H2 zs → Ok n H2 ∧ Q ρ1 H2 zs))

/-- the loop of one clause, given what is done inside -/
noncomputable def LoopOk (C : Cx) (A : Around) (env : Env) (elt tgt : Expr) (ifs : List Expr) (gs : List Comprehension) (H1 : AH) (n : Nat) (Ok : Nat → AH → Prop) (P : Nat → AH → Dv → Prop) (ρ : Lo) (ys : List V) (Q : Lo → AH → List V → Prop) : Prop :=
  ∃ Inv : Nat → Lo → AH → List V → Prop, Inv 0 ρ H1 ys ∧
      (∀ i ρ1 H2 zs, i < n → Inv i ρ1 H2 zs → Ok i H2 ∧ ∀ d, P i H2 d → Asg C A env tgt d ρ1 H2 (fun ρ2 H3 => WIf C A env ifs ρ2 H3 (fun b H4 => (b = true → CompI C A env elt gs ρ2 H4 zs (fun ρ5 H5 us => Inv (i + 1) ρ5 H5 us)) ∧ (b = false → Inv (i + 1) ρ2 H4 zs)))) ∧
      (∀ ρ1 H2 zs, Inv n ρ1 H2 zs → Ok n H2 ∧ Q ρ1 H2 zs)

theorem compTurn_last (elt : Expr) (gens : List Comprehension) (scope : Scope) (pos : Pos) (d : Nat) (tgt iter : Expr) (ifs : List Expr) (it acc : Value) (cenv : Env) (hd : gens[d]? = some ⟨tgt, iter, ifs, 0⟩) (hl : gens[d + 1]? = none) :
    compTurn (.ListComp elt gens scope pos) d it acc cenv = (standAt iter.pos >>= fun _ => pyNext it >>= fun r => match r with
      | none => pure (.done .next)
      | some v => letOwnedTupleGo tgt it v >>= fun _ => PySem.assign tgt cenv v >>= fun _ =>
          (forIn ifs true fun c r => if r = true then do let ok ← isTrue c cenv (eval c cenv); pure (ForInStep.yield ok) else pure (ForInStep.yield r)) >>= fun ok =>
            if ok = true then ((eval elt cenv >>= fun x => call (.builtin "list.append") [acc, x] >>= fun _ => pure PUnit.unit) >>= fun _ => again (.compLoop (.ListComp elt gens scope pos) d it acc cenv)) else again (.compLoop (.ListComp elt gens scope pos) d it acc cenv)) := by
  unfold compTurn
  simp only [hd, hl]
  rfl
theorem compTurn_more (elt : Expr) (gens : List Comprehension) (scope : Scope) (pos : Pos) (d : Nat) (tgt iter tgt' iter' : Expr) (ifs ifs' : List Expr) (it acc : Value) (cenv : Env) (hd : gens[d]? = some ⟨tgt, iter, ifs, 0⟩) (hl : gens[d + 1]? = some ⟨tgt', iter', ifs', 0⟩) :
    compTurn (.ListComp elt gens scope pos) d it acc cenv = (standAt iter.pos >>= fun _ => pyNext it >>= fun r => match r with
      | none => pure (.done .next)
      | some v => letOwnedTupleGo tgt it v >>= fun _ => PySem.assign tgt cenv v >>= fun _ =>
          (forIn ifs true fun c r => if r = true then do let ok ← isTrue c cenv (eval c cenv); pure (ForInStep.yield ok) else pure (ForInStep.yield r)) >>= fun ok =>
            if ok = true then (eval iter' cenv >>= fun x => standAt iter'.pos >>= fun _ => foldedSetIterable iter' cenv x >>= fun x => holding [x] (pyIter x) >>= fun it' => runOwn (.compStart (.ListComp elt gens scope pos) (d + 1) it' acc cenv) cenv >>= fun _ => again (.compLoop (.ListComp elt gens scope pos) d it acc cenv)) else again (.compLoop (.ListComp elt gens scope pos) d it acc cenv)) := by
  unfold compTurn
  simp only [hd, hl]
  rfl

theorem Off.stepX {L : Addr} {H H' : AH} {wr ex : List Addr} {s s' : Shared} (x : Off C L H wr) (hl : ∀ b ∈ wr, ∃ o, s.heap.get? b = some o) (y : StepX ex L H H' s s') (hex : ∀ b ∈ wr, b ∉ ex) : Off C L H' wr := fun b hb =>
  ⟨let ⟨o, e⟩ := hl b hb; y.new b o (hex b hb) e (x b hb).1, (x b hb).2⟩

noncomputable abbrev ifsT (ifs : List Expr) (env : Env) : Sem Bool := forIn ifs true fun c r => if r = true then do let ok ← isTrue c env (eval c env); pure (ForInStep.yield ok) else pure (ForInStep.yield r)
noncomputable def TurnP (C : Cx) (A : Around) (env : Env) (tgt : Expr) (ifs : List Expr) (I : Addr) (fin : Shared → Prop) (Inn : Shared → Prop) (K : Shared → Prop) : Option Value → Shared → Prop :=
  Drawn C A tgt I (fun r s₁ => match r with
    | none => fin s₁
    | some v => wpAny C.M A (PySem.assign tgt env v) (fun _ s₂ => wpAny C.M A (ifsT ifs env) (fun ok s₃ => (ok = true → Inn s₃) ∧ (ok = false → K s₃)) False2 s₂) False2 s₁)
noncomputable def InnLast (C : Cx) (A : Around) (env : Env) (elt : Expr) (D : Addr) (K : Shared → Prop) (s : Shared) : Prop :=
  wpAny C.M A (eval elt env) (fun x s₄ => wpAny C.M A (call (.builtin "list.append") [.ref D, x]) (fun _ s₅ => K s₅) False2 s₄) False2 s
noncomputable def InnMore (C : Cx) (A : Around) (env : Env) (e iter : Expr) (d : Nat) (D : Addr) (K : Shared → Prop) (s : Shared) : Prop :=
  wpAny C.M A (eval iter env) (fun x s₄ => wpAny C.M A (pyIter x) (fun it s₅ => codeAny C.M A (.compStart e d it (.ref D) env) (fun r s₆ => match r with | .ok _ => K s₆ | .error _ => False) s₅) False2 s₄) False2 s

theorem compLoop_last {elt : Expr} {gens : List Comprehension} {scope : Scope} {pos : Pos} {d : Nat} {tgt iter : Expr} {ifs : List Expr} {it D : Addr} {R : Result → Shared → Prop} {s : Shared} (hd : gens[d]? = some ⟨tgt, iter, ifs, 0⟩) (hl : gens[d + 1]? = none) (I : Nat → Shared → Prop)
    (turn : ∀ n s, I n s → wpAny C.M A (pyNext (.ref it)) (TurnP C A env tgt ifs it (R (.ok .next)) (InnLast C A env elt D (fun s' => ∃ m, m < n ∧ I m s')) (fun s' => ∃ m, m < n ∧ I m s')) False2 s) (n : Nat) (h : I n s) :
    codeAny C.M A (.compLoop (.ListComp elt gens scope pos) d (.ref it) (.ref D) env) R s := by
  refine codeAny_loop rfl I (fun n s hI => ?_) n h
  show wpAny _ A ((compTurn (.ListComp elt gens scope pos) d (.ref it) (.ref D) env).onRaise (fun x => do noteFrame x env; theTreesLotGoes x)) _ _ s
  refine wpAny_noted ?_
  rw [compTurn_last elt gens scope pos d tgt iter ifs _ _ _ hd hl]
  refine wpAny_bind (wpAny_standAt (wpAny_bind (wpAny_mono (turn n s hI) (fun r s₁ h₁ => ?_) fun _ _ e => e.elim)))
  cases r with
  | none => exact wpAny_pure h₁
  | some v =>
    refine wpAny_bind (wpAny_mono h₁ (fun _ s₂ h₂ => ?_) fun _ _ e => e.elim)
    refine wpAny_bind (wpAny_mono h₂ (fun _ s₃ h₃ => ?_) fun _ _ e => e.elim)
    refine wpAny_bind (wpAny_mono h₃ (fun ok s₄ h₄ => ?_) fun _ _ e => e.elim)
    cases ok with
    | false => exact wpAny_pure ⟨rfl, h₄.2 rfl⟩
    | true => exact wpAny_bind (wpAny_bind (wpAny_mono (h₄.1 rfl) (fun x s₅ h₅ => wpAny_bind (wpAny_mono h₅ (fun _ s₆ h₆ => wpAny_pure (wpAny_pure ⟨rfl, h₆⟩)) fun _ _ e => e.elim)) fun _ _ e => e.elim))
theorem compLoop_more {elt : Expr} {gens : List Comprehension} {scope : Scope} {pos : Pos} {d : Nat} {tgt iter tgt' iter' : Expr} {ifs ifs' : List Expr} {it D : Addr} {R : Result → Shared → Prop} {s : Shared} (hd : gens[d]? = some ⟨tgt, iter, ifs, 0⟩) (hl : gens[d + 1]? = some ⟨tgt', iter', ifs', 0⟩) (hs : ∀ x, foldedSetIterable iter' env x = pure x) (I : Nat → Shared → Prop)
    (turn : ∀ n s, I n s → wpAny C.M A (pyNext (.ref it)) (TurnP C A env tgt ifs it (R (.ok .next)) (InnMore C A env (.ListComp elt gens scope pos) iter' (d + 1) D (fun s' => ∃ m, m < n ∧ I m s')) (fun s' => ∃ m, m < n ∧ I m s')) False2 s) (n : Nat) (h : I n s) :
    codeAny C.M A (.compLoop (.ListComp elt gens scope pos) d (.ref it) (.ref D) env) R s := by
  refine codeAny_loop rfl I (fun n s hI => ?_) n h
  show wpAny _ A ((compTurn (.ListComp elt gens scope pos) d (.ref it) (.ref D) env).onRaise (fun x => do noteFrame x env; theTreesLotGoes x)) _ _ s
  refine wpAny_noted ?_
  rw [compTurn_more elt gens scope pos d tgt iter tgt' iter' ifs ifs' _ _ _ hd hl]
  refine wpAny_bind (wpAny_standAt (wpAny_bind (wpAny_mono (turn n s hI) (fun r s₁ h₁ => ?_) fun _ _ e => e.elim)))
  cases r with
  | none => exact wpAny_pure h₁
  | some v =>
    refine wpAny_bind (wpAny_mono h₁ (fun _ s₂ h₂ => ?_) fun _ _ e => e.elim)
    refine wpAny_bind (wpAny_mono h₂ (fun _ s₃ h₃ => ?_) fun _ _ e => e.elim)
    refine wpAny_bind (wpAny_mono h₃ (fun ok s₄ h₄ => ?_) fun _ _ e => e.elim)
    cases ok with
    | false => exact wpAny_pure ⟨rfl, h₄.2 rfl⟩
    | true =>
      refine wpAny_bind (wpAny_mono (h₄.1 rfl) (fun x s₅ h₅ => wpAny_bind (wpAny_standAt ?_)) fun _ _ e => e.elim)
      rw [hs]
      refine wpAny_bind (wpAny_pure (wpAny_bind (wpAny_holding (wpAny_mono h₅ (fun it' s₆ h₆ => ?_) fun _ _ e => e.elim))))
      refine wpAny_bind ?_
      unfold runOwn
      refine wpAny_onRaise (wpAny_run (codeAny_mono h₆ fun r s' hr => ?_))
      cases r with
      | ok f => exact wpAny_pure ⟨rfl, hr⟩
      | error e => exact hr.elim

theorem compStart_run {elt : Expr} {gens : List Comprehension} {scope : Scope} {pos : Pos} {d : Nat} {tgt iter : Expr} {ifs : List Expr} {it acc : Value} {R : Result → Shared → Prop} {s : Shared} (hd : gens[d]? = some ⟨tgt, iter, ifs, 0⟩)
    (h0 : codeAny C.M A (.compLoop (.ListComp elt gens scope pos) d it acc env) R s)
    (h : wpAny C.M A (pyIter it) (fun it' s' => codeAny C.M A (.compLoop (.ListComp elt gens scope pos) d it' acc env) R s') False2 s) :
    codeAny C.M A (.compStart (.ListComp elt gens scope pos) d it acc env) R s := by
  refine codeAny_of_tree ?_
  show wpAny _ _ ((compStart (.ListComp elt gens scope pos) d it acc env).onRaise (fun x => do noteFrame x env; standAt theWindowsPlace)) _ _ s
  refine wpAny_notedAt ?_
  unfold compStart
  have hcl : (clausesOf (.ListComp elt gens scope pos))[d]? = some ⟨tgt, iter, ifs, 0⟩ := hd
  rw [hcl]
  show wpAny _ _ (ask >>= _) _ _ s
  refine wpAny_bind (wpAny_askSetting (wpAny_ite ?_))
  split
  · exact wpAny_pure (And.intro rfl h0)
  · exact wpAny_bind (wpAny_rule (wpAny_bind (wpAny_standAt (wpAny_bind (wpAny_mono h (fun it' s' h' => wpAny_pure (And.intro rfl h')) fun _ _ x => x.elim)))))

section
variable {elt tgt : Expr} {ifs : List Expr} {gs : List Comprehension} {I D : Addr} {wr : List Addr} {n : Nat} {Rr : Nat → Heap → Prop} {Ok : Nat → AH → Prop} {P : Nat → AH → Dv → Prop} {Inv : Nat → Lo → AH → List V → Prop} {s : Shared} {Q : Lo → AH → List V → Prop}
noncomputable def CSt (C : Cx) (env : Env) (D : Addr) (wr : List Addr) (n : Nat) (Rr : Nat → Heap → Prop) (Inv : Nat → Lo → AH → List V → Prop) (H : AH) (s : Shared) (k : Nat) (s2 : Shared) : Prop :=
  ∃ i ρ2 H2 zs, i ≤ n ∧ k = n - i ∧ St C env.locals ρ2 H2 s2.heap ∧ StepX (D :: wr) env.locals H H2 s s2 ∧ Rr i s2.heap ∧ Off C env.locals H2 wr ∧ Acc C env.locals D H2 zs s2.heap ∧ Inv i ρ2 H2 zs
theorem comp_turns (Inn : (Shared → Prop) → Shared → Prop)
    (hInn : ∀ {ρ H zs Qi} {K : Shared → Prop} {s : Shared}, CompI C A env elt gs ρ H zs Qi → St C env.locals ρ H s.heap → Acc C env.locals D H zs s.heap →
      (∀ ρ5 H5 us s5, St C env.locals ρ5 H5 s5.heap → Acc C env.locals D H5 us s5.heap → StepX [D] env.locals H H5 s s5 → Qi ρ5 H5 us → K s5) → Inn K s)
    (it : Itr C A I wr tgt n Rr Ok P) (hDw : D ∉ wr)
    (turn : ∀ i ρ1 H2 zs, i < n → Inv i ρ1 H2 zs → Ok i H2 ∧ ∀ d, P i H2 d → Asg C A env tgt d ρ1 H2 (fun ρ2 H3 => WIf C A env ifs ρ2 H3 (fun b H4 => (b = true → CompI C A env elt gs ρ2 H4 zs (fun ρ5 H5 us => Inv (i + 1) ρ5 H5 us)) ∧ (b = false → Inv (i + 1) ρ2 H4 zs))))
    (fin : ∀ ρ1 H2 zs, Inv n ρ1 H2 zs → Ok n H2 ∧ Q ρ1 H2 zs) (k : Nat) (s2 : Shared) (hI : CSt C env D wr n Rr Inv H s k s2) :
    wpAny C.M A (pyNext (.ref I)) (TurnP C A env tgt ifs I (CompR C env.locals D (D :: wr) H s Q (.ok .next)) (Inn (fun s' => ∃ m, m < k ∧ CSt C env D wr n Rr Inv H s m s')) (fun s' => ∃ m, m < k ∧ CSt C env D wr n Rr Inv H s m s')) False2 s2 := by
  obtain ⟨i, ρ2, H2, zs, hi, rfl, a2, b2, r2, o2, acc2, i2⟩ := hI
  by_cases hlt : i < n
  · obtain ⟨ok, t⟩ := turn i ρ2 H2 zs hlt i2
    refine it.item i s2 env.locals ρ2 H2 _ hlt r2 a2 o2 ok fun v dd h' tk hP hdd a3 r3 k3 => ?_
    have b3 : StepX (D :: wr) env.locals H2 H2 s2 { s2 with heap := h', toks := tk } := StepX.off (fun b o hb e => k3 b o (fun q => hb (List.mem_cons_of_mem _ q)) e)
    have hDn : ∀ b ∈ wr, b ∉ [D] := fun b hb q => hDw (by rw [← List.mem_singleton.mp q]; exact hb)
    have acc3 : Acc C env.locals D H2 zs h' := by
      obtain ⟨oo, ⟨xs, ⟨nn, hp⟩, e⟩, z⟩ := acc2
      exact ⟨oo, ⟨xs, ⟨nn, k3 D _ hDw hp⟩, e⟩, z⟩
    refine wpAny_mono (t dd hP { s2 with heap := h', toks := tk } v a3 hdd) (fun _ s4 ⟨ρ4, H4, a4, b4, c4⟩ => ?_) fun _ _ e => e.elim
    have acc4 := acc3.step b4
    have r4 : Rr (i + 1) s4.heap := it.frame _ _ _ r3 fun b hb o e => b4.kept b o e (o2 b hb).1 (o2 b hb).2.2
    have o4 : Off C env.locals H4 wr := o2.step (it.live _ _ r3) b4
    refine wpAny_mono (WIf.run c4 s4 a4) (fun bb s5 ⟨ρ5, H5, a5, b5, c5, d5, d5'⟩ => ?_) fun _ _ e => e.elim
    subst c5
    have acc5 := acc4.step b5
    have r5 : Rr (i + 1) s5.heap := it.frame _ _ _ r4 fun b hb o e => b5.kept b o e (o4 b hb).1 (o4 b hb).2.2
    have o5 : Off C env.locals H5 wr := o4.step (it.live _ _ r4) b5
    have b25 := ((b2.trans b3).trans b4.toX).trans b5.toX
    refine ⟨fun e => ?_, fun e => ⟨n - (i + 1), by omega, i + 1, ρ5, H5, zs, hlt, rfl, a5, b25, r5, o5, acc5, d5' e⟩⟩
    refine hInn (d5 e) a5 acc5 fun ρ6 H6 us s6 a6 acc6 b6 i6 => ?_
    refine ⟨n - (i + 1), by omega, i + 1, ρ6, H6, us, hlt, rfl, a6, b25.trans (b6.mono fun b hb _ _ => by rw [List.mem_singleton.mp hb]; exact List.mem_cons_self ..), ?_, o5.stepX (it.live _ _ r5) b6 hDn, acc6, i6⟩
    exact it.frame _ _ _ r5 fun b hb o e => b6.kept b o (hDn b hb) e (o5 b hb).1 (o5 b hb).2.2
  · have hin : i = n := by lia
    subst hin
    obtain ⟨ok, q⟩ := fin ρ2 H2 zs i2
    refine it.done s2 env.locals ρ2 H2 _ r2 a2 o2 ok fun h' tk a3 k3 => ?_
    refine ⟨ρ2, H2, zs, a3, ?_, ?_, q⟩
    · obtain ⟨oo, ⟨xs, ⟨nn, hp⟩, e⟩, z⟩ := acc2
      exact ⟨oo, ⟨xs, ⟨nn, k3 D _ hDw hp⟩, e⟩, z⟩
    · exact b2.trans (StepX.off fun b o hb e => k3 b o (fun q => hb (List.mem_cons_of_mem _ q)) e)
end

theorem comp_run {elt : Expr} {gens : List Comprehension} {scope : Scope} {pos : Pos} {D : Addr} : ∀ (gs : List Comprehension) (d : Nat) (tgt iter : Expr) (ifs : List Expr), gens.drop d = ⟨tgt, iter, ifs, 0⟩ :: gs → (∀ g ∈ gs, g.is_async = 0 ∧ ∀ x, foldedSetIterable g.iter env x = pure x) →
    ∀ {I : Addr} {wr : List Addr} {n : Nat} {Rr : Nat → Heap → Prop} {Ok : Nat → AH → Prop} {P : Nat → AH → Dv → Prop} {ρ : Lo} {H : AH} {ys : List V} {Q : Lo → AH → List V → Prop} {s : Shared},
      LoopOk C A env elt tgt ifs gs H n Ok P ρ ys Q → Itr C A I wr tgt n Rr Ok P → Rr 0 s.heap → St C env.locals ρ H s.heap → Off C env.locals H wr → D ∉ wr → Acc C env.locals D H ys s.heap →
      codeAny C.M A (.compStart (.ListComp elt gens scope pos) d (.ref I) (.ref D) env) (CompR C env.locals D (D :: wr) H s Q) s := by
  intro gs
  induction gs with
  | nil =>
    intro d tgt iter ifs hdrop hasync I wr n Rr Ok P ρ H ys Q s ⟨Inv, h0, turn, fin⟩ it r0 a0 o0 hDw acc0
    have hd : gens[d]? = some ⟨tgt, iter, ifs, 0⟩ := by rw [← List.head?_drop, hdrop]; rfl
    have hl : gens[d + 1]? = none := by
      have : gens.drop (d + 1) = [] := by rw [← List.drop_drop, hdrop]; rfl
      rw [← List.head?_drop, this]; rfl
    have key : codeAny C.M A (.compLoop (.ListComp elt gens scope pos) d (.ref I) (.ref D) env) (CompR C env.locals D (D :: wr) H s Q) s := by
      refine compLoop_last hd hl (CSt C env D wr n Rr Inv H s) (fun k s2 hI => comp_turns (InnLast C A env elt D) ?_ it hDw turn fin k s2 hI) n ⟨0, ρ, H, ys, Nat.zero_le _, rfl, a0, (Step.refl ..).toX, r0, o0, acc0, h0⟩
      intro ρ5 H5 zs Qi K s5 hc a5 acc5 hK
      refine wpAny_mono (hc s5 a5) (fun y s6 ⟨ρ6, H6, a6, b6, c6, d6, d6'⟩ => ?_) fun _ _ e => e.elim
      subst c6
      obtain ⟨oo, ⟨xs, hp, e⟩, z6⟩ := acc5.step b6
      have hxs : xs.size = zs.length := by rw [← e]; simp
      refine wpAny_list_append_plain hp (fun h7 hp7 hs7 => ?_) (by rw [hxs]; exact Nat.le_of_lt d6)
      have k7 : ∀ b o, b ∉ [D] → s6.heap.get? b = some o → h7.get? b = some o := fun b o hb e => hs7.extBut b o (fun q => hb (by simp [q])) e
      exact hK ρ6 H6 (zs ++ [ab y]) _ (a6.offL (fun b hb => by rw [List.mem_singleton.mp hb]; exact oo) k7) ⟨oo, ⟨xs.push y, hp7, by simp [e]⟩, by simp; lia⟩ (b6.toX.trans (StepX.off k7)) d6'
    exact compStart_run hd key (it.self 0 s _ r0 key)
  | cons g gs ih =>
    intro d tgt iter ifs hdrop hasync I wr n Rr Ok P ρ H ys Q s ⟨Inv, h0, turn, fin⟩ it r0 a0 o0 hDw acc0
    obtain ⟨tgt', iter', ifs', as'⟩ := g
    have has : as' = 0 := (hasync _ (List.mem_cons_self ..)).1
    subst has
    have hfs : ∀ x, foldedSetIterable iter' env x = pure x := (hasync _ (List.mem_cons_self ..)).2
    have hd : gens[d]? = some ⟨tgt, iter, ifs, 0⟩ := by rw [← List.head?_drop, hdrop]; rfl
    have hdrop' : gens.drop (d + 1) = ⟨tgt', iter', ifs', 0⟩ :: gs := by rw [← List.drop_drop, hdrop]; rfl
    have hl : gens[d + 1]? = some ⟨tgt', iter', ifs', 0⟩ := by rw [← List.head?_drop, hdrop']; rfl
    have key : codeAny C.M A (.compLoop (.ListComp elt gens scope pos) d (.ref I) (.ref D) env) (CompR C env.locals D (D :: wr) H s Q) s := by
      refine compLoop_more hd hl hfs (CSt C env D wr n Rr Inv H s) (fun k s2 hI => comp_turns (InnMore C A env (.ListComp elt gens scope pos) iter' (d + 1) D) ?_ it hDw turn fin k s2 hI) n ⟨0, ρ, H, ys, Nat.zero_le _, rfl, a0, (Step.refl ..).toX, r0, o0, acc0, h0⟩
      intro ρ5 H5 zs Qi K s5 hc a5 acc5 hK
      refine hc s5 a5 _ (fun H6 n6 Ok6 P6 I6 wr6 Rr6 s6 hL6 it6 r6 a6 b6 hw6 => ?_)
      have acc6 := acc5.step b6
      have hD6 : D ∉ wr6 := fun q => by
        obtain ⟨_, ⟨xs, ⟨nn, hp⟩, _⟩, _⟩ := acc5
        rw [(hw6 D q).1] at hp; cases hp
      refine codeAny_mono (ih (d + 1) tgt' iter' ifs' hdrop' (fun g hg => hasync g (List.mem_cons_of_mem _ hg)) hL6 it6 r6 a6 (fun b hb => ⟨(hw6 b hb).2, (a5.fresh (hw6 b hb).1).2⟩) hD6 acc6) (fun r s7 h7 => ?_)
      cases r with
      | error e => exact h7
      | ok f =>
        cases f with
        | next =>
          obtain ⟨ρ7, H7, us, a7, acc7, b7, q7⟩ := h7
          refine hK ρ7 H7 us s7 a7 acc7 ?_ q7
          have b67 := (b6.toX (ex := D :: wr6)).trans b7
          refine b67.mono fun b hb o e => ?_
          rcases List.mem_cons.mp hb with rfl | hb
          · exact List.mem_singleton.mpr rfl
          · rw [(hw6 b hb).1] at e; cases e
        | brk => exact h7.elim
        | cont => exact h7.elim
        | ret v => exact h7.elim
    exact compStart_run hd key (it.self 0 s _ r0 key)

/-! the whole comprehension -/

noncomputable def CompOk (C : Cx) (A : Around) (env : Env) (elt : Expr) (g : Comprehension) (gs : List Comprehension) (scope : Scope) (cl : List (Str × Addr)) (ρ : Lo) (H : AH) (Q : AH → List V → Prop) : Prop :=
  WIt C A env g.iter g.target ρ H (fun H1 n Ok P => ∀ Cn, H1 Cn = none → LoopOk C A (compEnvC scope cl Cn env) elt g.target g.ifs gs H1 n Ok P (fun _ => none) [] (fun _ H2 zs => Q H2 zs))

theorem comp_whole {elt tgt iter : Expr} {ifs : List Expr} {gs : List Comprehension} {scope : Scope} {pos : Pos} {cl : List (Str × Addr)} {use : Option (Value → Sem Unit)} {s : Shared} {Q : AH → List V → Prop} {QQ : Value → Shared → Prop}
    (hclos : closureFor scope env = pure cl) (hcell : ∀ y ∈ scope.names, y.2 ≠ .cell) (hkind : scope.kind = .function) (hnames : ∀ x ∈ scope.names, x.2 = .local → scope.names.lookup x.1 = some .local)
    (hfs : ∀ x, foldedSetIterable iter env x = pure x) (hgs : ∀ g ∈ gs, g.is_async = 0 ∧ ∀ Cn, ∀ x, foldedSetIterable g.iter (compEnvC scope cl Cn env) x = pure x)
    (hs : St C env.locals ρ H s.heap) (h : CompOk C A env elt ⟨tgt, iter, ifs, 0⟩ gs scope cl ρ H Q)
    (hq : ∀ D Cn H2 zs s', Q H2 zs → H2 D = none → St C env.locals ρ (H2.set D (.list zs)) s'.heap → Step env.locals H (H2.set D (.list zs)) s s' → s.heap.get? Cn = none → Cn ≠ D → H2 Cn = none → (∃ m, s'.heap.Ns Cn m) → compPost C.M A False2 use QQ (.ref D) Cn (.ok .next) s') :
    wpAny C.M A (comprehension (.ListComp elt (⟨tgt, iter, ifs, 0⟩ :: gs) scope pos) scope env (firstIterPos (⟨tgt, iter, ifs, 0⟩ :: gs) pos) (newList []) false (eval iter env) use) QQ False2 s := by
  refine wpAny_comprehension_free (g := ⟨tgt, iter, ifs, 0⟩) (gs := gs) rfl hfs hclos hkind hnames ?_
  refine h s hs _ (fun H1 n Ok P I wr Rr s1 hL it r1 a1 b1 hw => ?_)
  refine wpAny_newObj_type (wpAny_newFunctionEnv hcell (by intro y hy; simp at hy) (fun h2 hns2 hsb2 => ?_) hkind)
  dsimp only at hns2 hsb2 ⊢
  generalize hH2 : s1.heap.push { cls := .type "list", dict := none, data := .seq ([] : List Value).toArray } = HH at hns2 hsb2 ⊢
  have hsz : HH.objs.size = s1.heap.objs.size + 1 := by rw [← hH2, Heap.size_push]
  have hDn : s1.heap.get? s1.heap.objs.size = none := get?_size_none _
  have hCn : HH.get? HH.objs.size = none := get?_size_none _
  have up1 : ∀ b o, s1.heap.get? b = some o → HH.get? b = some o := fun b o e => by rw [← hH2]; exact Heap.get?_push_of_some _ e
  have up2 : ∀ b o, HH.get? b = some o → h2.get? b = some o := fun b o e => hsb2.extBut b o (fun q => by rw [q, hCn] at e; cases e) (Heap.get?_push_of_some _ e)
  have hDC : s1.heap.objs.size ≠ HH.objs.size := by rw [hsz]; exact Nat.ne_of_lt (Nat.lt_succ_self _)
  have hC1 : s1.heap.get? HH.objs.size = none := by
    cases e : s1.heap.get? HH.objs.size with
    | none => rfl
    | some o => rw [up1 _ _ e] at hCn; cases hCn
  have fD := a1.fresh hDn
  have fC := a1.fresh hC1
  have a2 : St C HH.objs.size (fun _ => none) H1 h2 := ⟨fun b o e => up2 _ _ (up1 _ _ (a1.keep b o e)), fun a o e => let ⟨c, e1, e2⟩ := a1.rep a o e; ⟨c, up2 _ _ (up1 _ _ e1), e2⟩, a1.own, ⟨_, hns2, fun x => rfl⟩, fC.1, fC.2.1⟩
  have hDp : h2.PlainList s1.heap.objs.size #[] := ⟨0, up2 _ _ (by rw [← hH2]; exact Heap.get?_push_size _ rfl)⟩
  have accD : Acc C HH.objs.size s1.heap.objs.size H1 [] h2 := ⟨⟨fD.1, fD.2.1, hDC⟩, ⟨#[], hDp, rfl⟩, Nat.zero_le _⟩
  have live1 := it.live 0 s1.heap r1
  have hwne : ∀ b ∈ wr, b ≠ s1.heap.objs.size ∧ b ≠ HH.objs.size := fun b hb => by
    obtain ⟨o, e⟩ := live1 b hb
    exact ⟨fun q => (by rw [q, hDn] at e; cases e), fun q => (by rw [q, hC1] at e; cases e)⟩
  have r2 : Rr 0 h2 := it.frame _ _ _ r1 fun b hb o e => up2 _ _ (up1 _ _ e)
  have o2 : Off C HH.objs.size H1 wr := fun b hb => ⟨(hw b hb).2, (hs.fresh (hw b hb).1).2.1, (hwne b hb).2⟩
  have key := comp_run (C := C) (A := A) (env := compEnvC scope cl HH.objs.size env) (elt := elt) (gens := ⟨tgt, iter, ifs, 0⟩ :: gs) (scope := scope) (pos := pos) (D := s1.heap.objs.size) gs 0 tgt iter ifs rfl (fun g hg => ⟨(hgs g hg).1, (hgs g hg).2 _⟩) (s := { s1 with heap := h2, toks := s1.toks + ([] : List (Str × Value)).length }) (hL HH.objs.size fC.1) it r2 a2 o2 (fun q => (hwne _ q).1 rfl) accD
  refine codeAny_mono key fun r s3 h3 => ?_
  cases r with
  | error e => exact h3.elim
  | ok f =>
    cases f with
    | brk => exact h3.elim
    | cont => exact h3.elim
    | ret v => exact h3.elim
    | next =>
      obtain ⟨ρ3, H3, zs, a3, ⟨oD, ⟨xs, ⟨nn, hp⟩, e⟩, hzs⟩, b3, q3⟩ := h3
      have s13 : ∀ b o, s.heap.get? b = some o → b ∉ s1.heap.objs.size :: wr := fun b o eb q => by
        rcases List.mem_cons.mp q with rfl | q
        · obtain ⟨o', e'⟩ := b1.live _ o eb; rw [hDn] at e'; cases e'
        · rw [(hw b q).1] at eb; cases eb
      have neC : ∀ b o, s.heap.get? b = some o → b ≠ HH.objs.size := fun b o eb q => by obtain ⟨o', e'⟩ := b1.live _ o eb; rw [q, hC1] at e'; cases e'
      have alive2 : ∀ b o, s.heap.get? b = some o → ∃ o', h2.get? b = some o' := fun b o eb => let ⟨o', e'⟩ := b1.live _ o eb; ⟨o', up2 _ _ (up1 _ _ e')⟩
      have kept : ∀ b o, s.heap.get? b = some o → H b = none → b ≠ env.locals → s3.heap.get? b = some o := fun b o eb eH eL =>
        b3.kept b o (s13 b o eb) (up2 _ _ (up1 _ _ (b1.kept b o eb eH eL))) (b1.new b o eb eH) (neC b o eb)
      have new3 : ∀ b o, s.heap.get? b = some o → H b = none → H3 b = none := fun b o eb eH => by
        obtain ⟨o', e'⟩ := alive2 b o eb
        exact b3.new b o' (s13 b o eb) e' (b1.new b o eb eH)
      obtain ⟨m1, ⟨oL, esL, epL, hoL, rL⟩, hm1⟩ := a1.loc
      have hLD : env.locals ≠ s1.heap.objs.size := fun q => by rw [q, hDn] at hoL; cases hoL
      have hLC : env.locals ≠ HH.objs.size := fun q => by rw [q, hC1] at hoL; cases hoL
      have hLx : env.locals ∉ s1.heap.objs.size :: wr := fun q => by
        rcases List.mem_cons.mp q with q | q
        · exact hLD q
        · exact (hs.fresh (hw _ q).1).2.2 rfl
      have hL3 : s3.heap.get? env.locals = some oL := b3.kept _ _ hLx (up2 _ _ (up1 _ _ hoL)) a1.nl hLC
      have nL3 : H3 env.locals = none := b3.new _ _ hLx (up2 _ _ (up1 _ _ hoL)) a1.nl
      have St3 : St C env.locals ρ (H3.set s1.heap.objs.size (.list zs)) s3.heap := by
        refine ⟨a3.keep, fun b o eb => ?_, fun b o eb hm => ?_, ⟨m1, ⟨oL, esL, epL, hL3, rL⟩, hm1⟩, ?_, a1.bl⟩
        · by_cases q : b = s1.heap.objs.size
          · subst q; rw [AH.set_same] at eb; cases eb; exact ⟨_, hp, xs, nn, rfl, e, hzs⟩
          · rw [AH.set_ne _ _ q] at eb; exact a3.rep b o eb
        · by_cases q : b = s1.heap.objs.size
          · subst q; exact fD.2.1
          · rw [AH.set_ne _ _ q] at eb; exact a3.own b o eb hm
        · rw [AH.set_ne _ _ hLD]; exact nL3
      refine hq s1.heap.objs.size HH.objs.size H3 zs s3 q3 oD.1 St3 ⟨?_, kept, fun b o eb eH => ?_, fun b o eb => ?_⟩ ?_ (Ne.symm hDC) a3.nl (let ⟨m, hm, _⟩ := a3.loc; ⟨m, hm⟩)
      · exact ⟨b3.same.1.trans b1.same.1, b3.same.2.trans b1.same.2⟩
      · rw [AH.set_ne _ _ (fun q => by obtain ⟨o', e'⟩ := b1.live _ o eb; rw [q, hDn] at e'; cases e')]; exact new3 b o eb eH
      · obtain ⟨o', e'⟩ := alive2 b o eb
        exact b3.live b o' (s13 b o eb) e'
      · cases ec : s.heap.get? HH.objs.size with
        | none => rfl
        | some o => exact absurd rfl (neC _ o ec)

theorem Step.letgo {L Cn D : Addr} {H H2 : AH} {s s' : Shared} {h' : Heap} {zs : List V} (x : Step L H H2 s s') (hc : s.heap.get? Cn = none) (hs : Heap.SameBut Cn s'.heap h') : Step L H H2 s { s' with heap := h' } := by
  obtain ⟨m1, k, n, l⟩ := x
  have ne : ∀ b o, s.heap.get? b = some o → b ≠ Cn := fun b o e q => by rw [q, hc] at e; cases e
  exact ⟨m1, fun b o e eb eL => hs.extBut b o (ne b o e) (k b o e eb eL), n, fun b o e => let ⟨o', e'⟩ := l b o e; ⟨o', hs.extBut b o' (ne b o e) e'⟩⟩

theorem WE.listComp {elt tgt iter : Expr} {ifs : List Expr} {gs : List Comprehension} {scope : Scope} {pos : Pos} {cl : List (Str × Addr)} {Q : V → AH → Prop}
    (hclos : closureFor scope env = pure cl) (h : CompOk C A env elt ⟨tgt, iter, ifs, 0⟩ gs scope cl ρ H (fun H2 zs => ∀ D, H2 D = none → Q (.ref D) (H2.set D (.list zs))))
    (hcell : ∀ y ∈ scope.names, y.2 ≠ .cell := by decide) (hkind : scope.kind = .function := by rfl) (hnames : ∀ x ∈ scope.names, x.2 = .local → scope.names.lookup x.1 = some .local := by decide)
    (hfs : ∀ x, foldedSetIterable iter env x = pure x := by intro _; rfl) (hgs : ∀ g ∈ gs, g.is_async = 0 ∧ ∀ Cn, ∀ x, foldedSetIterable g.iter (compEnvC scope cl Cn env) x = pure x := by simp) :
    WE C A env (.ListComp elt (⟨tgt, iter, ifs, 0⟩ :: gs) scope pos) ρ H Q := fun s hs => by
  refine comp_whole (use := none) hclos hcell hkind hnames hfs hgs hs h fun D Cn H2 zs s' q hD a b hCs hCD hC2 hns => ?_
  obtain ⟨m, hm⟩ := hns
  refine ⟨m, hm, fun h' hsb => ⟨ρ, _, ?_, b.letgo (D := D) (zs := zs) hCs hsb, rfl, q D hD⟩⟩
  refine a.off (I := Cn) ?_ ?_ ?_ (fun b o hb e => hsb.extBut b o hb e)
  · rw [AH.set_ne _ _ hCD]; exact hC2
  · exact (hs.fresh hCs).2.1
  · exact (hs.fresh hCs).2.2

theorem W1.asgComp {elt tgt iter : Expr} {ifs : List Expr} {gs : List Comprehension} {scope : Scope} {pos spos p : Pos} {x : Str} {cl : List (Str × Addr)} {Q : Fl → Lo → AH → Prop} (F : Fx C A env) (hl : env.kindOf x = some .local)
    (hclos : closureFor scope env = pure cl) (h : CompOk C A env elt ⟨tgt, iter, ifs, 0⟩ gs scope cl ρ H (fun H2 zs => ∀ D, H2 D = none → Q .next (ρ.set x (.ref D)) (H2.set D (.list zs))))
    (hsw : swapsWith (.ListComp elt (⟨tgt, iter, ifs, 0⟩ :: gs) scope pos) (some (.Name x p)) spos.line env = pure true)
    (hcell : ∀ y ∈ scope.names, y.2 ≠ .cell := by decide) (hkind : scope.kind = .function := by rfl) (hnames : ∀ x ∈ scope.names, x.2 = .local → scope.names.lookup x.1 = some .local := by decide)
    (hfs : ∀ x, foldedSetIterable iter env x = pure x := by intro _; rfl) (hgs : ∀ g ∈ gs, g.is_async = 0 ∧ ∀ Cn, ∀ x, foldedSetIterable g.iter (compEnvC scope cl Cn env) x = pure x := by simp) :
    W1 C A env (.Assign [.Name x p] (.ListComp elt (⟨tgt, iter, ifs, 0⟩ :: gs) scope pos) spos) ρ H Q := fun s hs => by
  rw [exec_Assign_Name_used x p _ spos hsw]
  refine wpAny_bind (wpAny_standAt (wpAny_bind (m := evalThenUse (.ListComp elt (⟨tgt, iter, ifs, 0⟩ :: gs) scope pos) env (PySem.assign (.Name x p) env)) ?_))
  show wpAny C.M A (comprehension (.ListComp elt (⟨tgt, iter, ifs, 0⟩ :: gs) scope pos) scope env (firstIterPos (⟨tgt, iter, ifs, 0⟩ :: gs) pos) (newList []) false (eval iter env) (some (PySem.assign (.Name x p) env)) >>= fun _ => pure PUnit.unit) _ _ s
  refine wpAny_bind ?_
  refine comp_whole (use := some (PySem.assign (.Name x p) env)) hclos hcell hkind hnames hfs hgs hs h fun D Cn H2 zs s' q hD a b hCs hCD hC2 hns => ?_
  obtain ⟨m, hm⟩ := hns
  have hCo : (H2.set D (.list zs)) Cn = none := by rw [AH.set_ne _ _ hCD]; exact hC2
  have hCL : Cn ≠ env.locals := (hs.fresh hCs).2.2
  refine wpAny_mono (Asg.local (pos := p) F hl (Q := fun ρ2 H3 => ρ2 = ρ.set x (.ref D) ∧ H3 = H2.set D (.list zs)) ⟨rfl, rfl⟩ s' (.ref D) a rfl) (fun _ s'' ⟨ρ2, H3, a2, b2, c2, c3⟩ => ?_) fun _ _ e => e
  subst c2 c3
  have hm2 : s''.heap.Ns Cn m := by
    obtain ⟨o, es, ep, ho, r⟩ := hm
    exact ⟨o, es, ep, b2.kept _ _ ho hCo hCL, r⟩
  refine ⟨m, hm2, fun h' hsb => wpAny_pure (wpAny_pure ⟨_, _, ?_, (b.trans b2 (fun _ _ => a2.nl)).letgo (D := D) (zs := zs) hCs hsb, q D hD⟩)⟩
  exact a2.off (I := Cn) hCo (hs.fresh hCs).2.1 hCL (fun b o hb e => hsb.extBut b o hb e)
end
end Mine

namespace Mine
open PySem PySem.W PyProof.Rows

section
variable {C : Cx} {A : Around} {env : Env} {ρ : Lo} {H : AH}

/-! ## the library's frames and ledgers over my states -/
noncomputable def noHeap : Heap := ⟨#[], {}⟩
theorem noHeap_get (b : Addr) : noHeap.get? b = none := by simp [noHeap, Heap.get?]
noncomputable def allNews (h : Heap) (L : Addr) : List (Addr × Obj) := (List.range h.objs.size).filterMap fun b => if b = L then none else (h.get? b).map fun o => (b, o)
theorem mem_allNews {h : Heap} {L b : Addr} {o : Obj} (e : h.get? b = some o) (hb : b ≠ L) : (b, o) ∈ allNews h L :=
  List.mem_filterMap.mpr ⟨b, List.mem_range.mpr (Heap.lt_size e), by simp [hb, e]⟩
theorem news_all (h : Heap) (L : Addr) : News noHeap L h (allNews h L) := fun p hp => by
  obtain ⟨b, _, e⟩ := List.mem_filterMap.mp hp
  by_cases hb : b = L
  · simp [hb] at e
  · rw [if_neg hb] at e
    cases hg : h.get? b with
    | none => rw [hg] at e; cases e
    | some o => rw [hg] at e; cases e; exact ⟨hg, hb, noHeap_get _⟩
theorem St.fr {L : Addr} {h : Heap} (hs : St C L ρ H h) : ∃ m, Fr noHeap L h m ∧ ∀ x, (m x).map ab = ρ x := by
  obtain ⟨m, hn, hm⟩ := hs.loc
  exact ⟨m, ⟨hn, fun b o e => (by rw [noHeap_get] at e; cases e), Nat.zero_le _⟩, hm⟩
theorem News.kept {L : Addr} {h h' : Heap} {news : List (Addr × Obj)} (N : News noHeap L h' news) (hsub : ∀ p ∈ allNews h L, p ∈ news) : ∀ b o, b ≠ L → h.get? b = some o → h'.get? b = some o := fun b o hb e => (N _ (hsub _ (mem_allNews e hb))).1
theorem St.of_fr {L : Addr} {h h' : Heap} {m : Str → Option Value} (hs : St C L ρ H h) (F : Fr noHeap L h' m) (hm : ∀ x, (m x).map ab = ρ x) (k : ∀ b o, b ≠ L → h.get? b = some o → h'.get? b = some o) : St C L ρ H h' where
  keep := fun b o e => k b o (fun q => by rw [q, hs.bl] at e; cases e) (hs.keep b o e)
  rep := fun a o e => let ⟨c, e1, e2⟩ := hs.rep a o e; ⟨c, k a c (fun q => by rw [q, hs.nl] at e; cases e) e1, e2⟩
  own := hs.own
  loc := ⟨m, F.ns, hm⟩
  nl := hs.nl
  bl := hs.bl
theorem Step.of_fr {L : Addr} {s : Shared} {h' : Heap} {tk : Nat} {m : Str → Option Value} (F : Fr noHeap L h' m) (k : ∀ b o, b ≠ L → s.heap.get? b = some o → h'.get? b = some o) : Step L H H s { s with heap := h', toks := tk } :=
  ⟨⟨rfl, rfl⟩, fun b o e _ hb => k b o hb e, fun _ _ _ e => e, fun b o e => by
    by_cases q : b = L
    · subst q; obtain ⟨o', _, _, ho, _⟩ := F.ns; exact ⟨o', ho⟩
    · exact ⟨o, k b o q e⟩⟩
/-- a new object, given by its ledger row -/
theorem St.alloc_fr {L a : Addr} {h h' : Heap} {c : Obj} {o : O} {m : Str → Option Value} (hs : St C L ρ H h) (F : Fr noHeap L h' m) (hm : ∀ x, (m x).map ab = ρ x) (ha : h.get? a = none) (hc : h'.get? a = some c) (hr : Rep o c) (k : ∀ b o, b ≠ L → h.get? b = some o → h'.get? b = some o) : St C L ρ (H.set a o) h' := by
  have f := hs.fresh ha
  exact St.alloc' (hs.of_fr F hm k) f.1 f.2.1 f.2.2 hc hr
where
  St.alloc' {h' : Heap} {a : Addr} {c : Obj} {o : O} {L : Addr} {ρ : Lo} {H : AH} (x : St C L ρ H h') (hH : H a = none) (hB : C.base.get? a = none) (hL : a ≠ L) (hc : h'.get? a = some c) (hr : Rep o c) : St C L ρ (H.set a o) h' :=
    ⟨x.keep, fun b o' e => by
      by_cases q : b = a
      · subst q; rw [AH.set_same] at e; cases e; exact ⟨c, hc, hr⟩
      · rw [AH.set_ne _ _ q] at e; exact x.rep b o' e, fun b o' e m => by
      by_cases q : b = a
      · subst q; exact hB
      · rw [AH.set_ne _ _ q] at e; exact x.own b o' e m, x.loc, by rw [AH.set_ne _ _ (Ne.symm hL)]; exact x.nl, x.bl⟩
theorem Step.alloc_fr {L a : Addr} {s : Shared} {h' : Heap} {tk : Nat} {o : O} {m : Str → Option Value} (F : Fr noHeap L h' m) (ha : s.heap.get? a = none) (k : ∀ b o, b ≠ L → s.heap.get? b = some o → h'.get? b = some o) : Step L H (H.set a o) s { s with heap := h', toks := tk } :=
  let x : Step L H H s { s with heap := h', toks := tk } := Step.of_fr F k
  ⟨x.same, x.kept, fun b o e eb => by rw [AH.set_ne _ _ (fun q => by rw [q, ha] at e; cases e)]; exact eb, x.live⟩

/-! ## lists: +, slices -/
theorem WE.addList {l r : Expr} {pos : Pos} {Q : V → AH → Prop}
    (h : WE C A env l ρ H (fun v H1 => WE C A env r ρ H1 (fun w H2 => ∃ a b oa ob xs ys, v = .ref a ∧ w = .ref b ∧ H2 a = some oa ∧ H2 b = some ob ∧ lst oa = some xs ∧ lst ob = some ys ∧ xs.length + ys.length ≤ sizeLine ∧ ∀ c, H2 c = none → Q (.ref c) (H2.set c (.list (xs ++ ys)))))) :
    WE C A env (.BinOp l .Add r pos) ρ H Q := by
  refine W.BinOp (W.mono h ?_)
  rintro x _ H1 ⟨rfl, h1⟩
  refine W.mono h1 ?_
  rintro y _ H2 ⟨rfl, a, b, oa, ob, xs, ys, ex, ey, ha, hb, la, lb, hsz, hq⟩
  cases ab_ref ex
  cases ab_ref ey
  intro s hs
  obtain ⟨ax, a1, a2, a3⟩ := hs.list ha la
  obtain ⟨bx, b1, b2, b3⟩ := hs.list hb lb
  obtain ⟨m, F, hm⟩ := hs.fr
  have hn := get?_size_none s.heap
  refine add_arrays F (news_all s.heap env.locals) a1 b1 (fun h' F' N' => ?_) (by rw [arr_size a2, arr_size b2]; exact hsz)
  have k := News.kept N' fun p hp => List.mem_cons_of_mem _ hp
  exact ⟨_, _, hs.alloc_fr (o := .list (xs ++ ys)) F' hm hn (N' _ (List.mem_cons_self ..)).1 ⟨_, _, rfl, by simp [a2, b2], by simpa using hsz⟩ k, .alloc_fr F' hn k, rfl, hq _ (hs.fresh hn).1⟩

noncomputable def slc (lo hi : Option Int) (vs : List V) : List V := (vs.drop (lo.elim 0 (clipAt vs.length))).take (hi.elim vs.length (clipAt vs.length) - lo.elim 0 (clipAt vs.length))
theorem slc_pick {xs : Array Value} {vs : List V} {lo hi : Option Int} (e : xs.toList.map ab = vs) : (slicePick xs lo hi none).toList.map ab = slc lo hi vs := by
  rw [slicePick_plain]
  unfold slc
  rw [show vs.length = xs.size from (arr_size e).symm]
  simp [List.map_take, List.map_drop, ← e]
theorem slc_len (lo hi : Option Int) (vs : List V) : (slc lo hi vs).length ≤ vs.length := by
  unfold slc; simp; omega

/-- a part of a slice -/
inductive EvP (C : Cx) (A : Around) (env : Env) (ρ : Lo) (H : AH) : Option Expr → Option Int → Prop
  | none : EvP C A env ρ H none none
  | some {e : Expr} {i : Int} : Ev C A env ρ H e (.int i) → EvP C A env ρ H (some e) (some i)
theorem EvP.run {e : Option Expr} {k : Option Int} (h : EvP C A env ρ H e k) : W C A env.locals (evalPart e env) ρ H (fun x ρ' H' => ρ' = ρ ∧ H' = H ∧ IsPart x k) := by
  cases h with
  | none => exact W.pure ⟨rfl, rfl, .none⟩
  | some h => exact W.mono h (by rintro x _ _ ⟨rfl, rfl, e⟩; obtain ⟨t, rfl⟩ := ab_int e; exact ⟨rfl, rfl, .int _ t⟩)

theorem WE.slice {o : Expr} {lower upper : Option Expr} {p pos : Pos} {lo hi : Option Int} {Q : V → AH → Prop}
    (h : WE C A env o ρ H (fun v H1 => ∃ l ob vs, v = .ref l ∧ H1 l = some ob ∧ lst ob = some vs ∧ EvP C A env ρ H1 lower lo ∧ EvP C A env ρ H1 upper hi ∧ ∀ c, H1 c = none → Q (.ref c) (H1.set c (.list (slc lo hi vs))))) :
    WE C A env (.Subscript o (.Slice lower upper none p) pos) ρ H Q := fun s hs => by
  refine Subscript_ (wpAny_mono (h s hs) (fun x s1 ⟨ρ1, H1, a1, b1, c1, l, ob, vs, d1, d2, d3, d4, d5, d6⟩ => ?_) fun _ _ e => e)
  subst c1
  cases ab_ref d1
  refine wpAny_Slice (wpAny_mono (d4.run s1 a1) (fun vl s2 ⟨ρ2, H2, a2, b2, c2, c3, pl⟩ => ?_) fun _ _ e => e)
  subst c2 c3
  refine wpAny_mono (d5.run s2 a2) (fun vu s3 ⟨ρ3, H3, a3, b3, c3, c4, pu⟩ => ?_) fun _ _ e => e
  subst c3 c4
  rw [evalPart_none]
  refine wpAny_pure ?_
  obtain ⟨xs, x1, x2, x3⟩ := a3.list d2 d3
  have k1 : ∀ b o, s3.heap.get? b = some o → (s3.heap.push { cls := .type "slice", data := .fields #[vl, vu, .none] }).get? b = some o := fun b o e => Heap.get?_push_of_some _ e
  have a4 := a3.ext k1
  have x1' := x1.push { cls := .type "slice", data := .fields #[vl, vu, .none] }
  have hn := get?_size_none (s3.heap.push { cls := .type "slice", data := .fields #[vl, vu, .none] })
  refine tail_any (ops := [.ref s3.heap.objs.size, .ref l]) x1'.typeIs slot_list_getitem.lookup (wpAny_getItem_list_slice x1' (Heap.IsSliceOf.new ..) pl pu .none (by simp) ?_ (by rw [arr_size x2]; exact x3)) rfl
  have k2 : ∀ b o, (s3.heap.push { cls := .type "slice", data := .fields #[vl, vu, .none] }).get? b = some o → ((s3.heap.push { cls := .type "slice", data := .fields #[vl, vu, .none] }).push { cls := .type "list", data := .seq (slicePick xs lo hi none) }).get? b = some o := fun b o e => Heap.get?_push_of_some _ e
  refine ⟨_, _, a4.alloc (o := .list (slc lo hi vs)) hn (Heap.get?_push_size _ rfl) ⟨_, 0, rfl, slc_pick x2, Nat.le_trans (slc_len ..) x3⟩ k2, ?_, rfl, d6 _ (a4.fresh hn).1⟩
  have b13 := (b1.trans b2 (fun _ _ => a2.nl)).trans b3 (fun _ _ => a3.nl)
  exact (b13.trans (Step.ext (tk := s3.toks) k1) (fun _ _ => a3.nl)).trans (Step.alloc (tk := s3.toks) hn k2) (fun _ _ => by rw [AH.set_ne _ _ (Ne.symm (a4.fresh hn).2.2)]; exact a4.nl)

/-! ## vints of a list -/
noncomputable def vints (ns : List Int) : List V := ns.map V.int
@[simp] theorem ints_length (ns : List Int) : (vints ns).length = ns.length := by simp [vints]

theorem WCall.abs {a : Int} {Q : V → AH → Prop} (h : Q (.int (if a < 0 then -a else a)) H) : WCall C A (.bi "abs") [.int a] [] H Q := by
  intro L ρ fv vals kvs e1 e2 e3
  cases ab_bi e1
  obtain ⟨x, rfl, ex⟩ := vals1 e2
  obtain ⟨t, rfl⟩ := ab_int ex
  have : kvs = [] := by simpa using e3
  subst this
  intro s hs
  exact call_abs_int fun u tk => ⟨ρ, H, hs, .toks, rfl, h⟩
end
end Mine

namespace Mine
open PySem PySem.W PyProof.Rows

/-! ## forgetting tracked objects at the end -/
noncomputable def AH.le (H H' : AH) : Prop := ∀ a o, H a = some o → H' a = some o
theorem AH.le_refl (H : AH) : H.le H := fun _ _ e => e
theorem AH.le_trans {H H' H'' : AH} (x : H.le H') (y : H'.le H'') : H.le H'' := fun a o e => y a o (x a o e)
theorem AH.none_of_le {H H' : AH} (x : H.le H') {a : Addr} (e : H' a = none) : H a = none := by
  cases q : H a with
  | none => rfl
  | some o => have := x a o q; rw [e] at this; cases this
theorem AH.le_set {H H' : AH} (x : H.le H') {a : Addr} {o : O} (e : H a = none) : H.le (H'.set a o) := fun b o' eb => by
  by_cases q : b = a
  · subst q; rw [e] at eb; cases eb
  · rw [AH.set_ne _ _ q]; exact x b o' eb
theorem AH.get_of_set {H : AH} {a b : Addr} {o o' : O} (e : H b = some o') (ha : H a = none) : (H.set a o) b = some o' := by
  rw [AH.set_ne _ _ (fun q => by rw [q, ha] at e; cases e)]; exact e
theorem AH.none_of_set {H : AH} {a b : Addr} {o : O} (e : (H.set a o) b = none) : H b = none ∧ b ≠ a := by
  by_cases q : b = a
  · subst q; rw [AH.set_same] at e; cases e
  · rw [AH.set_ne _ _ q] at e; exact ⟨e, q⟩

section
variable {C : Cx} {A : Around} {env : Env} {ρ : Lo} {H : AH}
theorem St.le {L : Addr} {H H' : AH} {h : Heap} (x : H.le H') (y : St C L ρ H' h) : St C L ρ H h :=
  ⟨y.keep, fun a o e => y.rep a o (x a o e), fun a o e => y.own a o (x a o e), y.loc, AH.none_of_le x y.nl, y.bl⟩
theorem Post.drop {α : Type} {L : Addr} {s s' : Shared} {Q : α → Lo → AH → Prop} {a : α} (h : Post C L H s (fun a ρ' H' => ∃ H0, AH.le H0 H' ∧ Q a ρ' H0) a s') : Post C L H s Q a s' := by
  obtain ⟨ρ', H', x, y, H0, le, q⟩ := h
  exact ⟨ρ', H0, x.le le, ⟨y.same, y.kept, fun b o e eb => AH.none_of_le le (y.new b o e eb), y.live⟩, q⟩
theorem W.drop {α : Type} {L : Addr} {t : Sem α} {Q : α → Lo → AH → Prop} (h : W C A L t ρ H (fun a ρ' H' => ∃ H0, AH.le H0 H' ∧ Q a ρ' H0)) : W C A L t ρ H Q := fun s hs =>
  wpAny_mono (h s hs) (fun _ _ q => q.drop) fun _ _ e => e
theorem WT.drop {e : Expr} {Q : Bool → AH → Prop} (h : WT C A env e ρ H (fun v H' => ∃ H0, AH.le H0 H' ∧ Q v H0)) : WT C A env e ρ H Q :=
  W.drop (W.mono h fun _ _ _ ⟨a, H0, b, c⟩ => ⟨H0, b, a, c⟩)
theorem WCall.drop {f : V} {args : List V} {kw : List (Str × V)} {Q : V → AH → Prop} (h : WCall C A f args kw H (fun v H' => ∃ H0, AH.le H0 H' ∧ Q v H0)) : WCall C A f args kw H Q := fun L ρ fv vals kvs e1 e2 e3 =>
  W.drop (W.mono (h L ρ fv vals kvs e1 e2 e3) fun _ _ _ ⟨a, H0, b, c⟩ => ⟨H0, b, a, c⟩)

theorem WEs.nil {Q : List V → AH → Prop} (h : Q [] H) : WEs C A env [] ρ H Q := h
theorem WEs.cons {e : Expr} {es : List Expr} {Q : List V → AH → Prop} (h : WE C A env e ρ H (fun v H1 => WEs C A env es ρ H1 (fun vs H2 => Q (v :: vs) H2))) : WEs C A env (e :: es) ρ H Q := h

/-! ## the call from the top -/
end
end Mine

namespace Mine
open PySem PySem.W PyProof.Rows

noncomputable def aL (k : Str → Option NameKind) : List (Str × V) → Lo → Lo
  | [], m => m
  | (n, v) :: r, m => aL k r (if k n = some .local then fun y => if y = n then some v else m y else m)
noncomputable def aC (k : Str → Option NameKind) : List (Str × V) → Lo → Lo
  | [], m => m
  | (n, v) :: r, m => aC k r (if k n = some .local then m else fun y => if y = n then some v else m y)
theorem bindL_ab {k : Str → Option NameKind} : ∀ {binds : List (Str × Value)} {m : Str → Option Value} {m' : Lo}, (∀ x, (m x).map ab = m' x) → ∀ x, (bindL k binds m x).map ab = aL k (binds.map fun p => (p.1, ab p.2)) m' x
  | [], _, _, h, x => h x
  | (n, v) :: r, m, m', h, x => by
    rw [List.map_cons, bindL, aL]
    refine bindL_ab (fun y => ?_) x
    split
    · show Option.map ab (if y = n then some v else m y) = if y = n then some (ab v) else m' y
      split
      · rfl
      · exact h y
    · exact h y
theorem bindC_ab {k : Str → Option NameKind} : ∀ {binds : List (Str × Value)} {m : Str → Option Value} {m' : Lo}, (∀ x, (m x).map ab = m' x) → ∀ x, (bindC k binds m x).map ab = aC k (binds.map fun p => (p.1, ab p.2)) m' x
  | [], _, _, h, x => h x
  | (n, v) :: r, m, m', h, x => by
    rw [List.map_cons, bindC, aC]
    refine bindC_ab (fun y => ?_) x
    split
    · exact h y
    · show Option.map ab (if y = n then some v else m y) = if y = n then some (ab v) else m' y
      split
      · rfl
      · exact h y

section
variable {C : Cx} {A : Around} {env : Env} {ρ : Lo} {H : AH}
noncomputable def kinds (fd : FuncData) (x : Str) : Option NameKind := fd.scope.names.lookup x
theorem WCall.fn {a : Addr} {o : Obj} {fd : FuncData} {body : List Stmt} {args : List V} {bs : List (Str × V)} {Q : V → AH → Prop} (hfn : FnAt C H a o fd) (hdep : A.depth < recursionLimit)
    (hb : fd.body = .stmts body) (hclo : fd.closure = []) (hcd : ∀ h : Heap, (∀ b o, C.base.get? b = some o → h.get? b = some o) → h.CodeRec fd.code fd.qualname)
    (hbind : ∀ vals, vals.map ab = args → ∃ binds, bindArgs fd ⟨vals, []⟩ = pure binds ∧ binds.map (fun p => (p.1, ab p.2)) = bs)
    (hkind : (bs.all fun y => fd.scope.names.lookup y.1 == some .local || fd.scope.names.lookup y.1 == some .cell) = true)
    (hnd : ((cellsFrom 0 fd.scope.names []).map (·.1)).Nodup)
    (h : ∀ L, H L = none → (∀ p ∈ cellsFrom (L + 1) fd.scope.names [], H p.2 = none ∧ p.2 ≠ L) → WS C (A.deeper (callEnvC fd L a)) (callEnvC fd L a) body (aL (kinds fd) bs fun _ => none) (cellH (aC (kinds fd) bs fun _ => none) (cellsFrom (L + 1) fd.scope.names []) H) (fun f _ H' => Q (retv f) H'))
    (hco : fd.scope.isCoroutine = false := by rfl) (hgen : fd.scope.isGenerator = false := by rfl) (hk : fd.scope.kind = .function := by rfl) : WCall C A (.ref a) args [] H Q :=
  WCall.defC hfn hdep hb hclo hcd hbind hkind hnd (aL (kinds fd) bs fun _ => none) (aC (kinds fd) bs fun _ => none) (fun L binds e x => by rw [← e]; exact bindL_ab (fun _ => rfl) x) (fun L binds e x => by rw [← e]; exact bindC_ab (fun _ => rfl) x) h hco hgen hk

/-! sums, counts, shorter -/
theorem slc_take (vs : List V) (k : Nat) (h : k ≤ vs.length) : slc none (some (k : Int)) vs = vs.take k := by
  unfold slc
  simp [clipAt]
  lia
theorem slc_drop (vs : List V) (k : Nat) : slc (some (k : Int)) none vs = vs.drop k := by
  unfold slc
  rcases Nat.lt_or_ge vs.length k with h | h
  · have e : ((clipAt vs.length (k : Int)) : Nat) = vs.length := by simp [clipAt]; omega
    rw [show (some (k : Int)).elim 0 (clipAt vs.length) = vs.length from e, List.drop_of_length_le (Nat.le_refl _), List.drop_of_length_le (Nat.le_of_lt h)]; simp
  · have e : ((clipAt vs.length (k : Int)) : Nat) = k := by simp [clipAt]; lia
    rw [show (some (k : Int)).elim 0 (clipAt vs.length) = k from e]
    exact List.take_of_length_le (by simp)
theorem WE.callB {id : Str} {p pos : Pos} {a : Addr} {o : Obj} {fd : FuncData} {es : List Expr} {ks : List Keyword} {Q : V → AH → Prop} (hfn : ∀ H, FnAt C H a o fd) (hf : Ev C A env ρ H (.Name id p) (.ref a))
    (h : WEs C A env es ρ H (fun vs H1 => WKs C A env ks ρ H1 (fun kv H2 => WCall C A (.ref a) vs kv H2 Q))) (hn : noStar es = true := by rfl) (hk : ks.all (·.arg.isSome) = true := by rfl) :
    WE C A env (.Call (.Name id p) es ks pos) ρ H Q := WE.callFn (o := o) (fd := fd) hf (WEs.mono h fun vs H1 q => by
      have : ∀ {ks : List Keyword} {H1 : AH} {Q Q' : List (Str × V) → AH → Prop}, (∀ kv H2, Q kv H2 → Q' kv H2) → WKs C A env ks ρ H1 Q → WKs C A env ks ρ H1 Q' := by
        intro ks
        induction ks with
        | nil => intro H1 Q Q' hq h; exact hq _ _ h
        | cons k ks ih =>
          intro H1 Q Q' hq h
          obtain ⟨arg, value⟩ := k
          cases arg with
          | none => exact h
          | some n => exact WE.mono h fun v H2 h => ih (fun kv H3 q => hq _ _ q) h
      exact this (fun kv H2 q => ⟨hfn H2, q⟩) q) hn hk
theorem Ev.as {e : Expr} {v v' : V} (h : Ev C A env ρ H e v) (hv : v = v') : Ev C A env ρ H e v' := hv ▸ h
theorem Fx.comp {scope : Scope} {cl : List (Str × Addr)} {Cn : Addr} (F : Fx C A env) (h : scope.kind = .function) : Fx C A (compEnvC scope cl Cn env) := ⟨h, F.gl, F.bu, F.hh⟩
end
end Mine

namespace Mine
open PySem PySem.W PyProof.Rows

/-! ## the top -/
theorem gl_own {C : Cx} {K : Frag} {x : Str} {v : Value} (hK : K.In C.base) (e : nsIn K mainGlobals x = some (some v)) : C.gl x = some v := by
  unfold Cx.gl; rw [mg_of hK C.hg e]
theorem gl_boot {C : Cx} {K : Frag} {x : Str} {v : Value} (hK : K.In C.base) (e : nsIn K mainGlobals x = some none) (hb : C.mb x = some v) : C.gl x = some v := by
  unfold Cx.gl; rw [ns_none_of hK C.hg e]; exact hb
theorem ints_of : ∀ {vs : List Value} {ns : List Int}, IntsAre vs ns → vs.map ab = vints ns
  | _, _, .nil => rfl
  | _, _, .cons _ _ h => by
    rw [List.map_cons, ints_of h]; rfl
theorem addr_ne (L i j : Nat) (h : (i == j) = false) : L + i ≠ L + j := by
  have : i ≠ j := by simpa using h
  (clear h; lia)
noncomputable def bodyOf (fd : FuncData) : List Stmt := match fd.body with
  | .stmts b => b
  | _ => []
noncomputable def fdOf (K : Frag) (a : Addr) : FuncData := match K.lookup a with
  | some ⟨_, _, .func fd, _⟩ => fd
  | _ => default
theorem noCell {l : List (Str × NameKind)} (h : l.all (fun x => x.2 != .cell) = true) : ∀ x ∈ l, x.2 ≠ .cell := fun x hx q => by
  have := List.all_eq_true.mp h x hx
  rw [q] at this
  exact absurd this (by decide)
theorem allLocal {l : List (Str × NameKind)} {bs : List (Str × V)} (h : bs.all (fun x => l.lookup x.1 == some .local) = true) : ∀ x ∈ bs, l.lookup x.1 = some .local := fun x hx => by
  simpa using List.all_eq_true.mp h x hx
theorem fn_in {C : Cx} {H : AH} {K : Frag} (hK : K.In C.base) (a : Addr) (h : K.lookup a = some ⟨.type "function", none, .func (fdOf K a), #[]⟩) : FnAt C H a ⟨.type "function", none, .func (fdOf K a), #[]⟩ (fdOf K a) := ⟨rfl, .inl (hK a _ h)⟩
end Mine

namespace Mine
open PySem PySem.W PyProof.Rows

section
variable {C : Cx} {A : Around} {env : Env} {ρ : Lo} {H : AH}

/-! ## a list changed, given by the ledger -/
theorem upd_map {D : Addr} {o o' : Obj} : ∀ {l : List (Addr × Obj)}, l.Pairwise (fun p q => p.1 ≠ q.1) → (D, o) ∈ l → Upd D o o' l (l.map fun p => if p.1 = D then (D, o') else p)
  | [], _, h => by cases h
  | p :: r, hp, h => by
    obtain ⟨h1, h2⟩ := List.pairwise_cons.mp hp
    rw [List.map_cons]
    by_cases q : p.1 = D
    · have hp : p = (D, o) := by
        rcases List.mem_cons.mp h with e | e
        · exact e.symm
        · exact absurd q (h1 _ e)
      subst hp
      have hr : ∀ x ∈ r, x.1 ≠ D := fun x hx => Ne.symm (h1 x hx)
      rw [if_pos rfl]
      have : (r.map fun p => if p.1 = D then (D, o') else p) = r := by
        conv => rhs; rw [← List.map_id r]
        exact List.map_congr_left fun x hx => by rw [if_neg (hr x hx)]; rfl
      rw [this]
      exact .head hr
    · rw [if_neg q]
      have : (D, o) ∈ r := by
        rcases List.mem_cons.mp h with e | e
        · rw [← e] at q; exact absurd rfl q
        · exact e
      exact .tail q (upd_map h2 this)
theorem allNews_keys (h : Heap) (L : Addr) : (allNews h L).Pairwise (fun p q => p.1 ≠ q.1) := by
  unfold allNews
  refine List.Pairwise.filterMap _ ?_ (List.nodup_range (n := h.objs.size))
  intro a a' hne b hb b' hb'
  have key : ∀ {a : Addr} {b : Addr × Obj}, (if a = L then none else (h.get? a).map fun o => (a, o)) = some b → b.1 = a := by
    intro a b e
    split at e
    · cases e
    · cases hg : h.get? a with
      | none => rw [hg] at e; cases e
      | some o => rw [hg] at e; cases e; rfl
  rw [key hb, key hb']; exact hne
/-- what the ledger says behind a change -/
theorem upd_all {L D : Addr} {h : Heap} {o o' : Obj} (hD : D ≠ L) (ho : h.get? D = some o) : ∃ news', Upd D o o' (allNews h L) news' ∧ ∀ h', News noHeap L h' news' → h'.get? D = some o' ∧ ∀ b ob, b ≠ L → b ≠ D → h.get? b = some ob → h'.get? b = some ob := by
  refine ⟨_, upd_map (allNews_keys h L) (mem_allNews ho hD), fun h' N => ⟨?_, fun b ob hb hbD e => ?_⟩⟩
  · exact (N (D, o') (List.mem_map.mpr ⟨(D, o), mem_allNews ho hD, by simp⟩)).1
  · exact (N (b, ob) (List.mem_map.mpr ⟨(b, ob), mem_allNews e hb, by simp [hbD]⟩)).1
theorem St.upd_fr {L a : Addr} {h h' : Heap} {c : Obj} {o₀ o : O} {m : Str → Option Value} (x : St C L ρ H h) (F : Fr noHeap L h' m) (hm : ∀ x, (m x).map ab = ρ x) (hH : H a = some o₀) (hmut : o₀.mut = true) (hc : h'.get? a = some c) (hr : Rep o c) (k : ∀ b o, b ≠ L → b ≠ a → h.get? b = some o → h'.get? b = some o) : St C L ρ (H.set a o) h' where
  keep := fun b o e => k _ _ (fun q => by rw [q, x.bl] at e; cases e) (fun q => by rw [q, x.own a o₀ hH hmut] at e; cases e) (x.keep b o e)
  rep := fun b o' e => by
    by_cases q : b = a
    · subst q; rw [AH.set_same] at e; cases e; exact ⟨c, hc, hr⟩
    · rw [AH.set_ne _ _ q] at e; obtain ⟨c, e1, e2⟩ := x.rep b o' e; exact ⟨c, k _ _ (fun q => by rw [q, x.nl] at e; cases e) q e1, e2⟩
  own := fun b o' e hm' => by
    by_cases q : b = a
    · subst q; exact x.own _ _ hH hmut
    · rw [AH.set_ne _ _ q] at e; exact x.own b o' e hm'
  loc := ⟨m, F.ns, hm⟩
  nl := by rw [AH.set_ne _ _ (fun q => by rw [← q, x.nl] at hH; cases hH)]; exact x.nl
  bl := x.bl
theorem Step.upd_fr {L a : Addr} {s : Shared} {h' : Heap} {tk : Nat} {c : Obj} {o₀ o : O} {m : Str → Option Value} (F : Fr noHeap L h' m) (hH : H a = some o₀) (hc : h'.get? a = some c) (k : ∀ b o, b ≠ L → b ≠ a → s.heap.get? b = some o → h'.get? b = some o) : Step L H (H.set a o) s { s with heap := h', toks := tk } :=
  ⟨⟨rfl, rfl⟩, fun b o e hb hL => k b o hL (fun q => by rw [q, hH] at hb; cases hb) e, fun b o e hb => by rw [AH.set_ne _ _ (fun q => by rw [q, hH] at hb; cases hb)]; exact hb, fun b o e => by
    by_cases q : b = a
    · subst q; exact ⟨c, hc⟩
    · by_cases ql : b = L
      · subst ql; obtain ⟨o', _, _, ho, _⟩ := F.ns; exact ⟨o', ho⟩
      · exact ⟨o, k b o ql q e⟩⟩
theorem St.at {L D : Addr} {h : Heap} {vs : List V} (hs : St C L ρ H h) (hH : H D = some (.list vs)) : ∃ its n, h.get? D = some (listOf its n) ∧ its.toList.map ab = vs ∧ vs.length ≤ sizeLine ∧ D ≠ L := by
  obtain ⟨c, e1, xs, n, rfl, e2, e3⟩ := hs.rep _ _ hH
  exact ⟨xs, n, e1, e2, e3, fun q => by rw [q, hs.nl] at hH; cases hH⟩

/-! ## methods -/
theorem ab_nil {kvs : List (Str × Value)} (h : kvs.map (fun p => (p.1, ab p.2)) = []) : kvs = [] := by simpa using h
theorem WCall.insert {a : Addr} {vs : List V} {k : Nat} {v : V} {Q : V → AH → Prop} (hH : H a = some (.list vs)) (hk : k ≤ vs.length) (hz : vs.length < sizeLine) (h : Q .none (H.set a (.list (vs.take k ++ v :: vs.drop k)))) :
    WCall C A (.bi "list.insert") [.ref a, .int k, v] [] H Q := by
  intro L ρ fv vals kvs e1 e2 e3
  cases ab_bi e1
  obtain ⟨x, y, z, rfl, ex, ey, ez⟩ := vals3 e2
  cases ab_ref ex
  obtain ⟨t, rfl⟩ := ab_int ey
  cases ab_nil e3
  intro s hs
  obtain ⟨its, n, ho, hi, hsz, hL⟩ := hs.at hH
  obtain ⟨m, F, hm⟩ := hs.fr
  have hlen : its.toList.length = vs.length := by rw [← hi]; simp
  have hsl : (sizeLine : Int) < 2 ^ 62 := by decide
  obtain ⟨news', U, hU⟩ := upd_all (o' := listOf (its.toList.take k ++ z :: its.toList.drop k).toArray (n + 1)) hL ho
  refine kl_insert F (news_all _ _) (l := its.toList.take k ++ z :: its.toList.drop k) ?_ ?_ U (by rw [hlen]; exact hsz) (fun h' F' N' => ?_)
  · unfold Builtin.List.listFitsIndex; simp; lia
  · unfold kl_ins
    rw [if_neg (by lia), hlen, Int.toNat_natCast, Nat.min_eq_left hk]
  · obtain ⟨k1, k2⟩ := hU h' N'
    refine ⟨_, _, hs.upd_fr F' hm hH rfl k1 (o := .list (vs.take k ++ v :: vs.drop k)) ⟨_, _, rfl, ?_, ?_⟩ k2, .upd_fr F' hH k1 k2, rfl, h⟩
    · rw [List.toList_toArray]; simp [← hi, ez]
    · simp; lia
end
end Mine

namespace Mine
open PySem PySem.W PyProof.Rows
open PySem.SeqAt (shaped compareEq_shaped compareNe_shaped in_list_reads notIn_list_reads canLay_of_shaped depth_of_shaped)

/-! ## deep data -/
mutual
noncomputable def Rd (H : AH) (v : V) : PyData → Prop
  | .none => v = .none
  | .bool b => v = .bool b
  | .int i => v = .int i
  | .str x => v = .str x
  | .list ds => ∃ a ob vs, v = .ref a ∧ H a = some ob ∧ lst ob = some vs ∧ RdL H vs ds
  | .tuple ds => ∃ a vs, v = .ref a ∧ H a = some (.tup vs) ∧ RdL H vs ds
  | .dict _ => False
noncomputable def RdL (H : AH) (vs : List V) : List PyData → Prop
  | [] => vs = []
  | d :: ds => ∃ v r, vs = v :: r ∧ Rd H v d ∧ RdL H r ds
end

section
variable {C : Cx} {A : Around} {env : Env} {ρ : Lo} {H : AH}
mutual
theorem Rd.reads {L : Addr} {h : Heap} (hs : St C L ρ H h) : ∀ (d : PyData) (x : Value), Rd H (ab x) d → ∃ as, Reads h x d as
  | .none, x, r => by rw [Rd] at r; cases ab_none r; exact ⟨_, .none⟩
  | .bool b, x, r => by rw [Rd] at r; cases ab_bool r; exact ⟨_, .bool b⟩
  | .int i, x, r => by rw [Rd] at r; obtain ⟨t, rfl⟩ := ab_int r; exact ⟨_, .int i t⟩
  | .str y, x, r => by rw [Rd] at r; obtain ⟨t, rfl⟩ := ab_str r; exact ⟨_, .str y t⟩
  | .list ds, x, r => by
    rw [Rd] at r
    obtain ⟨a, ob, vs, e, hH, hl, hr⟩ := r
    cases ab_ref e
    obtain ⟨xs, ⟨o, ho, hc, n, hd⟩, h2, _⟩ := hs.list hH hl
    obtain ⟨as, R⟩ := RdL.reads hs ds xs.toList (by rw [h2]; exact hr)
    exact ⟨_, .list ho hc hd R⟩
  | .tuple ds, x, r => by
    rw [Rd] at r
    obtain ⟨a, vs, e, hH, hr⟩ := r
    cases ab_ref e
    obtain ⟨xs, ⟨o, ho, hc, n, hd⟩, h2, _⟩ := hs.tup hH
    obtain ⟨as, R⟩ := RdL.reads hs ds xs.toList (by rw [h2]; exact hr)
    exact ⟨_, .tuple ho hc hd R⟩
  | .dict _, x, r => by rw [Rd] at r; exact r.elim
theorem RdL.reads {L : Addr} {h : Heap} (hs : St C L ρ H h) : ∀ (ds : List PyData) (xs : List Value), RdL H (xs.map ab) ds → ∃ as, ReadsAll h xs ds as
  | [], xs, r => by
    rw [RdL] at r
    have : xs = [] := by simpa using r
    subst this; exact ⟨_, .nil⟩
  | d :: ds, xs, r => by
    rw [RdL] at r
    obtain ⟨v, q, e, r1, r2⟩ := r
    cases xs with
    | nil => simp at e
    | cons x xs =>
      rw [List.map_cons] at e
      cases e
      obtain ⟨as, R⟩ := Rd.reads hs d x r1
      obtain ⟨bs, R'⟩ := RdL.reads hs ds xs r2
      exact ⟨_, .cons R R'⟩
end
theorem RdL_ints {H : AH} : ∀ (ns : List Int), RdL H (vints ns) (ns.map .int)
  | [] => by rw [List.map_nil, RdL]; rfl
  | n :: ns => by rw [List.map_cons, RdL]; exact ⟨.int n, vints ns, rfl, by rw [Rd], RdL_ints ns⟩
noncomputable def dints (ns : List Int) : PyData := .list (ns.map .int)
theorem Rd_ints {H : AH} {a : Addr} {ob : O} {ns : List Int} (h : H a = some ob) (hl : lst ob = some (vints ns)) : Rd H (.ref a) (dints ns) := by
  unfold dints; rw [Rd]; exact ⟨a, ob, _, rfl, h, hl, RdL_ints ns⟩
theorem shaped_ints (ns : List Int) : shaped (dints ns) = true := by
  have h1 : PyData.canLayAll0 (ns.map .int) = true := by
    induction ns with
    | nil => rfl
    | cons n ns ih => rw [List.map_cons, PyData.canLayAll0, ih]; rfl
  have h2 : PyData.depthAll (ns.map .int) = 0 := by
    induction ns with
    | nil => rfl
    | cons n ns ih =>
      rw [List.map_cons, PyData.depthAll, ih (by rw [List.map_cons, PyData.canLayAll0] at h1; exact (Bool.and_eq_true_iff.mp h1).2)]; rfl
  unfold shaped dints
  rw [PyData.canLay0, PyData.depth, h1, h2]; rfl
theorem eqvAll_map {α : Type} [DecidableEq α] {enc : α → PyData} (he : ∀ a b, PyData.eqv (enc a) (enc b) = decide (a = b)) : ∀ (xs ys : List α), PyData.eqvAll (xs.map enc) (ys.map enc) = decide (xs = ys)
  | [], [] => by simp [PyData.eqvAll]
  | [], _ :: _ => by simp [PyData.eqvAll]
  | _ :: _, [] => by simp [PyData.eqvAll]
  | x :: xs, y :: ys => by
    rw [List.map_cons, List.map_cons, PyData.eqvAll, he, eqvAll_map he]
    simp
theorem eqv_list_map {α : Type} [DecidableEq α] {enc : α → PyData} (he : ∀ a b, PyData.eqv (enc a) (enc b) = decide (a = b)) (xs ys : List α) : PyData.eqv (.list (xs.map enc)) (.list (ys.map enc)) = decide (xs = ys) := by
  rw [PyData.eqv]; exact eqvAll_map he xs ys
theorem eqv_int (a b : Int) : PyData.eqv (.int a) (.int b) = decide (a = b) := by
  rw [PyData.eqv]; rfl
theorem eqv_ints (xs ys : List Int) : PyData.eqv (dints xs) (dints ys) = decide (xs = ys) := eqv_list_map eqv_int xs ys

theorem W.eqData {L : Addr} {x y : Value} {d e : PyData} {Q : Value → Lo → AH → Prop} (hx : Rd H (ab x) d) (hy : Rd H (ab y) e) (hd : shaped d = true) (he : shaped e = true) (hu : A.units + 64 < cLine) (h : Q (.bool (PyData.eqv d e)) ρ H) : W C A L (compareOp .Eq x y) ρ H Q := fun s hs => by
  obtain ⟨as, R⟩ := Rd.reads hs d x hx
  obtain ⟨bs, R'⟩ := Rd.reads hs e y hy
  exact compareEq_shaped R R' hd he hu ⟨ρ, H, hs, .refl .., h⟩
theorem W.neData {L : Addr} {x y : Value} {d e : PyData} {Q : Value → Lo → AH → Prop} (hx : Rd H (ab x) d) (hy : Rd H (ab y) e) (hd : shaped d = true) (he : shaped e = true) (hu : A.units + 64 < cLine) (h : Q (.bool (!PyData.eqv d e)) ρ H) : W C A L (compareOp .NotEq x y) ρ H Q := fun s hs => by
  obtain ⟨as, R⟩ := Rd.reads hs d x hx
  obtain ⟨bs, R'⟩ := Rd.reads hs e y hy
  exact compareNe_shaped R R' hd he hu ⟨ρ, H, hs, .refl .., h⟩

/-- a comparison whose sides may make things, as a value and as a test -/
theorem WE.cmp {l r : Expr} {op : CmpOp} {pos : Pos} {Q : V → AH → Prop} (h : WE C A env l ρ H (fun v H1 => WE C A env r ρ H1 (fun w H2 => ∀ x y, ab x = v → ab y = w → W C A env.locals (compareOp op x y) ρ H2 (fun z ρ' H' => ρ' = ρ ∧ Q (ab z) H'))))
    (hm : behindInMarks op r = false := by with_unfolding_all rfl) : WE C A env (.Compare l [op] [r] pos) ρ H Q :=
  W.Compare1 hm (W.mono h (by rintro x _ H1 ⟨rfl, h1⟩; exact W.mono h1 (by rintro y _ H2 ⟨rfl, h2⟩; exact h2 x y rfl rfl)))
theorem WT.cmp {l r : Expr} {op : CmpOp} {pos : Pos} {Q : Bool → AH → Prop} (h : WE C A env l ρ H (fun v H1 => WE C A env r ρ H1 (fun w H2 => ∀ x y, ab x = v → ab y = w → W C A env.locals (compareOp op x y) ρ H2 (fun z ρ' H' => ρ' = ρ ∧ ∃ b, z = .bool b ∧ Q b H'))))
    (hm : behindInMarks op r = false := by with_unfolding_all rfl) : WT C A env (.Compare l [op] [r] pos) ρ H Q :=
  W.isTrue_Compare1 hm (W.mono h (by rintro x _ H1 ⟨rfl, h1⟩; exact W.mono h1 (by rintro y _ H2 ⟨rfl, h2⟩; exact W.mono (h2 x y rfl rfl) (by rintro z _ H3 ⟨rfl, b, rfl, q⟩; exact W.truthy_bool ⟨rfl, q⟩))))
theorem WT.neD {l r : Expr} {pos : Pos} {Q : Bool → AH → Prop} (hu : A.units + 64 < cLine) (h : WE C A env l ρ H (fun v H1 => WE C A env r ρ H1 (fun w H2 => ∃ d e, Rd H2 v d ∧ Rd H2 w e ∧ shaped d = true ∧ shaped e = true ∧ Q (!PyData.eqv d e) H2)))
    (hm : behindInMarks .NotEq r = false := by with_unfolding_all rfl) : WT C A env (.Compare l [.NotEq] [r] pos) ρ H Q :=
  WT.cmp (WE.mono h fun v H1 q => WE.mono q fun w H2 ⟨d, e, r1, r2, s1, s2, q⟩ x y ex ey => W.neData (ex ▸ r1) (ey ▸ r2) s1 s2 hu ⟨rfl, _, rfl, q⟩) hm
theorem WE.eqD {l r : Expr} {pos : Pos} {Q : V → AH → Prop} (hu : A.units + 64 < cLine) (h : WE C A env l ρ H (fun v H1 => WE C A env r ρ H1 (fun w H2 => ∃ d e, Rd H2 v d ∧ Rd H2 w e ∧ shaped d = true ∧ shaped e = true ∧ Q (.bool (PyData.eqv d e)) H2)))
    (hm : behindInMarks .Eq r = false := by with_unfolding_all rfl) : WE C A env (.Compare l [.Eq] [r] pos) ρ H Q :=
  WE.cmp (WE.mono h fun v H1 q => WE.mono q fun w H2 ⟨d, e, r1, r2, s1, s2, q⟩ x y ex ey => W.eqData (ex ▸ r1) (ey ▸ r2) s1 s2 hu ⟨rfl, q⟩) hm
/-- pure tests out of tests that make things -/
theorem WT.ev {e : Expr} {b : Bool} (h : WT C A env e ρ H (fun b' H' => b' = b ∧ H' = H)) : EvT C A env ρ H e b := W.mono h (by rintro x _ _ ⟨rfl, rfl, rfl⟩; exact ⟨rfl, rfl, rfl⟩)

/-! ## in -/
theorem W.inData {L : Addr} {x y : Value} {d : PyData} {es : List PyData} {Q : Value → Lo → AH → Prop} (hx : Rd H (ab x) d) (hy : Rd H (ab y) (.list es)) (hd : shaped d = true) (he : shaped (.list es) = true) (hu : A.units + 66 < cLine) (h : Q (.bool (es.any fun y => PyData.eqv y d)) ρ H) : W C A L (compareOp .In x y) ρ H Q := fun s hs => by
  obtain ⟨as, R⟩ := Rd.reads hs d x hx
  obtain ⟨bs, R'⟩ := Rd.reads hs (.list es) y hy
  exact in_list_reads R' R (canLay_of_shaped he) (canLay_of_shaped hd) (by have := depth_of_shaped hd; lia) ⟨ρ, H, hs, .refl .., h⟩
theorem W.notInData {L : Addr} {x y : Value} {d : PyData} {es : List PyData} {Q : Value → Lo → AH → Prop} (hx : Rd H (ab x) d) (hy : Rd H (ab y) (.list es)) (hd : shaped d = true) (he : shaped (.list es) = true) (hu : A.units + 66 < cLine) (h : Q (.bool (!es.any fun y => PyData.eqv y d)) ρ H) : W C A L (compareOp .NotIn x y) ρ H Q := fun s hs => by
  obtain ⟨as, R⟩ := Rd.reads hs d x hx
  obtain ⟨bs, R'⟩ := Rd.reads hs (.list es) y hy
  exact notIn_list_reads R' R (canLay_of_shaped he) (canLay_of_shaped hd) (by have := depth_of_shaped hd; lia) ⟨ρ, H, hs, .refl .., h⟩
theorem shaped_int (i : Int) : shaped (.int i) = true := by unfold shaped; rw [PyData.canLay0, PyData.depth]; rfl
theorem any_ints (ns : List Int) (k : Int) : ((ns.map PyData.int).any fun y => PyData.eqv y (.int k)) = decide (k ∈ ns) := by
  induction ns with
  | nil => simp
  | cons n ns ih =>
    rw [List.map_cons, List.any_cons, ih, eqv_int]
    by_cases q : n = k
    · simp [q]
    · have : ¬ k = n := fun e => q e.symm
      simp [q, this]
theorem EvT.notInInts {l r : Expr} {pos : Pos} {k : Int} {a : Addr} {ob : O} {ns : List Int} (hu : A.units + 66 < cLine) (h1 : Ev C A env ρ H l (.int k)) (h2 : Ev C A env ρ H r (.ref a)) (hH : H a = some ob) (hl : lst ob = some (vints ns)) (hm : behindInMarks .NotIn r = false := by with_unfolding_all rfl) :
    EvT C A env ρ H (.Compare l [.NotIn] [r] pos) (!decide (k ∈ ns)) :=
  WT.ev (WT.cmp (WE.of h1 (WE.of h2 fun x y ex ey => W.notInData (d := .int k) (es := ns.map .int) (by rw [ex, Rd]) (by rw [ey]; exact Rd_ints hH hl) (shaped_int k) (shaped_ints ns) hu ⟨rfl, _, rfl, by rw [any_ints], rfl⟩)) hm)

/-! ## negative places, stores, repeats, powers, the greatest -/
end
end Mine

namespace Mine
open PySem PySem.W PyProof.Rows

section
variable {C : Cx} {A : Around} {env : Env} {ρ : Lo} {H : AH}


/-! ## stores into lists -/

/-! ## repeats, powers, the greatest -/
theorem Ev.pow {l r : Expr} {pos : Pos} {a n : Int} (h1 : Ev C A env ρ H l (.int a)) (h2 : Ev C A env ρ H r (.int n)) (h0 : 0 ≤ n) (hsz : (Builtin.Int.intBits a : Int) * n ≤ 2 ^ 27) : Ev C A env ρ H (.BinOp l .Pow r pos) (.int (a ^ n.toNat)) :=
  Ev.bin h1 h2 fun x y e e' => by
    obtain ⟨t, rfl⟩ := ab_int e; obtain ⟨u, rfl⟩ := ab_int e'
    exact fun s hs => pow_int h0 hsz ⟨ρ, H, hs, .toks, rfl, rfl, rfl⟩

/-! ## the place's own changes -/

/-! ## backwards -/
end
end Mine

namespace Mine
open PySem PySem.W PyProof.Rows

section
variable {C : Cx} {A : Around} {env : Env} {ρ : Lo} {H : AH}
theorem Ev.abs {e : Expr} {p pos : Pos} {a : Int} {id : Str} (hf : Ev C A env ρ H (.Name id p) (.bi "abs")) (h : Ev C A env ρ H e (.int a)) (hn : noStar [e] = true := by rfl) : Ev C A env ρ H (.Call (.Name id p) [e] [] pos) (.int (if a < 0 then -a else a)) :=
  WE.ev (WE.callBi hf (WEs.of (.cons h .nil) (WKs.nil (WCall.abs ⟨rfl, rfl⟩))) hn)
theorem vints_at {xs : List Int} {i : Nat} {v : V} (h : (vints xs)[i]? = some v) : v = .int (xs.getD i 0) ∧ i < xs.length := by
  have hi : i < (vints xs).length := (List.getElem?_eq_some_iff.mp h).1
  rw [ints_length] at hi
  rw [List.getD_eq_getElem?_getD]
  refine ⟨?_, hi⟩
  simp [vints, hi] at h ⊢
  exact h.symm
end
end Mine

namespace Mine
open PySem PySem.W PyProof.Rows

/-! ## lambdas -/
noncomputable def Bm (C : Cx) : Prop := ∃ bm ob, C.mg "__builtins__" = some (.ref bm) ∧ bm ≠ builtinsNs ∧ bm ≠ mainGlobals ∧ C.base.get? bm = some ob ∧ ob.cls = .type "module" ∧ ob.dict = some builtinsNs ∧ ob.data = .plain
noncomputable def hit (es : List (Nat × Nat × Addr)) (pos : Pos) : Option Addr := match es with
  | [] => none
  | e :: r => if e.1 == pos.line && e.2.1 == pos.col then some e.2.2 else hit r pos
theorem triples_tab : ∀ (es : List (Nat × Nat × Addr)), TriplesOk (tabItems es)
  | [] => trivial
  | e :: r => triples_tab r
theorem among_tab {pos : Pos} : ∀ (es : List (Nat × Nat × Addr)), codeAmong pos (tabItems es) = (hit es pos).map Value.ref
  | [] => rfl
  | e :: r => by
    have ih := among_tab (pos := pos) r
    show (if ((e.1 : Int) == (pos.line : Int) && (e.2.1 : Int) == (pos.col : Int)) = true then some (Value.ref e.2.2) else codeAmong pos (tabItems r)) = _
    rw [hit, ih]
    have h1 : ((e.1 : Int) == (pos.line : Int)) = (e.1 == pos.line) := by
      by_cases q : e.1 = pos.line
      · simp [q]
      · have : ¬ (e.1 : Int) = (pos.line : Int) := by lia
        rw [beq_eq_false_iff_ne.mpr q, beq_eq_false_iff_ne.mpr this]
    have h2 : ((e.2.1 : Int) == (pos.col : Int)) = (e.2.1 == pos.col) := by
      by_cases q : e.2.1 = pos.col
      · simp [q]
      · have : ¬ (e.2.1 : Int) = (pos.col : Int) := by lia
        rw [beq_eq_false_iff_ne.mpr q, beq_eq_false_iff_ne.mpr this]
    rw [h1, h2]
    cases (e.1 == pos.line && e.2.1 == pos.col) <;> rfl
theorem tab_snoc (es : List (Nat × Nat × Addr)) (l c : Nat) (a : Addr) : tabItems (es ++ [(l, c, a)]) = tabItems es ++ [rawInt l, rawInt c, .ref a] := by
  simp [tabItems]

section
variable {C : Cx} {A : Around} {env : Env} {ρ : Lo} {H : AH}
noncomputable abbrev lamFd (C : Cx) (env : Env) (params : Arguments) (body : Expr) (scope : Scope) (clos : List (Str × Addr)) (c' : Addr) (ctv : Value) : FuncData :=
  kla_fn "<lambda>" (env.qual ++ "<lambda>") params body scope clos ((C.mg "__name__").getD .none) (.ref c') ctv

theorem WE.lambda {params : Arguments} {body : Expr} {scope : Scope} {pos : Pos} {clos : List (Str × Addr)} {es : List (Nat × Nat × Addr)} {c P : Addr} {Q : V → AH → Prop} (F : Fx C A env) (hbm : Bm C) (hcode : env.code = .ref c) (hC : CodeHd C.base c P) (hP : H P = some (.tab es))
    (h1 : hit es pos = none → ∀ c' ctv f, H c' = none → H f = none → c' ≠ f → Q (.ref f) (((H.set c' (.code (env.qual ++ "<lambda>"))).set P (.tab (es ++ [(pos.line, pos.col, c')]))).set f (.fn (lamFd C env params body scope clos c' ctv))))
    (h2 : ∀ c', hit es pos = some c' → ∀ ctv f, H f = none → Q (.ref f) (H.set f (.fn (lamFd C env params body scope clos c' ctv))))
    (hdef : defaultsOf params env = ([], []) := by rfl) (hcl : closureFor scope env = pure clos := by rfl) : WE C A env (.Lambda params body scope pos) ρ H Q := fun s hs => by
  refine kla_eval hdef ?_
  obtain ⟨co, hco, hr⟩ := hs.rep P _ hP
  have hPo : s.heap.get? P = some (tabObj (tabItems es).toArray) := by rw [hco, hr]
  have hPL : P ≠ env.locals := fun q => by rw [q, hs.nl] at hP; cases hP
  have hPb := hs.own P _ hP rfl
  have hg := C.hg.keeps hs.keep
  have hgP : mainGlobals ≠ P := fun q => by
    obtain ⟨o, es, ep, e, hd, _⟩ := C.hg
    rw [q, hPb] at e; cases e
  obtain ⟨bm, ob, b1, b2, b3, b4, b5, b6, b7⟩ := hbm
  have hbP : bm ≠ P := fun q => by rw [q, hPb] at b4; cases b4
  have hB : s.heap.BuiltinsAt C.mg P := ⟨bm, ob, b1, b2, b3, hbP, hs.keep _ _ b4, b5, b6, b7⟩
  have hCs := hC.keeps hs.keep
  cases hf : hit es pos with
  | none =>
    refine kla_makeFunction hcl F.gl hg hcode hCs hPo (by rw [List.toList_toArray]; exact triples_tab es) (by rw [List.toList_toArray, among_tab, hf]; rfl) hgP hB fun c' ctv h' tk hx hge hlt hrec htb => ?_
    have hcn : s.heap.get? c' = none := Heap.get?_none_of_le hge
    have hfn : s.heap.get? h'.objs.size = none := Heap.get?_none_of_le (Nat.le_of_lt (Nat.lt_of_le_of_lt hge hlt))
    obtain ⟨c₂, oc, vs, t, e2, hoc, hd, hv⟩ := hrec
    cases e2
    have fc := hs.fresh hcn
    have ff := hs.fresh hfn
    have hcf : c' ≠ h'.objs.size := Nat.ne_of_lt hlt
    have hcP : c' ≠ P := fun q => by rw [q, hPo] at hcn; cases hcn
    have hfP : h'.objs.size ≠ P := fun q => by rw [q, hPo] at hfn; cases hfn
    obtain ⟨m, hn, hm⟩ := hs.loc
    have hpush : ∀ (o' : Obj) b o, h'.get? b = some o → (h'.push o').get? b = some o := fun o' b o e => Heap.get?_push_of_some _ e
    have hget : ∀ (x : Addr) (o : O), ((((H.set c' (.code (env.qual ++ "<lambda>"))).set P (.tab (es ++ [(pos.line, pos.col, c')]))).set h'.objs.size (.fn (lamFd C env params body scope clos c' ctv))) x = some o) → (x = h'.objs.size ∧ o = .fn (lamFd C env params body scope clos c' ctv)) ∨ (x = P ∧ o = .tab (es ++ [(pos.line, pos.col, c')])) ∨ (x = c' ∧ o = .code (env.qual ++ "<lambda>")) ∨ (x ≠ P ∧ H x = some o) := by
      intro x o e
      by_cases q1 : x = h'.objs.size
      · subst q1; rw [AH.set_same] at e; cases e; exact .inl ⟨rfl, rfl⟩
      · rw [AH.set_ne _ _ q1] at e
        by_cases q2 : x = P
        · subst q2; rw [AH.set_same] at e; cases e; exact .inr (.inl ⟨rfl, rfl⟩)
        · rw [AH.set_ne _ _ q2] at e
          by_cases q3 : x = c'
          · subst q3; rw [AH.set_same] at e; cases e; exact .inr (.inr (.inl ⟨rfl, rfl⟩))
          · rw [AH.set_ne _ _ q3] at e; exact .inr (.inr (.inr ⟨q2, e⟩))
    refine ⟨ρ, _, ⟨fun b o e => hpush _ b o (hx b o (fun q => by rw [q, hPb] at e; cases e) (hs.keep b o e)), fun x o e => ?_, fun x o e hm' => ?_, ⟨m, (hn.extBut hx hPL.symm).push _, hm⟩, ?_, hs.bl⟩, ⟨⟨rfl, rfl⟩, fun b o e eb eL => hpush _ b o (hx b o (fun q => by rw [q, hP] at eb; cases eb) e), fun b o e eb => ?_, fun b o e => ?_⟩, rfl, h1 hf c' ctv _ fc.1 ff.1 hcf⟩
    · rcases hget x o e with ⟨rfl, rfl⟩ | ⟨rfl, rfl⟩ | ⟨rfl, rfl⟩ | ⟨q, e⟩
      · exact ⟨_, Heap.get?_push_size _ rfl, rfl⟩
      · refine ⟨_, hpush _ _ _ htb, ?_⟩
        show tabObj _ = _
        rw [tab_snoc]; simp
      · exact ⟨oc, hpush _ _ _ hoc, vs, t, hd, hv⟩
      · obtain ⟨c0, e1, e2⟩ := hs.rep x o e
        exact ⟨c0, hpush _ _ _ (hx x c0 q e1), e2⟩
    · rcases hget x o e with ⟨rfl, rfl⟩ | ⟨rfl, rfl⟩ | ⟨rfl, rfl⟩ | ⟨q, e⟩
      · cases hm'
      · exact hPb
      · cases hm'
      · exact hs.own x o e hm'
    · rw [AH.set_ne _ _ (Ne.symm ff.2.2), AH.set_ne _ _ hPL.symm, AH.set_ne _ _ (Ne.symm fc.2.2)]; exact hs.nl
    · rw [AH.set_ne _ _ (fun q => by rw [q, hfn] at e; cases e), AH.set_ne _ _ (fun q => by rw [q, hP] at eb; cases eb), AH.set_ne _ _ (fun q => by rw [q, hcn] at e; cases e)]; exact eb
    · by_cases q : b = P
      · subst q; exact ⟨_, hpush _ _ _ htb⟩
      · exact ⟨o, hpush _ b o (hx b o q e)⟩
  | some c' =>
    refine kla_makeFunctionHit hcl F.gl hg hcode hCs hPo (by rw [List.toList_toArray]; exact triples_tab es) (cv := .ref c') (by rw [List.toList_toArray, among_tab, hf]; rfl) hB fun ctv h' tk hk hsz => ?_
    have hfn : s.heap.get? h'.objs.size = none := Heap.get?_none_of_le hsz
    have k : ∀ b o, s.heap.get? b = some o → (h'.push (kla_obj "<lambda>" (env.qual ++ "<lambda>") params body scope clos ((C.mg "__name__").getD .none) c' ctv)).get? b = some o := fun b o e => Heap.get?_push_of_some _ (hk b o e)
    exact ⟨ρ, _, hs.alloc (o := .fn (lamFd C env params body scope clos c' ctv)) hfn (Heap.get?_push_size _ rfl) rfl k, .alloc hfn k, rfl, h2 c' hf ctv _ (hs.fresh hfn).1⟩

/-- a lambda called -/
noncomputable abbrev lamEnv (fd : FuncData) (L a : Addr) : Env := newEnv fd.scope L fd.globals fd.closure (fd.qualname ++ ".<locals>.") (some a) fd.code none fd.builtins
theorem WCall.lam {a c' : Addr} {fd : FuncData} {body : Expr} {args : List V} {bs : List (Str × V)} {Q : V → AH → Prop} (hfn : H a = some (.fn fd)) (hdep : A.depth < recursionLimit)
    (hb : fd.body = .expr body) (hc : fd.code = .ref c') (hcH : H c' = some (.code fd.qualname)) (hcell : ∀ x ∈ fd.scope.names, x.2 ≠ .cell)
    (hbind : ∀ vals, vals.map ab = args → ∃ binds, bindArgs fd ⟨vals, []⟩ = pure binds ∧ binds.map (fun p => (p.1, ab p.2)) = bs)
    (hloc : ∀ x ∈ bs, fd.scope.names.lookup x.1 = some .local)
    (h : ∀ L, H L = none → WE C (A.deeper (lamEnv fd L a)) (lamEnv fd L a) body (fun y => bs.reverse.lookup y) H Q)
    (hco : fd.scope.isCoroutine = false := by rfl) (hgen : fd.scope.isGenerator = false := by rfl) (hk : fd.scope.kind = .function := by rfl) : WCall C A (.ref a) args [] H Q := by
  intro L ρ fv vals kvs e1 e2 e3
  cases ab_ref e1
  cases ab_nil e3
  obtain ⟨binds, hbt, hbs⟩ := hbind vals e2
  intro s hs
  have ho := hs.func hfn
  have hnone := get?_size_none s.heap
  have hrec : s.heap.CodeRec fd.code fd.qualname := by
    obtain ⟨oc, hoc, vs, t, hd, hv⟩ := hs.rep c' _ hcH
    exact ⟨c', oc, vs, t, hc, hoc, hd, hv⟩
  refine wpAny_call (kla_callFunE hdep ho rfl hco hgen hb hrec ?_)
  rw [hbt]
  refine wpAny_pure (wpAny_newFunctionEnv hcell (fun x hx => hloc (x.1, ab x.2) (by rw [← hbs]; exact List.mem_map.mpr ⟨x, hx, rfl⟩)) (fun h₁ hns hsb => ⟨((C.lim).keeps hs.keep).fresh _ hsb, ?_⟩) hk)
  have hk₁ : ∀ b o, s.heap.get? b = some o → h₁.get? b = some o := fun b o e => hsb.extBut b o (Nat.ne_of_lt (Heap.lt_size e)) (Heap.get?_push_of_some _ e)
  have hst : St C s.heap.objs.size (fun y => bs.reverse.lookup y) H h₁ := by
    refine ⟨fun b o e => hk₁ _ _ (hs.keep b o e), fun a o e => let ⟨c, e1, e2⟩ := hs.rep a o e; ⟨c, hk₁ _ _ e1, e2⟩, hs.own, ⟨_, hns, fun x => ?_⟩, (hs.fresh hnone).1, (hs.fresh hnone).2.1⟩
    rw [← hbs, ← List.map_reverse]
    exact lookup_ab x binds.reverse
  show codeAny _ _ (.expr body (lamEnv fd s.heap.objs.size a)) _ _
  refine kla_codeExpr (wpAny_mono (h s.heap.objs.size (hs.fresh hnone).1 { s with heap := h₁, toks := s.toks + binds.length } hst) (fun v s' ⟨ρ', H', x, y, z1, z⟩ => ?_) fun _ _ e => e.elim)
  obtain ⟨q1, q2, q3, q4⟩ := hs.back (s1 := { s with heap := h₁, toks := s.toks + binds.length }) (L' := s.heap.objs.size) hk₁ hnone (fun _ _ _ e => e) x y
  refine ⟨ρ, H', q1, ⟨?_, fun b o e eb _ => q2 b o e eb, q3, q4⟩, rfl, z⟩
  exact y.same
end
end Mine

namespace Mine
open PySem PySem.W PyProof.Rows

section
variable {C : Cx} {A : Around} {env : Env} {ρ : Lo} {H : AH}
/-! ## the call from the top, with code tables that may grow -/
theorem top_call2 {a : Addr} {o : Obj} {fd : FuncData} {body : List Stmt} {vals : List Value} {bs : List (Str × V)} {Q : V → AH → Prop} {s : Shared} (hsub : ∀ b o, C.base.get? b = some o → s.heap.get? b = some o) (hrep : ∀ a o, H a = some o → ∃ c, s.heap.get? a = some c ∧ Rep o c) (hown : ∀ a o, H a = some o → o.mut = true → C.base.get? a = none)
    (ho : s.heap.get? a = some o) (hd : o.data = .func fd) (hdep : A.depth < recursionLimit)
    (hb : fd.body = .stmts body) (hclo : fd.closure = []) (hcd : s.heap.CodeRec fd.code fd.qualname)
    {binds : List (Str × Value)} (hbt : bindArgs fd ⟨vals, []⟩ = pure binds) (hbs : binds.map (fun p => (p.1, ab p.2)) = bs)
    (hkind : (bs.all fun y => fd.scope.names.lookup y.1 == some .local || fd.scope.names.lookup y.1 == some .cell) = true)
    (hnd : ((cellsFrom 0 fd.scope.names []).map (·.1)).Nodup)
    (lm cm : Str → Option V) (hlm : ∀ L x, (bindL (callEnvC fd L a).kindOf binds (fun _ => none) x).map ab = lm x) (hcm : ∀ L x, (bindC (callEnvC fd L a).kindOf binds (fun _ => none) x).map ab = cm x)
    (h : ∀ L, H L = none → (∀ p ∈ cellsFrom (L + 1) fd.scope.names [], H p.2 = none ∧ p.2 ≠ L) → WS C (A.deeper (callEnvC fd L a)) (callEnvC fd L a) body lm (cellH cm (cellsFrom (L + 1) fd.scope.names []) H) (fun f _ H' => Q (retv f) H'))
    (hco : fd.scope.isCoroutine = false := by rfl) (hgen : fd.scope.isGenerator = false := by rfl) (hk : fd.scope.kind = .function := by rfl) :
    wpAny C.M A (call (.ref a) vals []) (fun v s' => (∃ H', Q (ab v) H' ∧ ∀ a o, H' a = some o → ∃ c, s'.heap.get? a = some c ∧ Rep o c) ∧ (∀ b o, C.base.get? b = some o → s'.heap.get? b = some o) ∧ (∀ b o, s.heap.get? b = some o → H b = none → s'.heap.get? b = some o) ∧ (∀ b o, s.heap.get? b = some o → ∃ o', s'.heap.get? b = some o') ∧ s'.gens = s.gens ∧ s'.os = s.os) False2 s := by
  have hnone := get?_size_none s.heap
  have hHn : ∀ b, s.heap.get? b = none → H b = none := fun b e => by
    cases q : H b with
    | none => rfl
    | some o => obtain ⟨c, e1, _⟩ := hrep b o q; rw [e] at e1; cases e1
  have hBn : ∀ b, s.heap.get? b = none → C.base.get? b = none := fun b e => by
    cases q : C.base.get? b with
    | none => rfl
    | some o => rw [hsub b o q] at e; cases e
  have hkind' : ∀ n, ∀ x ∈ binds, fd.scope.names.lookup x.1 = some .local ∨ (fd.scope.names.lookup x.1 = some .cell ∧ ((cellsFrom n fd.scope.names []).lookup x.1).isSome = true) := fun n x hx => by
    have := kindsX (scope := fd.scope) (binds := binds) (by
      rw [List.all_eq_true]; intro y hy
      exact List.all_eq_true.mp hkind (y.1, ab y.2) (by rw [← hbs]; exact List.mem_map.mpr ⟨y, hy, rfl⟩)) n x hx
    exact this
  refine wpAny_call (codeAny_call_cells hdep ho hd (C.lim.keeps hsub) hcd hb hbt hclo (hkind' _) (fun s₁ X => ?_) hco hgen hk)
  have hnames : ∀ (n : Nat) (names : List (Str × NameKind)) (acc : List (Str × Addr)) (p : Str × Addr), p ∈ cellsFrom n names acc → p ∈ acc ∨ n ≤ p.2 := by
    intro n names
    induction names generalizing n with
    | nil => intro acc p hp; exact .inl hp
    | cons x r ih =>
      intro acc p hp
      obtain ⟨nm, k⟩ := x
      unfold cellsFrom at hp
      split at hp
      · rcases ih (n + 1) _ p hp with q | q
        · rcases List.mem_cons.mp q with rfl | q
          · exact .inr (Nat.le_refl _)
          · exact .inl q
        · exact .inr (by lia)
      · exact ih n acc p hp
  have habove : ∀ p ∈ cellsFrom (s.heap.objs.size + 1) fd.scope.names [], s.heap.objs.size < p.2 := fun p hp => by
    rcases hnames _ _ _ p hp with q | q
    · cases q
    · lia
  have hfresh : ∀ p ∈ cellsFrom (s.heap.objs.size + 1) fd.scope.names [], s.heap.get? p.2 = none := fun p hp => by
    cases e : s.heap.get? p.2 with
    | none => rfl
    | some o => exact absurd (Heap.lt_size e) (Nat.lt_asymm (habove p hp))
  have same_names : ∀ (n n' : Nat) (names : List (Str × NameKind)) (acc acc' : List (Str × Addr)), acc.map (·.1) = acc'.map (·.1) → (cellsFrom n names acc).map (·.1) = (cellsFrom n' names acc').map (·.1) := by
    intro n n' names
    induction names generalizing n n' with
    | nil => intro acc acc' e; exact e
    | cons x r ih =>
      intro acc acc' e
      obtain ⟨nm, k⟩ := x
      unfold cellsFrom
      split
      · exact ih _ _ _ _ (by simp [e])
      · exact ih _ _ _ _ e
  have hnd' : ((cellsFrom (s.heap.objs.size + 1) fd.scope.names []).map (·.1)).Nodup := by rw [same_names _ 0 _ _ [] rfl]; exact hnd
  have lookup_mem : ∀ {cs : List (Str × Addr)}, (cs.map (·.1)).Nodup → ∀ n c, (n, c) ∈ cs → cs.lookup n = some c := by
    intro cs
    induction cs with
    | nil => intro _ n c hm; cases hm
    | cons p r ih =>
      intro hn n c hm
      obtain ⟨pn, pc⟩ := p
      simp only [List.map_cons, List.nodup_cons] at hn
      rcases List.mem_cons.mp hm with e | hm
      · cases e; simp [List.lookup_cons]
      · have hne : n ≠ pn := fun q => hn.1 (q ▸ List.mem_map.mpr ⟨(n, c), hm, rfl⟩)
        rw [List.lookup_cons, beq_false_of_ne hne]; exact ih hn.2 n c hm
  obtain ⟨⟨⟨h1, tk1, rfl⟩, hns, hkeep, hab⟩, hcell, hap, hgt⟩ := X
  have hst : St C s.heap.objs.size lm (cellH cm (cellsFrom (s.heap.objs.size + 1) fd.scope.names []) H) h1 := by
    refine ⟨fun b o e => hkeep _ _ (hsub b o e), fun b o e => ?_, fun b o e hm => ?_, ⟨_, hns, fun x => hlm _ x⟩, ?_, hBn _ hnone⟩
    · rcases cellH_some e with ⟨n, hm, rfl⟩ | e
      · obtain ⟨oc, ho, hd⟩ := hcell n b (lookup_mem hnd' n b hm)
        exact ⟨oc, ho, _, hd, hcm _ n⟩
      · obtain ⟨c, e1, e2⟩ := hrep b o e; exact ⟨c, hkeep _ _ e1, e2⟩
    · rcases cellH_some e with ⟨n, hm', rfl⟩ | e
      · exact hBn _ (hfresh _ hm')
      · exact hown b o e hm
    · rw [cellH_get (fun p hp q => Nat.ne_of_gt (habove p hp) q)]; exact hHn _ hnone
  refine wpAny_mono (h s.heap.objs.size (hHn _ hnone) (fun p hp => ⟨hHn _ (hfresh p hp), Nat.ne_of_gt (habove p hp)⟩) { s with heap := h1, toks := tk1 } hst) (fun f s' ⟨ρ', H', x, y, z⟩ => ?_) fun _ _ e => e.elim
  have e1 : (∃ H', Q (ab (match f with | .ret v => v | _ => .none)) H' ∧ ∀ a o, H' a = some o → ∃ c, s'.heap.get? a = some c ∧ Rep o c) := ⟨H', by cases f <;> exact z, x.rep⟩
  have e2 : ∀ b o, C.base.get? b = some o → s'.heap.get? b = some o := fun b o e => x.keep b o e
  have e3 : s'.gens = s.gens ∧ s'.os = s.os := y.same
  have e4 : ∀ b o, s.heap.get? b = some o → H b = none → s'.heap.get? b = some o := fun b o eb hb => by
    refine y.kept b o (hkeep b o eb) ?_ (fun q => by have q' : b = s.heap.objs.size := q; rw [q', hnone] at eb; cases eb)
    rw [cellH_get (fun p hp q => by have := hfresh p hp; rw [q, eb] at this; cases this)]; exact hb
  have e5 : ∀ b o, s.heap.get? b = some o → ∃ o', s'.heap.get? b = some o' := fun b o eb => y.live b o (hkeep b o eb)
  exact ⟨by cases f <;> exact e1, e2, e4, e5, e3.1, e3.2⟩

theorem law_end2 {r : RowW} {cl : Str → Option Addr} {mean : ExcName → Option Value} {args : List WData} {s₁ s' : Shared} {H H' : AH} {tabs : List Addr} (hr : r.raises = []) (hp : r.claim.post args (.bool true) args = true)
    (htab : ∀ P ∈ tabs, (∃ c, s₁.heap.TableAt c P #[]) ∧ ∃ es, H' P = some (.tab es)) (hrep : ∀ a o, H' a = some o → ∃ c, s'.heap.get? a = some c ∧ Rep o c)
    (hk : ∀ b o, b ∉ tabs → s₁.heap.get? b = some o → s'.heap.get? b = some o) (hl : ∀ b o, s₁.heap.get? b = some o → ∃ o', s'.heap.get? b = some o') (hg : s'.gens = #[]) (hos : s'.os = s₁.os) : GoodWG r.claim cl mean args s₁ (.ok (.ret (.bool true))) s' := by
  refine ⟨.inl ⟨.bool true, .bool true, [], rfl, raisesW_false (by rw [hr]; exact allW_false_nil), .bool true, hp, unshared_nil⟩, ⟨fun b o e => ?_, hl⟩, hos, .of_eq hg⟩
  by_cases q : b ∈ tabs
  · obtain ⟨⟨c, ht⟩, es, he⟩ := htab b q
    have e₀ : o = { cls := .none, data := .fields #[] } := Option.some.inj (e.symm.trans ht.2)
    obtain ⟨co, h1, h2⟩ := hrep b _ he
    refine .inr (.inl ⟨ht.isCodeTable, by rw [e₀], #[], (tabItems es).toArray, by rw [e₀], ?_⟩)
    rw [h1, e₀]
    have : co = { cls := .none, data := .fields (tabItems es).toArray } := h2
    rw [this]; simp
  · exact .inl (hk b o q e)
end
end Mine

namespace Mine
open PySem PySem.W PyProof.Rows

/-! ## comparisons and keys as judgements -/
noncomputable def LtOk (C : Cx) (A : Around) (H : AH) (v w : V) (b : Bool) : Prop := ∀ L ρ x y, ab x = v → ab y = w → W C A L (compareOp .Lt x y) ρ H (fun z ρ' H' => ρ' = ρ ∧ H' = H ∧ z = .bool b)
noncomputable def KeyOk (C : Cx) (A : Around) (H : AH) (f : Addr) (v kv : V) : Prop := WCall C A (.ref f) [v] [] H (fun r H' => r = kv ∧ H' = H)
section
variable {C : Cx} {A : Around} {env : Env} {ρ : Lo} {H : AH}
theorem LtOk.int {a b : Int} : LtOk C A H (.int a) (.int b) (decide (a < b)) := fun L ρ x y ex ey => W.icmp (op := .Lt) ex ey rfl ⟨rfl, rfl, rfl⟩
theorem EvT.ltOk {l r : Expr} {pos : Pos} {v w : V} {b : Bool} (h1 : Ev C A env ρ H l v) (h2 : Ev C A env ρ H r w) (h : LtOk C A H v w b) (hm : behindInMarks .Lt r = false := by with_unfolding_all rfl) : EvT C A env ρ H (.Compare l [.Lt] [r] pos) b :=
  WT.ev (WT.cmp (WE.of h1 (WE.of h2 fun x y ex ey => W.mono (h _ _ x y ex ey) (by rintro z _ _ ⟨rfl, rfl, rfl⟩; exact ⟨rfl, _, rfl, rfl, rfl⟩))) hm)
theorem Ev.key {id : Str} {p pos : Pos} {e : Expr} {f : Addr} {o : Obj} {fd : FuncData} {v kv : V} (hf : Ev C A env ρ H (.Name id p) (.ref f)) (hfn : FnAt C H f o fd) (he : Ev C A env ρ H e v) (hk : KeyOk C A H f v kv) (hn : noStar [e] = true := by rfl) : Ev C A env ρ H (.Call (.Name id p) [e] [] pos) kv :=
  WE.ev (WE.callFn hf (WEs.of (.cons he .nil) (WKs.nil ⟨hfn, hk⟩)) hn)
/-! is, is not -/
theorem Ev.any {l r : Expr} {op : CmpOp} {pos : Pos} {v w : V} {b : Bool} (h1 : Ev C A env ρ H l v) (h2 : Ev C A env ρ H r w) (h : ∀ x y, ab x = v → ab y = w → W C A env.locals (compareOp op x y) ρ H (fun z ρ' H' => ρ' = ρ ∧ H' = H ∧ z = .bool b)) (hm : behindInMarks op r = false := by with_unfolding_all rfl) : EvT C A env ρ H (.Compare l [op] [r] pos) b :=
  WT.ev (WT.cmp (WE.of h1 (WE.of h2 fun x y ex ey => W.mono (h x y ex ey) (by rintro z _ _ ⟨rfl, rfl, rfl⟩; exact ⟨rfl, _, rfl, rfl, rfl⟩))) hm)
end
/-- one frame deeper -/
noncomputable def Nx (A A' : Around) : Prop := A'.depth = A.depth + 1 ∧ A'.units = A.units + 3 ∧ A'.handled = A.handled
theorem Nx.of (A : Around) (env : Env) : Nx A (A.deeper env) := ⟨rfl, rfl, rfl⟩

/-! ## the search -/
noncomputable def bis (f : Nat → Bool) (lo hi : Nat) : Nat :=
  if h : lo < hi then
    if f ((lo + hi) / 2) then bis f lo ((lo + hi) / 2) else bis f ((lo + hi) / 2 + 1) hi
  else lo
termination_by hi - lo
decreasing_by all_goals omega
theorem bis_cross {f : Nat → Bool} {lo hi : Nat} (h : hi ≤ lo) : bis f lo hi = lo := by
  unfold bis; rw [dif_neg (by lia)]
theorem bis_true {f : Nat → Bool} {lo hi : Nat} (h : lo < hi) (hf : f ((lo + hi) / 2) = true) : bis f lo hi = bis f lo ((lo + hi) / 2) := by
  conv => lhs; unfold bis
  rw [dif_pos h, if_pos hf]
theorem bis_false {f : Nat → Bool} {lo hi : Nat} (h : lo < hi) (hf : f ((lo + hi) / 2) = false) : bis f lo hi = bis f ((lo + hi) / 2 + 1) hi := by
  conv => lhs; unfold bis
  rw [dif_pos h, if_neg (by simp [hf])]
end Mine

namespace Mine
open PySem PySem.W PyProof.Rows
open PySem.AutoSeq1 (wpAny_loadPart')
open PySem.MeetsSeq PySem.MeetsSeq3

/-! ## lists of one number, compared -/
section
variable {C : Cx} {A : Around} {env : Env} {ρ : Lo} {H : AH}

/-! ## more lists made -/
/-- of a list's items those that pass a test -/
theorem comp_filter {p : V → Bool} {elt c : Expr} {x : Str} {pos : Pos} {Ok : Nat → AH → Prop} {vs : List V} {g : V → V} {Q : AH → List V → Prop} (F : Fx C A env) (hx : env.kindOf x = some .local) (hn : vs.length ≤ sizeLine)
    (hOk : ∀ i, Ok i H) (he : ∀ v (ρ : Lo), v ∈ vs → ρ x = some v → Ev C A env ρ H elt (g v)) (hc : ∀ v (ρ : Lo), v ∈ vs → ρ x = some v → EvT C A env ρ H c (p v)) (hQ : Q H ((vs.filter p).map g)) :
    LoopOk C A env elt (.Name x pos) [c] [] H vs.length Ok (fun i _ d => ∃ v, vs[i]? = some v ∧ d = .one v) (fun _ => none) [] (fun _ H2 zs => Q H2 zs) := by
  refine ⟨fun i ρ1 H1 zs => H1 = H ∧ zs = ((vs.take i).filter p).map g, ⟨rfl, rfl⟩, ?_, ?_⟩
  · rintro i ρ1 H1 zs hi ⟨rfl, rfl⟩
    refine ⟨hOk i, ?_⟩
    rintro d ⟨v, hv, rfl⟩
    have hm : v ∈ vs := List.mem_of_getElem? hv
    have ht : vs.take (i + 1) = vs.take i ++ [v] := by rw [List.take_add_one, hv]; rfl
    refine Asg.local F hx (WT.of (hc v _ hm (Lo.set_same ..)) ⟨fun e => ⟨fun _ => ?_, fun e => (by cases e)⟩, fun e => ⟨fun e => (by cases e), fun _ => ⟨rfl, ?_⟩⟩⟩)
    · refine WE.of (he v _ hm (Lo.set_same ..)) ⟨?_, rfl, ?_⟩
      · have := List.length_filter_le p (vs.take i)
        simp at this ⊢
        lia
      · rw [ht]; simp [e]
    · rw [ht]; simp [e]
  · rintro ρ1 H1 zs ⟨rfl, rfl⟩
    exact ⟨hOk _, by rw [List.take_length]; exact hQ⟩
end
end Mine

namespace Mine
open PySem PySem.W PyProof.Rows

/-! ## plain lists: the place among sorted things, one part grown -/
noncomputable def ins {α : Type} (xs : List α) (k : Nat) (x : α) : List α := xs.take k ++ x :: xs.drop k



theorem map_ins {α β : Type} (g : α → β) (xs : List α) (k : Nat) (x : α) : (ins xs k x).map g = ins (xs.map g) k (g x) := by
  unfold ins; simp [List.map_take, List.map_drop]

/-! ## statements, lambdas, heaps -/
noncomputable def stAt (l : List Stmt) (n : Nat) : Stmt := (l[n]?).getD (.Pass ⟨0, 0, 0, 0⟩)
noncomputable def forBody : Stmt → List Stmt
  | .For _ _ b _ _ => b
  | _ => []
theorem hit_mem {es : List (Nat × Nat × Addr)} {pos : Pos} {c : Addr} (h : hit es pos = some c) : ∃ e ∈ es, e.2.2 = c := by
  induction es with
  | nil => cases h
  | cons e r ih =>
    rw [hit] at h
    split at h
    · exact ⟨e, List.mem_cons_self .., Option.some.inj h⟩
    · obtain ⟨e', h1, h2⟩ := ih h
      exact ⟨e', List.mem_cons_of_mem _ h1, h2⟩

section
variable {C : Cx} {A : Around} {env : Env} {ρ : Lo} {H : AH}
end
end Mine

namespace Mine
open PySem PySem.W PyProof.Rows

/-! ## a table whose codes are all of one lambda -/
noncomputable def Tab (H : AH) (T : Addr) (q : Str) : Prop := ∃ es, H T = some (.tab es) ∧ ∀ e ∈ es, H e.2.2 = some (.code q)
theorem Tab.up {H H' : AH} {T : Addr} {q : Str} (h : Tab H T q) (k : ∀ a o, H a = some o → (∀ vs, o ≠ .list vs) → H' a = some o) : Tab H' T q :=
  let ⟨es, e1, e2⟩ := h; ⟨es, k _ _ e1 (by simp), fun e he => k _ _ (e2 e he) (by simp)⟩
theorem Tab.le {H H' : AH} {T : Addr} {q : Str} (h : Tab H T q) (k : H.le H') : Tab H' T q := h.up fun a o e _ => k a o e
theorem WE.lamT {C : Cx} {A : Around} {env : Env} {ρ : Lo} {H : AH} {params : Arguments} {body : Expr} {scope : Scope} {pos : Pos} {clos : List (Str × Addr)} {c T : Addr} {Q : V → AH → Prop} (F : Fx C A env) (hbm : Bm C) (hcode : env.code = .ref c) (hC : CodeHd C.base c T) (ht : Tab H T (env.qual ++ "<lambda>"))
    (h : ∀ H1 g c' ctv, (∀ a o, H a = some o → a ≠ T → H1 a = some o) → Tab H1 T (env.qual ++ "<lambda>") → H1 g = some (.fn (lamFd C env params body scope clos c' ctv)) → H1 c' = some (.code (env.qual ++ "<lambda>")) → H g = none → (∀ a, H1 a = none → H a = none) → Q (.ref g) H1)
    (hdef : defaultsOf params env = ([], []) := by rfl) (hcl : closureFor scope env = pure clos := by rfl) : WE C A env (.Lambda params body scope pos) ρ H Q := by
  obtain ⟨es, hes, hec⟩ := ht
  refine WE.lambda (es := es) F hbm hcode hC hes (fun hm c' ctv f hc' hf' hcf => ?_) (fun c' hm ctv f hf' => ?_) hdef hcl
  · have up : ∀ {x : Addr} {o : O}, H x = some o → x ≠ T → (((H.set c' (.code (env.qual ++ "<lambda>"))).set T (.tab (es ++ [(pos.line, pos.col, c')]))).set f (.fn (lamFd C env params body scope clos c' ctv))) x = some o := fun {x o} e hn => by
      rw [AH.set_ne _ _ (fun q => by rw [q, hf'] at e; cases e), AH.set_ne _ _ hn, AH.set_ne _ _ (fun q => by rw [q, hc'] at e; cases e)]; exact e
    have hcT : c' ≠ T := fun e => by rw [e, hes] at hc'; cases hc'
    have hTf : T ≠ f := fun e => by rw [← e, hes] at hf'; cases hf'
    have hc2 : (((H.set c' (.code (env.qual ++ "<lambda>"))).set T (.tab (es ++ [(pos.line, pos.col, c')]))).set f (.fn (lamFd C env params body scope clos c' ctv))) c' = some (.code (env.qual ++ "<lambda>")) := by
      rw [AH.set_ne _ _ hcf, AH.set_ne _ _ hcT, AH.set_same]
    refine h _ f c' ctv (fun a o e hn => up e hn) ⟨es ++ [(pos.line, pos.col, c')], by rw [AH.set_ne _ _ hTf, AH.set_same], fun e he => ?_⟩ (AH.set_same ..) hc2 hf' fun a ha => ?_
    · rcases List.mem_append.mp he with he | he
      · exact up (hec e he) (fun q => by have := hec e he; rw [q, hes] at this; cases this)
      · rw [List.mem_singleton.mp he]; exact hc2
    · cases q : H a with
      | none => rfl
      | some o =>
        by_cases hT : a = T
        · rw [hT, AH.set_ne _ _ hTf, AH.set_same] at ha; cases ha
        · rw [up q hT] at ha; cases ha
  · obtain ⟨e0, he0, rfl⟩ := hit_mem hm
    refine h _ f e0.2.2 ctv (fun a o e _ => AH.get_of_set e hf') ⟨es, AH.get_of_set hes hf', fun e he => AH.get_of_set (hec e he) hf'⟩ (AH.set_same ..) (AH.get_of_set (hec e0 he0) hf') hf' fun a ha => (AH.none_of_set ha).1
end Mine

namespace Mine
open PySem PySem.W PyProof.Rows
open PySem.SeqAt (shaped)

/-! ## deep data, made of parts -/
noncomputable def Dp (d : PyData) (k : Nat) : Prop := d.canLay0 = true ∧ d.depth ≤ k
theorem Dp.int (i : Int) : Dp (.int i) 0 := ⟨by rw [PyData.canLay0], by rw [PyData.depth]; exact Nat.le_refl _⟩
theorem Dp.shaped {d : PyData} {k : Nat} (h : Dp d k) (hk : k ≤ 64) : shaped d = true := by
  unfold PySem.SeqAt.shaped; rw [h.1, Bool.true_and]; exact decide_eq_true (Nat.le_trans h.2 hk)
theorem Dp.all {ds : List PyData} {k : Nat} (h : ∀ d ∈ ds, Dp d k) : PyData.canLayAll0 ds = true ∧ PyData.depthAll ds ≤ k := by
  induction ds with
  | nil => exact ⟨by rw [PyData.canLayAll0], by rw [PyData.depthAll]; exact Nat.zero_le _⟩
  | cons d r ih =>
    obtain ⟨h1, h2⟩ := ih fun x hx => h x (List.mem_cons_of_mem _ hx)
    obtain ⟨h3, h4⟩ := h d (List.mem_cons_self ..)
    refine ⟨by rw [PyData.canLayAll0, h3, h1]; rfl, ?_⟩
    rw [PyData.depthAll]; lia
theorem Dp.list {ds : List PyData} {k : Nat} (h : ∀ d ∈ ds, Dp d k) : Dp (.list ds) (k + 1) := by
  obtain ⟨h1, h2⟩ := Dp.all h
  exact ⟨by rw [PyData.canLay0]; exact h1, by rw [PyData.depth]; lia⟩
theorem RdL_map {α : Type} {H : AH} {f : α → V} {e : α → PyData} : ∀ {xs : List α}, (∀ x ∈ xs, Rd H (f x) (e x)) → RdL H (xs.map f) (xs.map e)
  | [], _ => by rw [List.map_nil, List.map_nil, RdL]
  | x :: r, h => by
    rw [List.map_cons, List.map_cons, RdL]
    exact ⟨f x, r.map f, rfl, h x (List.mem_cons_self ..), RdL_map fun y hy => h y (List.mem_cons_of_mem _ hy)⟩
theorem Rd_list {H : AH} {a : Addr} {ob : O} {vs : List V} {ds : List PyData} (h : H a = some ob) (hl : lst ob = some vs) (hr : RdL H vs ds) : Rd H (.ref a) (.list ds) := by
  rw [Rd]; exact ⟨a, ob, vs, rfl, h, hl, hr⟩
section
variable {C : Cx} {A : Around} {env : Env} {ρ : Lo} {H : AH}
theorem eqv_nil (ds : List PyData) : PyData.eqv (.list ds) (.list []) = decide (ds = []) := by
  cases ds with
  | nil => rw [PyData.eqv, PyData.eqvAll]; rfl
  | cons d r => rw [PyData.eqv, PyData.eqvAll]; simp
mutual
theorem Rd.le {H H' : AH} (k : H.le H') : ∀ (d : PyData) (v : V), Rd H v d → Rd H' v d
  | .none, v, r => by rw [Rd] at r ⊢; exact r
  | .bool b, v, r => by rw [Rd] at r ⊢; exact r
  | .int i, v, r => by rw [Rd] at r ⊢; exact r
  | .str x, v, r => by rw [Rd] at r ⊢; exact r
  | .list ds, v, r => by
    rw [Rd] at r ⊢
    obtain ⟨a, ob, vs, e, h, hl, hr⟩ := r
    exact ⟨a, ob, vs, e, k _ _ h, hl, RdL.le k ds vs hr⟩
  | .tuple ds, v, r => by
    rw [Rd] at r ⊢
    obtain ⟨a, vs, e, h, hr⟩ := r
    exact ⟨a, vs, e, k _ _ h, RdL.le k ds vs hr⟩
  | .dict _, v, r => by rw [Rd] at r; exact r.elim
theorem RdL.le {H H' : AH} (k : H.le H') : ∀ (ds : List PyData) (vs : List V), RdL H vs ds → RdL H' vs ds
  | [], vs, r => by rw [RdL] at r ⊢; exact r
  | d :: ds, vs, r => by
    rw [RdL] at r ⊢
    obtain ⟨v, q, e, r1, r2⟩ := r
    exact ⟨v, q, e, Rd.le k d v r1, RdL.le k ds q r2⟩
end
end
end Mine

namespace Mine
open PySem PySem.W PyProof.Rows
open PySem.AutoSeq1 (wpAny_loadPart')

/-! ## a list unpacked -/
section
variable {prog : Program} {w : World} {A : Around} {E : Value → Shared → Prop}
theorem draw_list {it t : Addr} {items : Array Value} (hne : t ≠ it) : ∀ (n i : Nat) (s : Shared) (Q : List Value → Shared → Prop), s.heap.IsListIter it t i → s.heap.IsList t items → i + n ≤ items.size →
    (∀ h', h'.IsListIter it t (i + n) → Heap.SameBut it s.heap h' → Q ((items.toList.drop i).take n) { s with heap := h' }) → wpAny (model prog w) A (draw (.ref it) n) Q E s
  | 0, i, s, Q, hit, _, _, hQ => by
    show wpAny _ _ (pure []) Q E s
    exact wpAny_pure (by simpa using hQ s.heap hit (Heap.SameBut.refl ..))
  | n + 1, i, s, Q, hit, ht, hle, hQ => by
    have hlt : i < items.size := by (clear hQ ht hit hne; lia)
    show wpAny _ _ (pyNext (.ref it) >>= _) Q E s
    refine wpAny_bind (wpAny_pyNext_list_item hit ht (x := items[i]) (by simp [hlt]) fun h₁ hit₁ hs₁ => ?_)
    have ht₁ : h₁.IsList t items := by
      obtain ⟨o, ho, r⟩ := ht
      exact ⟨o, hs₁.extBut t o hne ho, r⟩
    refine wpAny_bind (wpAny_holding (draw_list hne n (i + 1) _ _ hit₁ ht₁ (by lia) fun h₂ hit₂ hs₂ => wpAny_pure ?_))
    have hd : items.toList.drop i = items[i] :: items.toList.drop (i + 1) := by simp [List.drop_eq_getElem_cons, hlt]
    have := hQ h₂ (by rw [show i + (n + 1) = i + 1 + n by lia]; exact hit₂) (hs₁.trans hs₂)
    rw [hd, List.take_succ_cons] at this
    exact this
theorem unpackItems_list {s : Shared} {t : Addr} {items : Array Value} {Q : List Value → Shared → Prop} (hh : A.handled = none) (ht : s.heap.IsList t items)
    (hQ : ∀ h', Heap.ExtBut s.heap.objs.size s.heap h' → Q items.toList { s with heap := h' }) : wpAny (model prog w) A (unpackItems (.ref t) items.size none) Q E s := by
  have hlt : t ≠ s.heap.objs.size := by obtain ⟨o, ho, _⟩ := ht; exact Nat.ne_of_lt (Heap.lt_size ho)
  unfold unpackItems
  refine wpAny_bind ?_
  unfold notIterableAtAll
  refine wpAny_bind (wpAny_specialOf ht.typeIs slot_list_iter.lookup ?_)
  refine wpAny_pure ?_
  simp only [Bool.false_eq_true, if_false]
  refine wpAny_bind (wpAny_holding (wpAny_pyIter_list ht ?_))
  have ht0 := ht.push { cls := .type "list_iterator", data := .fields #[.ref t, .int 0 0] }
  refine wpAny_bind (wpAny_holding (draw_list hlt items.size 0 _ _ ⟨_, Heap.get?_push_size _ rfl, rfl, rfl⟩ ht0 (by lia) fun h₁ hit₁ hs₁ => ?_))
  have hall : List.take items.size (List.drop 0 items.toList) = items.toList := by
    rw [List.drop_zero]; exact List.take_of_length_le (by simp)
  rw [hall]
  rw [if_neg (by simp)]
  have ht₁ : h₁.IsList t items := by
    obtain ⟨o, ho, r⟩ := ht0
    exact ⟨o, hs₁.extBut t o hlt ho, r⟩
  refine wpAny_bind (wpAny_holding (wpAny_pyNext_list_end hh hit₁ ht₁ (by simp) fun h₂ he₂ => ?_))
  simp only [Option.isSome_none, Bool.false_eq_true, if_false]
  refine wpAny_pure (hQ h₂ fun b o hb e => he₂ b o hb (hs₁.extBut b o hb (Heap.get?_push_of_some _ e)))
theorem unpack_list {s : Shared} {t : Addr} {items : Array Value} {targets : List (Bool × (Value → Sem Unit))} {Q : Unit → Shared → Prop} (hh : A.handled = none) (ht : s.heap.IsList t items)
    (hn : targets.length = items.size) (hstar : targets.findIdx? (·.1) = none)
    (h : ∀ h', Heap.ExtBut s.heap.objs.size s.heap h' → wpAny (model prog w) A (assignInOrder (targets.map (·.2)) items.toList) Q E { s with heap := h' }) :
    wpAny (model prog w) A (unpack (.ref t) targets) Q E s := by
  unfold unpack
  rw [hn, hstar]
  exact wpAny_bind (wpAny_holding (unpackItems_list hh ht h))
end
section
variable {C : Cx} {A : Around} {env : Env} {ρ : Lo} {H : AH}
theorem Asg.unpackL {ts : List Expr} {k : Nat} {pos : Pos} {l : Addr} {ob : O} {vs : List V} {Q : Lo → AH → Prop} (F : Fx C A env) (hst : noStar ts = true) (hH : H l = some ob) (hl : lst ob = some vs) (hlen : ts.length = vs.length) (h : AsgL C A env ts vs ρ H Q) : Asg C A env (.Tuple ts k pos) (.one (.ref l)) ρ H Q := fun s x hs hd => by
  have e : ab x = .ref l := hd
  cases ab_ref e
  obtain ⟨xs, hT, e, _⟩ := hs.list hH hl
  have hsz : xs.size = vs.length := by rw [← e]; simp
  rw [assign_Tuple]
  refine wpAny_bind (wpAny_standAt (unpack_list F.hh hT (by rw [assignEach_plain hst, List.length_map, hlen, hsz]) (by rw [assignEach_plain hst]; simp) fun h' hx => ?_))
  have k : ∀ b o, s.heap.get? b = some o → h'.get? b = some o := fun b o eb => hx b o (Nat.ne_of_lt (Heap.lt_size eb)) eb
  have := Asg.inOrder (C := C) (A := A) (env := env) xs.toList e h
  rw [assignEach_plain hst, List.map_map]
  exact this.at (hs.ext k) (.ext k)

/-! ## a list beside an empty one -/
end

/-! ## del a[k:] -/
section
variable {prog : Program} {w : World} {A : Around} {E : Value → Shared → Prop} {s : Shared}
end
section
variable {C : Cx} {A : Around} {env : Env} {ρ : Lo} {H : AH}
end
end Mine

namespace Mine
open PySem PySem.W PyProof.Rows
open PySem.SeqAt (shaped)

/-! ## things in rising order -/
section
variable {α : Type} (g : α → Int)
variable {g}

end

/-! ## items of two numbers -/
noncomputable abbrev It := Addr × (Int × Int)
noncomputable def refs (xs : List It) : List V := xs.map fun p => V.ref p.1
noncomputable abbrev IsIt (H : AH) (p : It) : Prop := H p.1 = some (.list [.int p.2.1, .int p.2.2])
theorem refs_at {xs : List It} {i : Nat} {u : V} (h : (refs xs)[i]? = some u) : ∃ p, xs[i]? = some p ∧ u = .ref p.1 := by
  unfold refs at h
  rw [List.getElem?_map] at h
  cases q : xs[i]? with
  | none => rw [q] at h; cases h
  | some p => rw [q] at h; exact ⟨p, rfl, (Option.some.inj h).symm⟩
theorem refs_len (xs : List It) : (refs xs).length = xs.length := by unfold refs; rw [List.length_map]
noncomputable def dIt (p : Int × Int) : PyData := .list [.int p.1, .int p.2]
noncomputable def dPart (xs : List It) : PyData := .list (xs.map fun p => dIt p.2)
theorem Rd_it {H : AH} {p : It} (h : IsIt H p) : Rd H (.ref p.1) (dIt p.2) := by
  unfold dIt
  refine Rd_list h rfl ?_
  rw [RdL]
  refine ⟨_, _, rfl, by rw [Rd], ?_⟩
  rw [RdL]
  exact ⟨_, _, rfl, by rw [Rd], by rw [RdL]⟩
theorem Dp_it (p : Int × Int) : Dp (dIt p) 1 := by
  unfold dIt
  refine Dp.list fun d hd => ?_
  rcases List.mem_cons.mp hd with rfl | hd
  · exact Dp.int _
  · rw [List.mem_singleton.mp hd]; exact Dp.int _
theorem Dp_part (xs : List It) : Dp (dPart xs) 2 := by
  unfold dPart
  refine Dp.list fun d hd => ?_
  obtain ⟨p, _, rfl⟩ := List.mem_map.mp hd
  exact Dp_it _
theorem Rd_part {H : AH} {a : Addr} {ob : O} {xs : List It} (h : H a = some ob) (hl : lst ob = some (refs xs)) (hI : ∀ p ∈ xs, IsIt H p) : Rd H (.ref a) (dPart xs) :=
  Rd_list h hl (RdL_map fun p hp => Rd_it (hI p hp))
theorem eqv_it (a b : Int × Int) : PyData.eqv (dIt a) (dIt b) = decide (a = b) := by
  unfold dIt
  rw [PyData.eqv, PyData.eqvAll, PyData.eqvAll, PyData.eqvAll, eqv_int, eqv_int]
  rw [Bool.and_true, ← Bool.decide_and]
  congr 1
  apply propext
  constructor
  · intro ⟨h1, h2⟩; exact Prod.ext h1 h2
  · intro h; rw [h]; exact ⟨rfl, rfl⟩
theorem eqv_part (a b : List It) : PyData.eqv (dPart a) (dPart b) = decide (a.map (·.2) = b.map (·.2)) := by
  unfold dPart
  rw [show (a.map fun p => dIt p.2) = (a.map (·.2)).map dIt by simp, show (b.map fun p => dIt p.2) = (b.map (·.2)).map dIt by simp]
  exact eqv_list_map eqv_it _ _
section
variable {C : Cx} {A : Around} {ρ : Lo} {H : AH}
theorem EvT.as {env : Env} {e : Expr} {b b' : Bool} (h : EvT C A env ρ H e b) (hb : b = b') : EvT C A env ρ H e b' := hb ▸ h
theorem any_it (dl : List It) (v : Int × Int) : ((dl.map fun p => dIt p.2).any fun y => PyData.eqv y (dIt v)) = dl.any fun q => decide (q.2 = v) := by
  rw [List.any_map]
  congr 1
  funext q
  simp only [Function.comp, eqv_it]

theorem ins_refs (xs : List It) (k : Nat) (p : It) : ins (refs xs) k (.ref p.1) = refs (ins xs k p) := by unfold refs; rw [map_ins]

noncomputable def Sm (A : Around) : Prop := A.handled = none ∧ A.depth < recursionLimit ∧ A.units < cLine
end
end Mine

set_option maxHeartbeats 1000000
namespace Mine
open PySem PySem.W PyProof.Rows

section
variable {prog : Program} {w : World} {A : Around} {E : Value → Shared → Prop} {s : Shared}
end

section
variable {C : Cx} {A : Around} {ρ : Lo} {H : AH} {L : Addr} {s : Shared} {E : Value → Shared → Prop}
theorem St.track {h : Heap} {D : Addr} {o : O} {c : Obj} (x : St C L ρ H h) (hD : H D = none) (hB : C.base.get? D = none) (hL : D ≠ L) (hc : h.get? D = some c) (hr : Rep o c) : St C L ρ (H.set D o) h :=
  St.alloc_fr.St.alloc' x hD hB hL hc hr
end
end Mine

set_option maxHeartbeats 1000000
namespace Mine
open PySem PySem.W PyProof.Rows PySem.Calls

section
variable {C : Cx} {A : Around} {env : Env} {ρ : Lo} {H : AH}
/-! ## and, or as values (of truth) -/
theorem Ev.and2 {e1 e2 : Expr} {pos : Pos} {a b : Bool} (h1 : Ev C A env ρ H e1 (.bool a)) (h2 : a = true → Ev C A env ρ H e2 (.bool b)) : Ev C A env ρ H (.BoolOp .And [e1, e2] pos) (.bool (a && b)) := fun s hs => by
  refine BoolOp_and (wpAny_mono (h1 s hs) (fun v s1 ⟨ρ1, H1, a1, b1, c1, c2, c3⟩ => ?_) fun _ _ e => e)
  subst c1 c2
  cases ab_bool c3
  refine wpAny_truthy_bool ?_
  cases a with
  | false => exact ⟨_, _, a1, b1, rfl, rfl, rfl⟩
  | true => exact BoolOp_one ((h2 rfl).at a1 b1)
/-! ## type(x) is not int -/
theorem WCall.typeInt {k : Int} {Q : V → AH → Prop} (h : Q (.ty "int") H) : WCall C A (.ty "type") [.int k] [] H Q := by
  intro L ρ fv vals kvs e1 e2 e3
  cases ab_ty e1
  obtain ⟨x, rfl, ex⟩ := vals1 e2
  cases ab_nil e3
  obtain ⟨t, rfl⟩ := ab_int ex
  intro s hs
  exact call_type_of (Tx := "int") rfl (by decide +kernel) ⟨_, _, hs, .refl .., rfl, h⟩
theorem EvT.typeIsNotInt {e r : Expr} {id : Str} {p pp pos : Pos} {k : Int} (hf : Ev C A env ρ H (.Name id p) (.ty "type")) (he : Ev C A env ρ H e (.int k)) (hr : Ev C A env ρ H r (.ty "int")) (hn : noStar [e] = true := by rfl) (hm : behindInMarks .IsNot r = false := by with_unfolding_all rfl) :
    EvT C A env ρ H (.Compare (.Call (.Name id p) [e] [] pp) [.IsNot] [r] pos) false :=
  Ev.any (v := .ty "int") (WE.ev (WE.callTy hf (WEs.of (.cons he .nil) (WCall.typeInt ⟨rfl, rfl⟩)) hn)) hr (fun x y ex ey => by
    cases ab_ty ex; cases ab_ty ey
    exact fun s hs => isnot_type_same ⟨ρ, H, hs, .refl .., rfl, rfl, rfl⟩) hm
/-! ## a range, as a thing; what list(range) holds -/
noncomputable def RangeFact (c : Obj) (a : Int) (n : Nat) : Prop := ∃ b t u v, c = { cls := .type "range", data := .fields #[.int a t, .int b u, .int 1 v] } ∧ Builtin.Range.small a b 1 = true ∧ Builtin.Range.rangeSize a b 1 = n
end
end Mine

set_option maxHeartbeats 1000000
namespace Mine
open PySem PySem.W PySem.Calls PyProof.Rows

/-! ## exceptions: frames, what is raised -/
noncomputable def fsOf (l : List Env) : List Addr := l.filterMap (·.frame)
/-- the frames around, their namespaces tracked -/
noncomputable def FrO (H : AH) (outer : List Env) : Prop := ∀ e ∈ outer, e.scope.kind ≠ .module ∧ ∃ L o, e.frame = some L ∧ H L = some (.frm o) ∧ ∃ es ep, o.data = .dict es ep
noncomputable def CurF (env : Env) : Prop := env.frame = some env.locals ∧ env.scope.kind ≠ .module
theorem FrO.mono {H H' : AH} {outer : List Env} (h : FrO H outer) (k : ∀ a o, H a = some (.frm o) → H' a = some (.frm o)) : FrO H' outer := fun e he =>
  let ⟨a, L, o, b, c, d⟩ := h e he; ⟨a, L, o, b, k L o c, d⟩

inductive Lands (l : List Env) (m : Str) (hs : Heap) (H' : AH) (h0 h' : Heap) (a : Addr) : Bool → Prop
  | made (tk : Tok) (x : Heap.MadeExc h0 h' a "ValueError" [.str m tk]) : Lands l m hs H' h0 h' a true
  | fly (F : List Addr) (t : Addr) (tk : Tok) (hF : ∀ b ∈ F, b ∈ fsOf l ∨ (hs.get? b = none ∧ H' b = none)) (hF2 : ∀ b ∈ fsOf l, b ∈ F) (x : Heap.FlyingW (hideAll h0 F) l a (.type "ValueError") (.ref t) h') (tt : h'.TupAt t [.str m tk])
      (up : h0.UpToSlots h') (na : h0.get? a = none) (nt : h0.get? t = none) : Lands l m hs H' h0 h' a false

/-- raised: the state as it was when it was raised, and what flies -/
noncomputable def XPost (C : Cx) (L : Addr) (H : AH) (l : List Env) (m : Str) (mk : Bool) (R : Lo → AH → Prop) (s : Shared) (e : Value) (s' : Shared) : Prop :=
  ∃ a ρ' H' h0, e = .ref a ∧ St C L ρ' H' h0 ∧ Step L H H' s { s' with heap := h0 } ∧ FrO H' l.tail ∧ Lands l m s.heap H' h0 s'.heap a mk ∧ R ρ' H'
noncomputable abbrev No {α : Type} : α → Shared → Prop := fun _ _ => False
theorem none_of_live {h h' : Heap} (k : ∀ b o, h.get? b = some o → ∃ o', h'.get? b = some o') {b : Addr} (e : h'.get? b = none) : h.get? b = none := by
  cases q : h.get? b with
  | none => rfl
  | some o => obtain ⟨o', e'⟩ := k b o q; rw [e] at e'; cases e'
section
variable {C : Cx} {L : Addr} {H H1 : AH} {l : List Env} {m : Str} {mk : Bool} {R R' : Lo → AH → Prop} {s s1 s' : Shared} {e : Value}
theorem Lands.back {hs hs1 : Heap} {H' : AH} {h0 h' : Heap} {a : Addr} (x : Lands l m hs1 H' h0 h' a mk) (k : ∀ b, hs1.get? b = none → hs.get? b = none) : Lands l m hs H' h0 h' a mk := by
  cases x with
  | made tk x => exact .made tk x
  | fly F t tk hF hF2 x tt up na nt => exact .fly F t tk (fun b hb => (hF b hb).imp id fun q => ⟨k b q.1, q.2⟩) hF2 x tt up na nt
theorem XPost.trans (y : Step L H H1 s s1) (x : XPost C L H1 l m mk R s1 e s') : XPost C L H l m mk R s e s' := by
  obtain ⟨a, ρ', H', h0, e1, e2, e3, e4, e5, e6⟩ := x
  exact ⟨a, ρ', H', h0, e1, e2, y.trans e3 (fun _ _ => e2.nl), e4, e5.back fun b q => none_of_live y.live q, e6⟩
theorem XPost.mono (x : XPost C L H l m mk R s e s') (k : ∀ ρ' H', R ρ' H' → R' ρ' H') : XPost C L H l m mk R' s e s' := by
  obtain ⟨a, ρ', H', h0, e1, e2, e3, e4, e5, e6⟩ := x
  exact ⟨a, ρ', H', h0, e1, e2, e3, e4, e5, k _ _ e6⟩
end
noncomputable def XE (C : Cx) (A : Around) (env : Env) (e : Expr) (ρ : Lo) (H : AH) (l : List Env) (m : Str) (mk : Bool) (R : Lo → AH → Prop) : Prop :=
  ∀ s : Shared, St C env.locals ρ H s.heap → wpAny C.M A (eval e env) No (XPost C env.locals H l m mk R s) s
noncomputable def X1 (C : Cx) (A : Around) (env : Env) (st : Stmt) (ρ : Lo) (H : AH) (l : List Env) (m : Str) (mk : Bool) (R : Lo → AH → Prop) : Prop :=
  ∀ s : Shared, St C env.locals ρ H s.heap → wpAny C.M A (exec st env) No (XPost C env.locals H l m mk R s) s
noncomputable def XS (C : Cx) (A : Around) (env : Env) (ss : List Stmt) (ρ : Lo) (H : AH) (l : List Env) (m : Str) (mk : Bool) (R : Lo → AH → Prop) : Prop :=
  ∀ s : Shared, St C env.locals ρ H s.heap → wpAny C.M A (execs ss env) No (XPost C env.locals H l m mk R s) s
section
variable {C : Cx} {A : Around} {env : Env} {ρ : Lo} {H : AH} {l : List Env} {m : Str} {mk : Bool} {R : Lo → AH → Prop}
theorem XS.head {st : Stmt} {rest : List Stmt} (h : X1 C A env st ρ H l m mk R) : XS C A env (st :: rest) ρ H l m mk R := fun s hs =>
  wpAny_execs_cons (wpAny_mono (h s hs) (fun _ _ e => e.elim) fun _ _ e => e)
theorem XS.seq {st : Stmt} {rest : List Stmt} (h : W1 C A env st ρ H (fun f ρ1 H1 => f = .next ∧ XS C A env rest ρ1 H1 l m mk R)) : XS C A env (st :: rest) ρ H l m mk R := fun s hs =>
  wpAny_execs_cons (wpAny_mono (h s hs) (fun f s1 ⟨ρ1, H1, x, y, z1, z2⟩ => by
    cases f <;> simp only [abF] at z1 <;> try cases z1
    exact wpAny_mono (z2 s1 x) (fun _ _ e => e.elim) fun _ _ e => e.trans y) fun _ _ e => e.elim)
theorem X1.if {t : Expr} {b o : List Stmt} {pos : Pos} (h : WT C A env t ρ H (fun c H1 => (c = true → XS C A env b ρ H1 l m mk R) ∧ (c = false → XS C A env o ρ H1 l m mk R))) : X1 C A env (.If t b o pos) ρ H l m mk R := fun s hs =>
  wpAny_If (wpAny_mono (h s hs) (fun c s1 ⟨ρ1, H1, x, y, z1, z2⟩ => by
    subst z1
    cases c with
    | true => exact wpAny_mono (z2.1 rfl s1 x) (fun _ _ e => e.elim) fun _ _ e => e.trans y
    | false => exact wpAny_mono (z2.2 rfl s1 x) (fun _ _ e => e.elim) fun _ _ e => e.trans y) fun _ _ e => e.elim)
theorem X1.ret {e : Expr} {pos : Pos} (h : XE C A env e ρ H l m mk R) : X1 C A env (.Return (some e) pos) ρ H l m mk R := fun s hs =>
  wpAny_Return_some (wpAny_mono (h s hs) (fun _ _ e => e.elim) fun _ _ e => e)
theorem X1.expr {e : Expr} {pos : Pos} (F : Fx C A env) (h : XE C A env e ρ H l m mk R) (hs : swapsWith e none pos.line env = pure false := by rfl) : X1 C A env (.Expr e pos) ρ H l m mk R := fun s hs' =>
  wpAny_Expr (wpAny_mono (h s hs') (fun _ _ e => e.elim) fun _ _ e => e) (by simp [interactive, F.kind]) hs
theorem X1.asg {tgt e : Expr} {pos : Pos} (h : XE C A env e ρ H l m mk R) (hs : swapsWithSole [tgt] e pos.line env = pure false := by rfl) : X1 C A env (.Assign [tgt] e pos) ρ H l m mk R := fun s hs' => by
  show wpAny C.M A (standAt pos >>= fun _ => swapsWithSole [tgt] e pos.line env >>= fun b => if b then (evalThenUse e env (fun v => assignAll v ((assignEach [tgt] env).map (·.2))) >>= fun _ => pure .next) else
    (eval e env >>= fun v => swappedStores [tgt] e env >>= fun sw => assignStores env v sw ((assignEach [tgt] env).map (·.2)))) _ _ s
  refine wpAny_bind (wpAny_standAt ?_)
  rw [hs]
  refine wpAny_bind (wpAny_pure ?_)
  rw [if_neg Bool.false_ne_true]
  exact wpAny_bind (wpAny_mono (h s hs') (fun _ _ e => e.elim) fun _ _ e => e)
/-- raise ValueError('..') -/
theorem X1.raise {id : Str} {x : Str} {k : Nat} {p p2 cpos pos : Pos} {outer : List Env} (F : Fx C A env) (hf : Ev C A env ρ H (.Name id p) (.ty "ValueError")) (hO : FrO H outer) (hR : R ρ H) (hz : x.length ≤ sizeLine) :
    X1 C A env (.Raise (some (.Call (.Name id p) [.Constant (.str x) k p2] [] cpos)) none pos) ρ H (env :: outer) x true R := fun s hs => by
  refine wpAny_Raise_call PySem.F.excCall_ValueError PySem.F.excRaise_ValueError F.hh (backTo_any rfl) (wpAny_mono (hf s hs) (fun f s1 ⟨ρ1, H1, a1, b1, c1, c2, c3⟩ => ?_) fun _ _ e => e.elim)
  subst c1 c2
  cases ab_ty c3
  refine ⟨rfl, wpAny_mono (evalArgs_run (ks := []) (Q := fun vs kv H2 => vs = [.str x] ∧ kv = [] ∧ H2 = H1) rfl rfl (WEs.of (.cons Ev.str .nil) ⟨rfl, rfl, rfl⟩) s1 a1) (fun a s2 ⟨ρ2, H2, a2, b2, c2, d1, d2, d3⟩ => ?_) fun _ _ e => e.elim⟩
  subst c2 d3
  obtain ⟨y, e1, ey⟩ := vals1 d1
  obtain ⟨tk, rfl⟩ := ab_str ey
  refine ⟨by simpa using d2, by rw [e1]; exact (by decide : 1 ≤ sizeLine), fun h' ea hm => ?_⟩
  rw [e1] at hm
  exact ⟨ea, ρ2, H2, s2.heap, rfl, a2, b1.trans b2 (fun _ _ => a2.nl), hO, .made tk hm, hR⟩
end

/-! ## calls that raise -/
noncomputable def eraseA (H : AH) (L : Addr) : AH := fun b => if b = L then none else H b
/-- a call that raises: the caller's frame and those around it are tracked while it runs -/
noncomputable def RC (C : Cx) (A : Around) (f : V) (args : List V) (kw : List (Str × V)) (H : AH) (env : Env) (outer : List Env) (m : Str) (R : AH → Prop) : Prop :=
  ∀ ρ (fv : Value) (vals : List Value) (kvs : List (Str × Value)), ab fv = f → vals.map ab = args → kvs.map (fun p => (p.1, ab p.2)) = kw →
    ∀ s, St C env.locals ρ H s.heap → wpAny C.M A (call fv vals kvs) No (XPost C env.locals H (env :: outer) m false (fun ρ' H' => ρ' = ρ ∧ R H') s) s
theorem funFrames_of {C : Cx} {L : Addr} {ρ : Lo} {H : AH} {h base : Heap} {outer : List Env} (x : St C L ρ H h) (ho : FrO H outer) (hb : ∀ b ∈ fsOf outer, base.get? b = none) : h.FunFrames base outer := by
  induction outer with
  | nil => trivial
  | cons e outer ih =>
    obtain ⟨hk, L', o, hf, hH, es, ep, hd⟩ := ho e (List.mem_cons_self ..)
    obtain ⟨c, hc, sl, rfl⟩ := x.rep L' _ hH
    have hfs : fsOf (e :: outer) = L' :: fsOf outer := by unfold fsOf; rw [List.filterMap_cons, hf]
    rw [hfs] at hb
    refine ⟨hk, ⟨L', _, hf, hb L' (List.mem_cons_self ..), hc, fun vs q => ?_⟩, ih (fun e' he' => ho e' (List.mem_cons_of_mem _ he')) fun b hb' => hb b (List.mem_cons_of_mem _ hb')⟩
    rw [show ({ o with slots := sl } : Obj).data = o.data from rfl, hd] at q; cases q
theorem FrO.dict {C : Cx} {L : Addr} {ρ : Lo} {H : AH} {h : Heap} {outer : List Env} (x : St C L ρ H h) (ho : FrO H outer) {b : Addr} (hb : b ∈ fsOf outer) : ∃ o es ep, h.get? b = some o ∧ o.data = .dict es ep ∧ ∃ o', H b = some (.frm o') := by
  obtain ⟨e, he, hf⟩ := List.mem_filterMap.mp hb
  obtain ⟨hk, L', o, hf', hH, es, ep, hd⟩ := ho e he
  rw [hf] at hf'; cases hf'
  obtain ⟨c, hc, sl, rfl⟩ := x.rep b _ hH
  exact ⟨_, es, ep, hc, hd, o, hH⟩
theorem RC.def {C : Cx} {A : Around} {H : AH} {env : Env} {outer : List Env} {m : Str} {R : AH → Prop} {mk : Bool} {a : Addr} {o : Obj} {fd : FuncData} {body : List Stmt} {args : List V} {kw bs : List (Str × V)} (hfr : A.frames = some (env :: outer)) (hcur : CurF env) (hO : FrO H outer) (hfn : FnAt C H a o fd) (hdep : A.depth < recursionLimit)
    (hb : fd.body = .stmts body) (hcell : ∀ x ∈ fd.scope.names, x.2 ≠ .cell) (hcd : ∀ h : Heap, (∀ b o, C.base.get? b = some o → h.get? b = some o) → h.CodeRec fd.code fd.qualname)
    (hbind : ∀ vals kvs, vals.map ab = args → kvs.map (fun p => (p.1, ab p.2)) = kw → ∃ binds, (∀ s, Keep C s → BindsTo s fd ⟨vals, kvs⟩ binds) ∧ binds.map (fun p => (p.1, ab p.2)) = bs)
    (hloc : ∀ x ∈ bs, fd.scope.names.lookup x.1 = some .local)
    (h : ∀ L' oL, H env.locals = none → H L' = none → L' ≠ env.locals → (A.deeper (callEnv fd L' a)).frames = some (callEnv fd L' a :: env :: outer) → FrO (H.set env.locals (.frm oL)) (env :: outer) →
      XS C (A.deeper (callEnv fd L' a)) (callEnv fd L' a) body (fun y => bs.reverse.lookup y) (H.set env.locals (.frm oL)) (callEnv fd L' a :: env :: outer) m mk (fun _ H' => H' env.locals = some (.frm oL) ∧ R (eraseA H' env.locals)))
    (hco : fd.scope.isCoroutine = false := by rfl) (hgen : fd.scope.isGenerator = false := by rfl) (hk : fd.scope.kind = .function := by rfl) : RC C A (.ref a) args kw H env outer m R := by
  intro ρ fv vals kvs e1 e2 e3 s hs
  cases ab_ref e1
  obtain ⟨binds, hbt, hbs⟩ := hbind vals kvs e2 e3
  obtain ⟨ho, hd⟩ := hfn.obj hs
  have hnone := get?_size_none s.heap
  obtain ⟨ml, ⟨oL, es, ep, hoL, hdL, rL⟩, hml⟩ := hs.loc
  refine wpAny_call (codeAny_call_def hdep ho hd (C.lim.keeps hs.keep) (hcd _ hs.keep) hb (hbt s hs.keep) hcell (fun x hx => hloc (x.1, ab x.2) (by rw [← hbs]; exact List.mem_map.mpr ⟨x, hx, rfl⟩)) (fun h₀ hn hk0 => ?_) hco hgen hk)
  generalize hL' : s.heap.objs.size = L' at *
  have hfresh := hs.fresh hnone
  have hne : L' ≠ env.locals := hfresh.2.2
  have hst : St C L' (fun y => bs.reverse.lookup y) (H.set env.locals (.frm oL)) h₀ := by
    refine ⟨fun b o e => hk0 _ _ (hs.keep b o e), fun b o' e => ?_, fun b o' e hm => ?_, ⟨_, hn, fun x => ?_⟩, by rw [AH.set_ne _ _ hne]; exact hfresh.1, hfresh.2.1⟩
    · by_cases q : b = env.locals
      · subst q; rw [AH.set_same] at e; cases e
        exact ⟨oL, hk0 _ _ hoL, oL.slots, rfl⟩
      · rw [AH.set_ne _ _ q] at e; obtain ⟨c, e1, e2⟩ := hs.rep b o' e; exact ⟨c, hk0 _ _ e1, e2⟩
    · by_cases q : b = env.locals
      · subst q; exact hs.bl
      · rw [AH.set_ne _ _ q] at e; exact hs.own b o' e hm
    · rw [← hbs, ← List.map_reverse]
      exact lookup_ab x binds.reverse
  have hO1 : FrO (H.set env.locals (.frm oL)) (env :: outer) := fun e he => by
    rcases List.mem_cons.mp he with rfl | he
    · exact ⟨hcur.2, _, oL, hcur.1, AH.set_same .., es, ep, hdL⟩
    · exact (hO.mono fun a o e => by rw [AH.set_ne _ _ (fun q => by rw [q, hs.nl] at e; cases e)]; exact e) e he
  have hfrd : (A.deeper (callEnv fd L' a)).frames = some (callEnv fd L' a :: env :: outer) := Around.frames_deeper hfr
  refine wpAny_mono (h L' oL hs.nl hfresh.1 hne hfrd hO1 { s with heap := h₀, toks := s.toks + binds.length } hst) (fun f s' e => e.elim) fun e s' hx => ?_
  obtain ⟨ea, ρ', H', h0, rfl, x, y, hO', lands, hRL, hR⟩ := hx
  change St C L' ρ' H' h0 at x
  change Step L' (H.set env.locals (.frm oL)) H' _ _ at y
  change FrO H' (env :: outer) at hO'
  have live0 : ∀ b, h₀.get? b = none → s.heap.get? b = none := fun b q => by
    cases q2 : s.heap.get? b with
    | none => rfl
    | some o => rw [hk0 b o q2] at q; cases q
  -- the caller's state as of the raise
  obtain ⟨cL, hcL, slL, rfl⟩ := x.rep _ _ hRL
  have xb : St C env.locals ρ (eraseA H' env.locals) h0 := by
    refine ⟨x.keep, fun b o' e => ?_, fun b o' e hm => ?_, ⟨ml, ⟨_, es, ep, hcL, hdL, rL⟩, hml⟩, by simp [eraseA], hs.bl⟩
    · unfold eraseA at e; split at e
      · cases e
      · exact x.rep b o' e
    · unfold eraseA at e; split at e
      · cases e
      · exact x.own b o' e hm
  have yb : Step env.locals H (eraseA H' env.locals) s { s' with heap := h0 } := by
    refine ⟨y.same, fun b o' e eb eL => ?_, fun b o' e eb => ?_, fun b o' e => y.live b o' (hk0 b o' e)⟩
    · exact y.kept b o' (hk0 b o' e) (by rw [AH.set_ne _ _ eL]; exact eb) (fun q => by rw [q, hnone] at e; cases e)
    · unfold eraseA; split
      · rfl
      · rename_i q
        exact y.new b o' (hk0 b o' e) (by rw [AH.set_ne _ _ q]; exact eb)
  have hOb : FrO (eraseA H' env.locals) outer := fun e he => by
    obtain ⟨a1, L2, o2, a2, a3, a4⟩ := hO' e (List.mem_cons_of_mem _ he)
    refine ⟨a1, L2, o2, a2, ?_, a4⟩
    obtain ⟨b1, L3, o3, b2, b3, b4⟩ := hO e he
    rw [a2] at b2; cases b2
    unfold eraseA
    rw [if_neg (fun q => by rw [q, hs.nl] at b3; cases b3)]; exact a3
  have hbase : ∀ F : List Addr, (hideAll h0 F).StaysIn h0 := fun F b o' e => of_hideAll _ e
  have fsc : fsOf (callEnv fd L' a :: env :: outer) = L' :: fsOf (env :: outer) := rfl
  -- a tuple isn't a namespace
  have ntup : ∀ (F : List Addr) (h' : Heap) (t : Addr) (tk : Tok), (∀ b ∈ F, b ∈ fsOf (callEnv fd L' a :: env :: outer)) → h'.TupAt t [.str m tk] → h0.UpToSlots h' → (hideAll h0 F).get? t = none → h0.get? t = none := fun F h' t tk hF ⟨ot, n, g1, g2, g3⟩ up hn => by
    cases q : h0.get? t with
    | none => rfl
    | some o =>
      by_cases hm : t ∈ F
      · have hd : ∃ es ep, o.data = .dict es ep := by
          have := hF t hm
          rw [fsc] at this
          rcases List.mem_cons.mp this with rfl | this
          · obtain ⟨m', ⟨o1, es1, ep1, z1, z2, _⟩, _⟩ := x.loc
            rw [q] at z1; cases z1; exact ⟨es1, ep1, z2⟩
          · obtain ⟨o1, es1, ep1, z1, z2, _⟩ := hO'.dict x this
            rw [q] at z1; cases z1; exact ⟨es1, ep1, z2⟩
        obtain ⟨es1, ep1, hd⟩ := hd
        obtain ⟨sl, hs'⟩ := up t o q (fun vs z => by rw [hd] at z; cases z)
        rw [g1] at hs'; cases hs'
        rw [hd] at g3; cases g3
      · rw [hideAll_get _ q hm] at hn; cases hn
  cases lands with
  | made tk hm =>
    have hFb : ∀ b ∈ fsOf (callEnv fd L' a :: env :: outer), (hideAll h0 (fsOf (callEnv fd L' a :: env :: outer))).get? b = none := fun b hb => hideAll_none _ hb
    have hff : h0.FunFrames (hideAll h0 (fsOf (callEnv fd L' a :: env :: outer))) (callEnv fd L' a :: env :: outer) := by
      obtain ⟨m', hn', hm'⟩ := x.loc
      refine Heap.FunFrames.cons (m := m') (L := L') (by show fd.scope.kind ≠ _; rw [hk]; intro q; cases q) rfl hn' (hFb L' (by rw [fsc]; exact List.mem_cons_self ..)) (funFrames_of x hO' fun b hb => hFb b (by rw [fsc]; exact List.mem_cons_of_mem _ hb))
    refine wpAny_leaves_madeW (base := hideAll h0 (fsOf (callEnv fd L' a :: env :: outer))) hfrd rfl (hbase _) hff ⟨hm.keeps, hm.new, hm.there⟩ fun h' t f1 f2 f3 f4 => ?_
    have up : h0.UpToSlots h' := (Heap.UpToSlots.of_keeps hm.keeps).trans f4
    refine ⟨ea, ρ, eraseA H' env.locals, h0, rfl, xb, yb, hOb, .fly _ t tk (fun b hb => ?_) (fun b hb => by rw [fsc]; exact List.mem_cons_of_mem _ hb) f1 f2 up hm.new (ntup _ h' t tk (fun b hb => hb) f2 up f3), rfl, hR⟩
    rw [fsc] at hb
    rcases List.mem_cons.mp hb with rfl | hb
    · exact .inr ⟨hnone, by unfold eraseA; rw [if_neg hne]; exact x.nl⟩
    · exact .inl hb
  | fly F t tk hF hF2 f1 f2 f3 na nt =>
    refine wpAny_leaves_onW hfrd rfl f1 fun h' g1 g2 => ?_
    refine ⟨ea, ρ, eraseA H' env.locals, h0, rfl, xb, yb, hOb, .fly F t tk (fun b hb => ?_) (fun b hb => hF2 b (by rw [fsc]; exact List.mem_cons_of_mem _ hb)) g1 (f2.of_slots g2) (f3.trans g2) na nt, rfl, hR⟩
    rcases hF b hb with q | ⟨q1, q2⟩
    · rw [fsc] at q
      rcases List.mem_cons.mp q with rfl | q
      · exact .inr ⟨hnone, by unfold eraseA; rw [if_neg hne]; exact x.nl⟩
      · exact .inl q
    · refine .inr ⟨live0 b q1, ?_⟩
      unfold eraseA; split
      · rfl
      · exact q2
end Mine

set_option maxHeartbeats 1000000
namespace Mine
open PySem PySem.W PySem.Calls PyProof.Rows

/-! ## arguments, with a star too -/
noncomputable def WArgs (C : Cx) (A : Around) (env : Env) (pos : Pos) (es : List Expr) (ks : List Keyword) (ρ : Lo) (H : AH) (Q : List V → List (Str × V) → AH → Prop) : Prop :=
  ∀ f, W C A env.locals (evalArgs f true (backTo pos (starEach es env)) (backToKw pos (keywordEach ks env))) ρ H (fun a ρ' H' => ρ' = ρ ∧ Q (a.pos.map ab) (a.kw.map fun p => (p.1, ab p.2)) H')
section
variable {C : Cx} {A : Around} {env : Env} {ρ : Lo} {H : AH}
theorem WArgs.plain {pos : Pos} {es : List Expr} {ks : List Keyword} {Q : List V → List (Str × V) → AH → Prop} (h : WEs C A env es ρ H (fun vs H1 => WKs C A env ks ρ H1 (fun kv H2 => Q vs kv H2))) (hn : noStar es = true := by rfl) (hk : ks.all (·.arg.isSome) = true := by rfl) : WArgs C A env pos es ks ρ H Q :=
  fun f => evalArgs_run hn hk h
theorem starOf_list {L l : Addr} {ob : O} {vs : List V} {s : Shared} {Q : List Value → Shared → Prop} (hs : St C L ρ H s.heap) (hH : H l = some ob) (hl : lst ob = some vs)
    (h : ∀ (xs : List Value) h', xs.map ab = vs → (∀ b o, s.heap.get? b = some o → h'.get? b = some o) → Q xs { s with heap := h' }) : StarOf C.M A False2 (.ref l) Q s := by
  obtain ⟨xs, ⟨o, ho, hc, n, hd⟩, e1, e2⟩ := hs.list hH hl
  have hT' : s.TypeIs (.ref l) "list" := ⟨o, ho, hc⟩
  unfold StarOf notIterableAtAll
  exact wpAny_bind (wpAny_specialOf hT' PySem.F.slot_list_iter.lookup (wpAny_pure ⟨rfl, wpAny_collect_seq l (.inl rfl) ho hc hd (fun h' hk => h _ h' e1 hk) (by rw [arr_size e1]; exact e2)⟩))
theorem WArgs.star3 {pos p3 : Pos} {e1 e2 e3 : Expr} {ks : List Keyword} {Q : List V → List (Str × V) → AH → Prop}
    (h : WE C A env e1 ρ H (fun v1 H1 => WE C A env e2 ρ H1 (fun v2 H2 => WE C A env e3 ρ H2 (fun v3 H3 => ∃ l ob vs, v3 = .ref l ∧ H3 l = some ob ∧ lst ob = some vs ∧ WKs C A env ks ρ H3 (fun kv H4 => Q (v1 :: v2 :: vs) kv H4)))))
    (he1 : ∀ rest, starEach (e1 :: rest) env = (false, eval e1 env) :: starEach rest env := by intro _; rfl) (he2 : ∀ rest, starEach (e2 :: rest) env = (false, eval e2 env) :: starEach rest env := by intro _; rfl) (hk : ks.all (·.arg.isSome) = true := by rfl) : WArgs C A env pos [e1, e2, .Starred e3 p3] ks ρ H Q := fun f s hs => by
  have hbt : backTo pos (starEach [e1, e2, .Starred e3 p3] env) = [(false, eval e1 env), (false, eval e2 env), (true, (do let v ← eval e3 env; standAt pos; pure v))] := by rw [he1, he2]; rfl
  have hall := WKs.all (env := env) (pos := pos) (ks := ks) (ρ := ρ) (H := H) (Q := fun _ _ => True) hk
  rw [hbt]
  refine evalArgs_kw hall ?_
  refine spliced_cons (wpAny_mono (h s hs) (fun v1 s1 ⟨ρ1, H1, a1, b1, c1, d1⟩ => ?_) fun _ _ e => e)
  subst c1
  refine spliced_cons (wpAny_mono (d1 s1 a1) (fun v2 s2 ⟨ρ2, H2, a2, b2, c2, d2⟩ => ?_) fun _ _ e => e)
  subst c2
  refine ks_spliced (wpAny_mono (d2 s2 a2) (fun v3 s3 ⟨ρ3, H3, a3, b3, c3, l, ob, vs, e1', e2', e3', d3⟩ => ?_) fun _ _ e => e)
  subst c3
  cases ab_ref e1'
  refine starOf_list a3 e2' e3' fun xs h' ex kx => spliced_nil ?_
  have b13 := ((b1.trans b2 (fun _ _ => a2.nl)).trans b3 (fun _ _ => a3.nl)).trans (Step.ext (tk := s3.toks) kx) (fun _ _ => a3.nl)
  refine wpAny_mono (WKs.run (pos := pos) d3 _ (a3.ext kx)) (fun ws s4 ⟨ρ4, H4, a4, b4, c4, d4⟩ => ⟨ρ4, H4, a4, b13.trans b4 (fun _ _ => a4.nl), c4, ?_⟩) fun _ _ e => e
  subst ex
  simpa using d4
/-- a function called by its name -/
theorem WE.callA {id : Str} {p pos : Pos} {a : Addr} {o : Obj} {fd : FuncData} {es : List Expr} {ks : List Keyword} {Q : V → AH → Prop} (hfn : ∀ H, FnAt C H a o fd) (hf : Ev C A env ρ H (.Name id p) (.ref a))
    (h : WArgs C A env pos es ks ρ H (fun vs kv H2 => WCall C A (.ref a) vs kv H2 Q)) : WE C A env (.Call (.Name id p) es ks pos) ρ H Q := fun s hs => by
  refine wpAny_Call_Name_kw (wpAny_mono (hf s hs) (fun f s1 ⟨ρ1, H1, a1, b1, c1, c2, c3⟩ => ?_) fun _ _ e => e)
  subst c1 c2
  cases ab_ref c3
  refine callWith_function_kw (o := o) (fd := fd) ?_
  refine wpAny_mono (h (.ref a) s1 a1) (fun x s2 ⟨ρ2, H2, a2, b2, c2, d2⟩ => ⟨(hfn H2).obj a2, ?_⟩) fun _ _ e => e
  subst c2
  exact wpAny_mono (d2 env.locals ρ2 (.ref a) x.pos x.kw rfl rfl rfl s2 a2) (fun v s3 ⟨ρ3, H3, a3, b3, c3, d3⟩ => ⟨ρ3, H3, a3, (b1.trans b2 (fun _ _ => a2.nl)).trans b3 (fun _ _ => a3.nl), c3, d3⟩) fun _ _ e => e
/-- and it raises -/
theorem XE.callA {id : Str} {p pos : Pos} {a : Addr} {o : Obj} {fd : FuncData} {es : List Expr} {ks : List Keyword} {outer : List Env} {m : Str} {R : Lo → AH → Prop} (hfn : ∀ H, FnAt C H a o fd) (hf : Ev C A env ρ H (.Name id p) (.ref a))
    (h : WArgs C A env pos es ks ρ H (fun vs kv H2 => RC C A (.ref a) vs kv H2 env outer m (fun H' => R ρ H'))) : XE C A env (.Call (.Name id p) es ks pos) ρ H (env :: outer) m false R := fun s hs => by
  refine wpAny_Call_Name_kw (wpAny_mono (hf s hs) (fun f s1 ⟨ρ1, H1, a1, b1, c1, c2, c3⟩ => ?_) fun _ _ e => e.elim)
  subst c1 c2
  cases ab_ref c3
  refine callWith_function_kw (o := o) (fd := fd) ?_
  refine wpAny_mono (h (.ref a) s1 a1) (fun x s2 ⟨ρ2, H2, a2, b2, c2, d2⟩ => ⟨(hfn H2).obj a2, ?_⟩) fun _ _ e => e.elim
  subst c2
  refine wpAny_mono (d2 ρ2 (.ref a) x.pos x.kw rfl rfl rfl s2 a2) (fun _ _ e => e.elim) fun e s3 hx => ?_
  refine ((hx.mono fun ρ' H' q => ?_).trans b2).trans b1
  obtain ⟨rfl, q⟩ := q
  exact q

/-! ## a call while the frames around are tracked -/
noncomputable def WCallT (C : Cx) (A : Around) (f : V) (args : List V) (kw : List (Str × V)) (H : AH) (env : Env) (Q : V → AH → Prop) : Prop :=
  ∀ ρ (fv : Value) (vals : List Value) (kvs : List (Str × Value)), ab fv = f → vals.map ab = args → kvs.map (fun p => (p.1, ab p.2)) = kw →
    W C A env.locals (call fv vals kvs) ρ H (fun v ρ' H' => ρ' = ρ ∧ Q (ab v) H')
theorem WE.callAT {id : Str} {p pos : Pos} {a : Addr} {o : Obj} {fd : FuncData} {es : List Expr} {ks : List Keyword} {Q : V → AH → Prop} (hfn : ∀ H, FnAt C H a o fd) (hf : Ev C A env ρ H (.Name id p) (.ref a))
    (h : WArgs C A env pos es ks ρ H (fun vs kv H2 => WCallT C A (.ref a) vs kv H2 env Q)) : WE C A env (.Call (.Name id p) es ks pos) ρ H Q := fun s hs => by
  refine wpAny_Call_Name_kw (wpAny_mono (hf s hs) (fun f s1 ⟨ρ1, H1, a1, b1, c1, c2, c3⟩ => ?_) fun _ _ e => e)
  subst c1 c2
  cases ab_ref c3
  refine callWith_function_kw (o := o) (fd := fd) ?_
  refine wpAny_mono (h (.ref a) s1 a1) (fun x s2 ⟨ρ2, H2, a2, b2, c2, d2⟩ => ⟨(hfn H2).obj a2, ?_⟩) fun _ _ e => e
  subst c2
  exact wpAny_mono (d2 ρ2 (.ref a) x.pos x.kw rfl rfl rfl s2 a2) (fun v s3 ⟨ρ3, H3, a3, b3, c3, d3⟩ => ⟨ρ3, H3, a3, (b1.trans b2 (fun _ _ => a2.nl)).trans b3 (fun _ _ => a3.nl), c3, d3⟩) fun _ _ e => e
end

/-! ## try, except ValueError as -/
noncomputable def ExcFact (oe ot : Obj) (t : Addr) (m : Str) : Prop := oe.cls = .type "ValueError" ∧ (∃ vs, oe.data = .fields vs ∧ vs[0]? = some (.ref t)) ∧ ot.cls = .type "tuple" ∧ ∃ n tk, ot.data = .seq [Value.str m tk].toArray n
section
variable {C : Cx} {A : Around} {env : Env} {ρ : Lo} {H : AH}
theorem glob_at {L : Addr} {x : Str} {pos : Pos} {v : Value} {s : Shared} {Q : Value → Shared → Prop} {E : Value → Shared → Prop} (hs : St C L ρ H s.heap) (hk : env.scope.kind = .function) (hgl : env.globals = mainGlobals) (hbu : env.builtins = builtinsNs) (hl : env.kindOf x = some .globalImplicit) (hv : C.gl x = some v) (h : Q v s) (hd : (x == ("__debug__" : Str)) = false := by decide) : wpAny C.M A (eval (.Name x pos) env) Q E s := by
  refine wpAny_Name ?_ hd
  rw [loadName_read hk hl]
  unfold loadGlobal
  unfold Cx.gl at hv
  refine wpAny_bind (wpAny_nsGet (by rw [hgl]; exact C.hg.keeps hs.keep) ?_)
  cases hm : C.mg x with
  | some y =>
    rw [hm] at hv; cases hv
    exact wpAny_pure h
  | none =>
    rw [hm] at hv
    dsimp only
    refine wpAny_bind (wpAny_nsGet (by rw [hbu]; exact C.hb.keeps hs.keep) ?_)
    dsimp only at hv
    rw [hv]
    exact wpAny_pure h
theorem St.loc' {L : Addr} {h h' : Heap} {m' : Str → Option Value} {ρ' : Lo} (X : St C L ρ H h) (hn : h'.Ns L m') (hm : ∀ x, (m' x).map ab = ρ' x) (hs : Heap.SameBut L h h') : St C L ρ' H h' where
  keep := fun b o e => hs.extBut b o (fun q => by rw [q, X.bl] at e; cases e) (X.keep b o e)
  rep := fun a o e => let ⟨c, e1, e2⟩ := X.rep a o e; ⟨c, hs.extBut _ _ (fun q => by rw [q, X.nl] at e; cases e) e1, e2⟩
  own := X.own
  loc := ⟨_, hn, hm⟩
  nl := X.nl
  bl := X.bl
theorem W1.tryX {body suite : List Stmt} {b0 : Stmt} {n : Str} {p hpos pos : Pos} {outer : List Env} {m : Str} {R : Lo → AH → Prop} {Q : Fl → Lo → AH → Prop} (F : Fx C A env) (hfr : A.frames = some (env :: outer)) (hcur : CurF env)
    (hb : XS C A env body ρ H (env :: outer) m false R) (hn : env.kindOf n = some .local) (hx : env.kindOf "ValueError" = some .globalImplicit) (hg : C.gl "ValueError" = some (.type "ValueError"))
    (h : ∀ ρ1 H1 ea t oe ot, R ρ1 H1 → FrO H1 outer → H1 ea = none → H1 t = none → t ≠ ea → ExcFact oe ot t m →
      WS C (A.mark (some (.ref ea))) env (b0 :: suite) (ρ1.set n (.ref ea)) ((H1.set ea (.raw oe)).set t (.raw ot)) (fun f ρ2 H2 => ∀ v, Q f (fun x => if x = n then v else ρ2 x) H2)) :
    W1 C A env (.Try body [.ExceptHandler (some (.Name "ValueError" p)) (some n) (b0 :: suite) hpos] [] [] pos) ρ H Q := fun s hs => by
  refine wpAny_Try_except (wpAny_mono (hb s hs) (fun _ _ e => e.elim) fun e s1 hx1 => ?_)
  obtain ⟨ea, ρ1, H1, h0, rfl, x, y, hO1, lands, hR⟩ := hx1
  change FrO H1 outer at hO1
  cases lands with
  | fly Fs t tk hF hF2 f1 f2 f3 na nt =>
  have fsc : fsOf (env :: outer) = env.locals :: fsOf outer := by unfold fsOf; rw [List.filterMap_cons, hcur.1]
  refine wpAny_looks_onW hfr hcur.1 f1 fun h2 g1 g2 => ?_
  refine wpAny_landsW g1 fun h3 k1 k2 => ?_
  have up3 : h0.UpToSlots h3 := f3.trans (g2.trans k2)
  have inF : ∀ b ∈ Fs, b = env.locals ∨ (∃ o es ep, h0.get? b = some o ∧ o.data = .dict es ep ∧ ∃ o', H1 b = some (.frm o')) ∨ (s.heap.get? b = none ∧ H1 b = none) := fun b hb' => by
    rcases hF b hb' with q | q
    · rw [fsc] at q
      rcases List.mem_cons.mp q with q | q
      · exact .inl q
      · exact .inr (.inl (hO1.dict x q))
    · exact .inr (.inr q)
  have baseF : ∀ b ∈ Fs, C.base.get? b = none := fun b hb' => by
    rcases inF b hb' with rfl | ⟨_, _, _, _, _, o', e'⟩ | ⟨q1, _⟩
    · exact hs.bl
    · exact x.own b _ e' rfl
    · cases q : C.base.get? b with
      | none => rfl
      | some o => rw [hs.keep b o q] at q1; cases q1
  obtain ⟨ml, hnl, hml⟩ := x.loc
  -- a state made of what stays
  have mkSt : ∀ h', (hideAll h0 Fs).StaysIn h' → h0.UpToSlots h' → St C env.locals ρ1 H1 h' := fun h' st up => by
    refine ⟨fun b o e => st b o (hideAll_get _ (x.keep b o e) (fun q => by rw [baseF b q] at e; cases e)), fun b o e => ?_, x.own, ⟨ml, up.ns hnl, hml⟩, x.nl, x.bl⟩
    obtain ⟨c, e1, e2⟩ := x.rep b o e
    by_cases q : b ∈ Fs
    · rcases inF b q with rfl | ⟨o1, es, ep, g1, g2, o', g3⟩ | ⟨_, q2⟩
      · rw [x.nl] at e; cases e
      · rw [e] at g3; cases g3
        rw [e1] at g1; cases g1
        obtain ⟨sl, hsl⟩ := up b c e1 (fun vs z => by rw [g2] at z; cases z)
        obtain ⟨sl0, rfl⟩ := e2
        exact ⟨_, hsl, sl, rfl⟩
      · rw [q2] at e; cases e
    · exact ⟨c, st b c (hideAll_get _ e1 q), e2⟩
  have mkStep : ∀ h', (hideAll h0 Fs).StaysIn h' → h0.UpToSlots h' → Step env.locals H H1 s { s1 with heap := h' } := fun h' st up => by
    refine ⟨y.same, fun b o e eb eL => ?_, y.new, fun b o e => ?_⟩
    · refine st b o (hideAll_get _ (y.kept b o e eb eL) fun q => ?_)
      rcases inF b q with q1 | ⟨_, _, _, _, _, o', g3⟩ | ⟨q1, _⟩
      · exact eL q1
      · rw [y.new b o e eb] at g3; cases g3
      · rw [q1] at e; cases e
    · obtain ⟨o', e'⟩ := y.live b o e
      change h0.get? b = some o' at e'
      by_cases q : b ∈ Fs
      · have hd : ∃ es ep, o'.data = .dict es ep := by
          rcases inF b q with rfl | ⟨o1, es, ep, g1, g2, _⟩ | ⟨q1, _⟩
          · obtain ⟨o1, es, ep, z1, z2, _⟩ := hnl
            rw [e'] at z1; cases z1; exact ⟨es, ep, z2⟩
          · rw [e'] at g1; cases g1; exact ⟨es, ep, g2⟩
          · rw [q1] at e; cases e
        obtain ⟨es, ep, hd⟩ := hd
        obtain ⟨sl, hsl⟩ := up b o' e' (fun vs z => by rw [hd] at z; cases z)
        exact ⟨_, hsl⟩
      · exact ⟨o', st b o' (hideAll_get _ e' q)⟩
  have hs3 := mkSt h3 k1.1 up3
  refine wpAny_handleBy_builtin_as (X := "ValueError") (T := "ValueError") (b := true) PySem.F.isExc_ValueError PySem.F.notTuple_ValueError PySem.F.self_ValueError (glob_at (s := { s1 with heap := h3 }) hs3 F.kind F.gl F.bu hx hg ⟨rfl, ?_, ?_⟩)
  · obtain ⟨ob, q1, q2⟩ := k1.there
    exact ⟨ob, q1, q2⟩
  rw [if_pos rfl]
  obtain ⟨z1, z2, z3, z4⟩ := k1
  refine wpAny_setFlight_noneW z1 z3 z4.at fun h4 st4 ff4 tr4 keep4 => ?_
  have up4 : h0.UpToSlots h4 := up3.trans fun b o e hn => ⟨o.slots, keep4 b o e hn⟩
  have hs4 := mkSt h4 st4 up4
  have hy4 := mkStep h4 st4 up4
  have ht4 : h4.TupAt t [.str m tk] := f2.of_slots (g2.trans (k2.trans fun b o e hn => ⟨o.slots, keep4 b o e hn⟩))
  obtain ⟨oe, vse, T, oT, ts, he4, ⟨hcls, hv0⟩, hde, _⟩ := tr4
  obtain ⟨ot, nn, hot, hct, hdt⟩ := ht4
  have fe := x.fresh na
  have ft := x.fresh nt
  have hte : t ≠ ea := fun q => by
    rw [q, he4] at hot; cases hot
    rw [hde] at hdt; cases hdt
  have hs4' : St C env.locals ρ1 ((H1.set ea (.raw oe)).set t (.raw ot)) h4 := (hs4.track (o := .raw oe) fe.1 fe.2.1 fe.2.2 he4 rfl).track (o := .raw ot) (by rw [AH.set_ne _ _ hte]; exact ft.1) ft.2.1 ft.2.2 hot rfl
  have live0 : ∀ b, h0.get? b = none → s.heap.get? b = none := fun b q => none_of_live y.live q
  have hy4' : Step env.locals H ((H1.set ea (.raw oe)).set t (.raw ot)) s { s1 with heap := h4 } := by
    refine ⟨hy4.same, hy4.kept, fun b o e eb => ?_, hy4.live⟩
    rw [AH.set_ne _ _ (fun q => by rw [q, live0 _ nt] at e; cases e), AH.set_ne _ _ (fun q => by rw [q, live0 _ na] at e; cases e)]
    exact hy4.new b o e eb
  obtain ⟨m4, hn4, hm4⟩ := hs4'.loc
  refine wpAny_storeName_local hn hn4 (fun h5 hn5 hsb5 => ?_) (by simp [F.kind])
  have hs5 : St C env.locals (ρ1.set n (.ref ea)) ((H1.set ea (.raw oe)).set t (.raw ot)) h5 := hs4'.store (v := .ref ea) hm4 hn5 hsb5
  refine wpAny_mono (h ρ1 H1 ea t oe ot hR hO1 fe.1 ft.1 hte ⟨hcls, ⟨vse, hde, hv0⟩, hct, nn, tk, hdt⟩ _ hs5) (fun f s6 ⟨ρ2, H2, a2, b2, c2⟩ => ?_) fun _ _ e => e.elim
  obtain ⟨m6, hn6, hm6⟩ := a2.loc
  refine wpAny_nameGoes_keeps hn hn6 (by simp [F.kind]) fun h7 v hn7 hsb7 => ?_
  refine ⟨fun x => if x = n then v.map ab else ρ2 x, H2, a2.loc' hn7 (fun x => by by_cases q : x = n <;> simp [q, hm6]) hsb7, ?_, c2 (v.map ab)⟩
  have t2 : Step env.locals ((H1.set ea (.raw oe)).set t (.raw ot)) H2 { s1 with heap := h4 } s6 := (Step.store hn5 hsb5).trans b2 (fun _ _ => a2.nl)
  have t3 : Step env.locals H2 H2 s6 { s6 with heap := h7, toks := s6.toks + 1 } := Step.store hn7 hsb7
  exact (hy4'.trans t2 (fun _ _ => a2.nl)).trans t3 (fun _ _ => a2.nl)
end
end Mine

set_option maxHeartbeats 4000000
namespace Mine
open PySem PySem.W PyProof.Rows
open_top hd for PySem.Challenge.rw_dm0010_09
end Mine

set_option maxHeartbeats 4000000
namespace Mine
open PySem PySem.W PyProof.Rows

/-- bisect_right, all shapes of call -/
theorem br_core {C : Cx} {A : Around} {H : AH} {P : Params} (hK : (hd.heap_39 P).In C.base) (hlen : C.gl "len" = some (.builtin "len")) (hh : A.handled = none) (hdep : A.depth < recursionLimit)
    {args : List V} {kw : List (Str × V)} {a : Addr} {ob : O} {vs : List V} {x hiV keyV : V} {lo hi : Nat} (f : Nat → Bool)
    (hbind : ∀ vals kvs, vals.map ab = args → kvs.map (fun p => (p.1, ab p.2)) = kw → ∃ binds, (∀ s, Keep C s → BindsTo s (fdOf (hd.heap_39 P) 32) ⟨vals, kvs⟩ binds) ∧ binds.map (fun p => (p.1, ab p.2)) = ([("a", .ref a), ("x", x), ("lo", .int lo), ("hi", hiV), ("key", keyV)] : List (Str × V)))
    (ha : H a = some ob) (hl : lst ob = some vs) (hhi : (hiV = .none ∧ hi = vs.length) ∨ (hiV = .int hi ∧ hi ≤ vs.length))
    (hkey : ∀ A', Nx A A' → (keyV = .none ∧ ∀ i v, lo ≤ i → i < hi → vs[i]? = some v → LtOk C A' H x v (f i)) ∨ (∃ g o fd, keyV = .ref g ∧ FnAt C H g o fd ∧ ∀ i v, lo ≤ i → i < hi → vs[i]? = some v → ∃ kv, KeyOk C A' H g v kv ∧ LtOk C A' H x kv (f i)))
    {Q : V → AH → Prop} (hQ : Q (.int (bis f lo hi)) H) : WCall C A (.ref 32) args kw H Q := by
  refine WCall.def (fn_in hK 32 rfl) hdep rfl (noCell rfl) (fun h k => codeRec_of (hK.keeps k) rfl) (bs := [("a", .ref a), ("x", x), ("lo", .int lo), ("hi", hiV), ("key", keyV)]) hbind (allLocal rfl) ?_
  intro L hL
  have hNx := Nx.of A (callEnv (fdOf (hd.heap_39 P) 32) L 32)
  generalize hA' : A.deeper (callEnv (fdOf (hd.heap_39 P) 32) L 32) = A' at *
  have F : Fx C A' (callEnv (fdOf (hd.heap_39 P) 32) L 32) := ⟨rfl, rfl, rfl, hNx.2.2.trans hh⟩
  generalize hρ : (fun y => List.lookup y (([("a", .ref a), ("x", x), ("lo", .int lo), ("hi", hiV), ("key", keyV)] : List (Str × V)).reverse)) = ρ
  have ra : ρ "a" = some (.ref a) := by rw [← hρ]; rfl
  have rx : ρ "x" = some x := by rw [← hρ]; rfl
  have rlo : ρ "lo" = some (.int lo) := by rw [← hρ]; rfl
  have rhi : ρ "hi" = some hiV := by rw [← hρ]; rfl
  have rk : ρ "key" = some keyV := by rw [← hρ]; rfl
  have hhl : hi ≤ vs.length := by rcases hhi with ⟨_, q⟩ | ⟨_, q⟩ <;> lia
  refine WS.seq (W1.if (WT.of (b := false) (EvT.icmp (Ev.local F rfl rlo) Ev.int (by simp [icmp])) ⟨fun e => by simp at e, fun _ => WS.nil ⟨rfl, ?_⟩⟩))
  refine WS.seq (W1.if (WT.of (EvT.isNone (Ev.local F rfl rhi)) ?_))
  suffices goal : ∀ ρ : Lo, ρ "a" = some (.ref a) → ρ "x" = some x → ρ "lo" = some (.int lo) → ρ "hi" = some (.int hi) → ρ "key" = some keyV → WS C A' (callEnv (fdOf (hd.heap_39 P) 32) L 32) ((bodyOf (fdOf (hd.heap_39 P) 32)).drop 2) ρ H (fun f _ H' => Q (retv f) H') by
    refine ⟨fun e => ?_, fun e => ?_⟩
    · have hn : hiV = .none := by simpa using e
      rcases hhi with ⟨_, q⟩ | ⟨q, _⟩
      · refine WS.seq (W1.asgLocal F rfl (WE.of (Ev.len (Ev.glob F rfl hlen) (Ev.local F rfl ra) ha hl) ⟨rfl, WS.nil ⟨rfl, ?_⟩⟩))
        rw [← q]
        exact goal _ ra rx rlo rfl rk
      · rw [hn] at q; cases q
    · rcases hhi with ⟨q, _⟩ | ⟨q, _⟩
      · rw [q] at e; simp at e
      · refine WS.nil ⟨rfl, ?_⟩
        exact goal _ ra rx rlo (by rw [rhi, q]) rk
  clear rlo rhi ra rx rk hρ
  intro ρ ra rx rlo rhi rk
  have hkey' := hkey A' hNx
  refine WS.seq (W1.if (WT.of (EvT.isNone (Ev.local F rfl rk)) ⟨fun e => ?_, fun e => ?_⟩))
  · have hn : keyV = .none := by simpa using e
    obtain ⟨_, hlt⟩ : keyV = .none ∧ ∀ i v, lo ≤ i → i < hi → vs[i]? = some v → LtOk C A' H x v (f i) := by
      rcases hkey' with q | ⟨g, o, fd, q, _⟩
      · exact q
      · rw [hn] at q; cases q
    refine WS.seq (W1.while F (fun n ρ1 H1 => ∃ l h : Nat, n = h - l ∧ lo ≤ l ∧ h ≤ hi ∧ H1 = H ∧ ρ1 "a" = some (.ref a) ∧ ρ1 "x" = some x ∧ ρ1 "lo" = some (.int l) ∧ ρ1 "hi" = some (.int h) ∧ bis f l h = bis f lo hi) _ ⟨lo, hi, rfl, Nat.le_refl _, Nat.le_refl _, rfl, ra, rx, rlo, rhi, rfl⟩ ?_)
    rintro n ρ1 H1 ⟨l, h, rfl, hle, hhi', rfl, ra, rx, rlo, rhi, hb⟩
    refine WT.of (EvT.icmp (Ev.local F rfl rlo) (Ev.local F rfl rhi) rfl) ⟨fun e => ?_, fun e => ?_⟩
    · have hlt' : l < h := by simpa using e
      have hmid : ((l : Int) + (h : Int)).fdiv 2 = ((l + h) / 2 : Nat) := by
        rw [Int.fdiv_eq_ediv_of_nonneg _ (by decide)]; lia
      refine WS.seq (W1.asgLocal F rfl (WE.of (Ev.fdiv (Ev.add (Ev.local F rfl rlo) (Ev.local F rfl rhi)) Ev.int (by decide) (by decide)) ?_))
      rw [hmid]
      refine ⟨rfl, ?_⟩
      have hm : (l + h) / 2 < vs.length := by omega
      refine WS.seq (W1.if (WT.of (EvT.ltOk (Ev.local F rfl rx) (Ev.item (v := vs[(l + h) / 2]) (Ev.local F rfl ra) (Ev.local F rfl rfl) ha hl (by omega) (by rw [Int.toNat_natCast]; exact List.getElem?_eq_getElem hm)) (hlt _ _ (by omega) (by omega) (List.getElem?_eq_getElem hm))) ⟨fun e2 => ?_, fun e2 => ?_⟩))
      · refine WS.seq (W1.asgLocal F rfl (WE.of (Ev.local F rfl rfl) ⟨rfl, WS.nil ⟨rfl, WS.nil ⟨(l + h) / 2 - l, by omega, l, (l + h) / 2, rfl, by omega, by omega, rfl, ra, rx, rlo, rfl, ?_⟩⟩⟩))
        rw [← hb, bis_true hlt' e2]
      · refine WS.seq (W1.asgLocal F rfl (WE.of (Ev.add (Ev.local F rfl rfl) Ev.int) ⟨rfl, WS.nil ⟨rfl, WS.nil ⟨h - ((l + h) / 2 + 1), by omega, (l + h) / 2 + 1, h, rfl, by omega, by omega, rfl, ra, rx, rfl, rhi, ?_⟩⟩⟩))
        rw [← hb, bis_false hlt' e2]
    · have hge : ¬ l < h := by simpa using e
      rw [← hb, bis_cross (by omega)] at hQ
      exact ⟨rfl, WS.nil ⟨rfl, WS.cons (W1.ret (WE.of (Ev.local F rfl rlo) hQ))⟩⟩
  · have hn : keyV ≠ .none := by simpa using e
    obtain ⟨g, o, fd, rfl, hfn, hlt⟩ : ∃ g o fd, keyV = .ref g ∧ FnAt C H g o fd ∧ ∀ i v, lo ≤ i → i < hi → vs[i]? = some v → ∃ kv, KeyOk C A' H g v kv ∧ LtOk C A' H x kv (f i) := by
      rcases hkey' with ⟨q, _⟩ | q
      · exact absurd q hn
      · exact q
    refine WS.seq (W1.while F (fun n ρ1 H1 => ∃ l h : Nat, n = h - l ∧ lo ≤ l ∧ h ≤ hi ∧ H1 = H ∧ ρ1 "a" = some (.ref a) ∧ ρ1 "x" = some x ∧ ρ1 "key" = some (.ref g) ∧ ρ1 "lo" = some (.int l) ∧ ρ1 "hi" = some (.int h) ∧ bis f l h = bis f lo hi) _ ⟨lo, hi, rfl, Nat.le_refl _, Nat.le_refl _, rfl, ra, rx, rk, rlo, rhi, rfl⟩ ?_)
    rintro n ρ1 H1 ⟨l, h, rfl, hle, hhi', rfl, ra, rx, rk, rlo, rhi, hb⟩
    refine WT.of (EvT.icmp (Ev.local F rfl rlo) (Ev.local F rfl rhi) rfl) ⟨fun e => ?_, fun e => ?_⟩
    · have hlt' : l < h := by simpa using e
      have hmid : ((l : Int) + (h : Int)).fdiv 2 = ((l + h) / 2 : Nat) := by
        rw [Int.fdiv_eq_ediv_of_nonneg _ (by decide)]; lia
      refine WS.seq (W1.asgLocal F rfl (WE.of (Ev.fdiv (Ev.add (Ev.local F rfl rlo) (Ev.local F rfl rhi)) Ev.int (by decide) (by decide)) ?_))
      rw [hmid]
      refine ⟨rfl, ?_⟩
      have hm : (l + h) / 2 < vs.length := by omega
      obtain ⟨kv, hkv, hlk⟩ := hlt _ _ (by omega) (by omega) (List.getElem?_eq_getElem hm)
      refine WS.seq (W1.if (WT.of (EvT.ltOk (Ev.local F rfl rx) (Ev.key (Ev.local F rfl rk) hfn (Ev.item (v := vs[(l + h) / 2]) (Ev.local F rfl ra) (Ev.local F rfl rfl) ha hl (by lia) (by rw [Int.toNat_natCast]; exact List.getElem?_eq_getElem hm)) hkv) hlk) ⟨fun e2 => ?_, fun e2 => ?_⟩))
      · refine WS.seq (W1.asgLocal F rfl (WE.of (Ev.local F rfl rfl) ⟨rfl, WS.nil ⟨rfl, WS.nil ⟨(l + h) / 2 - l, by omega, l, (l + h) / 2, rfl, by omega, by omega, rfl, ra, rx, rk, rlo, rfl, ?_⟩⟩⟩))
        rw [← hb, bis_true hlt' e2]
      · refine WS.seq (W1.asgLocal F rfl (WE.of (Ev.add (Ev.local F rfl rfl) Ev.int) ⟨rfl, WS.nil ⟨rfl, WS.nil ⟨h - ((l + h) / 2 + 1), by omega, (l + h) / 2 + 1, h, rfl, by omega, by omega, rfl, ra, rx, rk, rfl, rhi, ?_⟩⟩⟩))
        rw [← hb, bis_false hlt' e2]
    · have hge : ¬ l < h := by simpa using e
      rw [← hb, bis_cross (by omega)] at hQ
      exact ⟨rfl, WS.nil ⟨rfl, WS.cons (W1.ret (WE.of (Ev.local F rfl rlo) hQ))⟩⟩

/-- bisect_left, all shapes of call -/
theorem bl_core {C : Cx} {A : Around} {H : AH} {P : Params} (hK : (hd.heap_39 P).In C.base) (hlen : C.gl "len" = some (.builtin "len")) (hh : A.handled = none) (hdep : A.depth < recursionLimit)
    {args : List V} {kw : List (Str × V)} {a : Addr} {ob : O} {vs : List V} {x hiV keyV : V} {lo hi : Nat} (f : Nat → Bool)
    (hbind : ∀ vals kvs, vals.map ab = args → kvs.map (fun p => (p.1, ab p.2)) = kw → ∃ binds, (∀ s, Keep C s → BindsTo s (fdOf (hd.heap_39 P) 50) ⟨vals, kvs⟩ binds) ∧ binds.map (fun p => (p.1, ab p.2)) = ([("a", .ref a), ("x", x), ("lo", .int lo), ("hi", hiV), ("key", keyV)] : List (Str × V)))
    (ha : H a = some ob) (hl : lst ob = some vs) (hhi : (hiV = .none ∧ hi = vs.length) ∨ (hiV = .int hi ∧ hi ≤ vs.length))
    (hkey : ∀ A', Nx A A' → (keyV = .none ∧ ∀ i v, lo ≤ i → i < hi → vs[i]? = some v → LtOk C A' H v x (!f i)) ∨ (∃ g o fd, keyV = .ref g ∧ FnAt C H g o fd ∧ ∀ i v, lo ≤ i → i < hi → vs[i]? = some v → ∃ kv, KeyOk C A' H g v kv ∧ LtOk C A' H kv x (!f i)))
    {Q : V → AH → Prop} (hQ : Q (.int (bis f lo hi)) H) : WCall C A (.ref 50) args kw H Q := by
  refine WCall.def (fn_in hK 50 rfl) hdep rfl (noCell rfl) (fun h k => codeRec_of (hK.keeps k) rfl) (bs := [("a", .ref a), ("x", x), ("lo", .int lo), ("hi", hiV), ("key", keyV)]) hbind (allLocal rfl) ?_
  intro L hL
  have hNx := Nx.of A (callEnv (fdOf (hd.heap_39 P) 50) L 50)
  generalize hA' : A.deeper (callEnv (fdOf (hd.heap_39 P) 50) L 50) = A' at *
  have F : Fx C A' (callEnv (fdOf (hd.heap_39 P) 50) L 50) := ⟨rfl, rfl, rfl, hNx.2.2.trans hh⟩
  generalize hρ : (fun y => List.lookup y (([("a", .ref a), ("x", x), ("lo", .int lo), ("hi", hiV), ("key", keyV)] : List (Str × V)).reverse)) = ρ
  have ra : ρ "a" = some (.ref a) := by rw [← hρ]; rfl
  have rx : ρ "x" = some x := by rw [← hρ]; rfl
  have rlo : ρ "lo" = some (.int lo) := by rw [← hρ]; rfl
  have rhi : ρ "hi" = some hiV := by rw [← hρ]; rfl
  have rk : ρ "key" = some keyV := by rw [← hρ]; rfl
  have hhl : hi ≤ vs.length := by rcases hhi with ⟨_, q⟩ | ⟨_, q⟩ <;> lia
  refine WS.seq (W1.if (WT.of (b := false) (EvT.icmp (Ev.local F rfl rlo) Ev.int (by simp [icmp])) ⟨fun e => by simp at e, fun _ => WS.nil ⟨rfl, ?_⟩⟩))
  refine WS.seq (W1.if (WT.of (EvT.isNone (Ev.local F rfl rhi)) ?_))
  suffices goal : ∀ ρ : Lo, ρ "a" = some (.ref a) → ρ "x" = some x → ρ "lo" = some (.int lo) → ρ "hi" = some (.int hi) → ρ "key" = some keyV → WS C A' (callEnv (fdOf (hd.heap_39 P) 50) L 50) ((bodyOf (fdOf (hd.heap_39 P) 50)).drop 2) ρ H (fun f _ H' => Q (retv f) H') by
    refine ⟨fun e => ?_, fun e => ?_⟩
    · have hn : hiV = .none := by simpa using e
      rcases hhi with ⟨_, q⟩ | ⟨q, _⟩
      · refine WS.seq (W1.asgLocal F rfl (WE.of (Ev.len (Ev.glob F rfl hlen) (Ev.local F rfl ra) ha hl) ⟨rfl, WS.nil ⟨rfl, ?_⟩⟩))
        rw [← q]
        exact goal _ ra rx rlo rfl rk
      · rw [hn] at q; cases q
    · rcases hhi with ⟨q, _⟩ | ⟨q, _⟩
      · rw [q] at e; simp at e
      · refine WS.nil ⟨rfl, ?_⟩
        exact goal _ ra rx rlo (by rw [rhi, q]) rk
  clear rlo rhi ra rx rk hρ
  intro ρ ra rx rlo rhi rk
  have hkey' := hkey A' hNx
  refine WS.seq (W1.if (WT.of (EvT.isNone (Ev.local F rfl rk)) ⟨fun e => ?_, fun e => ?_⟩))
  · have hn : keyV = .none := by simpa using e
    obtain ⟨_, hlt⟩ : keyV = .none ∧ ∀ i v, lo ≤ i → i < hi → vs[i]? = some v → LtOk C A' H v x (!f i) := by
      rcases hkey' with q | ⟨g, o, fd, q, _⟩
      · exact q
      · rw [hn] at q; cases q
    refine WS.seq (W1.while F (fun n ρ1 H1 => ∃ l h : Nat, n = h - l ∧ lo ≤ l ∧ h ≤ hi ∧ H1 = H ∧ ρ1 "a" = some (.ref a) ∧ ρ1 "x" = some x ∧ ρ1 "lo" = some (.int l) ∧ ρ1 "hi" = some (.int h) ∧ bis f l h = bis f lo hi) _ ⟨lo, hi, rfl, Nat.le_refl _, Nat.le_refl _, rfl, ra, rx, rlo, rhi, rfl⟩ ?_)
    rintro n ρ1 H1 ⟨l, h, rfl, hle, hhi', rfl, ra, rx, rlo, rhi, hb⟩
    refine WT.of (EvT.icmp (Ev.local F rfl rlo) (Ev.local F rfl rhi) rfl) ⟨fun e => ?_, fun e => ?_⟩
    · have hlt' : l < h := by simpa using e
      have hmid : ((l : Int) + (h : Int)).fdiv 2 = ((l + h) / 2 : Nat) := by
        rw [Int.fdiv_eq_ediv_of_nonneg _ (by decide)]; lia
      refine WS.seq (W1.asgLocal F rfl (WE.of (Ev.fdiv (Ev.add (Ev.local F rfl rlo) (Ev.local F rfl rhi)) Ev.int (by decide) (by decide)) ?_))
      rw [hmid]
      refine ⟨rfl, ?_⟩
      have hm : (l + h) / 2 < vs.length := by omega
      refine WS.seq (W1.if (WT.of (EvT.ltOk (Ev.item (v := vs[(l + h) / 2]) (Ev.local F rfl ra) (Ev.local F rfl rfl) ha hl (by omega) (by rw [Int.toNat_natCast]; exact List.getElem?_eq_getElem hm)) (Ev.local F rfl rx) (hlt _ _ (by omega) (by omega) (List.getElem?_eq_getElem hm))) ⟨fun e2 => ?_, fun e2 => ?_⟩))
      · refine WS.seq (W1.asgLocal F rfl (WE.of (Ev.add (Ev.local F rfl rfl) Ev.int) ⟨rfl, WS.nil ⟨rfl, WS.nil ⟨h - ((l + h) / 2 + 1), by omega, (l + h) / 2 + 1, h, rfl, by omega, by omega, rfl, ra, rx, rfl, rhi, ?_⟩⟩⟩))
        rw [← hb, bis_false hlt' (by simpa using e2)]
      · refine WS.seq (W1.asgLocal F rfl (WE.of (Ev.local F rfl rfl) ⟨rfl, WS.nil ⟨rfl, WS.nil ⟨(l + h) / 2 - l, by omega, l, (l + h) / 2, rfl, by omega, by omega, rfl, ra, rx, rlo, rfl, ?_⟩⟩⟩))
        rw [← hb, bis_true hlt' (by simpa using e2)]
    · have hge : ¬ l < h := by simpa using e
      rw [← hb, bis_cross (by omega)] at hQ
      exact ⟨rfl, WS.nil ⟨rfl, WS.cons (W1.ret (WE.of (Ev.local F rfl rlo) hQ))⟩⟩
  · have hn : keyV ≠ .none := by simpa using e
    obtain ⟨g, o, fd, rfl, hfn, hlt⟩ : ∃ g o fd, keyV = .ref g ∧ FnAt C H g o fd ∧ ∀ i v, lo ≤ i → i < hi → vs[i]? = some v → ∃ kv, KeyOk C A' H g v kv ∧ LtOk C A' H kv x (!f i) := by
      rcases hkey' with ⟨q, _⟩ | q
      · exact absurd q hn
      · exact q
    refine WS.seq (W1.while F (fun n ρ1 H1 => ∃ l h : Nat, n = h - l ∧ lo ≤ l ∧ h ≤ hi ∧ H1 = H ∧ ρ1 "a" = some (.ref a) ∧ ρ1 "x" = some x ∧ ρ1 "key" = some (.ref g) ∧ ρ1 "lo" = some (.int l) ∧ ρ1 "hi" = some (.int h) ∧ bis f l h = bis f lo hi) _ ⟨lo, hi, rfl, Nat.le_refl _, Nat.le_refl _, rfl, ra, rx, rk, rlo, rhi, rfl⟩ ?_)
    rintro n ρ1 H1 ⟨l, h, rfl, hle, hhi', rfl, ra, rx, rk, rlo, rhi, hb⟩
    refine WT.of (EvT.icmp (Ev.local F rfl rlo) (Ev.local F rfl rhi) rfl) ⟨fun e => ?_, fun e => ?_⟩
    · have hlt' : l < h := by simpa using e
      have hmid : ((l : Int) + (h : Int)).fdiv 2 = ((l + h) / 2 : Nat) := by
        rw [Int.fdiv_eq_ediv_of_nonneg _ (by decide)]; lia
      refine WS.seq (W1.asgLocal F rfl (WE.of (Ev.fdiv (Ev.add (Ev.local F rfl rlo) (Ev.local F rfl rhi)) Ev.int (by decide) (by decide)) ?_))
      rw [hmid]
      refine ⟨rfl, ?_⟩
      have hm : (l + h) / 2 < vs.length := by omega
      obtain ⟨kv, hkv, hlk⟩ := hlt _ _ (by omega) (by omega) (List.getElem?_eq_getElem hm)
      refine WS.seq (W1.if (WT.of (EvT.ltOk (Ev.key (Ev.local F rfl rk) hfn (Ev.item (v := vs[(l + h) / 2]) (Ev.local F rfl ra) (Ev.local F rfl rfl) ha hl (by lia) (by rw [Int.toNat_natCast]; exact List.getElem?_eq_getElem hm)) hkv) (Ev.local F rfl rx) hlk) ⟨fun e2 => ?_, fun e2 => ?_⟩))
      · refine WS.seq (W1.asgLocal F rfl (WE.of (Ev.add (Ev.local F rfl rfl) Ev.int) ⟨rfl, WS.nil ⟨rfl, WS.nil ⟨h - ((l + h) / 2 + 1), by omega, (l + h) / 2 + 1, h, rfl, by omega, by omega, rfl, ra, rx, rk, rfl, rhi, ?_⟩⟩⟩))
        rw [← hb, bis_false hlt' (by simpa using e2)]
      · refine WS.seq (W1.asgLocal F rfl (WE.of (Ev.local F rfl rfl) ⟨rfl, WS.nil ⟨rfl, WS.nil ⟨(l + h) / 2 - l, by omega, l, (l + h) / 2, rfl, by omega, by omega, rfl, ra, rx, rk, rlo, rfl, ?_⟩⟩⟩))
        rw [← hb, bis_true hlt' (by simpa using e2)]
    · have hge : ¬ l < h := by simpa using e
      rw [← hb, bis_cross (by omega)] at hQ
      exact ⟨rfl, WS.nil ⟨rfl, WS.cons (W1.ret (WE.of (Ev.local F rfl rlo) hQ))⟩⟩


theorem WKs.one {C : Cx} {A : Around} {env : Env} {ρ : Lo} {H : AH} {n : Str} {e : Expr} {p : Pos} {Q : List (Str × V) → AH → Prop} (h : WE C A env e ρ H (fun v H1 => Q [(n, v)] H1)) : WKs C A env [⟨some n, e, p⟩] ρ H Q := h
theorem vals4 {vals : List Value} {a b c d : V} (e : vals.map ab = [a, b, c, d]) : ∃ x y z u, vals = [x, y, z, u] ∧ ab x = a ∧ ab y = b ∧ ab z = c ∧ ab u = d := by
  cases vals with
  | nil => simp at e
  | cons x r =>
    simp only [List.map_cons, List.cons.injEq] at e
    obtain ⟨y, z, u, rfl, h⟩ := vals3 e.2
    exact ⟨x, y, z, u, rfl, e.1, h⟩
theorem kw1 {kvs : List (Str × Value)} {n : Str} {v : V} (e : kvs.map (fun p => (p.1, ab p.2)) = [(n, v)]) : ∃ x, kvs = [(n, x)] ∧ ab x = v := by
  cases kvs with
  | nil => simp at e
  | cons p r =>
    cases r with
    | nil => obtain ⟨a, b⟩ := p; simp at e; exact ⟨b, by rw [e.1], e.2⟩
    | cons q r => simp at e



/-- insort_right, all shapes of call -/
theorem ir_core {C : Cx} {A : Around} {H : AH} {P : Params} (hK : (hd.heap_39 P).In C.base) (hlen : C.gl "len" = some (.builtin "len")) (hbr : C.gl "bisect_right" = some (.ref 32)) (hh : A.handled = none) (hdep : A.depth + 2 < recursionLimit)
    {args : List V} {kw : List (Str × V)} {a : Addr} {vs : List V} {x hiV keyV : V} {lo hi : Nat} (f : Nat → Bool)
    (hbind : ∀ vals kvs, vals.map ab = args → kvs.map (fun p => (p.1, ab p.2)) = kw → ∃ binds, (∀ s, Keep C s → BindsTo s (fdOf (hd.heap_39 P) 23) ⟨vals, kvs⟩ binds) ∧ binds.map (fun p => (p.1, ab p.2)) = ([("a", .ref a), ("x", x), ("lo", .int lo), ("hi", hiV), ("key", keyV)] : List (Str × V)))
    (ha : H a = some (.list vs)) (hz : vs.length < sizeLine) (hlh : bis f lo hi ≤ vs.length) (hhi : (hiV = .none ∧ hi = vs.length) ∨ (hiV = .int hi ∧ hi ≤ vs.length))
    (hkey : (keyV = .none ∧ ∀ A' A'', Nx A A' → Nx A' A'' → ∀ i v, lo ≤ i → i < hi → vs[i]? = some v → LtOk C A'' H x v (f i)) ∨ (∃ g o fd kx, keyV = .ref g ∧ FnAt C H g o fd ∧ (∀ A', Nx A A' → KeyOk C A' H g x kx) ∧ ∀ A' A'', Nx A A' → Nx A' A'' → ∀ i v, lo ≤ i → i < hi → vs[i]? = some v → ∃ kv, KeyOk C A'' H g v kv ∧ LtOk C A'' H kx kv (f i)))
    {Q : V → AH → Prop} (hQ : Q .none (H.set a (.list (vs.take (bis f lo hi) ++ x :: vs.drop (bis f lo hi))))) : WCall C A (.ref 23) args kw H Q := by
  refine WCall.def (fn_in hK 23 rfl) (by lia) rfl (noCell rfl) (fun h k => codeRec_of (hK.keeps k) rfl) (bs := [("a", .ref a), ("x", x), ("lo", .int lo), ("hi", hiV), ("key", keyV)]) hbind (allLocal rfl) ?_
  intro L hL
  have hNx := Nx.of A (callEnv (fdOf (hd.heap_39 P) 23) L 23)
  generalize hA' : A.deeper (callEnv (fdOf (hd.heap_39 P) 23) L 23) = A' at *
  have F : Fx C A' (callEnv (fdOf (hd.heap_39 P) 23) L 23) := ⟨rfl, rfl, rfl, hNx.2.2.trans hh⟩
  have hdep' : A'.depth < recursionLimit := by rw [hNx.1]; lia
  generalize hρ : (fun y => List.lookup y (([("a", .ref a), ("x", x), ("lo", .int lo), ("hi", hiV), ("key", keyV)] : List (Str × V)).reverse)) = ρ
  have ra : ρ "a" = some (.ref a) := by rw [← hρ]; rfl
  have rx : ρ "x" = some x := by rw [← hρ]; rfl
  have rlo : ρ "lo" = some (.int lo) := by rw [← hρ]; rfl
  have rhi : ρ "hi" = some hiV := by rw [← hρ]; rfl
  have rk : ρ "key" = some keyV := by rw [← hρ]; rfl
  suffices goal : ∀ ρ : Lo, ρ "a" = some (.ref a) → ρ "x" = some x → ρ "lo" = some (.int (bis f lo hi)) → WS C A' (callEnv (fdOf (hd.heap_39 P) 23) L 23) ((bodyOf (fdOf (hd.heap_39 P) 23)).drop 1) ρ H (fun f _ H' => Q (retv f) H') by
    refine WS.seq (W1.if (WT.of (EvT.isNone (Ev.local F rfl rk)) ⟨fun e => ?_, fun e => ?_⟩))
    · have hn : keyV = .none := by simpa using e
      refine WS.seq (W1.asgLocal F rfl (WE.callB (fun _ => fn_in hK 32 rfl) (Ev.glob F rfl hbr) (WEs.of (.cons (Ev.local F rfl ra) (.cons (Ev.local F rfl rx) (.cons (Ev.local F rfl rlo) (.cons (Ev.local F rfl rhi) .nil)))) (WKs.nil (br_core hK hlen F.hh hdep' (x := x) (keyV := .none) f ?_ ha rfl hhi (fun A'' hA'' => ?_) ⟨rfl, WS.nil ⟨rfl, goal _ ra rx rfl⟩⟩)))))
      · intro vals kvs e1 e2
        obtain ⟨x1, x2, x3, x4, rfl, y1, y2, y3, y4⟩ := vals4 e1
        cases ab_nil e2
        refine ⟨[("a", x1), ("x", x2), ("lo", x3), ("hi", x4), ("key", .none)], fun s hs => kp_binds (hK.keeps hs) (fun S => by kernel_rfl), ?_⟩
        show [(_, ab x1), (_, ab x2), (_, ab x3), (_, ab x4), _] = _
        rw [y1, y2, y3, y4]; rfl
      · rcases hkey with ⟨_, q⟩ | ⟨g, o, fd, kx, q, _⟩
        · exact .inl ⟨rfl, q A' A'' hNx hA''⟩
        · rw [hn] at q; cases q
    · have hn : keyV ≠ .none := by simpa using e
      obtain ⟨g, o, fd, kx, rfl, hfn, hkx, hlt⟩ : ∃ g o fd kx, keyV = .ref g ∧ FnAt C H g o fd ∧ (∀ A', Nx A A' → KeyOk C A' H g x kx) ∧ ∀ A' A'', Nx A A' → Nx A' A'' → ∀ i v, lo ≤ i → i < hi → vs[i]? = some v → ∃ kv, KeyOk C A'' H g v kv ∧ LtOk C A'' H kx kv (f i) := by
        rcases hkey with ⟨q, _⟩ | q
        · exact absurd q hn
        · exact q
      refine WS.seq (W1.asgLocal F rfl (WE.callB (fun _ => fn_in hK 32 rfl) (Ev.glob F rfl hbr) (WEs.of (.cons (Ev.local F rfl ra) (.cons (Ev.key (Ev.local F rfl rk) hfn (Ev.local F rfl rx) (hkx A' hNx)) (.cons (Ev.local F rfl rlo) (.cons (Ev.local F rfl rhi) .nil)))) (WKs.one (WE.of (Ev.local F rfl rk) (br_core hK hlen F.hh hdep' (x := kx) (keyV := .ref g) f ?_ ha rfl hhi (fun A'' hA'' => .inr ⟨g, o, fd, rfl, hfn, hlt A' A'' hNx hA''⟩) ⟨rfl, WS.nil ⟨rfl, goal _ ra rx rfl⟩⟩))))))
      intro vals kvs e1 e2
      obtain ⟨x1, x2, x3, x4, rfl, y1, y2, y3, y4⟩ := vals4 e1
      obtain ⟨x5, rfl, y5⟩ := kw1 e2
      refine ⟨[("a", x1), ("x", x2), ("lo", x3), ("hi", x4), ("key", x5)], fun s hs => kp_binds (hK.keeps hs) (fun S => by kernel_rfl), ?_⟩
      show [(_, ab x1), (_, ab x2), (_, ab x3), (_, ab x4), (_, ab x5)] = _
      rw [y1, y2, y3, y4, y5]
  clear rlo rhi ra rx rk hρ
  intro ρ ra rx rlo
  refine WS.cons (W1.expr F (WE.listMeth PySem.F.slot_list_insert rfl (WE.of (Ev.local F rfl ra) ⟨a, _, rfl, ha, WEs.of (.cons (Ev.local F rfl rlo) (.cons (Ev.local F rfl rx) .nil)) (WCall.insert ha hlh hz ⟨(by intro a e; cases e), WS.nil hQ⟩)⟩)))
/-- insort_left, all shapes of call -/
theorem il_core {C : Cx} {A : Around} {H : AH} {P : Params} (hK : (hd.heap_39 P).In C.base) (hlen : C.gl "len" = some (.builtin "len")) (hbr : C.gl "bisect_left" = some (.ref 50)) (hh : A.handled = none) (hdep : A.depth + 2 < recursionLimit)
    {args : List V} {kw : List (Str × V)} {a : Addr} {vs : List V} {x hiV keyV : V} {lo hi : Nat} (f : Nat → Bool)
    (hbind : ∀ vals kvs, vals.map ab = args → kvs.map (fun p => (p.1, ab p.2)) = kw → ∃ binds, (∀ s, Keep C s → BindsTo s (fdOf (hd.heap_39 P) 41) ⟨vals, kvs⟩ binds) ∧ binds.map (fun p => (p.1, ab p.2)) = ([("a", .ref a), ("x", x), ("lo", .int lo), ("hi", hiV), ("key", keyV)] : List (Str × V)))
    (ha : H a = some (.list vs)) (hz : vs.length < sizeLine) (hlh : bis f lo hi ≤ vs.length) (hhi : (hiV = .none ∧ hi = vs.length) ∨ (hiV = .int hi ∧ hi ≤ vs.length))
    (hkey : (keyV = .none ∧ ∀ A' A'', Nx A A' → Nx A' A'' → ∀ i v, lo ≤ i → i < hi → vs[i]? = some v → LtOk C A'' H v x (!f i)) ∨ (∃ g o fd kx, keyV = .ref g ∧ FnAt C H g o fd ∧ (∀ A', Nx A A' → KeyOk C A' H g x kx) ∧ ∀ A' A'', Nx A A' → Nx A' A'' → ∀ i v, lo ≤ i → i < hi → vs[i]? = some v → ∃ kv, KeyOk C A'' H g v kv ∧ LtOk C A'' H kv kx (!f i)))
    {Q : V → AH → Prop} (hQ : Q .none (H.set a (.list (vs.take (bis f lo hi) ++ x :: vs.drop (bis f lo hi))))) : WCall C A (.ref 41) args kw H Q := by
  refine WCall.def (fn_in hK 41 rfl) (by lia) rfl (noCell rfl) (fun h k => codeRec_of (hK.keeps k) rfl) (bs := [("a", .ref a), ("x", x), ("lo", .int lo), ("hi", hiV), ("key", keyV)]) hbind (allLocal rfl) ?_
  intro L hL
  have hNx := Nx.of A (callEnv (fdOf (hd.heap_39 P) 41) L 41)
  generalize hA' : A.deeper (callEnv (fdOf (hd.heap_39 P) 41) L 41) = A' at *
  have F : Fx C A' (callEnv (fdOf (hd.heap_39 P) 41) L 41) := ⟨rfl, rfl, rfl, hNx.2.2.trans hh⟩
  have hdep' : A'.depth < recursionLimit := by rw [hNx.1]; lia
  generalize hρ : (fun y => List.lookup y (([("a", .ref a), ("x", x), ("lo", .int lo), ("hi", hiV), ("key", keyV)] : List (Str × V)).reverse)) = ρ
  have ra : ρ "a" = some (.ref a) := by rw [← hρ]; rfl
  have rx : ρ "x" = some x := by rw [← hρ]; rfl
  have rlo : ρ "lo" = some (.int lo) := by rw [← hρ]; rfl
  have rhi : ρ "hi" = some hiV := by rw [← hρ]; rfl
  have rk : ρ "key" = some keyV := by rw [← hρ]; rfl
  suffices goal : ∀ ρ : Lo, ρ "a" = some (.ref a) → ρ "x" = some x → ρ "lo" = some (.int (bis f lo hi)) → WS C A' (callEnv (fdOf (hd.heap_39 P) 41) L 41) ((bodyOf (fdOf (hd.heap_39 P) 41)).drop 1) ρ H (fun f _ H' => Q (retv f) H') by
    refine WS.seq (W1.if (WT.of (EvT.isNone (Ev.local F rfl rk)) ⟨fun e => ?_, fun e => ?_⟩))
    · have hn : keyV = .none := by simpa using e
      refine WS.seq (W1.asgLocal F rfl (WE.callB (fun _ => fn_in hK 50 rfl) (Ev.glob F rfl hbr) (WEs.of (.cons (Ev.local F rfl ra) (.cons (Ev.local F rfl rx) (.cons (Ev.local F rfl rlo) (.cons (Ev.local F rfl rhi) .nil)))) (WKs.nil (bl_core hK hlen F.hh hdep' (x := x) (keyV := .none) f ?_ ha rfl hhi (fun A'' hA'' => ?_) ⟨rfl, WS.nil ⟨rfl, goal _ ra rx rfl⟩⟩)))))
      · intro vals kvs e1 e2
        obtain ⟨x1, x2, x3, x4, rfl, y1, y2, y3, y4⟩ := vals4 e1
        cases ab_nil e2
        refine ⟨[("a", x1), ("x", x2), ("lo", x3), ("hi", x4), ("key", .none)], fun s hs => kp_binds (hK.keeps hs) (fun S => by kernel_rfl), ?_⟩
        show [(_, ab x1), (_, ab x2), (_, ab x3), (_, ab x4), _] = _
        rw [y1, y2, y3, y4]; rfl
      · rcases hkey with ⟨_, q⟩ | ⟨g, o, fd, kx, q, _⟩
        · exact .inl ⟨rfl, q A' A'' hNx hA''⟩
        · rw [hn] at q; cases q
    · have hn : keyV ≠ .none := by simpa using e
      obtain ⟨g, o, fd, kx, rfl, hfn, hkx, hlt⟩ : ∃ g o fd kx, keyV = .ref g ∧ FnAt C H g o fd ∧ (∀ A', Nx A A' → KeyOk C A' H g x kx) ∧ ∀ A' A'', Nx A A' → Nx A' A'' → ∀ i v, lo ≤ i → i < hi → vs[i]? = some v → ∃ kv, KeyOk C A'' H g v kv ∧ LtOk C A'' H kv kx (!f i) := by
        rcases hkey with ⟨q, _⟩ | q
        · exact absurd q hn
        · exact q
      refine WS.seq (W1.asgLocal F rfl (WE.callB (fun _ => fn_in hK 50 rfl) (Ev.glob F rfl hbr) (WEs.of (.cons (Ev.local F rfl ra) (.cons (Ev.key (Ev.local F rfl rk) hfn (Ev.local F rfl rx) (hkx A' hNx)) (.cons (Ev.local F rfl rlo) (.cons (Ev.local F rfl rhi) .nil)))) (WKs.one (WE.of (Ev.local F rfl rk) (bl_core hK hlen F.hh hdep' (x := kx) (keyV := .ref g) f ?_ ha rfl hhi (fun A'' hA'' => .inr ⟨g, o, fd, rfl, hfn, hlt A' A'' hNx hA''⟩) ⟨rfl, WS.nil ⟨rfl, goal _ ra rx rfl⟩⟩))))))
      intro vals kvs e1 e2
      obtain ⟨x1, x2, x3, x4, rfl, y1, y2, y3, y4⟩ := vals4 e1
      obtain ⟨x5, rfl, y5⟩ := kw1 e2
      refine ⟨[("a", x1), ("x", x2), ("lo", x3), ("hi", x4), ("key", x5)], fun s hs => kp_binds (hK.keeps hs) (fun S => by kernel_rfl), ?_⟩
      show [(_, ab x1), (_, ab x2), (_, ab x3), (_, ab x4), (_, ab x5)] = _
      rw [y1, y2, y3, y4, y5]
  clear rlo rhi ra rx rk hρ
  intro ρ ra rx rlo
  refine WS.cons (W1.expr F (WE.listMeth PySem.F.slot_list_insert rfl (WE.of (Ev.local F rfl ra) ⟨a, _, rfl, ha, WEs.of (.cons (Ev.local F rfl rlo) (.cons (Ev.local F rfl rx) .nil)) (WCall.insert ha hlh hz ⟨(by intro a e; cases e), WS.nil hQ⟩)⟩)))


end Mine

set_option maxHeartbeats 4000000
namespace Mine
open PySem PySem.W PyProof.Rows

/-! ## which places are asked -/
noncomputable def bisA (f : Nat → Bool) (lo hi : Nat) : List Nat :=
  if h : lo < hi then (lo + hi) / 2 :: (if f ((lo + hi) / 2) then bisA f lo ((lo + hi) / 2) else bisA f ((lo + hi) / 2 + 1) hi) else []
termination_by hi - lo
decreasing_by all_goals omega
theorem bisA_cross {f : Nat → Bool} {lo hi : Nat} (h : hi ≤ lo) : bisA f lo hi = [] := by
  rw [bisA, dif_neg (by lia)]
theorem bisA_true {f : Nat → Bool} {lo hi : Nat} (h : lo < hi) (hf : f ((lo + hi) / 2) = true) : bisA f lo hi = (lo + hi) / 2 :: bisA f lo ((lo + hi) / 2) := by
  rw [bisA, dif_pos h, if_pos hf]
theorem bisA_false {f : Nat → Bool} {lo hi : Nat} (h : lo < hi) (hf : f ((lo + hi) / 2) = false) : bisA f lo hi = (lo + hi) / 2 :: bisA f ((lo + hi) / 2 + 1) hi := by
  rw [bisA, dif_pos h, if_neg (by rw [hf]; simp)]
theorem bisA_len (f : Nat → Bool) (lo hi : Nat) : (bisA f lo hi).length ≤ hi - lo := by
  fun_induction bisA f lo hi with
  | case1 lo hi h ih1 ih2 =>
    rw [List.length_cons]
    split <;> omega
  | case2 lo hi h => simp
theorem bisA_mem (f : Nat → Bool) (lo hi : Nat) : ∀ k ∈ bisA f lo hi, lo ≤ k ∧ k < hi := by
  fun_induction bisA f lo hi with
  | case1 lo hi h ih1 ih2 =>
    intro k hk
    rcases List.mem_cons.mp hk with rfl | hk
    · lia
    · split at hk
      · have := ih1 k hk; lia
      · have := ih2 k hk; lia
  | case2 lo hi h => simp
theorem bisA_nodup (f : Nat → Bool) (lo hi : Nat) : (bisA f lo hi).Nodup := by
  fun_induction bisA f lo hi with
  | case1 lo hi h ih1 ih2 =>
    rw [List.nodup_cons]
    split
    · exact ⟨fun q => by have := bisA_mem _ _ _ _ q; lia, ih1⟩
    · exact ⟨fun q => by have := bisA_mem _ _ _ _ q; lia, ih2⟩
  | case2 lo hi h => exact List.nodup_nil
theorem bis_ge (f : Nat → Bool) (lo hi : Nat) : lo ≤ bis f lo hi := by
  fun_induction bisA f lo hi with
  | case1 lo hi h ih1 ih2 =>
    cases q : f ((lo + hi) / 2) with
    | true => rw [bis_true h q]; exact ih1
    | false => rw [bis_false h q]; lia
  | case2 lo hi h => rw [bis_cross (by lia)]; exact Nat.le_refl _
theorem bis_le (f : Nat → Bool) (lo hi : Nat) : bis f lo hi ≤ max lo hi := by
  fun_induction bisA f lo hi with
  | case1 lo hi h ih1 ih2 =>
    cases q : f ((lo + hi) / 2) with
    | true => rw [bis_true h q]; (clear q ih2; lia)
    | false => rw [bis_false h q]; lia
  | case2 lo hi h => rw [bis_cross (by lia)]; (clear h; lia)
/-- of those asked just those ahead of the place don't pass -/
theorem bisA_ahead (f : Nat → Bool) (lo hi : Nat) : ∀ k ∈ bisA f lo hi, (!f k) = decide (k < bis f lo hi) := by
  fun_induction bisA f lo hi with
  | case1 lo hi h ih1 ih2 =>
    cases q : f ((lo + hi) / 2) with
    | true =>
      rw [bis_true h q, if_pos rfl]
      intro k hk
      rcases List.mem_cons.mp hk with rfl | hk
      · have := bis_le f lo ((lo + hi) / 2)
        rw [q, decide_eq_false (by lia)]; rfl
      · exact ih1 k hk
    | false =>
      rw [bis_false h q, if_neg (by simp)]
      intro k hk
      rcases List.mem_cons.mp hk with rfl | hk
      · have := bis_ge f ((lo + hi) / 2 + 1) hi
        rw [q, decide_eq_true (by lia)]; rfl
      · exact ih2 k hk
  | case2 lo hi h => simp
/-- both neighbours of the place were asked -/
theorem bisA_near (f : Nat → Bool) (lo hi : Nat) : (lo < bis f lo hi → bis f lo hi - 1 ∈ bisA f lo hi) ∧ (bis f lo hi < hi → bis f lo hi ∈ bisA f lo hi) := by
  fun_induction bisA f lo hi with
  | case1 lo hi h ih1 ih2 =>
    cases q : f ((lo + hi) / 2) with
    | true =>
      rw [bis_true h q, if_pos rfl]
      refine ⟨fun e => List.mem_cons_of_mem _ (ih1.1 e), fun e => ?_⟩
      have := bis_le f lo ((lo + hi) / 2)
      by_cases e2 : bis f lo ((lo + hi) / 2) < (lo + hi) / 2
      · exact List.mem_cons_of_mem _ (ih1.2 e2)
      · rw [show bis f lo ((lo + hi) / 2) = (lo + hi) / 2 by (clear e q ih2 ih1; lia)]; exact List.mem_cons_self ..
    | false =>
      rw [bis_false h q, if_neg (by simp)]
      refine ⟨fun e => ?_, fun e => List.mem_cons_of_mem _ (ih2.2 e)⟩
      have := bis_ge f ((lo + hi) / 2 + 1) hi
      by_cases e2 : (lo + hi) / 2 + 1 < bis f ((lo + hi) / 2 + 1) hi
      · exact List.mem_cons_of_mem _ (ih2.1 e2)
      · rw [show bis f ((lo + hi) / 2 + 1) hi - 1 = (lo + hi) / 2 by lia]; exact List.mem_cons_self ..
  | case2 lo hi h =>
    rw [bis_cross (by lia)]
    exact ⟨fun e => by lia, fun e => by lia⟩
theorem few_step {w n m : Nat} (hw : w = 1 ∨ w % 2 = 0) (a : w ≤ 2 * m + 1) (b : m + 2 ≤ w * 2) (h1 : 2 * m ≤ n) (h2 : n ≤ 2 * m + 2) (h3 : 0 < n) : w * 2 ≤ 2 * n + 1 ∧ n + 2 ≤ w * 2 * 2 := by lia
theorem pow_even (t : Nat) : 2 ^ t = 1 ∨ 2 ^ t % 2 = 0 := by
  cases t with
  | zero => exact .inl rfl
  | succ t => exact .inr (by rw [Nat.pow_succ]; exact Nat.mul_mod_left _ _)
/-- and few are asked -/
theorem bisA_few (f : Nat → Bool) (lo hi : Nat) : 2 ^ (bisA f lo hi).length ≤ 2 * (hi - lo) + 1 ∧ (hi - lo) + 2 ≤ 2 ^ ((bisA f lo hi).length + 1) := by
  fun_induction bisA f lo hi with
  | case1 lo hi h ih1 ih2 =>
    rw [List.length_cons]
    split
    · obtain ⟨a, b⟩ := ih1
      rw [Nat.pow_succ] at b
      rw [Nat.pow_succ, Nat.pow_succ]
      exact few_step (pow_even _) a b (by (clear b a ih2; omega)) (by (clear b a ih2; lia)) (by lia)
    · obtain ⟨a, b⟩ := ih2
      rw [Nat.pow_succ] at b
      rw [Nat.pow_succ, Nat.pow_succ]
      exact few_step (pow_even _) a b (by (clear b a ih1; omega)) (by (clear b a ih1; omega)) (by lia)
  | case2 lo hi h => simp; omega
end Mine

set_option maxHeartbeats 4000000
namespace Mine
open PySem PySem.W PyProof.Rows

theorem AH.set_set (H : AH) (a : Addr) (o o' : O) : (H.set a o).set a o' = H.set a o' := by
  funext b; unfold AH.set; split <;> rfl
theorem AH.set_comm (H : AH) {a b : Addr} (o o' : O) (h : a ≠ b) : (H.set a o).set b o' = (H.set b o').set a o := by
  funext c; unfold AH.set
  by_cases h1 : c = a
  · subst h1; simp [h]
  · simp [h1]
/-- the key notes what it is asked of: HS ns is the heap when ns are noted -/
noncomputable def NoteOk (C : Cx) (A : Around) (HS : List V → AH) (g : Addr) (v kv : V) : Prop := ∀ ns, ns.length ≤ 1000 → WCall C A (.ref g) [v] [] (HS ns) (fun r H' => r = kv ∧ H' = HS (ns ++ [v]))
/-- bisect_right with a noting key -/
theorem br_note {C : Cx} {A : Around} {HS : List V → AH} {P : Params} (hK : (hd.heap_39 P).In C.base) (hlen : C.gl "len" = some (.builtin "len")) (hh : A.handled = none) (hdep : A.depth < recursionLimit)
    {args : List V} {kw : List (Str × V)} {a g : Addr} {o : Obj} {fd : FuncData} {ns0 vs : List V} {x hiV : V} {lo hi : Nat} (f : Nat → Bool)
    (hbind : ∀ vals kvs, vals.map ab = args → kvs.map (fun p => (p.1, ab p.2)) = kw → ∃ binds, (∀ s, Keep C s → BindsTo s (fdOf (hd.heap_39 P) 32) ⟨vals, kvs⟩ binds) ∧ binds.map (fun p => (p.1, ab p.2)) = ([("a", .ref a), ("x", x), ("lo", .int lo), ("hi", hiV), ("key", .ref g)] : List (Str × V)))
    (ha : ∀ ns, HS ns a = some (.list vs)) (hhi : (hiV = .none ∧ hi = vs.length) ∨ (hiV = .int hi ∧ hi ≤ vs.length)) (hfn : ∀ ns, FnAt C (HS ns) g o fd)
    (hkey : ∀ A', Nx A A' → ∀ i v, lo ≤ i → i < hi → vs[i]? = some v → ∃ kv, NoteOk C A' HS g v kv ∧ ∀ ns, LtOk C A' (HS ns) x kv (f i))
    (hn0 : ns0.length + (hi - lo) ≤ 1000)
    {Q : V → AH → Prop} (hQ : Q (.int (bis f lo hi)) (HS (ns0 ++ (bisA f lo hi).map fun i => vs.getD i .none))) : WCall C A (.ref 32) args kw (HS ns0) Q := by
  refine WCall.def (fn_in hK 32 rfl) hdep rfl (noCell rfl) (fun h k => codeRec_of (hK.keeps k) rfl) (bs := [("a", .ref a), ("x", x), ("lo", .int lo), ("hi", hiV), ("key", .ref g)]) hbind (allLocal rfl) ?_
  intro L hL
  have hNx := Nx.of A (callEnv (fdOf (hd.heap_39 P) 32) L 32)
  generalize hA' : A.deeper (callEnv (fdOf (hd.heap_39 P) 32) L 32) = A' at *
  have F : Fx C A' (callEnv (fdOf (hd.heap_39 P) 32) L 32) := ⟨rfl, rfl, rfl, hNx.2.2.trans hh⟩
  generalize hρ : (fun y => List.lookup y (([("a", .ref a), ("x", x), ("lo", .int lo), ("hi", hiV), ("key", .ref g)] : List (Str × V)).reverse)) = ρ
  have ra : ρ "a" = some (.ref a) := by rw [← hρ]; rfl
  have rx : ρ "x" = some x := by rw [← hρ]; rfl
  have rlo : ρ "lo" = some (.int lo) := by rw [← hρ]; rfl
  have rhi : ρ "hi" = some hiV := by rw [← hρ]; rfl
  have rk : ρ "key" = some (.ref g) := by rw [← hρ]; rfl
  have hhl : hi ≤ vs.length := by rcases hhi with ⟨_, q⟩ | ⟨_, q⟩ <;> lia
  refine WS.seq (W1.if (WT.of (b := false) (EvT.icmp (Ev.local F rfl rlo) Ev.int (by simp [icmp])) ⟨fun e => by simp at e, fun _ => WS.nil ⟨rfl, ?_⟩⟩))
  refine WS.seq (W1.if (WT.of (EvT.isNone (Ev.local F rfl rhi)) ?_))
  suffices goal : ∀ ρ : Lo, ρ "a" = some (.ref a) → ρ "x" = some x → ρ "lo" = some (.int lo) → ρ "hi" = some (.int hi) → ρ "key" = some (.ref g) → WS C A' (callEnv (fdOf (hd.heap_39 P) 32) L 32) ((bodyOf (fdOf (hd.heap_39 P) 32)).drop 2) ρ (HS ns0) (fun f _ H' => Q (retv f) H') by
    refine ⟨fun e => ?_, fun e => ?_⟩
    · have hn : hiV = .none := by simpa using e
      rcases hhi with ⟨_, q⟩ | ⟨q, _⟩
      · refine WS.seq (W1.asgLocal F rfl (WE.of (Ev.len (Ev.glob F rfl hlen) (Ev.local F rfl ra) (ha _) rfl) ⟨rfl, WS.nil ⟨rfl, ?_⟩⟩))
        rw [← q]
        exact goal _ ra rx rlo rfl rk
      · rw [hn] at q; cases q
    · rcases hhi with ⟨q, _⟩ | ⟨q, _⟩
      · rw [q] at e; simp at e
      · refine WS.nil ⟨rfl, ?_⟩
        exact goal _ ra rx rlo (by rw [rhi, q]) rk
  clear rlo rhi ra rx rk hρ
  intro ρ ra rx rlo rhi rk
  have hkey' := hkey A' hNx
  refine WS.seq (W1.if (WT.of (b := false) (EvT.isNone (Ev.local F rfl rk)) ⟨fun e => (by cases e), fun e => ?_⟩))
  have hAl := bisA_len f lo hi
  refine WS.seq (W1.while F (fun n ρ1 H1 => ∃ (l h : Nat) (ks : List Nat), n = h - l ∧ lo ≤ l ∧ h ≤ hi ∧ H1 = HS (ns0 ++ ks.map fun i => vs.getD i .none) ∧ ks ++ bisA f l h = bisA f lo hi ∧ ρ1 "a" = some (.ref a) ∧ ρ1 "x" = some x ∧ ρ1 "key" = some (.ref g) ∧ ρ1 "lo" = some (.int l) ∧ ρ1 "hi" = some (.int h) ∧ bis f l h = bis f lo hi) _ ⟨lo, hi, [], rfl, Nat.le_refl _, Nat.le_refl _, by simp, rfl, ra, rx, rk, rlo, rhi, rfl⟩ ?_)
  rintro n ρ1 H1 ⟨l, h, ks, rfl, hle, hhi', rfl, hks, ra, rx, rk, rlo, rhi, hb⟩
  have hkl : ks.length ≤ (bisA f lo hi).length := by rw [← hks, List.length_append]; exact Nat.le_add_right _ _
  refine WT.of (EvT.icmp (Ev.local F rfl rlo) (Ev.local F rfl rhi) rfl) ⟨fun e => ?_, fun e => ?_⟩
  · have hlt' : l < h := by simpa using e
    have hmid : ((l : Int) + (h : Int)).fdiv 2 = ((l + h) / 2 : Nat) := by
      rw [Int.fdiv_eq_ediv_of_nonneg _ (by decide)]; lia
    refine WS.seq (W1.asgLocal F rfl (WE.of (Ev.fdiv (Ev.add (Ev.local F rfl rlo) (Ev.local F rfl rhi)) Ev.int (by decide) (by decide)) ?_))
    rw [hmid]
    refine ⟨rfl, ?_⟩
    have hm : (l + h) / 2 < vs.length := by omega
    obtain ⟨kv, hkv, hlk⟩ := hkey' ((l + h) / 2) vs[(l + h) / 2] (by omega) (by omega) (List.getElem?_eq_getElem hm)
    have hg : vs.getD ((l + h) / 2) .none = vs[(l + h) / 2] := by rw [List.getD_eq_getElem?_getD, List.getElem?_eq_getElem hm]; rfl
    have hns : ns0 ++ ks.map (fun i => vs.getD i .none) ++ [vs[(l + h) / 2]] = ns0 ++ (ks ++ [(l + h) / 2]).map (fun i => vs.getD i .none) := by rw [List.map_append, List.map_singleton, hg, List.append_assoc]
    have hcall : ∀ ρ2 : Lo, ρ2 "a" = some (.ref a) → ρ2 "key" = some (.ref g) → ρ2 "mid" = some (.int ((l + h) / 2 : Nat)) → ∀ {p1 p2 p3 p4 p5 p6 : Pos}, ∀ {Q' : V → AH → Prop}, Q' kv (HS (ns0 ++ (ks ++ [(l + h) / 2]).map fun i => vs.getD i .none)) → WE C A' (callEnv (fdOf (hd.heap_39 P) 32) L 32) (.Call (.Name "key" p1) [.Subscript (.Name "a" p2) (.Name "mid" p3) p4] [] p5) ρ2 (HS (ns0 ++ ks.map fun i => vs.getD i .none)) Q' := fun ρ2 q1 q2 q3 p1 p2 p3 p4 p5 p6 Q' hq => by
      refine WE.callFn (o := o) (fd := fd) (Ev.local F rfl q2) (WEs.of (.cons (Ev.item (v := vs[(l + h) / 2]) (Ev.local F rfl q1) (Ev.local F rfl q3) (ha _) rfl (by lia) (by rw [Int.toNat_natCast]; exact List.getElem?_eq_getElem hm)) .nil) (WKs.nil ⟨hfn _, WCall.mono (hkv _ (by simp; lia)) ?_⟩))
      rintro r H' ⟨rfl, rfl⟩
      rw [hns]; exact hq
    refine WS.seq (W1.if (WT.cmp (WE.of (Ev.local F rfl rx) (hcall _ (by exact ra) (by exact rk) rfl (p6 := ⟨0, 0, 0, 0⟩) fun y z ey ez => W.mono (hlk _ _ _ y z ey ez) ?_))))
    rintro _ _ _ ⟨rfl, rfl, rfl⟩
    refine ⟨rfl, _, rfl, fun e2 => ?_, fun e2 => ?_⟩
    · refine WS.seq (W1.asgLocal F rfl (WE.of (Ev.local F rfl rfl) ⟨rfl, WS.nil ⟨rfl, WS.nil ⟨(l + h) / 2 - l, by omega, l, (l + h) / 2, ks ++ [(l + h) / 2], rfl, by omega, by omega, rfl, ?_, ra, rx, rk, rlo, rfl, ?_⟩⟩⟩))
      · rw [← hks, bisA_true hlt' e2, List.append_assoc]; rfl
      · rw [← hb, bis_true hlt' e2]
    · refine WS.seq (W1.asgLocal F rfl (WE.of (Ev.add (Ev.local F rfl rfl) Ev.int) ⟨rfl, WS.nil ⟨rfl, WS.nil ⟨h - ((l + h) / 2 + 1), by omega, (l + h) / 2 + 1, h, ks ++ [(l + h) / 2], rfl, by omega, by omega, rfl, ?_, ra, rx, rk, rfl, rhi, ?_⟩⟩⟩))
      · rw [← hks, bisA_false hlt' e2, List.append_assoc]; rfl
      · rw [← hb, bis_false hlt' e2]
  · have hge : ¬ l < h := by simpa using e
    have hks' : ks = bisA f lo hi := by rw [← hks, bisA_cross (by omega)]; simp
    rw [← hb, bis_cross (by omega), ← hks'] at hQ
    exact ⟨rfl, WS.nil ⟨rfl, WS.cons (W1.ret (WE.of (Ev.local F rfl rlo) hQ))⟩⟩
/-- bisect_left with a noting key -/
theorem bl_note {C : Cx} {A : Around} {HS : List V → AH} {P : Params} (hK : (hd.heap_39 P).In C.base) (hlen : C.gl "len" = some (.builtin "len")) (hh : A.handled = none) (hdep : A.depth < recursionLimit)
    {args : List V} {kw : List (Str × V)} {a g : Addr} {o : Obj} {fd : FuncData} {ns0 vs : List V} {x hiV : V} {lo hi : Nat} (f : Nat → Bool)
    (hbind : ∀ vals kvs, vals.map ab = args → kvs.map (fun p => (p.1, ab p.2)) = kw → ∃ binds, (∀ s, Keep C s → BindsTo s (fdOf (hd.heap_39 P) 50) ⟨vals, kvs⟩ binds) ∧ binds.map (fun p => (p.1, ab p.2)) = ([("a", .ref a), ("x", x), ("lo", .int lo), ("hi", hiV), ("key", .ref g)] : List (Str × V)))
    (ha : ∀ ns, HS ns a = some (.list vs)) (hhi : (hiV = .none ∧ hi = vs.length) ∨ (hiV = .int hi ∧ hi ≤ vs.length)) (hfn : ∀ ns, FnAt C (HS ns) g o fd)
    (hkey : ∀ A', Nx A A' → ∀ i v, lo ≤ i → i < hi → vs[i]? = some v → ∃ kv, NoteOk C A' HS g v kv ∧ ∀ ns, LtOk C A' (HS ns) kv x (!f i))
    (hn0 : ns0.length + (hi - lo) ≤ 1000)
    {Q : V → AH → Prop} (hQ : Q (.int (bis f lo hi)) (HS (ns0 ++ (bisA f lo hi).map fun i => vs.getD i .none))) : WCall C A (.ref 50) args kw (HS ns0) Q := by
  refine WCall.def (fn_in hK 50 rfl) hdep rfl (noCell rfl) (fun h k => codeRec_of (hK.keeps k) rfl) (bs := [("a", .ref a), ("x", x), ("lo", .int lo), ("hi", hiV), ("key", .ref g)]) hbind (allLocal rfl) ?_
  intro L hL
  have hNx := Nx.of A (callEnv (fdOf (hd.heap_39 P) 50) L 50)
  generalize hA' : A.deeper (callEnv (fdOf (hd.heap_39 P) 50) L 50) = A' at *
  have F : Fx C A' (callEnv (fdOf (hd.heap_39 P) 50) L 50) := ⟨rfl, rfl, rfl, hNx.2.2.trans hh⟩
  generalize hρ : (fun y => List.lookup y (([("a", .ref a), ("x", x), ("lo", .int lo), ("hi", hiV), ("key", .ref g)] : List (Str × V)).reverse)) = ρ
  have ra : ρ "a" = some (.ref a) := by rw [← hρ]; rfl
  have rx : ρ "x" = some x := by rw [← hρ]; rfl
  have rlo : ρ "lo" = some (.int lo) := by rw [← hρ]; rfl
  have rhi : ρ "hi" = some hiV := by rw [← hρ]; rfl
  have rk : ρ "key" = some (.ref g) := by rw [← hρ]; rfl
  have hhl : hi ≤ vs.length := by rcases hhi with ⟨_, q⟩ | ⟨_, q⟩ <;> lia
  refine WS.seq (W1.if (WT.of (b := false) (EvT.icmp (Ev.local F rfl rlo) Ev.int (by simp [icmp])) ⟨fun e => by simp at e, fun _ => WS.nil ⟨rfl, ?_⟩⟩))
  refine WS.seq (W1.if (WT.of (EvT.isNone (Ev.local F rfl rhi)) ?_))
  suffices goal : ∀ ρ : Lo, ρ "a" = some (.ref a) → ρ "x" = some x → ρ "lo" = some (.int lo) → ρ "hi" = some (.int hi) → ρ "key" = some (.ref g) → WS C A' (callEnv (fdOf (hd.heap_39 P) 50) L 50) ((bodyOf (fdOf (hd.heap_39 P) 50)).drop 2) ρ (HS ns0) (fun f _ H' => Q (retv f) H') by
    refine ⟨fun e => ?_, fun e => ?_⟩
    · have hn : hiV = .none := by simpa using e
      rcases hhi with ⟨_, q⟩ | ⟨q, _⟩
      · refine WS.seq (W1.asgLocal F rfl (WE.of (Ev.len (Ev.glob F rfl hlen) (Ev.local F rfl ra) (ha _) rfl) ⟨rfl, WS.nil ⟨rfl, ?_⟩⟩))
        rw [← q]
        exact goal _ ra rx rlo rfl rk
      · rw [hn] at q; cases q
    · rcases hhi with ⟨q, _⟩ | ⟨q, _⟩
      · rw [q] at e; simp at e
      · refine WS.nil ⟨rfl, ?_⟩
        exact goal _ ra rx rlo (by rw [rhi, q]) rk
  clear rlo rhi ra rx rk hρ
  intro ρ ra rx rlo rhi rk
  have hkey' := hkey A' hNx
  refine WS.seq (W1.if (WT.of (b := false) (EvT.isNone (Ev.local F rfl rk)) ⟨fun e => (by cases e), fun e => ?_⟩))
  have hAl := bisA_len f lo hi
  refine WS.seq (W1.while F (fun n ρ1 H1 => ∃ (l h : Nat) (ks : List Nat), n = h - l ∧ lo ≤ l ∧ h ≤ hi ∧ H1 = HS (ns0 ++ ks.map fun i => vs.getD i .none) ∧ ks ++ bisA f l h = bisA f lo hi ∧ ρ1 "a" = some (.ref a) ∧ ρ1 "x" = some x ∧ ρ1 "key" = some (.ref g) ∧ ρ1 "lo" = some (.int l) ∧ ρ1 "hi" = some (.int h) ∧ bis f l h = bis f lo hi) _ ⟨lo, hi, [], rfl, Nat.le_refl _, Nat.le_refl _, by simp, rfl, ra, rx, rk, rlo, rhi, rfl⟩ ?_)
  rintro n ρ1 H1 ⟨l, h, ks, rfl, hle, hhi', rfl, hks, ra, rx, rk, rlo, rhi, hb⟩
  have hkl : ks.length ≤ (bisA f lo hi).length := by rw [← hks, List.length_append]; exact Nat.le_add_right _ _
  refine WT.of (EvT.icmp (Ev.local F rfl rlo) (Ev.local F rfl rhi) rfl) ⟨fun e => ?_, fun e => ?_⟩
  · have hlt' : l < h := by simpa using e
    have hmid : ((l : Int) + (h : Int)).fdiv 2 = ((l + h) / 2 : Nat) := by
      rw [Int.fdiv_eq_ediv_of_nonneg _ (by decide)]; lia
    refine WS.seq (W1.asgLocal F rfl (WE.of (Ev.fdiv (Ev.add (Ev.local F rfl rlo) (Ev.local F rfl rhi)) Ev.int (by decide) (by decide)) ?_))
    rw [hmid]
    refine ⟨rfl, ?_⟩
    have hm : (l + h) / 2 < vs.length := by omega
    obtain ⟨kv, hkv, hlk⟩ := hkey' ((l + h) / 2) vs[(l + h) / 2] (by omega) (by omega) (List.getElem?_eq_getElem hm)
    have hg : vs.getD ((l + h) / 2) .none = vs[(l + h) / 2] := by rw [List.getD_eq_getElem?_getD, List.getElem?_eq_getElem hm]; rfl
    have hns : ns0 ++ ks.map (fun i => vs.getD i .none) ++ [vs[(l + h) / 2]] = ns0 ++ (ks ++ [(l + h) / 2]).map (fun i => vs.getD i .none) := by rw [List.map_append, List.map_singleton, hg, List.append_assoc]
    have hcall : ∀ ρ2 : Lo, ρ2 "a" = some (.ref a) → ρ2 "key" = some (.ref g) → ρ2 "mid" = some (.int ((l + h) / 2 : Nat)) → ∀ {p1 p2 p3 p4 p5 p6 : Pos}, ∀ {Q' : V → AH → Prop}, Q' kv (HS (ns0 ++ (ks ++ [(l + h) / 2]).map fun i => vs.getD i .none)) → WE C A' (callEnv (fdOf (hd.heap_39 P) 50) L 50) (.Call (.Name "key" p1) [.Subscript (.Name "a" p2) (.Name "mid" p3) p4] [] p5) ρ2 (HS (ns0 ++ ks.map fun i => vs.getD i .none)) Q' := fun ρ2 q1 q2 q3 p1 p2 p3 p4 p5 p6 Q' hq => by
      refine WE.callFn (o := o) (fd := fd) (Ev.local F rfl q2) (WEs.of (.cons (Ev.item (v := vs[(l + h) / 2]) (Ev.local F rfl q1) (Ev.local F rfl q3) (ha _) rfl (by lia) (by rw [Int.toNat_natCast]; exact List.getElem?_eq_getElem hm)) .nil) (WKs.nil ⟨hfn _, WCall.mono (hkv _ (by simp; lia)) ?_⟩))
      rintro r H' ⟨rfl, rfl⟩
      rw [hns]; exact hq
    refine WS.seq (W1.if (WT.cmp (hcall _ (by exact ra) (by exact rk) rfl (p6 := ⟨0, 0, 0, 0⟩) (WE.of (Ev.local F rfl rx) fun y z ey ez => W.mono (hlk _ _ _ y z ey ez) ?_))))
    rintro _ _ _ ⟨rfl, rfl, rfl⟩
    refine ⟨rfl, _, rfl, fun e2 => ?_, fun e2 => ?_⟩
    · refine WS.seq (W1.asgLocal F rfl (WE.of (Ev.add (Ev.local F rfl rfl) Ev.int) ⟨rfl, WS.nil ⟨rfl, WS.nil ⟨h - ((l + h) / 2 + 1), by omega, (l + h) / 2 + 1, h, ks ++ [(l + h) / 2], rfl, by omega, by omega, rfl, ?_, ra, rx, rk, rfl, rhi, ?_⟩⟩⟩))
      · rw [← hks, bisA_false hlt' (by simpa using e2), List.append_assoc]; rfl
      · rw [← hb, bis_false hlt' (by simpa using e2)]
    · refine WS.seq (W1.asgLocal F rfl (WE.of (Ev.local F rfl rfl) ⟨rfl, WS.nil ⟨rfl, WS.nil ⟨(l + h) / 2 - l, by omega, l, (l + h) / 2, ks ++ [(l + h) / 2], rfl, by omega, by omega, rfl, ?_, ra, rx, rk, rlo, rfl, ?_⟩⟩⟩))
      · rw [← hks, bisA_true hlt' (by simpa using e2), List.append_assoc]; rfl
      · rw [← hb, bis_true hlt' (by simpa using e2)]
  · have hge : ¬ l < h := by simpa using e
    have hks' : ks = bisA f lo hi := by rw [← hks, bisA_cross (by omega)]; simp
    rw [← hb, bis_cross (by omega), ← hks'] at hQ
    exact ⟨rfl, WS.nil ⟨rfl, WS.cons (W1.ret (WE.of (Ev.local F rfl rlo) hQ))⟩⟩
/-- insort_right with a noting key -/
theorem ir_note {C : Cx} {A : Around} {HS : List V → AH} {P : Params} (hK : (hd.heap_39 P).In C.base) (hlen : C.gl "len" = some (.builtin "len")) (hbr : C.gl "bisect_right" = some (.ref 32)) (hh : A.handled = none) (hdep : A.depth + 2 < recursionLimit)
    {args : List V} {kw : List (Str × V)} {a g : Addr} {o : Obj} {fd : FuncData} {ns0 vs : List V} {x kx hiV : V} {lo hi : Nat} (f : Nat → Bool)
    (hbind : ∀ vals kvs, vals.map ab = args → kvs.map (fun p => (p.1, ab p.2)) = kw → ∃ binds, (∀ s, Keep C s → BindsTo s (fdOf (hd.heap_39 P) 23) ⟨vals, kvs⟩ binds) ∧ binds.map (fun p => (p.1, ab p.2)) = ([("a", .ref a), ("x", x), ("lo", .int lo), ("hi", hiV), ("key", .ref g)] : List (Str × V)))
    (ha : ∀ ns, HS ns a = some (.list vs)) (hz : vs.length < sizeLine) (hlh : bis f lo hi ≤ vs.length) (hhi : (hiV = .none ∧ hi = vs.length) ∨ (hiV = .int hi ∧ hi ≤ vs.length)) (hfn : ∀ ns, FnAt C (HS ns) g o fd)
    (hkx : ∀ A', Nx A A' → NoteOk C A' HS g x kx)
    (hkey : ∀ A' A'', Nx A A' → Nx A' A'' → ∀ i v, lo ≤ i → i < hi → vs[i]? = some v → ∃ kv, NoteOk C A'' HS g v kv ∧ ∀ ns, LtOk C A'' (HS ns) kx kv (f i))
    (hn0 : ns0.length + 1 + (hi - lo) ≤ 1000)
    {Q : V → AH → Prop} (hQ : Q .none ((HS (ns0 ++ x :: (bisA f lo hi).map fun i => vs.getD i .none)).set a (.list (vs.take (bis f lo hi) ++ x :: vs.drop (bis f lo hi))))) : WCall C A (.ref 23) args kw (HS ns0) Q := by
  refine WCall.def (fn_in hK 23 rfl) (by lia) rfl (noCell rfl) (fun h k => codeRec_of (hK.keeps k) rfl) (bs := [("a", .ref a), ("x", x), ("lo", .int lo), ("hi", hiV), ("key", .ref g)]) hbind (allLocal rfl) ?_
  intro L hL
  have hNx := Nx.of A (callEnv (fdOf (hd.heap_39 P) 23) L 23)
  generalize hA' : A.deeper (callEnv (fdOf (hd.heap_39 P) 23) L 23) = A' at *
  have F : Fx C A' (callEnv (fdOf (hd.heap_39 P) 23) L 23) := ⟨rfl, rfl, rfl, hNx.2.2.trans hh⟩
  have hdep' : A'.depth < recursionLimit := by rw [hNx.1]; lia
  generalize hρ : (fun y => List.lookup y (([("a", .ref a), ("x", x), ("lo", .int lo), ("hi", hiV), ("key", .ref g)] : List (Str × V)).reverse)) = ρ
  have ra : ρ "a" = some (.ref a) := by rw [← hρ]; rfl
  have rx : ρ "x" = some x := by rw [← hρ]; rfl
  have rlo : ρ "lo" = some (.int lo) := by rw [← hρ]; rfl
  have rhi : ρ "hi" = some hiV := by rw [← hρ]; rfl
  have rk : ρ "key" = some (.ref g) := by rw [← hρ]; rfl
  refine WS.seq (W1.if (WT.of (b := false) (EvT.isNone (Ev.local F rfl rk)) ⟨fun e => (by cases e), fun e => ?_⟩))
  refine WS.seq (W1.asgLocal F rfl (WE.callB (fun _ => fn_in hK 32 rfl) (Ev.glob F rfl hbr) (WEs.cons (WE.of (Ev.local F rfl ra) (WEs.cons (WE.callFn (o := o) (fd := fd) (Ev.local F rfl rk) (WEs.of (.cons (Ev.local F rfl rx) .nil) (WKs.nil ⟨hfn _, WCall.mono (hkx A' hNx ns0 (by lia)) ?_⟩))))))))
  rintro r H' ⟨rfl, rfl⟩
  refine WEs.of (.cons (Ev.local F rfl rlo) (.cons (Ev.local F rfl rhi) .nil)) (WKs.one (WE.of (Ev.local F rfl rk) (br_note hK hlen F.hh hdep' (x := r) (lo := lo) (hi := hi) (hiV := hiV) f ?_ ha hhi hfn (fun A'' hA'' => hkey A' A'' hNx hA'') (by simp; lia) ⟨rfl, WS.nil ⟨rfl, ?_⟩⟩)))
  · intro vals kvs e1 e2
    obtain ⟨x1, x2, x3, x4, rfl, y1, y2, y3, y4⟩ := vals4 e1
    obtain ⟨x5, rfl, y5⟩ := kw1 e2
    refine ⟨[("a", x1), ("x", x2), ("lo", x3), ("hi", x4), ("key", x5)], fun s hs => kp_binds (hK.keeps hs) (fun S => by kernel_rfl), ?_⟩
    show [(_, ab x1), (_, ab x2), (_, ab x3), (_, ab x4), (_, ab x5)] = _
    rw [y1, y2, y3, y4, y5]
  have hns : ns0 ++ [x] ++ (bisA f lo hi).map (fun i => vs.getD i .none) = ns0 ++ x :: (bisA f lo hi).map (fun i => vs.getD i .none) := by simp
  rw [hns]
  refine WS.cons (W1.expr F (WE.listMeth PySem.F.slot_list_insert rfl (WE.of (Ev.local F rfl (by exact ra)) ⟨a, _, rfl, ha _, WEs.of (.cons (Ev.local F rfl rfl) (.cons (Ev.local F rfl (by exact rx)) .nil)) (WCall.insert (ha _) hlh hz ⟨(by intro a e; cases e), WS.nil hQ⟩)⟩)))
/-- insort_left with a noting key -/
theorem il_note {C : Cx} {A : Around} {HS : List V → AH} {P : Params} (hK : (hd.heap_39 P).In C.base) (hlen : C.gl "len" = some (.builtin "len")) (hbr : C.gl "bisect_left" = some (.ref 50)) (hh : A.handled = none) (hdep : A.depth + 2 < recursionLimit)
    {args : List V} {kw : List (Str × V)} {a g : Addr} {o : Obj} {fd : FuncData} {ns0 vs : List V} {x kx hiV : V} {lo hi : Nat} (f : Nat → Bool)
    (hbind : ∀ vals kvs, vals.map ab = args → kvs.map (fun p => (p.1, ab p.2)) = kw → ∃ binds, (∀ s, Keep C s → BindsTo s (fdOf (hd.heap_39 P) 41) ⟨vals, kvs⟩ binds) ∧ binds.map (fun p => (p.1, ab p.2)) = ([("a", .ref a), ("x", x), ("lo", .int lo), ("hi", hiV), ("key", .ref g)] : List (Str × V)))
    (ha : ∀ ns, HS ns a = some (.list vs)) (hz : vs.length < sizeLine) (hlh : bis f lo hi ≤ vs.length) (hhi : (hiV = .none ∧ hi = vs.length) ∨ (hiV = .int hi ∧ hi ≤ vs.length)) (hfn : ∀ ns, FnAt C (HS ns) g o fd)
    (hkx : ∀ A', Nx A A' → NoteOk C A' HS g x kx)
    (hkey : ∀ A' A'', Nx A A' → Nx A' A'' → ∀ i v, lo ≤ i → i < hi → vs[i]? = some v → ∃ kv, NoteOk C A'' HS g v kv ∧ ∀ ns, LtOk C A'' (HS ns) kv kx (!f i))
    (hn0 : ns0.length + 1 + (hi - lo) ≤ 1000)
    {Q : V → AH → Prop} (hQ : Q .none ((HS (ns0 ++ x :: (bisA f lo hi).map fun i => vs.getD i .none)).set a (.list (vs.take (bis f lo hi) ++ x :: vs.drop (bis f lo hi))))) : WCall C A (.ref 41) args kw (HS ns0) Q := by
  refine WCall.def (fn_in hK 41 rfl) (by lia) rfl (noCell rfl) (fun h k => codeRec_of (hK.keeps k) rfl) (bs := [("a", .ref a), ("x", x), ("lo", .int lo), ("hi", hiV), ("key", .ref g)]) hbind (allLocal rfl) ?_
  intro L hL
  have hNx := Nx.of A (callEnv (fdOf (hd.heap_39 P) 41) L 41)
  generalize hA' : A.deeper (callEnv (fdOf (hd.heap_39 P) 41) L 41) = A' at *
  have F : Fx C A' (callEnv (fdOf (hd.heap_39 P) 41) L 41) := ⟨rfl, rfl, rfl, hNx.2.2.trans hh⟩
  have hdep' : A'.depth < recursionLimit := by rw [hNx.1]; lia
  generalize hρ : (fun y => List.lookup y (([("a", .ref a), ("x", x), ("lo", .int lo), ("hi", hiV), ("key", .ref g)] : List (Str × V)).reverse)) = ρ
  have ra : ρ "a" = some (.ref a) := by rw [← hρ]; rfl
  have rx : ρ "x" = some x := by rw [← hρ]; rfl
  have rlo : ρ "lo" = some (.int lo) := by rw [← hρ]; rfl
  have rhi : ρ "hi" = some hiV := by rw [← hρ]; rfl
  have rk : ρ "key" = some (.ref g) := by rw [← hρ]; rfl
  refine WS.seq (W1.if (WT.of (b := false) (EvT.isNone (Ev.local F rfl rk)) ⟨fun e => (by cases e), fun e => ?_⟩))
  refine WS.seq (W1.asgLocal F rfl (WE.callB (fun _ => fn_in hK 50 rfl) (Ev.glob F rfl hbr) (WEs.cons (WE.of (Ev.local F rfl ra) (WEs.cons (WE.callFn (o := o) (fd := fd) (Ev.local F rfl rk) (WEs.of (.cons (Ev.local F rfl rx) .nil) (WKs.nil ⟨hfn _, WCall.mono (hkx A' hNx ns0 (by lia)) ?_⟩))))))))
  rintro r H' ⟨rfl, rfl⟩
  refine WEs.of (.cons (Ev.local F rfl rlo) (.cons (Ev.local F rfl rhi) .nil)) (WKs.one (WE.of (Ev.local F rfl rk) (bl_note hK hlen F.hh hdep' (x := r) (lo := lo) (hi := hi) (hiV := hiV) f ?_ ha hhi hfn (fun A'' hA'' => hkey A' A'' hNx hA'') (by simp; lia) ⟨rfl, WS.nil ⟨rfl, ?_⟩⟩)))
  · intro vals kvs e1 e2
    obtain ⟨x1, x2, x3, x4, rfl, y1, y2, y3, y4⟩ := vals4 e1
    obtain ⟨x5, rfl, y5⟩ := kw1 e2
    refine ⟨[("a", x1), ("x", x2), ("lo", x3), ("hi", x4), ("key", x5)], fun s hs => kp_binds (hK.keeps hs) (fun S => by kernel_rfl), ?_⟩
    show [(_, ab x1), (_, ab x2), (_, ab x3), (_, ab x4), (_, ab x5)] = _
    rw [y1, y2, y3, y4, y5]
  have hns : ns0 ++ [x] ++ (bisA f lo hi).map (fun i => vs.getD i .none) = ns0 ++ x :: (bisA f lo hi).map (fun i => vs.getD i .none) := by simp
  rw [hns]
  refine WS.cons (W1.expr F (WE.listMeth PySem.F.slot_list_insert rfl (WE.of (Ev.local F rfl (by exact ra)) ⟨a, _, rfl, ha _, WEs.of (.cons (Ev.local F rfl rfl) (.cons (Ev.local F rfl (by exact rx)) .nil)) (WCall.insert (ha _) hlh hz ⟨(by intro a e; cases e), WS.nil hQ⟩)⟩)))
end Mine

set_option maxHeartbeats 4000000
namespace Mine
open PySem PySem.W PyProof.Rows

structure Gl09 (C : Cx) : Prop where
  len : C.gl "len" = some (.builtin "len")
  range : C.gl "range" = some (.type "range")
  abs : C.gl "abs" = some (.builtin "abs")
  isi : C.gl "isinstance" = some (.builtin "isinstance")
  list : C.gl "list" = some (.type "list")
  type : C.gl "type" = some (.type "type")
  int : C.gl "int" = some (.type "int")
  str : C.gl "str" = some (.type "str")
  ve : C.gl "ValueError" = some (.type "ValueError")
  ir : C.gl "insort_right" = some (.ref 23)
  br : C.gl "bisect_right" = some (.ref 32)
  il : C.gl "insort_left" = some (.ref 41)
  bl : C.gl "bisect_left" = some (.ref 50)
  noted : C.gl "_law_noted" = some (.ref 57)
  search : C.gl "_law_search" = some (.ref 64)
  put : C.gl "_law_put" = some (.ref 71)
  few : C.gl "_law_few" = some (.ref 76)
  refused : C.gl "_law_refused" = some (.ref 83)
section
variable {C : Cx} {A : Around} {ρ : Lo} {H : AH} {P : Params} {env : Env}
theorem WCall.isList {a : Addr} {vs : List V} {Q : V → AH → Prop} (hH : H a = some (.list vs)) (h : Q (.bool true) H) : WCall C A (.bi "isinstance") [.ref a, .ty "list"] [] H Q := by
  intro L ρ fv vals kvs e1 e2 e3
  cases ab_bi e1
  obtain ⟨x, y, rfl, ex, ey⟩ := vals2 e2
  cases ab_ref ex
  cases ab_ty ey
  have : kvs = [] := by simpa using e3
  subst this
  intro s hs
  obtain ⟨xs, ⟨o, ho, hc, _⟩, _⟩ := hs.list hH rfl
  exact PySem.IsiPair.list_list ho hc ⟨ρ, H, hs, .refl .., rfl, h⟩
theorem noted_spec (hK : (hd.heap_39 P).In C.base) (G : Gl09 C) (hS : Sm A) {N T : Addr} {ns vs : List V} {k : Int} (hN : H N = some (.list ns)) (hT : H T = some (.list (.int k :: vs))) (hne : T ≠ N) (hz : ns.length ≤ 1000)
    {Q : V → AH → Prop} (hQ : Q (.int k) (H.set N (.list (ns ++ [.ref T])))) : WCall C A (.ref 57) [.ref N, .ref T] [] H Q := by
  have hsz : 1000 < sizeLine := by decide
  refine WCall.def (fn_in hK 57 rfl) hS.2.1 rfl (noCell rfl) (fun h k => codeRec_of (hK.keeps k) rfl) (bs := [("notes", .ref N), ("thing", .ref T)]) (by
    intro vals kvs e1 e2
    obtain ⟨x, y, rfl, y1, y2⟩ := vals2 e1
    cases ab_nil e2
    exact ⟨[("notes", x), ("thing", y)], fun s hs => kp_binds (hK.keeps hs) (fun S => by kernel_rfl), by show [(_, ab x), (_, ab y)] = _; rw [y1, y2]⟩) (allLocal rfl) ?_
  intro L hL
  have F : Fx C (A.deeper (callEnv (fdOf (hd.heap_39 P) 57) L 57)) (callEnv (fdOf (hd.heap_39 P) 57) L 57) := ⟨rfl, rfl, rfl, hS.1⟩
  refine WS.seq (W1.expr F (WE.listMeth PySem.F.slot_list_append rfl (WE.of (Ev.local F rfl rfl) ⟨N, _, rfl, hN, WEs.of (.cons (Ev.local F rfl rfl) .nil) (WCall.append hN (by lia) ⟨(by intro a e; cases e), rfl, ?_⟩)⟩)))
  have hT' : (H.set N (.list (ns ++ [.ref T]))) T = some (.list (.int k :: vs)) := by rw [AH.set_ne _ _ hne]; exact hT
  refine WS.cons (W1.ret (WE.of (v := .int k) (Ev.ifexp (c := true) (EvT.of (v := .bool true) (WE.ev (WE.callBi (Ev.glob F rfl G.isi) (WEs.of (.cons (Ev.local F rfl rfl) (.cons (Ev.glob F rfl G.list) .nil)) (WKs.nil (WCall.isList hT' ⟨rfl, rfl⟩))))) rfl (by intro x e; cases e)) (fun _ => Ev.item (k := 0) (Ev.local F rfl rfl) Ev.int hT' rfl (by lia) rfl) (fun e => by cases e)) hQ))
/-- lambda thing: _law_noted(asked, thing) -/
theorem note_lam (hK : (hd.heap_39 P).In C.base) (G : Gl09 C) (hS : Sm A) (hS2 : A.depth + 1 < recursionLimit) (hS3 : A.units + 3 < cLine) {g c' cl N T : Addr} {nm : Str} {fd : FuncData} {p1 p2 p3 p4 : Pos} {ns vs : List V} {k : Int}
    (hg : H g = some (.fn fd)) (hb : fd.body = .expr (.Call (.Name "_law_noted" p1) [.Name nm p2, .Name "thing" p3] [] p4)) (hc : fd.code = .ref c') (hcH : H c' = some (.code fd.qualname))
    (hcell : ∀ x ∈ fd.scope.names, x.2 ≠ .cell) (hbd : ∀ x : Value, bindArgs fd ⟨[x], []⟩ = pure [(("thing" : Str), x)]) (hloc : fd.scope.names.lookup ("thing" : Str) = some .local) (hk : fd.scope.kind = .function) (hgl : fd.globals = mainGlobals) (hbu : fd.builtins = builtinsNs)
    (hnl : fd.scope.names.lookup ("_law_noted" : Str) = some .globalImplicit) (hfree : fd.scope.names.lookup nm = some .free) (hcl : fd.closure.lookup nm = some cl) (hd1 : (nm == ("__debug__" : Str)) = false) (hd2 : (nm == ("__classdict__" : Str)) = false)
    (hco : fd.scope.isCoroutine = false) (hgen : fd.scope.isGenerator = false)
    (hcell2 : H cl = some (.cell (some (.ref N)))) (hN : H N = some (.list ns)) (hT : H T = some (.list (.int k :: vs))) (hne : T ≠ N) (hz : ns.length ≤ 1000) : WCall C A (.ref g) [.ref T] [] H (fun r H' => r = .int k ∧ H' = H.set N (.list (ns ++ [.ref T]))) := by
  refine WCall.lam (bs := [("thing", .ref T)]) hg hS.2.1 hb hc hcH hcell ?_ (by simpa using hloc) ?_ hco hgen hk
  · intro vals e
    obtain ⟨x, rfl, ex⟩ := vals1 e
    exact ⟨_, hbd x, by show [(_, ab x)] = _; rw [ex]⟩
  · intro L' hL'
    have F : Fx C (A.deeper (lamEnv fd L' g)) (lamEnv fd L' g) := ⟨hk, hgl, hbu, hS.1⟩
    exact WE.callB (fun _ => fn_in hK 57 rfl) (Ev.glob F hnl G.noted) (WEs.of (.cons (Ev.free F hfree hcl hcell2 hd1 hd2) (.cons (Ev.local F hloc rfl) .nil)) (WKs.nil (noted_spec (A := A.deeper (lamEnv fd L' g)) hK G ⟨hS.1, hS2, hS3⟩ hN hT hne hz ⟨rfl, rfl⟩)))

/-! ## search, put -/
noncomputable def loV (bv : List V) : V := bv.getD 0 (.int (0 : Nat))
noncomputable def hiV (bv : List V) : V := bv.getD 1 .none
theorem bind_b (hK : (hd.heap_39 P).In C.base) (f : Addr) (hf : f = 23 ∨ f = 32 ∨ f = 41 ∨ f = 50) {a x keyV : V} {bv : List V} (hbv : bv.length ≤ 2) : ∀ (vals : List Value) (kvs : List (Str × Value)), vals.map ab = a :: x :: bv → kvs.map (fun p => (p.1, ab p.2)) = ([("key", keyV)] : List (Str × V)) → ∃ binds, (∀ s, Keep C s → BindsTo s (fdOf (hd.heap_39 P) f) ⟨vals, kvs⟩ binds) ∧ binds.map (fun p => (p.1, ab p.2)) = ([("a", a), ("x", x), ("lo", loV bv), ("hi", hiV bv), ("key", keyV)] : List (Str × V)) := by
  intro vals kvs e1 e2
  obtain ⟨x5, rfl, y5⟩ := kw1 e2
  match bv, hbv with
  | [], _ =>
    obtain ⟨x1, x2, rfl, y1, y2⟩ := vals2 e1
    have e : ∀ t, ([("a", x1), ("x", x2), ("lo", .int 0 t), ("hi", .none), ("key", x5)] : List (Str × Value)).map (fun p => (p.1, ab p.2)) = ([("a", a), ("x", x), ("lo", loV []), ("hi", hiV []), ("key", keyV)] : List (Str × V)) := fun t => by
      show [(_, ab x1), (_, ab x2), _, _, (_, ab x5)] = _
      rw [y1, y2, y5]; rfl
    rcases hf with rfl | rfl | rfl | rfl
    · exact ⟨[("a", x1), ("x", x2), ("lo", .int 0 189), ("hi", .none), ("key", x5)], fun s hs => kp_binds (hK.keeps hs) (fun S => by kernel_rfl), e _⟩
    · exact ⟨[("a", x1), ("x", x2), ("lo", .int 0 202), ("hi", .none), ("key", x5)], fun s hs => kp_binds (hK.keeps hs) (fun S => by kernel_rfl), e _⟩
    · exact ⟨[("a", x1), ("x", x2), ("lo", .int 0 216), ("hi", .none), ("key", x5)], fun s hs => kp_binds (hK.keeps hs) (fun S => by kernel_rfl), e _⟩
    · exact ⟨[("a", x1), ("x", x2), ("lo", .int 0 229), ("hi", .none), ("key", x5)], fun s hs => kp_binds (hK.keeps hs) (fun S => by kernel_rfl), e _⟩
  | [lo], _ =>
    obtain ⟨x1, x2, x3, rfl, y1, y2, y3⟩ := vals3 e1
    refine ⟨[("a", x1), ("x", x2), ("lo", x3), ("hi", .none), ("key", x5)], fun s hs => ?_, ?_⟩
    · rcases hf with rfl | rfl | rfl | rfl <;> exact kp_binds (hK.keeps hs) (fun S => by kernel_rfl)
    · show [(_, ab x1), (_, ab x2), (_, ab x3), _, (_, ab x5)] = _
      rw [y1, y2, y3, y5]; rfl
  | [lo, hi], _ =>
    obtain ⟨x1, x2, x3, x4, rfl, y1, y2, y3, y4⟩ := vals4 e1
    refine ⟨[("a", x1), ("x", x2), ("lo", x3), ("hi", x4), ("key", x5)], fun s hs => ?_, ?_⟩
    · rcases hf with rfl | rfl | rfl | rfl <;> exact kp_binds (hK.keeps hs) (fun S => by kernel_rfl)
    · show [(_, ab x1), (_, ab x2), (_, ab x3), (_, ab x4), (_, ab x5)] = _
      rw [y1, y2, y3, y4, y5]; rfl
theorem vals5 {vals : List Value} {a b c d f : V} (e : vals.map ab = [a, b, c, d, f]) : ∃ x y z u w, vals = [x, y, z, u, w] ∧ ab x = a ∧ ab y = b ∧ ab z = c ∧ ab u = d ∧ ab w = f := by
  cases vals with
  | nil => simp at e
  | cons x r =>
    simp only [List.map_cons, List.cons.injEq] at e
    obtain ⟨y, z, u, w, rfl, h⟩ := vals4 e.2
    exact ⟨x, y, z, u, w, rfl, e.1, h⟩
theorem bind_sp (hK : (hd.heap_39 P).In C.base) (f : Addr) (n1 n2 : Str) (hf : (f = 64 ∧ n1 = "row" ∧ n2 = "x") ∨ (f = 71 ∧ n1 = "row" ∧ n2 = "new")) {r a x b keyV : V} : ∀ (vals : List Value) (kvs : List (Str × Value)), vals.map ab = [r, a, x, b, keyV] → kvs.map (fun p => (p.1, ab p.2)) = ([] : List (Str × V)) → ∃ binds, (∀ s, Keep C s → BindsTo s (fdOf (hd.heap_39 P) f) ⟨vals, kvs⟩ binds) ∧ binds.map (fun p => (p.1, ab p.2)) = ([("right", r), (n1, a), (n2, x), ("bounds", b), ("key", keyV)] : List (Str × V)) := by
  intro vals kvs e1 e2
  obtain ⟨x1, x2, x3, x4, x5, rfl, y1, y2, y3, y4, y5⟩ := vals5 e1
  cases ab_nil e2
  refine ⟨[("right", x1), (n1, x2), (n2, x3), ("bounds", x4), ("key", x5)], fun s hs => ?_, ?_⟩
  · rcases hf with ⟨rfl, rfl, rfl⟩ | ⟨rfl, rfl, rfl⟩ <;> exact kp_binds (hK.keeps hs) (fun S => by kernel_rfl)
  · show [(_, ab x1), (_, ab x2), (_, ab x3), (_, ab x4), (_, ab x5)] = _
    rw [y1, y2, y3, y4, y5]
theorem search_spec (hK : (hd.heap_39 P).In C.base) (G : Gl09 C) (hh : A.handled = none) (hdep : A.depth < recursionLimit) {right : Bool} {a x keyV : V} {B : Addr} {ob : O} {bv : List V} (hB : H B = some ob) (hl : lst ob = some bv) {Q : V → AH → Prop}
    (hq : ∀ A', Nx A A' → WCall C A' (.ref (if right then 32 else 50)) (a :: x :: bv) [("key", keyV)] H Q) : WCall C A (.ref 64) [.bool right, a, x, .ref B, keyV] [] H Q := by
  refine WCall.def (fn_in hK 64 rfl) hdep rfl (noCell rfl) (fun h k => codeRec_of (hK.keeps k) rfl) (bs := [("right", .bool right), ("row", a), ("x", x), ("bounds", .ref B), ("key", keyV)]) (bind_sp hK 64 "row" "x" (.inl ⟨rfl, rfl, rfl⟩)) (allLocal rfl) ?_
  intro L hL
  have hNx := Nx.of A (callEnv (fdOf (hd.heap_39 P) 64) L 64)
  have hq' := hq _ hNx
  have F : Fx C (A.deeper (callEnv (fdOf (hd.heap_39 P) 64) L 64)) (callEnv (fdOf (hd.heap_39 P) 64) L 64) := ⟨rfl, rfl, rfl, hh⟩
  refine WS.cons (W1.if (WT.of (b := right) (EvT.of (v := .bool right) (Ev.local F rfl rfl) rfl (by intro x e; cases e)) ⟨fun e => ?_, fun e => ?_⟩))
  · subst e
    refine WS.cons (W1.ret (WE.callA (fun _ => fn_in hK 32 rfl) (Ev.glob F rfl G.br) (WArgs.star3 (WE.of (Ev.local F rfl rfl) (WE.of (Ev.local F rfl rfl) (WE.of (Ev.local F rfl rfl) ⟨B, _, _, rfl, hB, hl, WKs.one (WE.of (Ev.local F rfl rfl) (WCall.mono hq' fun v H' h => h))⟩))))))
  · subst e
    refine WS.nil (WS.cons (W1.ret (WE.callA (fun _ => fn_in hK 50 rfl) (Ev.glob F rfl G.bl) (WArgs.star3 (WE.of (Ev.local F rfl rfl) (WE.of (Ev.local F rfl rfl) (WE.of (Ev.local F rfl rfl) ⟨B, _, _, rfl, hB, hl, WKs.one (WE.of (Ev.local F rfl rfl) (WCall.mono hq' fun v H' h => h))⟩)))))))
theorem put_spec (hK : (hd.heap_39 P).In C.base) (G : Gl09 C) (hh : A.handled = none) (hdep : A.depth < recursionLimit) {right : Bool} {a x keyV : V} {B : Addr} {ob : O} {bv : List V} (hB : H B = some ob) (hl : lst ob = some bv) {Q : V → AH → Prop}
    (hq : ∀ A', Nx A A' → WCall C A' (.ref (if right then 23 else 41)) (a :: x :: bv) [("key", keyV)] H Q) : WCall C A (.ref 71) [.bool right, a, x, .ref B, keyV] [] H Q := by
  refine WCall.def (fn_in hK 71 rfl) hdep rfl (noCell rfl) (fun h k => codeRec_of (hK.keeps k) rfl) (bs := [("right", .bool right), ("row", a), ("new", x), ("bounds", .ref B), ("key", keyV)]) (bind_sp hK 71 "row" "new" (.inr ⟨rfl, rfl, rfl⟩)) (allLocal rfl) ?_
  intro L hL
  have hNx := Nx.of A (callEnv (fdOf (hd.heap_39 P) 71) L 71)
  have hq' := hq _ hNx
  have F : Fx C (A.deeper (callEnv (fdOf (hd.heap_39 P) 71) L 71)) (callEnv (fdOf (hd.heap_39 P) 71) L 71) := ⟨rfl, rfl, rfl, hh⟩
  refine WS.cons (W1.if (WT.of (b := right) (EvT.of (v := .bool right) (Ev.local F rfl rfl) rfl (by intro x e; cases e)) ⟨fun e => ?_, fun e => ?_⟩))
  · subst e
    refine WS.cons (W1.ret (WE.callA (fun _ => fn_in hK 23 rfl) (Ev.glob F rfl G.ir) (WArgs.star3 (WE.of (Ev.local F rfl rfl) (WE.of (Ev.local F rfl rfl) (WE.of (Ev.local F rfl rfl) ⟨B, _, _, rfl, hB, hl, WKs.one (WE.of (Ev.local F rfl rfl) (WCall.mono hq' fun v H' h => h))⟩))))))
  · subst e
    refine WS.nil (WS.cons (W1.ret (WE.callA (fun _ => fn_in hK 41 rfl) (Ev.glob F rfl G.il) (WArgs.star3 (WE.of (Ev.local F rfl rfl) (WE.of (Ev.local F rfl rfl) (WE.of (Ev.local F rfl rfl) ⟨B, _, _, rfl, hB, hl, WKs.one (WE.of (Ev.local F rfl rfl) (WCall.mono hq' fun v H' h => h))⟩)))))))
end
end Mine

set_option maxHeartbeats 1000000
namespace Mine
open PySem PySem.W PyProof.Rows

/-! ## a call with cells while the frames around are tracked -/
theorem WCallT.fn {C : Cx} {A : Around} {H : AH} {env : Env} {outer : List Env} {a : Addr} {o : Obj} {fd : FuncData} {body : List Stmt} {args : List V} {bs : List (Str × V)} {Q : V → AH → Prop} (hfr : A.frames = some (env :: outer)) (hcur : CurF env) (hO : FrO H outer) (hfn : FnAt C H a o fd) (hdep : A.depth < recursionLimit)
    (hb : fd.body = .stmts body) (hclo : fd.closure = []) (hcd : ∀ h : Heap, (∀ b o, C.base.get? b = some o → h.get? b = some o) → h.CodeRec fd.code fd.qualname)
    (hbind : ∀ vals, vals.map ab = args → ∃ binds, bindArgs fd ⟨vals, []⟩ = pure binds ∧ binds.map (fun p => (p.1, ab p.2)) = bs)
    (hkind : (bs.all fun y => fd.scope.names.lookup y.1 == some .local || fd.scope.names.lookup y.1 == some .cell) = true)
    (hnd : ((cellsFrom 0 fd.scope.names []).map (·.1)).Nodup)
    (h : ∀ L oL, H env.locals = none → H L = none → L ≠ env.locals → (∀ p ∈ cellsFrom (L + 1) fd.scope.names [], H p.2 = none ∧ p.2 ≠ L ∧ p.2 ≠ env.locals) → (A.deeper (callEnvC fd L a)).frames = some (callEnvC fd L a :: env :: outer) → FrO (H.set env.locals (.frm oL)) (env :: outer) →
      WS C (A.deeper (callEnvC fd L a)) (callEnvC fd L a) body (aL (kinds fd) bs fun _ => none) (cellH (aC (kinds fd) bs fun _ => none) (cellsFrom (L + 1) fd.scope.names []) (H.set env.locals (.frm oL))) (fun f _ H' => H' env.locals = some (.frm oL) ∧ Q (retv f) (eraseA H' env.locals)))
    (hco : fd.scope.isCoroutine = false := by rfl) (hgen : fd.scope.isGenerator = false := by rfl) (hk : fd.scope.kind = .function := by rfl) : WCallT C A (.ref a) args [] H env Q := by
  have hlm : ∀ L binds, binds.map (fun p => (p.1, ab p.2)) = bs → ∀ x, (bindL (callEnvC fd L a).kindOf binds (fun _ => none) x).map ab = (aL (kinds fd) bs fun _ => none) x := fun L binds e x => by rw [← e]; exact bindL_ab (fun _ => rfl) x
  have hcm : ∀ L binds, binds.map (fun p => (p.1, ab p.2)) = bs → ∀ x, (bindC (callEnvC fd L a).kindOf binds (fun _ => none) x).map ab = (aC (kinds fd) bs fun _ => none) x := fun L binds e x => by rw [← e]; exact bindC_ab (fun _ => rfl) x
  intro ρ fv vals kvs e1 e2 e3
  cases ab_ref e1
  have : kvs = [] := by simpa using e3
  subst this
  obtain ⟨binds, hbt, hbs⟩ := hbind vals e2
  intro s hs
  obtain ⟨ho, hd⟩ := hfn.obj hs
  have hnone := get?_size_none s.heap
  obtain ⟨ml, ⟨oL, es, ep, hoL, hdL, rL⟩, hml⟩ := hs.loc
  have hkind' : ∀ n, ∀ x ∈ binds, fd.scope.names.lookup x.1 = some .local ∨ (fd.scope.names.lookup x.1 = some .cell ∧ ((cellsFrom n fd.scope.names []).lookup x.1).isSome = true) := fun n x hx => by
    have hm : (x.1, ab x.2) ∈ bs := by rw [← hbs]; exact List.mem_map.mpr ⟨x, hx, rfl⟩
    have := kindsX (scope := fd.scope) (binds := binds) (by
      rw [List.all_eq_true]; intro y hy
      exact List.all_eq_true.mp hkind (y.1, ab y.2) (by rw [← hbs]; exact List.mem_map.mpr ⟨y, hy, rfl⟩)) n x hx
    exact this
  refine wpAny_call (codeAny_call_cells hdep ho hd (C.lim.keeps hs.keep) (hcd _ hs.keep) hb hbt hclo (hkind' _) (fun s₁ X => ?_) hco hgen hk)
  have hnames : ∀ (n : Nat) (names : List (Str × NameKind)) (acc : List (Str × Addr)) (p : Str × Addr), p ∈ cellsFrom n names acc → p ∈ acc ∨ n ≤ p.2 := by
    intro n names
    induction names generalizing n with
    | nil => intro acc p hp; exact .inl hp
    | cons x r ih =>
      intro acc p hp
      obtain ⟨nm, k⟩ := x
      unfold cellsFrom at hp
      split at hp
      · rcases ih (n + 1) _ p hp with q | q
        · rcases List.mem_cons.mp q with rfl | q
          · exact .inr (Nat.le_refl _)
          · exact .inl q
        · exact .inr (by lia)
      · exact ih n acc p hp
  have habove : ∀ p ∈ cellsFrom (s.heap.objs.size + 1) fd.scope.names [], s.heap.objs.size < p.2 := fun p hp => by
    rcases hnames _ _ _ p hp with q | q
    · cases q
    · lia
  have hfresh : ∀ p ∈ cellsFrom (s.heap.objs.size + 1) fd.scope.names [], s.heap.get? p.2 = none := fun p hp => by
    cases e : s.heap.get? p.2 with
    | none => rfl
    | some o => exact absurd (Heap.lt_size e) (Nat.lt_asymm (habove p hp))
  have same_names : ∀ (n n' : Nat) (names : List (Str × NameKind)) (acc acc' : List (Str × Addr)), acc.map (·.1) = acc'.map (·.1) → (cellsFrom n names acc).map (·.1) = (cellsFrom n' names acc').map (·.1) := by
    intro n n' names
    induction names generalizing n n' with
    | nil => intro acc acc' e; exact e
    | cons x r ih =>
      intro acc acc' e
      obtain ⟨nm, k⟩ := x
      unfold cellsFrom
      split
      · exact ih _ _ _ _ (by simp [e])
      · exact ih _ _ _ _ e
  have hnd' : ((cellsFrom (s.heap.objs.size + 1) fd.scope.names []).map (·.1)).Nodup := by rw [same_names _ 0 _ _ [] rfl]; exact hnd
  have lookup_mem : ∀ {cs : List (Str × Addr)}, (cs.map (·.1)).Nodup → ∀ n c, (n, c) ∈ cs → cs.lookup n = some c := by
    intro cs
    induction cs with
    | nil => intro _ n c hm; cases hm
    | cons p r ih =>
      intro hn n c hm
      obtain ⟨pn, pc⟩ := p
      simp only [List.map_cons, List.nodup_cons] at hn
      rcases List.mem_cons.mp hm with e | hm
      · cases e; simp [List.lookup_cons]
      · have hne : n ≠ pn := fun q => hn.1 (q ▸ List.mem_map.mpr ⟨(n, c), hm, rfl⟩)
        rw [List.lookup_cons, beq_false_of_ne hne]; exact ih hn.2 n c hm
  obtain ⟨⟨⟨h1, tk1, rfl⟩, hns, hkeep, hab⟩, hcell, hap, hgt⟩ := X
  generalize hL' : s.heap.objs.size = L' at *
  have hfr' := hs.fresh hnone
  have hne : L' ≠ env.locals := hfr'.2.2
  have hH1 : ∀ b o, (H.set env.locals (.frm oL)) b = some o → (b = env.locals ∧ o = .frm oL) ∨ (b ≠ env.locals ∧ H b = some o) := fun b o e => by
    by_cases q : b = env.locals
    · subst q; rw [AH.set_same] at e; cases e; exact .inl ⟨rfl, rfl⟩
    · rw [AH.set_ne _ _ q] at e; exact .inr ⟨q, e⟩
  have hst : St C L' (aL (kinds fd) bs fun _ => none) (cellH (aC (kinds fd) bs fun _ => none) (cellsFrom (L' + 1) fd.scope.names []) (H.set env.locals (.frm oL))) h1 := by
    refine ⟨fun b o e => hkeep _ _ (hs.keep b o e), fun b o e => ?_, fun b o e hm => ?_, ⟨_, hns, fun x => hlm _ binds hbs x⟩, ?_, hfr'.2.1⟩
    · rcases cellH_some e with ⟨n, hm, rfl⟩ | e
      · obtain ⟨oc, ho, hd⟩ := hcell n b (lookup_mem hnd' n b hm)
        exact ⟨oc, ho, _, hd, hcm _ binds hbs n⟩
      · rcases hH1 b o e with ⟨rfl, rfl⟩ | ⟨_, e⟩
        · exact ⟨oL, hkeep _ _ hoL, oL.slots, rfl⟩
        · obtain ⟨c, e1, e2⟩ := hs.rep b o e; exact ⟨c, hkeep _ _ e1, e2⟩
    · rcases cellH_some e with ⟨n, hm', rfl⟩ | e
      · exact (hs.fresh (hfresh _ hm')).2.1
      · rcases hH1 b o e with ⟨rfl, rfl⟩ | ⟨_, e⟩
        · exact hs.bl
        · exact hs.own b o e hm
    · rw [cellH_get (fun p hp q => Nat.ne_of_gt (habove p hp) q), AH.set_ne _ _ hne]; exact hfr'.1
  have hO1 : FrO (H.set env.locals (.frm oL)) (env :: outer) := fun e he => by
    rcases List.mem_cons.mp he with rfl | he
    · exact ⟨hcur.2, _, oL, hcur.1, AH.set_same .., es, ep, hdL⟩
    · exact (hO.mono fun a o e => by rw [AH.set_ne _ _ (fun q => by rw [q, hs.nl] at e; cases e)]; exact e) e he
  have hfrd : (A.deeper (callEnvC fd L' a)).frames = some (callEnvC fd L' a :: env :: outer) := Around.frames_deeper hfr
  refine wpAny_mono (h L' oL hs.nl hfr'.1 hne (fun p hp => ⟨(hs.fresh (hfresh p hp)).1, Nat.ne_of_gt (habove p hp), (hs.fresh (hfresh p hp)).2.2⟩) hfrd hO1 { s with heap := h1, toks := tk1 } hst) (fun f s' ⟨ρ', H', x, y, hRL, hR⟩ => ?_) fun _ _ e => e.elim
  change St C L' ρ' H' s'.heap at x
  change Step L' _ H' _ _ at y
  obtain ⟨cL, hcL, slL, rfl⟩ := x.rep _ _ hRL
  have xb : St C env.locals ρ (eraseA H' env.locals) s'.heap := by
    refine ⟨x.keep, fun b o' e => ?_, fun b o' e hm => ?_, ⟨ml, ⟨_, es, ep, hcL, hdL, rL⟩, hml⟩, by simp [eraseA], hs.bl⟩
    · unfold eraseA at e; split at e
      · cases e
      · exact x.rep b o' e
    · unfold eraseA at e; split at e
      · cases e
      · exact x.own b o' e hm
  have hnew : ∀ b o', s.heap.get? b = some o' → H b = none → b ≠ env.locals → (cellH (aC (kinds fd) bs fun _ => none) (cellsFrom (L' + 1) fd.scope.names []) (H.set env.locals (.frm oL))) b = none := fun b o' e eb eL => by
    rw [cellH_get (fun p hp q => by have := hfresh p hp; rw [q, e] at this; cases this), AH.set_ne _ _ eL]; exact eb
  have yb : Step env.locals H (eraseA H' env.locals) s s' := by
    refine ⟨y.same, fun b o' e eb eL => ?_, fun b o' e eb => ?_, fun b o' e => y.live b o' (hkeep b o' e)⟩
    · exact y.kept b o' (hkeep b o' e) (hnew b o' e eb eL) (fun q => by rw [q, hnone] at e; cases e)
    · unfold eraseA; split
      · rfl
      · rename_i q
        exact y.new b o' (hkeep b o' e) (hnew b o' e eb q)
  exact ⟨ρ, eraseA H' env.locals, xb, yb, rfl, by cases f <;> exact hR⟩
end Mine

set_option maxHeartbeats 4000000
namespace Mine
open PySem PySem.W PyProof.Rows

section
variable {C : Cx} {A : Around} {env : Env} {ρ : Lo} {H : AH}
/-- of the numbers from lo on those that pass -/
theorem comp_rangeO {n lo : Nat} {p : Nat → Bool} {elt c : Expr} {x : Str} {pos : Pos} {Ok : Nat → AH → Prop} {Pd : Nat → AH → Dv → Prop} {Q : AH → List V → Prop} (F : Fx C A env) (hx : env.kindOf x = some .local) (hn : n ≤ sizeLine)
    (hOk : ∀ i, Ok i H) (hP : ∀ i d, Pd i H d → d = .one (.int ((lo + i : Nat) : Int))) (he : ∀ i (ρ : Lo), lo ≤ i → i < lo + n → ρ x = some (.int (i : Nat)) → Ev C A env ρ H elt (.int (i : Nat))) (hc : ∀ i (ρ : Lo), lo ≤ i → i < lo + n → ρ x = some (.int (i : Nat)) → EvT C A env ρ H c (p i)) (hQ : Q H (vints ((((List.range n).map (lo + ·)).filter p).map fun (t : Nat) => (t : Int)))) :
    LoopOk C A env elt (.Name x pos) [c] [] H n Ok Pd (fun _ => none) [] (fun _ H2 zs => Q H2 zs) := by
  refine ⟨fun i ρ1 H1 zs => H1 = H ∧ zs = vints ((((List.range i).map (lo + ·)).filter p).map fun (t : Nat) => (t : Int)), ⟨rfl, rfl⟩, ?_, ?_⟩
  · rintro i ρ1 H1 zs hi ⟨rfl, rfl⟩
    refine ⟨hOk i, fun d hd => ?_⟩
    rw [hP i d hd]
    refine Asg.local F hx (WT.of (hc (lo + i) _ (by lia) (by lia) (Lo.set_same ..)) ⟨fun e => ⟨fun _ => ?_, fun e => (by cases e)⟩, fun e => ⟨fun e => (by cases e), fun _ => ⟨rfl, ?_⟩⟩⟩)
    · refine WE.of (he (lo + i) _ (by lia) (by lia) (Lo.set_same ..)) ⟨?_, rfl, ?_⟩
      · have := List.length_filter_le p ((List.range i).map (lo + ·))
        rw [ints_length, List.length_map]
        rw [List.length_map, List.length_range] at this
        lia
      · rw [List.range_succ, List.map_append, List.filter_append]; simp [e, vints]
    · rw [List.range_succ, List.map_append, List.filter_append]; simp [e, vints]
  · rintro ρ1 H1 zs ⟨rfl, rfl⟩
    exact ⟨hOk _, hQ⟩
theorem WE.rangeObj2 {e1 e2 : Expr} {id : Str} {p pos : Pos} {a b : Int} {Q : V → AH → Prop} (hf : Ev C A env ρ H (.Name id p) (.ty "range")) (he1 : Ev C A env ρ H e1 (.int a)) (he2 : Ev C A env ρ H e2 (.int b)) (ha : -(2 ^ 62) ≤ a) (ha' : a < 2 ^ 62) (hb : -(2 ^ 62) ≤ b) (hb' : b < 2 ^ 62)
    (h : ∀ r c, H r = none → RangeFact c a (b - a).toNat → Q (.ref r) (H.set r (.raw c))) (hn : noStar [e1, e2] = true := by rfl) : WE C A env (.Call (.Name id p) [e1, e2] [] pos) ρ H Q := by
  refine WE.callTy hf (WEs.of (.cons he1 (.cons he2 .nil)) ?_) hn
  intro L ρ' fv vals kvs q1 q2 q3
  cases ab_ty q1
  obtain ⟨x, y, rfl, ex, ey⟩ := vals2 q2
  cases ab_nil q3
  obtain ⟨t, rfl⟩ := ab_int ex
  obtain ⟨u, rfl⟩ := ab_int ey
  intro s hs
  have hn := get?_size_none s.heap
  have k : ∀ b' o, s.heap.get? b' = some o → (s.heap.push { cls := .type "range", data := .fields #[.int a t, .int b u, .int 1 s.toks] }).get? b' = some o := fun b' o e => Heap.get?_push_of_some _ e
  exact call_range_2 ⟨_, _, hs.alloc (o := .raw _) hn (Heap.get?_push_size _ rfl) rfl k, Step.alloc hn k, rfl, h _ _ (hs.fresh hn).1 ⟨b, _, _, _, rfl, small_one ha ha' hb hb', by rw [rangeSize_nat]⟩⟩
theorem WCall.lenRange {r : Addr} {c : Obj} {a : Int} {n : Nat} {Q : V → AH → Prop} (hH : H r = some (.raw c)) (hf : RangeFact c a n) (hn : n ≤ 1000) (h : Q (.int n) H) : WCall C A (.bi "len") [.ref r] [] H Q := by
  intro L ρ fv vals kvs e1 e2 e3
  cases ab_bi e1
  obtain ⟨x, rfl, ex⟩ := vals1 e2
  cases ab_ref ex
  have : kvs = [] := by simpa using e3
  subst this
  intro s hs
  obtain ⟨c', hc', rfl⟩ := hs.rep r _ hH
  obtain ⟨b, t, u, v, rfl, h1, h2⟩ := hf
  exact call_len_range hc' h2 (by lia) ⟨ρ, H, hs, .toks, rfl, h⟩
end
noncomputable def d0 : It := (0, 0, 0)
/-- what told holds -/
noncomputable def toldOf (f : Nat → Bool) (lo hi : Nat) : List Nat := ((List.range (hi - lo)).map (lo + ·)).filter fun k => decide (k ∈ bisA f lo hi)
theorem told_mem (f : Nat → Bool) (lo hi k : Nat) : k ∈ toldOf f lo hi ↔ k ∈ bisA f lo hi := by
  unfold toldOf
  rw [List.mem_filter, List.mem_map]
  constructor
  · rintro ⟨_, h⟩; simpa using h
  · intro h
    have := bisA_mem f lo hi k h
    exact ⟨⟨k - lo, by simp; omega, by omega⟩, by simpa using h⟩
theorem told_len (f : Nat → Bool) (lo hi : Nat) : (toldOf f lo hi).length = (bisA f lo hi).length := by
  have h1 : (toldOf f lo hi).Nodup := by
    unfold toldOf
    refine List.Pairwise.filter _ ?_
    rw [List.pairwise_map]
    exact List.Pairwise.imp (fun {a b} h e => h (by lia)) List.nodup_range
  exact ((List.perm_ext_iff_of_nodup h1 (bisA_nodup f lo hi)).mpr (told_mem f lo hi)).length_eq
noncomputable def pvF (f : Nat → Bool) (place : Nat) : V → Bool
  | .int k => (!f k.toNat) != decide (k.toNat < place)
  | _ => false
section
variable {C : Cx} {A : Around} {ρ : Lo} {H : AH} {P : Params}
theorem few_spec (hK : (hd.heap_39 P).In C.base) (G : Gl09 C) (hh : A.handled = none) (hdep : A.depth + 4 < recursionLimit) (hu : A.units + 100 < cLine) {AS TH AB : Addr} {xs : List It} {f : Nat → Bool} {lo hi : Nat}
    (hx : ∀ (i : Nat) (p : It), xs[i]? = some p → p.2.2 = (i : Int)) (hI : ∀ p ∈ xs, IsIt H p) (hth : H TH = some (.list (refs xs))) (has : H AS = some (.list (refs ((bisA f lo hi).map fun i => xs.getD i d0)))) (hab : H AB = some (.list ((List.range xs.length).map fun i => V.bool (!f i))))
    (hlo : lo ≤ xs.length) (hhi : hi ≤ xs.length) (hm : xs.length ≤ 64) {Q : V → AH → Prop} (hQ : Q (.bool true) H) : WCall C A (.ref 76) [.ref AS, .ref TH, .ref AB, .int lo, .int hi, .int (bis f lo hi)] [] H Q := by
  have hsz : 10000 ≤ sizeLine := by decide
  have hmem := bisA_mem f lo hi
  have hal := bisA_len f lo hi
  have hbl := bis_le f lo hi
  have hbg := bis_ge f lo hi
  have hnear := bisA_near f lo hi
  have hahead := bisA_ahead f lo hi
  have hfew := bisA_few f lo hi
  have htl := told_len f lo hi
  have htm := told_mem f lo hi
  generalize hpl : bis f lo hi = place at *
  refine WCall.drop (WCall.fn (fn_in hK 76 rfl) (by lia) rfl rfl (fun h k => codeRec_of (hK.keeps k) rfl) (bs := [("asked", .ref AS), ("things", .ref TH), ("ahead", .ref AB), ("lo", .int lo), ("hi", .int hi), ("place", .int place)]) ?_ rfl (show (["place", "ahead", "things", "asked"] : List Str).Nodup by decide) ?_)
  · intro vals e1
    obtain ⟨x0, r, rfl, y0, e2⟩ : ∃ x0 r, vals = x0 :: r ∧ ab x0 = .ref AS ∧ r.map ab = [.ref TH, .ref AB, .int lo, .int hi, .int place] := by
      cases vals with
      | nil => simp at e1
      | cons x r => simp only [List.map_cons, List.cons.injEq] at e1; exact ⟨x, r, rfl, e1.1, e1.2⟩
    obtain ⟨x1, x2, x3, x4, x5, rfl, y1, y2, y3, y4, y5⟩ := vals5 e2
    refine ⟨[("asked", x0), ("things", x1), ("ahead", x2), ("lo", x3), ("hi", x4), ("place", x5)], by kernel_rfl, ?_⟩
    show [(_, ab x0), (_, ab x1), (_, ab x2), (_, ab x3), (_, ab x4), (_, ab x5)] = _
    rw [y0, y1, y2, y3, y4, y5]
  intro L hL hcs
  have hS : (A.deeper (callEnvC (fdOf (hd.heap_39 P) 76) L 76)).units + 80 < cLine := by show A.units + 3 + 80 < cLine; lia
  generalize hA' : A.deeper (callEnvC (fdOf (hd.heap_39 P) 76) L 76) = A' at *
  have F : Fx C A' (callEnvC (fdOf (hd.heap_39 P) 76) L 76) := ⟨rfl, rfl, rfl, by rw [← hA']; exact hh⟩
  generalize hρ : (aL (kinds (fdOf (hd.heap_39 P) 76)) [("asked", .ref AS), ("things", .ref TH), ("ahead", .ref AB), ("lo", .int lo), ("hi", .int hi), ("place", .int place)] fun _ => none) = ρ
  have rlo : ρ "lo" = some (.int lo) := by rw [← hρ]; rfl
  have rhi : ρ "hi" = some (.int hi) := by rw [← hρ]; rfl
  obtain ⟨n4, _⟩ := hcs ("place", L + 4) (.head _)
  obtain ⟨n3, _⟩ := hcs ("ahead", L + 3) (.tail _ (.head _))
  obtain ⟨n2, _⟩ := hcs ("things", L + 2) (.tail _ (.tail _ (.head _)))
  obtain ⟨n1, _⟩ := hcs ("asked", L + 1) (.tail _ (.tail _ (.tail _ (.head _))))
  show WS C A' _ _ ρ ((((H.set (L + 1) (.cell (some (.ref AS)))).set (L + 2) (.cell (some (.ref TH)))).set (L + 3) (.cell (some (.ref AB)))).set (L + 4) (.cell (some (.int place)))) _
  generalize hH1 : (((H.set (L + 1) (.cell (some (.ref AS)))).set (L + 2) (.cell (some (.ref TH)))).set (L + 3) (.cell (some (.ref AB)))).set (L + 4) (.cell (some (.int place))) = H1
  have le1 : H.le H1 := by
    rw [← hH1]
    exact AH.le_set (AH.le_set (AH.le_set (AH.le_set (AH.le_refl _) n1) n2) n3) n4
  have c4 : H1 (L + 4) = some (.cell (some (.int place))) := by rw [← hH1]; exact AH.set_same ..
  have c3 : H1 (L + 3) = some (.cell (some (.ref AB))) := by rw [← hH1, AH.set_ne _ _ (addr_ne L 3 4 rfl)]; exact AH.set_same ..
  have c2 : H1 (L + 2) = some (.cell (some (.ref TH))) := by rw [← hH1, AH.set_ne _ _ (addr_ne L 2 4 rfl), AH.set_ne _ _ (addr_ne L 2 3 rfl)]; exact AH.set_same ..
  have c1 : H1 (L + 1) = some (.cell (some (.ref AS))) := by rw [← hH1, AH.set_ne _ _ (addr_ne L 1 4 rfl), AH.set_ne _ _ (addr_ne L 1 3 rfl), AH.set_ne _ _ (addr_ne L 1 2 rfl)]; exact AH.set_same ..
  have hI1 : ∀ p ∈ xs, IsIt H1 p := fun p hp => le1 _ _ (hI p hp)
  have hth1 := le1 _ _ hth
  have has1 := le1 _ _ has
  have hab1 := le1 _ _ hab
  clear hH1 hcs n1 n2 n3 n4
  have hask : ∀ p ∈ (bisA f lo hi).map (fun i => xs.getD i d0), p ∈ xs := fun p hp => by
    obtain ⟨i, hi', rfl⟩ := List.mem_map.mp hp
    have := hmem i hi'
    rw [List.getD_eq_getElem?_getD, List.getElem?_eq_getElem (by lia)]; exact List.getElem_mem _
  -- told
  refine WS.seq (W1.asgComp F rfl (cl := [("things", L + 2), ("asked", L + 1)]) rfl (WIt.range2 F (Ev.glob F rfl G.range) (Ev.local F rfl rlo) (Ev.local F rfl rhi) (by lia) (by lia) (by lia) (by lia) fun Cn hCn => ?_) rfl)
  rw [show ((hi : Int) - (lo : Int)).toNat = hi - lo by lia]
  refine comp_rangeO (lo := lo) (p := fun k => decide (k ∈ bisA f lo hi)) (F.comp rfl) rfl (by lia) (fun _ => trivial) (fun i d hd => by rw [hd]; simp) (fun i ρ2 _ _ hk => Ev.local (F.comp rfl) rfl hk) (fun i ρ2 h1 h2 hk => ?_) ?_
  · obtain ⟨p, hp⟩ : ∃ p, xs[i]? = some p := ⟨_, List.getElem?_eq_getElem (by (clear hk h1 hCn hask hab1 has1 hth1 hI1 c1 c2 c3 c4 le1 rhi rlo hρ F hS hA' hL hahead hnear hbg hbl hpl htm htl hfew hal hmem hsz hQ hm hab has hth hI hx hu hdep hh G hK; omega))⟩
    refine EvT.as (WT.ev (WT.cmp (WE.of (Ev.item (v := .ref p.1) (Ev.cell (F.comp rfl) rfl rfl c2) (Ev.local (F.comp rfl) rfl hk) hth1 rfl (by lia) (by rw [Int.toNat_natCast]; unfold refs; rw [List.getElem?_map, hp]; rfl)) (WE.of (Ev.cell (F.comp rfl) rfl rfl c1) fun x y ex ey => W.inData (d := dIt p.2) (es := ((bisA f lo hi).map fun i => xs.getD i d0).map fun (p : It) => dIt p.2) (by rw [ex]; exact Rd_it (hI1 p (List.mem_of_getElem? hp))) (by rw [ey]; exact Rd_part has1 rfl fun q hq => hI1 q (hask q hq)) ((Dp_it _).shaped (by decide)) (show SeqAt.shaped (dPart ((bisA f lo hi).map fun i => xs.getD i d0)) = true from (Dp_part _).shaped (by decide)) (by lia) ⟨rfl, _, rfl, rfl, rfl⟩)))) ?_
    rw [any_it, Bool.eq_iff_iff, List.any_eq_true]
    constructor
    · rintro ⟨q, hq, e⟩
      obtain ⟨j, hj, rfl⟩ := List.mem_map.mp hq
      have hjx := hmem j hj
      obtain ⟨q', hq'⟩ : ∃ q', xs[j]? = some q' := ⟨_, List.getElem?_eq_getElem (by lia)⟩
      have e1 : xs.getD j d0 = q' := by rw [List.getD_eq_getElem?_getD, hq']; rfl
      rw [e1] at e
      have e2 : q'.2 = p.2 := by simpa using e
      have := hx i p hp
      have := hx j q' hq'
      rw [e2] at this
      have : j = i := by lia
      subst this
      simpa using hj
    · intro e
      refine ⟨xs.getD i d0, List.mem_map.mpr ⟨i, by simpa using e, rfl⟩, ?_⟩
      rw [List.getD_eq_getElem?_getD, hp]; simp
  intro TO hTO
  refine ⟨rfl, ?_⟩
  change WS C A' _ _ _ (H1.set TO (.list (vints ((toldOf f lo hi).map fun (t : Nat) => (t : Int))))) _
  generalize htd : toldOf f lo hi = told at *
  have le2 := AH.le_set (o := .list (vints (told.map fun (t : Nat) => (t : Int)))) (AH.le_refl H1) hTO
  have eT : (H1.set TO (.list (vints (told.map fun (t : Nat) => (t : Int))))) TO = some (.list (vints (told.map fun (t : Nat) => (t : Int)))) := AH.set_same ..
  have c1' := le2 _ _ c1
  have c3' := le2 _ _ c3
  have c4' := le2 _ _ c4
  have has2 := le2 _ _ has1
  have hab2 := le2 _ _ hab1
  have leA := AH.le_trans le1 le2
  generalize H1.set TO (.list (vints (told.map fun (t : Nat) => (t : Int)))) = H2 at *
  -- first test
  refine WS.seq (W1.if (WT.of (EvT.boolop (AllT.or_cons (EvT.typeIsNotInt (Ev.glob F rfl G.type) (Ev.cell F rfl rfl c4') (Ev.glob F rfl G.int)) fun _ => AllT.or_cons (EvT.icmp (op := .NotEq) (Ev.len (Ev.glob F rfl G.len) (Ev.local F rfl rfl) eT rfl) (Ev.len (Ev.glob F rfl G.len) (Ev.cell F rfl rfl c1') has2 rfl) rfl) fun _ => AllT.or_nil)) ⟨fun e => ?_, fun e => WS.nil ⟨rfl, ?_⟩⟩))
  · rw [ints_length, List.length_map, refs_len, List.length_map, htl] at e; simp at e
  -- second test
  refine WS.seq (W1.if (WT.neD (by lia) (WE.listComp (cl := [("place", L + 4), ("ahead", L + 3)]) rfl (WIt.list F (WE.of (Ev.local F rfl rfl) ⟨TO, _, _, rfl, eT, rfl, fun Cn hCn => ?_⟩)))))
  refine comp_filter (p := pvF f place) (g := fun v => v) (F.comp rfl) rfl (by rw [ints_length, List.length_map]; lia) (fun _ => eT) (fun v ρ2 hv hk => Ev.local (F.comp rfl) rfl hk) (fun v ρ2 hv hk => ?_) ?_
  · obtain ⟨k, hk', rfl⟩ : ∃ k, k ∈ told ∧ v = .int (k : Nat) := by
      unfold vints at hv
      rw [List.map_map] at hv
      obtain ⟨k, h1, h2⟩ := List.mem_map.mp hv
      exact ⟨k, h1, h2.symm⟩
    have hkx := hmem k ((htm k).mp hk')
    show EvT C A' _ ρ2 H2 _ ((!f k) != decide (k < place))
    refine Ev.any (v := .bool (!f k)) (w := .bool (decide (k < place))) (Ev.item (v := .bool (!f k)) (Ev.cell (F.comp rfl) rfl rfl c3') (Ev.local (F.comp rfl) rfl hk) hab2 rfl (by lia) (by rw [Int.toNat_natCast, List.getElem?_map, List.getElem?_range (by lia)]; rfl)) (Ev.as (Ev.icmp (op := .Lt) (Ev.local (F.comp rfl) rfl hk) (Ev.cell (F.comp rfl) rfl rfl c4') rfl) (by congr 1; simp)) (fun x y ex ey => ?_)
    cases ab_bool ex; cases ab_bool ey
    exact fun s hs => ne_bool ⟨ρ2, H2, hs, .refl .., rfl, rfl, rfl⟩
  intro D hD
  have hnil : (List.map (fun v => v) ((vints (told.map fun (t : Nat) => (t : Int))).filter (pvF f place))) = [] := by
    rw [List.map_id', List.filter_eq_nil_iff]
    intro v hv
    unfold vints at hv
    rw [List.map_map] at hv
    obtain ⟨k, h1, rfl⟩ := List.mem_map.mp hv
    have := hahead k ((htm k).mp h1)
    show ¬ ((!f k) != decide (k < place)) = true
    rw [this]; simp
  rw [hnil]
  have le3 := AH.le_set (o := .list []) (AH.le_refl H2) hD
  refine WE.list rfl (by decide) (WEs.nil fun E hE => ⟨.list [], .list [], Rd_list (AH.get_of_set (AH.set_same ..) hE) rfl (by rw [RdL]), Rd_list (AH.set_same ..) rfl (by rw [RdL]), (Dp.list (k := 0) (by simp)).shaped (by decide), (Dp.list (k := 0) (by simp)).shaped (by decide), fun e => ?_, fun e => WS.nil ⟨rfl, ?_⟩⟩)
  · rw [eqv_nil] at e; simp at e
  have le4 := AH.le_trans le3 (AH.le_set (o := .list []) (AH.le_refl _) hE)
  have eT3 := le4 _ _ eT
  have c43 := le4 _ _ c4'
  have leB := AH.le_trans leA le4
  generalize (H2.set D (.list [])).set E (.list []) = H3 at *
  -- third test
  have hin : ∀ k : Nat, ((k : Int) ∈ told.map fun (t : Nat) => (t : Int)) ↔ k ∈ bisA f lo hi := fun k => by
    rw [List.mem_map, ← htm]
    constructor
    · rintro ⟨t, ht, e⟩; have : t = k := by lia
      subst this; exact ht
    · intro h; exact ⟨k, h, rfl⟩
  refine WS.seq (W1.if (WT.of (EvT.boolop (AllT.or_cons (EvT.icmp (op := .Lt) (Ev.cell F rfl rfl c43) (Ev.local F rfl (by exact rlo)) rfl) fun _ => AllT.or_cons (EvT.boolop (AllT.and_cons (EvT.icmp (op := .Gt) (Ev.cell F rfl rfl c43) (Ev.local F rfl (by exact rlo)) rfl) fun _ => AllT.and_cons (EvT.notInInts (by lia) (Ev.sub (Ev.cell F rfl rfl c43) Ev.int) (Ev.local F rfl rfl) eT3 rfl) fun _ => AllT.and_nil)) fun _ => AllT.or_cons (EvT.boolop (AllT.and_cons (EvT.icmp (op := .Lt) (Ev.cell F rfl rfl c43) (Ev.local F rfl (by exact rhi)) rfl) fun _ => AllT.and_cons (EvT.notInInts (by lia) (Ev.cell F rfl rfl c43) (Ev.local F rfl rfl) eT3 rfl) fun _ => AllT.and_nil)) fun _ => AllT.or_nil)) ⟨fun e => ?_, fun e => WS.nil ⟨rfl, ?_⟩⟩))
  · exfalso
    have h1 : decide ((place : Int) < (lo : Int)) = false := decide_eq_false (by lia)
    have h2 : lo < place → decide (((place : Int) - 1) ∈ told.map fun (t : Nat) => (t : Int)) = true := fun q => by
      rw [show ((place : Int) - 1) = ((place - 1 : Nat) : Int) by omega, decide_eq_true_eq, hin]; exact hnear.1 q
    have h3 : place < hi → decide ((place : Int) ∈ told.map fun (t : Nat) => (t : Int)) = true := fun q => by
      rw [decide_eq_true_eq, hin]; exact hnear.2 q
    rw [h1] at e
    by_cases q1 : lo < place
    · rw [h2 q1] at e
      by_cases q2 : place < hi
      · rw [h3 q2] at e; simp at e
      · rw [show decide ((place : Int) < (hi : Int)) = false from decide_eq_false (by omega)] at e; simp at e
    · rw [show decide ((lo : Int) < (place : Int)) = false from decide_eq_false (by omega)] at e
      by_cases q2 : place < hi
      · rw [h3 q2] at e; simp at e
      · rw [show decide ((place : Int) < (hi : Int)) = false from decide_eq_false (by omega)] at e; simp at e
  -- count
  refine WS.seq (W1.asgLocal F rfl (WE.callBi (Ev.glob F rfl G.len) (WEs.cons (WE.rangeObj2 (Ev.glob F rfl G.range) (Ev.local F rfl (by exact rlo)) (Ev.local F rfl (by exact rhi)) (by lia) (by lia) (by lia) (by lia) fun r c hr hf => WEs.nil (WKs.nil (WCall.lenRange (AH.set_same ..) hf (by lia) ⟨rfl, ?_⟩))))))
  have le5 := AH.le_set (o := .raw c) (AH.le_refl H3) hr
  have eT4 := le5 _ _ eT3
  have leC := AH.le_trans leB le5
  generalize H3.set r (.raw c) = H4 at *
  have hn : ((hi : Int) - (lo : Int)).toNat = hi - lo := by lia
  rw [hn]
  have hL4 : Ev C A' (callEnvC (fdOf (hd.heap_39 P) 76) L 76) ((ρ.set "told" (.ref TO)).set "count" (.int (hi - lo : Nat))) H4 (.Name "told" ⟨0, 0, 0, 0⟩) (.ref TO) := Ev.local F rfl rfl
  have hcast : ∀ n : Nat, ((2 : Int) ^ n) = ((2 ^ n : Nat) : Int) := fun n => by simp
  refine WS.cons (W1.ret (WE.of (v := .bool (true && true)) (Ev.and2 (Ev.as (Ev.icmp (op := .LtE) (Ev.pow (n := ((bisA f lo hi).length : Nat)) Ev.int (Ev.as (Ev.len (Ev.glob F rfl G.len) (Ev.local F rfl rfl) eT4 rfl) (by rw [ints_length, List.length_map, htl])) (by omega) ?_) (Ev.add (Ev.mul Ev.int (Ev.local F rfl rfl) (IntMulOk.of_left (by decide))) Ev.int) rfl) ?_) fun _ => Ev.as (Ev.icmp (op := .LtE) (Ev.add (Ev.local F rfl rfl) Ev.int) (Ev.pow (n := ((bisA f lo hi).length : Nat) + 1) Ev.int (Ev.add (Ev.as (Ev.len (Ev.glob F rfl G.len) (Ev.local F rfl rfl) eT4 rfl) (by rw [ints_length, List.length_map, htl])) Ev.int) (by omega) ?_) rfl) ?_) ⟨H, leC, hQ⟩))
  · have : Builtin.Int.intBits 2 = 2 := by decide
    rw [this]; lia
  · rw [Int.toNat_natCast, hcast]
    congr 1; rw [decide_eq_true_eq]; have := hfew.1; lia
  · have : Builtin.Int.intBits 2 = 2 := by decide
    rw [this]; lia
  · rw [show (((bisA f lo hi).length : Int) + 1).toNat = (bisA f lo hi).length + 1 by lia, hcast]
    congr 1; rw [decide_eq_true_eq]; have := hfew.2; omega
end
end Mine

set_option maxHeartbeats 4000000
namespace Mine
open PySem PySem.W PyProof.Rows

/-! ## lo below nought -/
noncomputable def neg : Str := "lo must be non-negative"
theorem neg_len : neg.length ≤ sizeLine := by decide
theorem eraseA_set {H : AH} {L : Addr} {o : O} (h : H L = none) : eraseA (H.set L o) L = H := by
  funext b; unfold eraseA AH.set; split
  · rename_i q; rw [q, h]
  · rfl
theorem eraseA_set2 {H : AH} {L N : Addr} {o o' : O} (h : H L = none) (hN : N ≠ L) : eraseA ((H.set L o).set N o') L = H.set N o' := by
  rw [AH.set_comm H o o' (Ne.symm hN)]
  exact eraseA_set (by rw [AH.set_ne _ _ (Ne.symm hN)]; exact h)
theorem callEnv_cur (fd : FuncData) (L a : Addr) (hk : fd.scope.kind = .function) : CurF (callEnv fd L a) := ⟨rfl, by show fd.scope.kind ≠ _; rw [hk]; intro q; cases q⟩
section
variable {C : Cx} {A : Around} {H : AH} {P : Params} {env : Env} {outer : List Env}
theorem bis_raise (hK : (hd.heap_39 P).In C.base) (G : Gl09 C) (hh : A.handled = none) (hdep : A.depth < recursionLimit) (hfr : A.frames = some (env :: outer)) (hcur : CurF env) (hO : FrO H outer) {f : Addr} (hf : f = 32 ∨ f = 50)
    {args : List V} {kw : List (Str × V)} {a x hiV keyV : V} {lo : Int} (hlo : lo < 0)
    (hbind : ∀ vals kvs, vals.map ab = args → kvs.map (fun p => (p.1, ab p.2)) = kw → ∃ binds, (∀ s, Keep C s → BindsTo s (fdOf (hd.heap_39 P) f) ⟨vals, kvs⟩ binds) ∧ binds.map (fun p => (p.1, ab p.2)) = ([("a", a), ("x", x), ("lo", .int lo), ("hi", hiV), ("key", keyV)] : List (Str × V))) :
    RC C A (.ref f) args kw H env outer neg (fun H' => H' = H) := by
  rcases hf with rfl | rfl
  · refine RC.def (mk := true) hfr hcur hO (fn_in hK 32 rfl) hdep rfl (noCell rfl) (fun h k => codeRec_of (hK.keeps k) rfl) (bs := [("a", a), ("x", x), ("lo", .int lo), ("hi", hiV), ("key", keyV)]) hbind (allLocal rfl) ?_
    intro L' oL h1 h2 h3 hfr' hO'
    have F : Fx C (A.deeper (callEnv (fdOf (hd.heap_39 P) 32) L' 32)) (callEnv (fdOf (hd.heap_39 P) 32) L' 32) := ⟨rfl, rfl, rfl, hh⟩
    exact XS.head (X1.if (WT.of (b := true) (EvT.icmp (op := .Lt) (Ev.local F rfl rfl) Ev.int (by simp [icmp, hlo])) ⟨fun _ => XS.head (X1.raise F (Ev.glob F rfl G.ve) hO' ⟨AH.set_same .., eraseA_set h1⟩ neg_len), fun e => by cases e⟩))
  · refine RC.def (mk := true) hfr hcur hO (fn_in hK 50 rfl) hdep rfl (noCell rfl) (fun h k => codeRec_of (hK.keeps k) rfl) (bs := [("a", a), ("x", x), ("lo", .int lo), ("hi", hiV), ("key", keyV)]) hbind (allLocal rfl) ?_
    intro L' oL h1 h2 h3 hfr' hO'
    have F : Fx C (A.deeper (callEnv (fdOf (hd.heap_39 P) 50) L' 50)) (callEnv (fdOf (hd.heap_39 P) 50) L' 50) := ⟨rfl, rfl, rfl, hh⟩
    exact XS.head (X1.if (WT.of (b := true) (EvT.icmp (op := .Lt) (Ev.local F rfl rfl) Ev.int (by simp [icmp, hlo])) ⟨fun _ => XS.head (X1.raise F (Ev.glob F rfl G.ve) hO' ⟨AH.set_same .., eraseA_set h1⟩ neg_len), fun e => by cases e⟩))
theorem bind4 (hK : (hd.heap_39 P).In C.base) (f : Addr) (hf : f = 32 ∨ f = 50) {a x lo hi : V} : ∀ (vals : List Value) (kvs : List (Str × Value)), vals.map ab = [a, x, lo, hi] → kvs.map (fun p => (p.1, ab p.2)) = ([] : List (Str × V)) → ∃ binds, (∀ s, Keep C s → BindsTo s (fdOf (hd.heap_39 P) f) ⟨vals, kvs⟩ binds) ∧ binds.map (fun p => (p.1, ab p.2)) = ([("a", a), ("x", x), ("lo", lo), ("hi", hi), ("key", .none)] : List (Str × V)) := by
  intro vals kvs e1 e2
  obtain ⟨x1, x2, x3, x4, rfl, y1, y2, y3, y4⟩ := vals4 e1
  cases ab_nil e2
  refine ⟨[("a", x1), ("x", x2), ("lo", x3), ("hi", x4), ("key", .none)], fun s hs => ?_, ?_⟩
  · rcases hf with rfl | rfl <;> exact kp_binds (hK.keeps hs) (fun S => by kernel_rfl)
  · show [(_, ab x1), (_, ab x2), (_, ab x3), (_, ab x4), _] = _
    rw [y1, y2, y3, y4]; rfl
theorem bind4k (hK : (hd.heap_39 P).In C.base) (f : Addr) (hf : f = 32 ∨ f = 50) {a x lo hi k : V} : ∀ (vals : List Value) (kvs : List (Str × Value)), vals.map ab = [a, x, lo, hi] → kvs.map (fun p => (p.1, ab p.2)) = ([("key", k)] : List (Str × V)) → ∃ binds, (∀ s, Keep C s → BindsTo s (fdOf (hd.heap_39 P) f) ⟨vals, kvs⟩ binds) ∧ binds.map (fun p => (p.1, ab p.2)) = ([("a", a), ("x", x), ("lo", lo), ("hi", hi), ("key", k)] : List (Str × V)) := by
  intro vals kvs e1 e2
  obtain ⟨x1, x2, x3, x4, rfl, y1, y2, y3, y4⟩ := vals4 e1
  obtain ⟨x5, rfl, y5⟩ := kw1 e2
  refine ⟨[("a", x1), ("x", x2), ("lo", x3), ("hi", x4), ("key", x5)], fun s hs => ?_, ?_⟩
  · rcases hf with rfl | rfl <;> exact kp_binds (hK.keeps hs) (fun S => by kernel_rfl)
  · show [(_, ab x1), (_, ab x2), (_, ab x3), (_, ab x4), (_, ab x5)] = _
    rw [y1, y2, y3, y4, y5]
theorem ins_raise (hK : (hd.heap_39 P).In C.base) (G : Gl09 C) (hh : A.handled = none) (hdep : A.depth + 1 < recursionLimit) (hfr : A.frames = some (env :: outer)) (hcur : CurF env) (hO : FrO H outer) {f : Addr} (hf : f = 23 ∨ f = 41)
    {args : List V} {kw : List (Str × V)} {a x hiV : V} {lo : Int} (hlo : lo < 0)
    (hbind : ∀ vals kvs, vals.map ab = args → kvs.map (fun p => (p.1, ab p.2)) = kw → ∃ binds, (∀ s, Keep C s → BindsTo s (fdOf (hd.heap_39 P) f) ⟨vals, kvs⟩ binds) ∧ binds.map (fun p => (p.1, ab p.2)) = ([("a", a), ("x", x), ("lo", .int lo), ("hi", hiV), ("key", .none)] : List (Str × V))) :
    RC C A (.ref f) args kw H env outer neg (fun H' => H' = H) := by
  rcases hf with rfl | rfl
  · refine RC.def (mk := false) hfr hcur hO (fn_in hK 23 rfl) (by lia) rfl (noCell rfl) (fun h k => codeRec_of (hK.keeps k) rfl) (bs := [("a", a), ("x", x), ("lo", .int lo), ("hi", hiV), ("key", .none)]) hbind (allLocal rfl) ?_
    intro L' oL h1 h2 h3 hfr' hO'
    have F : Fx C (A.deeper (callEnv (fdOf (hd.heap_39 P) 23) L' 23)) (callEnv (fdOf (hd.heap_39 P) 23) L' 23) := ⟨rfl, rfl, rfl, hh⟩
    refine XS.head (X1.if (WT.of (b := true) (EvT.isNone (a := .none) (Ev.local F rfl rfl)) ⟨fun _ => XS.head (X1.asg (XE.callA (fun _ => fn_in hK 32 rfl) (Ev.glob F rfl G.br) (WArgs.plain (WEs.of (.cons (Ev.local F rfl rfl) (.cons (Ev.local F rfl rfl) (.cons (Ev.local F rfl rfl) (.cons (Ev.local F rfl rfl) .nil)))) (WKs.nil ?_))))), fun e => by cases e⟩))
    have := bis_raise (A := A.deeper (callEnv (fdOf (hd.heap_39 P) 23) L' 23)) (H := H.set env.locals (.frm oL)) (args := [a, x, .int lo, hiV]) (kw := []) (f := 32) hK G hh hdep hfr' (callEnv_cur _ _ _ rfl) hO' (.inl rfl) hlo (bind4 hK 32 (.inl rfl))
    intro ρ fv vals kvs q1 q2 q3 s hs
    exact wpAny_mono (this ρ fv vals kvs q1 q2 q3 s hs) (fun _ _ e => e) fun e s' hx => hx.mono fun ρ' H' ⟨z1, z2⟩ => ⟨z1, by rw [z2]; exact ⟨AH.set_same .., eraseA_set h1⟩⟩
  · refine RC.def (mk := false) hfr hcur hO (fn_in hK 41 rfl) (by lia) rfl (noCell rfl) (fun h k => codeRec_of (hK.keeps k) rfl) (bs := [("a", a), ("x", x), ("lo", .int lo), ("hi", hiV), ("key", .none)]) hbind (allLocal rfl) ?_
    intro L' oL h1 h2 h3 hfr' hO'
    have F : Fx C (A.deeper (callEnv (fdOf (hd.heap_39 P) 41) L' 41)) (callEnv (fdOf (hd.heap_39 P) 41) L' 41) := ⟨rfl, rfl, rfl, hh⟩
    refine XS.head (X1.if (WT.of (b := true) (EvT.isNone (a := .none) (Ev.local F rfl rfl)) ⟨fun _ => XS.head (X1.asg (XE.callA (fun _ => fn_in hK 50 rfl) (Ev.glob F rfl G.bl) (WArgs.plain (WEs.of (.cons (Ev.local F rfl rfl) (.cons (Ev.local F rfl rfl) (.cons (Ev.local F rfl rfl) (.cons (Ev.local F rfl rfl) .nil)))) (WKs.nil ?_))))), fun e => by cases e⟩))
    have := bis_raise (A := A.deeper (callEnv (fdOf (hd.heap_39 P) 41) L' 41)) (H := H.set env.locals (.frm oL)) (args := [a, x, .int lo, hiV]) (kw := []) (f := 50) hK G hh hdep hfr' (callEnv_cur _ _ _ rfl) hO' (.inr rfl) hlo (bind4 hK 50 (.inr rfl))
    intro ρ fv vals kvs q1 q2 q3 s hs
    exact wpAny_mono (this ρ fv vals kvs q1 q2 q3 s hs) (fun _ _ e => e) fun e s' hx => hx.mono fun ρ' H' ⟨z1, z2⟩ => ⟨z1, by rw [z2]; exact ⟨AH.set_same .., eraseA_set h1⟩⟩
theorem RC.mono {f : V} {args : List V} {kw : List (Str × V)} {m : Str} {R R' : AH → Prop} (h : RC C A f args kw H env outer m R) (k : ∀ H', R H' → R' H') : RC C A f args kw H env outer m R' := fun ρ fv vals kvs q1 q2 q3 s hs =>
  wpAny_mono (h ρ fv vals kvs q1 q2 q3 s hs) (fun _ _ e => e) fun e s' hx => hx.mono fun ρ' H' ⟨z1, z2⟩ => ⟨z1, k _ z2⟩
theorem ins_raise_key (hK : (hd.heap_39 P).In C.base) (G : Gl09 C) (hh : A.handled = none) (hdep : A.depth + 1 < recursionLimit) (hfr : A.frames = some (env :: outer)) (hcur : CurF env) (hO : FrO H outer) {f : Addr} (hf : f = 23 ∨ f = 41)
    {args : List V} {kw : List (Str × V)} {a x kx hiV : V} {lo : Int} {g N : Addr} {o : Obj} {fd : FuncData} {ns : List V} (hlo : lo < 0) (hN : H N = some (.list ns)) (hfn : ∀ H1 : AH, (∀ a o, H a = some o → H1 a = some o) → FnAt C H1 g o fd)
    (hkey : ∀ A' oL, Nx A A' → H env.locals = none → WCall C A' (.ref g) [x] [] (H.set env.locals (.frm oL)) (fun r H' => r = kx ∧ H' = (H.set env.locals (.frm oL)).set N (.list (ns ++ [x]))))
    (hbind : ∀ vals kvs, vals.map ab = args → kvs.map (fun p => (p.1, ab p.2)) = kw → ∃ binds, (∀ s, Keep C s → BindsTo s (fdOf (hd.heap_39 P) f) ⟨vals, kvs⟩ binds) ∧ binds.map (fun p => (p.1, ab p.2)) = ([("a", a), ("x", x), ("lo", .int lo), ("hi", hiV), ("key", .ref g)] : List (Str × V))) :
    RC C A (.ref f) args kw H env outer neg (fun H' => H' = H.set N (.list (ns ++ [x]))) := by
  have step : ∀ {L' : Addr} {oL : Obj}, H env.locals = none → FrO (H.set env.locals (.frm oL)) (env :: outer) → N ≠ env.locals ∧ FrO ((H.set env.locals (.frm oL)).set N (.list (ns ++ [x]))) (env :: outer) := fun {L' oL} h1 hO' => by
    have hNL : N ≠ env.locals := fun q => by rw [q, h1] at hN; cases hN
    refine ⟨hNL, hO'.mono fun b o e => ?_⟩
    rw [AH.set_ne _ _ (fun q => by rw [q, AH.set_ne _ _ hNL, hN] at e; cases e)]; exact e
  rcases hf with rfl | rfl
  · refine RC.def (mk := false) hfr hcur hO (fn_in hK 23 rfl) (by lia) rfl (noCell rfl) (fun h k => codeRec_of (hK.keeps k) rfl) (bs := [("a", a), ("x", x), ("lo", .int lo), ("hi", hiV), ("key", .ref g)]) hbind (allLocal rfl) ?_
    intro L' oL h1 h2 h3 hfr' hO'
    obtain ⟨hNL, hO2⟩ := step (L' := L') h1 hO'
    have F : Fx C (A.deeper (callEnv (fdOf (hd.heap_39 P) 23) L' 23)) (callEnv (fdOf (hd.heap_39 P) 23) L' 23) := ⟨rfl, rfl, rfl, hh⟩
    refine XS.head (X1.if (WT.of (b := false) (EvT.isNone (a := .ref g) (Ev.local F rfl rfl)) ⟨fun e => (by cases e), fun _ => XS.head (X1.asg (XE.callA (fun _ => fn_in hK 32 rfl) (Ev.glob F rfl G.br) (WArgs.plain (WEs.cons (WE.of (Ev.local F rfl rfl) (WEs.cons (WE.callFn (o := o) (fd := fd) (Ev.local F rfl rfl) (WEs.of (.cons (Ev.local F rfl rfl) .nil) (WKs.nil ⟨hfn _ (fun b o e => AH.get_of_set e h1), WCall.mono (hkey _ oL (Nx.of A _) h1) ?_⟩))))))))) ⟩))
    rintro r H' ⟨rfl, rfl⟩
    refine WEs.of (.cons (Ev.local F rfl rfl) (.cons (Ev.local F rfl rfl) .nil)) (WKs.one (WE.of (Ev.local F rfl rfl) (RC.mono (bis_raise (A := A.deeper (callEnv (fdOf (hd.heap_39 P) 23) L' 23)) (f := 32) hK G hh hdep hfr' (callEnv_cur _ _ _ rfl) hO2 (.inl rfl) hlo (bind4k hK 32 (.inl rfl))) fun H' e => ?_)))
    rw [e]
    exact ⟨by rw [AH.set_ne _ _ (Ne.symm hNL)]; exact AH.set_same .., eraseA_set2 h1 hNL⟩
  · refine RC.def (mk := false) hfr hcur hO (fn_in hK 41 rfl) (by lia) rfl (noCell rfl) (fun h k => codeRec_of (hK.keeps k) rfl) (bs := [("a", a), ("x", x), ("lo", .int lo), ("hi", hiV), ("key", .ref g)]) hbind (allLocal rfl) ?_
    intro L' oL h1 h2 h3 hfr' hO'
    obtain ⟨hNL, hO2⟩ := step (L' := L') h1 hO'
    have F : Fx C (A.deeper (callEnv (fdOf (hd.heap_39 P) 41) L' 41)) (callEnv (fdOf (hd.heap_39 P) 41) L' 41) := ⟨rfl, rfl, rfl, hh⟩
    refine XS.head (X1.if (WT.of (b := false) (EvT.isNone (a := .ref g) (Ev.local F rfl rfl)) ⟨fun e => (by cases e), fun _ => XS.head (X1.asg (XE.callA (fun _ => fn_in hK 50 rfl) (Ev.glob F rfl G.bl) (WArgs.plain (WEs.cons (WE.of (Ev.local F rfl rfl) (WEs.cons (WE.callFn (o := o) (fd := fd) (Ev.local F rfl rfl) (WEs.of (.cons (Ev.local F rfl rfl) .nil) (WKs.nil ⟨hfn _ (fun b o e => AH.get_of_set e h1), WCall.mono (hkey _ oL (Nx.of A _) h1) ?_⟩))))))))) ⟩))
    rintro r H' ⟨rfl, rfl⟩
    refine WEs.of (.cons (Ev.local F rfl rfl) (.cons (Ev.local F rfl rfl) .nil)) (WKs.one (WE.of (Ev.local F rfl rfl) (RC.mono (bis_raise (A := A.deeper (callEnv (fdOf (hd.heap_39 P) 41) L' 41)) (f := 50) hK G hh hdep hfr' (callEnv_cur _ _ _ rfl) hO2 (.inr rfl) hlo (bind4k hK 50 (.inr rfl))) fun H' e => ?_)))
    rw [e]
    exact ⟨by rw [AH.set_ne _ _ (Ne.symm hNL)]; exact AH.set_same .., eraseA_set2 h1 hNL⟩
end
end Mine

set_option maxHeartbeats 4000000
namespace Mine
open PySem PySem.W PyProof.Rows

section
variable {C : Cx} {A : Around} {H : AH} {P : Params} {env : Env} {outer : List Env}
theorem search_raise (hK : (hd.heap_39 P).In C.base) (G : Gl09 C) (hh : A.handled = none) (hdep : A.depth + 1 < recursionLimit) (hfr : A.frames = some (env :: outer)) (hcur : CurF env) (hO : FrO H outer) {right : Bool} {a x : V} {keyV : V} {B : Addr} {bv : List V} {lo : Int} (hlo : lo < 0) (hB : H B = some (.list bv)) (hbv : bv.length ≤ 2) (hlv : loV bv = .int lo) :
    RC C A (.ref 64) [.bool right, a, x, .ref B, keyV] [] H env outer neg (fun H' => H' = H) := by
  refine RC.def (mk := false) hfr hcur hO (fn_in hK 64 rfl) (by lia) rfl (noCell rfl) (fun h k => codeRec_of (hK.keeps k) rfl) (bs := [("right", .bool right), ("row", a), ("x", x), ("bounds", .ref B), ("key", keyV)]) (bind_sp hK 64 "row" "x" (.inl ⟨rfl, rfl, rfl⟩)) (allLocal rfl) ?_
  intro L' oL h1 h2 h3 hfr' hO'
  have F : Fx C (A.deeper (callEnv (fdOf (hd.heap_39 P) 64) L' 64)) (callEnv (fdOf (hd.heap_39 P) 64) L' 64) := ⟨rfl, rfl, rfl, hh⟩
  have hB' : (H.set env.locals (.frm oL)) B = some (.list bv) := AH.get_of_set hB h1
  have hbb : ∀ f : Addr, (f = 23 ∨ f = 32 ∨ f = 41 ∨ f = 50) → ∀ (vals : List Value) (kvs : List (Str × Value)), vals.map ab = a :: x :: bv → kvs.map (fun p => (p.1, ab p.2)) = ([("key", keyV)] : List (Str × V)) → ∃ binds, (∀ s, Keep C s → BindsTo s (fdOf (hd.heap_39 P) f) ⟨vals, kvs⟩ binds) ∧ binds.map (fun p => (p.1, ab p.2)) = ([("a", a), ("x", x), ("lo", .int lo), ("hi", hiV bv), ("key", keyV)] : List (Str × V)) := fun f hf vals kvs e1 e2 => by
    obtain ⟨binds, b1, b2⟩ := bind_b hK f hf (keyV := keyV) hbv vals kvs e1 e2
    exact ⟨binds, b1, by rw [b2, hlv]⟩
  cases right with
  | true =>
    refine XS.head (X1.if (WT.of (b := true) (EvT.of (v := .bool true) (Ev.local F rfl rfl) rfl (by intro x e; cases e)) ⟨fun _ => ?_, fun e => (by cases e)⟩))
    refine XS.head (X1.ret (XE.callA (fun _ => fn_in hK 32 rfl) (Ev.glob F rfl G.br) (WArgs.star3 (WE.of (Ev.local F rfl rfl) (WE.of (Ev.local F rfl rfl) (WE.of (Ev.local F rfl rfl) ⟨B, _, _, rfl, hB', rfl, WKs.one (WE.of (Ev.local F rfl rfl) (RC.mono (bis_raise (A := A.deeper (callEnv (fdOf (hd.heap_39 P) 64) L' 64)) (f := 32) hK G hh hdep hfr' (callEnv_cur _ _ _ rfl) hO' (.inl rfl) hlo (hbb 32 (by simp))) fun H' e => ?_))⟩))))))
    rw [e]; exact ⟨AH.set_same .., eraseA_set h1⟩
  | false =>
    refine XS.seq (W1.if (WT.of (b := false) (EvT.of (v := .bool false) (Ev.local F rfl rfl) rfl (by intro x e; cases e)) ⟨fun e => (by cases e), fun _ => WS.nil ⟨rfl, ?_⟩⟩))
    refine XS.head (X1.ret (XE.callA (fun _ => fn_in hK 50 rfl) (Ev.glob F rfl G.bl) (WArgs.star3 (WE.of (Ev.local F rfl rfl) (WE.of (Ev.local F rfl rfl) (WE.of (Ev.local F rfl rfl) ⟨B, _, _, rfl, hB', rfl, WKs.one (WE.of (Ev.local F rfl rfl) (RC.mono (bis_raise (A := A.deeper (callEnv (fdOf (hd.heap_39 P) 64) L' 64)) (f := 50) hK G hh hdep hfr' (callEnv_cur _ _ _ rfl) hO' (.inr rfl) hlo (hbb 50 (by simp))) fun H' e => ?_))⟩))))))
    rw [e]; exact ⟨AH.set_same .., eraseA_set h1⟩
theorem put_raise (hK : (hd.heap_39 P).In C.base) (G : Gl09 C) (hh : A.handled = none) (hdep : A.depth + 2 < recursionLimit) (hfr : A.frames = some (env :: outer)) (hcur : CurF env) (hO : FrO H outer) {right : Bool} {a x : V} {B : Addr} {bv : List V} {lo : Int} (hlo : lo < 0) (hB : H B = some (.list bv)) (hbv : bv.length ≤ 2) (hlv : loV bv = .int lo) :
    RC C A (.ref 71) [.bool right, a, x, .ref B, .none] [] H env outer neg (fun H' => H' = H) := by
  refine RC.def (mk := false) hfr hcur hO (fn_in hK 71 rfl) (by lia) rfl (noCell rfl) (fun h k => codeRec_of (hK.keeps k) rfl) (bs := [("right", .bool right), ("row", a), ("new", x), ("bounds", .ref B), ("key", .none)]) (bind_sp hK 71 "row" "new" (.inr ⟨rfl, rfl, rfl⟩)) (allLocal rfl) ?_
  intro L' oL h1 h2 h3 hfr' hO'
  have F : Fx C (A.deeper (callEnv (fdOf (hd.heap_39 P) 71) L' 71)) (callEnv (fdOf (hd.heap_39 P) 71) L' 71) := ⟨rfl, rfl, rfl, hh⟩
  have hB' : (H.set env.locals (.frm oL)) B = some (.list bv) := AH.get_of_set hB h1
  have hbb : ∀ f : Addr, (f = 23 ∨ f = 32 ∨ f = 41 ∨ f = 50) → ∀ (vals : List Value) (kvs : List (Str × Value)), vals.map ab = a :: x :: bv → kvs.map (fun p => (p.1, ab p.2)) = ([("key", .none)] : List (Str × V)) → ∃ binds, (∀ s, Keep C s → BindsTo s (fdOf (hd.heap_39 P) f) ⟨vals, kvs⟩ binds) ∧ binds.map (fun p => (p.1, ab p.2)) = ([("a", a), ("x", x), ("lo", .int lo), ("hi", hiV bv), ("key", .none)] : List (Str × V)) := fun f hf vals kvs e1 e2 => by
    obtain ⟨binds, b1, b2⟩ := bind_b hK f hf (keyV := .none) hbv vals kvs e1 e2
    exact ⟨binds, b1, by rw [b2, hlv]⟩
  cases right with
  | true =>
    refine XS.head (X1.if (WT.of (b := true) (EvT.of (v := .bool true) (Ev.local F rfl rfl) rfl (by intro x e; cases e)) ⟨fun _ => ?_, fun e => (by cases e)⟩))
    refine XS.head (X1.ret (XE.callA (fun _ => fn_in hK 23 rfl) (Ev.glob F rfl G.ir) (WArgs.star3 (WE.of (Ev.local F rfl rfl) (WE.of (Ev.local F rfl rfl) (WE.of (Ev.local F rfl rfl) ⟨B, _, _, rfl, hB', rfl, WKs.one (WE.of (Ev.local F rfl rfl) (RC.mono (ins_raise (A := A.deeper (callEnv (fdOf (hd.heap_39 P) 71) L' 71)) (f := 23) hK G hh hdep hfr' (callEnv_cur _ _ _ rfl) hO' (.inl rfl) hlo (hbb 23 (by simp))) fun H' e => ?_))⟩))))))
    rw [e]; exact ⟨AH.set_same .., eraseA_set h1⟩
  | false =>
    refine XS.seq (W1.if (WT.of (b := false) (EvT.of (v := .bool false) (Ev.local F rfl rfl) rfl (by intro x e; cases e)) ⟨fun e => (by cases e), fun _ => WS.nil ⟨rfl, ?_⟩⟩))
    refine XS.head (X1.ret (XE.callA (fun _ => fn_in hK 41 rfl) (Ev.glob F rfl G.il) (WArgs.star3 (WE.of (Ev.local F rfl rfl) (WE.of (Ev.local F rfl rfl) (WE.of (Ev.local F rfl rfl) ⟨B, _, _, rfl, hB', rfl, WKs.one (WE.of (Ev.local F rfl rfl) (RC.mono (ins_raise (A := A.deeper (callEnv (fdOf (hd.heap_39 P) 71) L' 71)) (f := 41) hK G hh hdep hfr' (callEnv_cur _ _ _ rfl) hO' (.inr rfl) hlo (hbb 41 (by simp))) fun H' e => ?_))⟩))))))
    rw [e]; exact ⟨AH.set_same .., eraseA_set h1⟩
theorem put_raise_key (hK : (hd.heap_39 P).In C.base) (G : Gl09 C) (hh : A.handled = none) (hdep : A.depth + 2 < recursionLimit) (hfr : A.frames = some (env :: outer)) (hcur : CurF env) (hO : FrO H outer) {right : Bool} {a x : V} {kx : V} {g N : Addr} {o : Obj} {fd : FuncData} {ns : List V} {B : Addr} {bv : List V} {lo : Int} (hlo : lo < 0) (hB : H B = some (.list bv)) (hbv : bv.length ≤ 2) (hlv : loV bv = .int lo) (hN : H N = some (.list ns)) (hfn : ∀ H1 : AH, (∀ a o, H a = some o → H1 a = some o) → FnAt C H1 g o fd)
    (hkey : ∀ A' H1, A'.handled = none → A'.depth = A.depth + 2 → A'.units = A.units + 6 → (∀ a o, H a = some o → H1 a = some o) → WCall C A' (.ref g) [x] [] H1 (fun r H' => r = kx ∧ H' = H1.set N (.list (ns ++ [x])))) :
    RC C A (.ref 71) [.bool right, a, x, .ref B, .ref g] [] H env outer neg (fun H' => H' = H.set N (.list (ns ++ [x]))) := by
  refine RC.def (mk := false) hfr hcur hO (fn_in hK 71 rfl) (by lia) rfl (noCell rfl) (fun h k => codeRec_of (hK.keeps k) rfl) (bs := [("right", .bool right), ("row", a), ("new", x), ("bounds", .ref B), ("key", .ref g)]) (bind_sp hK 71 "row" "new" (.inr ⟨rfl, rfl, rfl⟩)) (allLocal rfl) ?_
  intro L' oL h1 h2 h3 hfr' hO'
  have F : Fx C (A.deeper (callEnv (fdOf (hd.heap_39 P) 71) L' 71)) (callEnv (fdOf (hd.heap_39 P) 71) L' 71) := ⟨rfl, rfl, rfl, hh⟩
  have hB' : (H.set env.locals (.frm oL)) B = some (.list bv) := AH.get_of_set hB h1
  have hbb : ∀ f : Addr, (f = 23 ∨ f = 32 ∨ f = 41 ∨ f = 50) → ∀ (vals : List Value) (kvs : List (Str × Value)), vals.map ab = a :: x :: bv → kvs.map (fun p => (p.1, ab p.2)) = ([("key", .ref g)] : List (Str × V)) → ∃ binds, (∀ s, Keep C s → BindsTo s (fdOf (hd.heap_39 P) f) ⟨vals, kvs⟩ binds) ∧ binds.map (fun p => (p.1, ab p.2)) = ([("a", a), ("x", x), ("lo", .int lo), ("hi", hiV bv), ("key", .ref g)] : List (Str × V)) := fun f hf vals kvs e1 e2 => by
    obtain ⟨binds, b1, b2⟩ := bind_b hK f hf (keyV := .ref g) hbv vals kvs e1 e2
    exact ⟨binds, b1, by rw [b2, hlv]⟩
  cases right with
  | true =>
    refine XS.head (X1.if (WT.of (b := true) (EvT.of (v := .bool true) (Ev.local F rfl rfl) rfl (by intro x e; cases e)) ⟨fun _ => ?_, fun e => (by cases e)⟩))
    refine XS.head (X1.ret (XE.callA (fun _ => fn_in hK 23 rfl) (Ev.glob F rfl G.ir) (WArgs.star3 (WE.of (Ev.local F rfl rfl) (WE.of (Ev.local F rfl rfl) (WE.of (Ev.local F rfl rfl) ⟨B, _, _, rfl, hB', rfl, WKs.one (WE.of (Ev.local F rfl rfl) (RC.mono (ins_raise_key (A := A.deeper (callEnv (fdOf (hd.heap_39 P) 71) L' 71)) (H := H.set env.locals (.frm oL)) (f := 23) (lo := lo) (g := g) (N := N) (ns := ns) (kx := kx) (o := o) (fd := fd) (x := x) (args := a :: x :: bv) (kw := [("key", .ref g)]) hK G hh hdep hfr' (callEnv_cur _ _ _ rfl) hO' (.inl rfl) hlo (AH.get_of_set hN h1) (hfn := fun H1 hle => hfn H1 fun a o e => hle a o (AH.get_of_set e h1)) (hkey := fun A' oL2 hA' hL2 => hkey A' _ (hA'.2.2.trans hh) (by rw [hA'.1]; rfl) (by rw [hA'.2.1]; rfl) fun a o e => AH.get_of_set (AH.get_of_set e h1) hL2) (hbind := hbb 23 (by simp))) fun H' e => ?_))⟩))))))
    rw [e]; exact ⟨by rw [AH.set_ne _ _ (fun q => by rw [← q, h1] at hN; cases hN)]; exact AH.set_same .., eraseA_set2 h1 (fun q => by rw [q, h1] at hN; cases hN)⟩
  | false =>
    refine XS.seq (W1.if (WT.of (b := false) (EvT.of (v := .bool false) (Ev.local F rfl rfl) rfl (by intro x e; cases e)) ⟨fun e => (by cases e), fun _ => WS.nil ⟨rfl, ?_⟩⟩))
    refine XS.head (X1.ret (XE.callA (fun _ => fn_in hK 41 rfl) (Ev.glob F rfl G.il) (WArgs.star3 (WE.of (Ev.local F rfl rfl) (WE.of (Ev.local F rfl rfl) (WE.of (Ev.local F rfl rfl) ⟨B, _, _, rfl, hB', rfl, WKs.one (WE.of (Ev.local F rfl rfl) (RC.mono (ins_raise_key (A := A.deeper (callEnv (fdOf (hd.heap_39 P) 71) L' 71)) (H := H.set env.locals (.frm oL)) (f := 41) (lo := lo) (g := g) (N := N) (ns := ns) (kx := kx) (o := o) (fd := fd) (x := x) (args := a :: x :: bv) (kw := [("key", .ref g)]) hK G hh hdep hfr' (callEnv_cur _ _ _ rfl) hO' (.inr rfl) hlo (AH.get_of_set hN h1) (hfn := fun H1 hle => hfn H1 fun a o e => hle a o (AH.get_of_set e h1)) (hkey := fun A' oL2 hA' hL2 => hkey A' _ (hA'.2.2.trans hh) (by rw [hA'.1]; rfl) (by rw [hA'.2.1]; rfl) fun a o e => AH.get_of_set (AH.get_of_set e h1) hL2) (hbind := hbb 41 (by simp))) fun H' e => ?_))⟩))))))
    rw [e]; exact ⟨by rw [AH.set_ne _ _ (fun q => by rw [← q, h1] at hN; cases hN)]; exact AH.set_same .., eraseA_set2 h1 (fun q => by rw [q, h1] at hN; cases hN)⟩
end
end Mine

set_option maxHeartbeats 4000000
namespace Mine
open PySem PySem.W PyProof.Rows

noncomputable def Up (H H' : AH) : Prop := ∀ a o, H a = some o → a ≠ 78 → H' a = some o
noncomputable def UpN (N : Addr) (H H' : AH) : Prop := ∀ a o, H a = some o → a ≠ N → a ≠ 78 → H' a = some o
theorem Up.of_le {H H' : AH} (x : H.le H') : Up H H' := fun a o e _ => x a o e
theorem UpN.of_up {N : Addr} {H H' : AH} (x : Up H H') : UpN N H H' := fun a o e _ n => x a o e n
theorem UpN.trans {N : Addr} {H H' H'' : AH} (x : UpN N H H') (y : UpN N H' H'') : UpN N H H'' := fun a o e ne n => y a o (x a o e ne n) ne n
theorem UpN.set {N : Addr} {H : AH} {o : O} : UpN N H (H.set N o) := fun a o' e ne _ => by rw [AH.set_ne _ _ ne]; exact e
section
variable {C : Cx} {A : Around} {env : Env} {ρ : Lo} {H : AH}
/-! ## names while an exception is handled -/
theorem Ev.local0 {x : Str} {pos : Pos} {v : V} (hk : env.scope.kind = .function) (hl : env.kindOf x = some .local) (hv : ρ x = some v) (hd : (x == ("__debug__" : Str)) = false := by decide) : Ev C A env ρ H (.Name x pos) v := fun s hs => by
  obtain ⟨m, hn, hm⟩ := hs.loc
  have := hm x
  rw [hv] at this
  cases hx : m x with
  | none => rw [hx] at this; cases this
  | some y =>
    rw [hx] at this
    exact wpAny_Name (wpAny_loadName_local hk hl hn hx ⟨ρ, H, hs, .refl .., rfl, rfl, by simpa using this⟩) hd
theorem Ev.cell0 {x : Str} {pos : Pos} {v : V} {c : Addr} (hk : env.scope.kind = .function) (hl : env.kindOf x = some .cell) (hc : env.cells.lookup x = some c) (hv : H c = some (.cell (some v))) (hd : (x == ("__debug__" : Str)) = false := by decide) : Ev C A env ρ H (.Name x pos) v := fun s hs => by
  obtain ⟨u, h1, h2⟩ := hs.cell hv
  cases u with
  | none => cases h2
  | some y => exact wpAny_Name (wpAny_loadName_cell hk hl hc h1 ⟨ρ, H, hs, .refl .., rfl, rfl, by simpa using h2⟩) hd
theorem Ev.glob0 {x : Str} {pos : Pos} {v : Value} (hk : env.scope.kind = .function) (hgl : env.globals = mainGlobals) (hbu : env.builtins = builtinsNs) (hl : env.kindOf x = some .globalImplicit) (hv : C.gl x = some v) (hd : (x == ("__debug__" : Str)) = false := by decide) : Ev C A env ρ H (.Name x pos) (ab v) := fun s hs =>
  glob_at hs hk hgl hbu hl hv ⟨ρ, H, hs, .refl .., rfl, rfl, rfl⟩ hd
theorem WCall.strExc {ea t : Addr} {oe ot : Obj} {m : Str} {Q : V → AH → Prop} (hu : A.units + 2 < cLine) (he : H ea = some (.raw oe)) (ht : H t = some (.raw ot)) (hf : ExcFact oe ot t m) (h : Q (.str m) H) : WCall C A (.ty "str") [.ref ea] [] H Q := by
  intro L ρ fv vals kvs e1 e2 e3
  cases ab_ty e1
  obtain ⟨x, rfl, ex⟩ := vals1 e2
  cases ab_ref ex
  have : kvs = [] := by simpa using e3
  subst this
  intro s hs
  obtain ⟨c1, h1, rfl⟩ := hs.rep ea _ he
  obtain ⟨c2, h2, rfl⟩ := hs.rep t _ ht
  obtain ⟨f1, ⟨vs, f2, f3⟩, f4, n, tk, f5⟩ := hf
  exact PySem.P.str_of_exc_one PySem.F.excStr_ValueError hu ⟨_, vs, h1, f1, f2, f3⟩ ⟨_, n, h2, f4, f5⟩ ⟨ρ, H, hs, .refl .., rfl, h⟩
end
noncomputable abbrev env83 (P : Params) (L : Addr) : Env := callEnvC (fdOf (hd.heap_39 P) 83) L 83
noncomputable abbrev q83 (P : Params) (L : Addr) : Str := (env83 P L).qual ++ "<lambda>"
structure J09 (P : Params) (L L0 : Addr) (oL : Obj) (N ROW PLN TH NU NW B : Addr) (xs : List It) (ns : List Int) (bv : List V) (xv sz : Int) (nt : List V) (H : AH) : Prop where
  row : H ROW = some (.list (refs xs))
  pln : H PLN = some (.list (vints ns))
  th : H TH = some (.list (refs xs))
  nu : H NU = some (.list (vints ns))
  nw : H NW = some (.list [.int xv, .int sz])
  b : H B = some (.list bv)
  hI : ∀ p ∈ xs, IsIt H p
  n : H N = some (.list nt)
  c : H (L + 1) = some (.cell (some (.ref N)))
  fr : H L0 = some (.frm oL)
  t : Tab H 78 (q83 P L)
  ne : N ≠ ROW ∧ N ≠ PLN ∧ N ≠ TH ∧ N ≠ NU ∧ N ≠ NW ∧ N ≠ B ∧ ∀ p ∈ xs, p.1 ≠ N
section
variable {P : Params} {L L0 : Addr} {oL : Obj} {N ROW PLN TH NU NW B : Addr} {xs : List It} {ns : List Int} {bv : List V} {xv sz : Int} {nt : List V} {H : AH}
theorem J09.ntab {a : Addr} {o : O} (h : J09 P L L0 oL N ROW PLN TH NU NW B xs ns bv xv sz nt H) (e : H a = some o) (ho : ∀ es, o ≠ .tab es) : a ≠ 78 := fun q => by
  obtain ⟨es, e1, _⟩ := h.t
  rw [q, e1] at e
  exact ho es (Option.some.inj e).symm
theorem J09.up {H' : AH} (h : J09 P L L0 oL N ROW PLN TH NU NW B xs ns bv xv sz nt H) (k : Up H H') (t : Tab H' 78 (q83 P L)) : J09 P L L0 oL N ROW PLN TH NU NW B xs ns bv xv sz nt H' :=
  ⟨k _ _ h.row (h.ntab h.row (by simp)), k _ _ h.pln (h.ntab h.pln (by simp)), k _ _ h.th (h.ntab h.th (by simp)), k _ _ h.nu (h.ntab h.nu (by simp)), k _ _ h.nw (h.ntab h.nw (by simp)), k _ _ h.b (h.ntab h.b (by simp)), fun p hp => k _ _ (h.hI p hp) (h.ntab (h.hI p hp) (by simp)), k _ _ h.n (h.ntab h.n (by simp)), k _ _ h.c (h.ntab h.c (by simp)), k _ _ h.fr (h.ntab h.fr (by simp)), t, h.ne⟩
theorem J09.note (h : J09 P L L0 oL N ROW PLN TH NU NW B xs ns bv xv sz nt H) {nt' : List V} : J09 P L L0 oL N ROW PLN TH NU NW B xs ns bv xv sz nt' (H.set N (.list nt')) := by
  obtain ⟨n1, n2, n3, n4, n5, n6, n7⟩ := h.ne
  have s : ∀ {a : Addr} {o : O}, H a = some o → (∀ vs, o ≠ .list vs) → (H.set N (.list nt')) a = some o := fun e hn => by rw [AH.set_ne _ _ (fun q => by rw [q, h.n] at e; exact hn _ (Option.some.inj e).symm)]; exact e
  refine ⟨by rw [AH.set_ne _ _ (Ne.symm n1)]; exact h.row, by rw [AH.set_ne _ _ (Ne.symm n2)]; exact h.pln, by rw [AH.set_ne _ _ (Ne.symm n3)]; exact h.th, by rw [AH.set_ne _ _ (Ne.symm n4)]; exact h.nu, by rw [AH.set_ne _ _ (Ne.symm n5)]; exact h.nw, by rw [AH.set_ne _ _ (Ne.symm n6)]; exact h.b, fun p hp => ?_, AH.set_same .., s h.c (by simp), s h.fr (by simp), let ⟨es, e1, e2⟩ := h.t; ⟨es, s e1 (by simp), fun e he => s (e2 e he) (by simp)⟩, h.ne⟩
  show (H.set N _) p.1 = _
  rw [AH.set_ne _ _ (n7 p hp)]; exact h.hI p hp
theorem J09.lamUp {H' : AH} (h : J09 P L L0 oL N ROW PLN TH NU NW B xs ns bv xv sz nt H) (up : ∀ a o, H a = some o → a ≠ 78 → H' a = some o) : Up H H' := up
theorem J09.grow {H' : AH} (h : J09 P L L0 oL N ROW PLN TH NU NW B xs ns bv xv sz nt H) (k : H.le H') : J09 P L L0 oL N ROW PLN TH NU NW B xs ns bv xv sz nt H' := h.up (Up.of_le k) (h.t.le k)
end
noncomputable abbrev tb09 (P : Params) : List Stmt := match stAt (forBody (stAt (bodyOf (fdOf (hd.heap_39 P) 83)) 1)) 0 with | .Try b _ _ _ _ => b | _ => []
section
variable {C : Cx} {A : Around} {ρ : Lo} {H : AH} {P : Params} {L L0 : Addr} {oL : Obj} {N ROW PLN TH NU NW B : Addr} {xs : List It} {ns : List Int} {bv : List V} {xv sz : Int} {nt : List V} {outer : List Env} {right : Bool}
structure Rh (ρ : Lo) (right : Bool) (ROW PLN TH NU NW B : Addr) : Prop where
  right : ρ "right" = some (.bool right)
  row : ρ "row" = some (.ref ROW)
  plain : ρ "plain" = some (.ref PLN)
  things : ρ "things" = some (.ref TH)
  numbers : ρ "numbers" = some (.ref NU)
  new : ρ "new" = some (.ref NW)
  bounds : ρ "bounds" = some (.ref B)
/-- the tries, one by one -/
theorem try_body (hK : (hd.heap_39 P).In C.base) (G : Gl09 C) (F : Fx C A (env83 P L)) (hdep : A.depth + 8 < recursionLimit) (hu : A.units + 100 < cLine) (hbm : Bm C) (hC : CodeHd C.base 82 78) (hfr : A.frames = some (env83 P L :: outer)) (hO : FrO H outer)
    (h : J09 P L L0 oL N ROW PLN TH NU NW B xs ns bv xv sz nt H) (hbv : bv.length ≤ 2) {lo : Int} (hlo : lo < 0) (hlv : loV bv = .int lo) (r : Rh ρ right ROW PLN TH NU NW B) {turn : Nat} (ht : turn < 4) (rt : ρ "turn" = some (.int turn)) (hnt : nt = if turn ≤ 1 then [] else [.ref NW]) :
    XS C A (env83 P L) (tb09 P) ρ H (env83 P L :: outer) neg false (fun ρ' H' => ρ' = ρ ∧ UpN N H H' ∧ J09 P L L0 oL N ROW PLN TH NU NW B xs ns bv xv sz (if turn = 0 then [] else [.ref NW]) H') := by
  have hcur : CurF (env83 P L) := ⟨rfl, by intro q; cases q⟩
  have hnew : Ev C A (env83 P L) ρ H (.Name "new" ⟨0, 0, 0, 0⟩) (.ref NW) := Ev.local F rfl r.new
  have hFrUp : ∀ {H2 : AH}, Up H H2 → FrO H2 outer := fun up => hO.mono fun a o e => up a _ e (h.ntab e (by simp))
  have h4 : turn = 0 ∨ turn = 1 ∨ turn = 2 ∨ turn = 3 := by lia
  rcases h4 with rfl | rfl | rfl | rfl
  · --
    refine XS.head (X1.if (WT.of (b := true) (EvT.icmp (op := .Eq) (Ev.local F rfl rt) Ev.int rfl) ⟨fun _ => ?_, fun e => by cases e⟩))
    refine XS.head (X1.expr F (XE.callA (fun _ => fn_in hK 64 rfl) (Ev.glob F rfl G.search) (WArgs.plain (WEs.cons (WE.of (Ev.local F rfl r.right) (WEs.cons (WE.of (Ev.local F rfl r.row) (WEs.cons (WE.of (v := .int xv) (Ev.item (k := 0) (Ev.local F rfl r.new) Ev.int h.nw rfl (by lia) rfl) (WEs.cons (WE.of (Ev.local F rfl r.bounds) (WEs.cons (WE.lamT F hbm rfl hC h.t fun H2 g c' ctv up tb hg hc' hgn nn => WEs.nil (WKs.nil ?_))))))))))))) )
    have u2 := h.lamUp up
    have h2 := h.up u2 tb
    refine RC.mono (search_raise hK G F.hh (by lia) hfr hcur (hFrUp u2) hlo h2.b hbv hlv) fun H' e => ?_
    rw [e]
    refine ⟨rfl, UpN.of_up u2, ?_⟩
    rw [hnt] at h2; exact h2
  · --
    refine XS.head (X1.if (WT.of (b := false) (EvT.icmp (op := .Eq) (Ev.local F rfl rt) Ev.int rfl) ⟨fun e => (by cases e), fun _ => ?_⟩))
    refine XS.head (X1.if (WT.of (b := true) (EvT.icmp (op := .Eq) (Ev.local F rfl rt) Ev.int rfl) ⟨fun _ => ?_, fun e => by cases e⟩))
    refine XS.head (X1.expr F (XE.callA (fun _ => fn_in hK 71 rfl) (Ev.glob F rfl G.put) (WArgs.plain (WEs.cons (WE.of (Ev.local F rfl r.right) (WEs.cons (WE.of (Ev.local F rfl r.row) (WEs.cons (WE.of (Ev.local F rfl r.new) (WEs.cons (WE.of (Ev.local F rfl r.bounds) (WEs.cons (WE.lamT F hbm rfl hC h.t fun H2 g c' ctv up tb hg hc' hgn nn => WEs.nil (WKs.nil ?_))))))))))))) )
    have u2 := h.lamUp up
    have h2 := h.up u2 tb
    rw [show nt = [] from hnt] at h2
    refine RC.mono (put_raise_key (kx := .int xv) (ns := []) hK G F.hh (by lia) hfr hcur (hFrUp u2) hlo h2.b hbv hlv h2.n (fun H1 hle => ⟨rfl, .inr ⟨hle _ _ hg, rfl⟩⟩) (fun A' H1 hh' hd' hu' hle => ?_)) fun H' e => ?_
    · exact note_lam hK G ⟨hh', by lia, by lia⟩ (by lia) (by lia) (hle _ _ hg) rfl rfl (hle _ _ hc') (noCell rfl) (fun x => by kernel_rfl) rfl rfl rfl rfl rfl rfl rfl rfl rfl rfl rfl (hle _ _ h2.c) (hle _ _ h2.n) (hle _ _ h2.nw) (Ne.symm h2.ne.2.2.2.2.1) (by simp)
    · rw [e]
      exact ⟨rfl, (UpN.of_up u2).trans UpN.set, h2.note⟩
  · --
    refine XS.head (X1.if (WT.of (b := false) (EvT.icmp (op := .Eq) (Ev.local F rfl rt) Ev.int rfl) ⟨fun e => (by cases e), fun _ => ?_⟩))
    refine XS.head (X1.if (WT.of (b := false) (EvT.icmp (op := .Eq) (Ev.local F rfl rt) Ev.int rfl) ⟨fun e => (by cases e), fun _ => ?_⟩))
    refine XS.head (X1.if (WT.of (b := true) (EvT.icmp (op := .Eq) (Ev.local F rfl rt) Ev.int rfl) ⟨fun _ => ?_, fun e => by cases e⟩))
    refine XS.head (X1.expr F (XE.callA (fun _ => fn_in hK 64 rfl) (Ev.glob F rfl G.search) (WArgs.plain (WEs.of (.cons (Ev.local F rfl r.right) (.cons (Ev.local F rfl r.plain) (.cons (v := .int xv) (Ev.item (k := 0) (Ev.local F rfl r.new) Ev.int h.nw rfl (by lia) rfl) (.cons (Ev.local F rfl r.bounds) (.cons Ev.none .nil))))) (WKs.nil (RC.mono (search_raise hK G F.hh (by lia) hfr hcur hO hlo h.b hbv hlv) fun H' e => ?_))))))
    rw [e]
    refine ⟨rfl, UpN.of_up (fun _ _ e _ => e), ?_⟩
    rw [hnt] at h; exact h
  · --
    refine XS.head (X1.if (WT.of (b := false) (EvT.icmp (op := .Eq) (Ev.local F rfl rt) Ev.int rfl) ⟨fun e => (by cases e), fun _ => ?_⟩))
    refine XS.head (X1.if (WT.of (b := false) (EvT.icmp (op := .Eq) (Ev.local F rfl rt) Ev.int rfl) ⟨fun e => (by cases e), fun _ => ?_⟩))
    refine XS.head (X1.if (WT.of (b := false) (EvT.icmp (op := .Eq) (Ev.local F rfl rt) Ev.int rfl) ⟨fun e => (by cases e), fun _ => ?_⟩))
    refine XS.head (X1.expr F (XE.callA (fun _ => fn_in hK 71 rfl) (Ev.glob F rfl G.put) (WArgs.plain (WEs.of (.cons (Ev.local F rfl r.right) (.cons (Ev.local F rfl r.plain) (.cons (v := .int xv) (Ev.item (k := 0) (Ev.local F rfl r.new) Ev.int h.nw rfl (by lia) rfl) (.cons (Ev.local F rfl r.bounds) (.cons Ev.none .nil))))) (WKs.nil (RC.mono (put_raise hK G F.hh (by lia) hfr hcur hO hlo h.b hbv hlv) fun H' e => ?_))))))
    rw [e]
    refine ⟨rfl, UpN.of_up (fun _ _ e _ => e), ?_⟩
    rw [hnt] at h; exact h
end
end Mine

set_option maxHeartbeats 4000000
namespace Mine
open PySem PySem.W PyProof.Rows

theorem slc_all (vs : List V) : slc none none vs = vs := by unfold slc; simp
noncomputable abbrev ts09 (P : Params) : List Stmt := match stAt (forBody (stAt (bodyOf (fdOf (hd.heap_39 P) 83)) 1)) 0 with | .Try _ [.ExceptHandler _ _ b _] _ _ _ => b | _ => []
section
variable {C : Cx} {A : Around} {ρ : Lo} {H : AH} {P : Params} {L L0 : Addr} {oL : Obj} {N ROW PLN TH NU NW B : Addr} {xs : List It} {ns : List Int} {bv : List V} {xv sz : Int} {nt : List V} {outer : List Env} {right : Bool}
/-- what the handler asks is so -/
theorem handler_ok (G : Gl09 C) (hu : A.units + 100 < cLine) {ea t : Addr} {oe ot : Obj} (he : H ea = some (.raw oe)) (ht : H t = some (.raw ot)) (hf : ExcFact oe ot t neg)
    (h : J09 P L L0 oL N ROW PLN TH NU NW B xs ns bv xv sz nt H) (re : ρ "error" = some (.ref ea)) (rn : ρ "new" = some (.ref NW)) {turn : Nat} (rt : ρ "turn" = some (.int turn)) (hnt : nt = if turn = 0 then [] else [.ref NW])
    {Q : Fl → Lo → AH → Prop} (hQ : Q .next ρ H) : WS C A (env83 P L) (ts09 P) ρ H Q := by
  refine WS.cons (W1.if (WT.of (b := (false || (false || false))) (EvT.boolop (AllT.or_cons (b := false) (Ev.any (v := .str neg) (w := .str neg) (WE.ev (WE.callTy (Ev.glob0 rfl rfl rfl rfl G.str) (WEs.of (.cons (Ev.local0 rfl rfl re) .nil) (WCall.strExc (by lia) he ht hf ⟨rfl, rfl⟩)))) Ev.str (fun x y ex ey => ?_)) fun _ => AllT.or_cons (b := false) (WT.ev (WT.drop (WT.neD (by lia) (WE.of (Ev.cell0 rfl rfl rfl h.c) (WE.slice (lo := Option.none) (hi := some (turn : Int)) (WE.list rfl (by decide) (WEs.of (.cons (Ev.local0 rfl rfl rn) .nil) fun l1 hl1 => ⟨l1, _, _, rfl, AH.set_same .., rfl, .none, .some (Ev.local0 rfl rfl rt), fun c hc => ?_⟩))))))) fun _ => AllT.or_nil)) ⟨fun e => (by cases e), fun _ => WS.nil (WS.nil hQ)⟩))
  · obtain ⟨t1, rfl⟩ := ab_str ex
    obtain ⟨t2, rfl⟩ := ab_str ey
    intro s hs
    refine PySem.P.ne_str ⟨ρ, H, hs, .refl .., rfl, rfl, ?_⟩
    exact congrArg Value.bool (bne_self_eq_false _)
  · have hsl : slc none (some (turn : Int)) ([.ref NW] : List V) = nt := by
      rw [hnt]
      by_cases q : turn = 0
      · subst q; rfl
      · rw [if_neg q]
        unfold slc
        have : (some (turn : Int)).elim ([.ref NW] : List V).length (clipAt ([.ref NW] : List V).length) = 1 := by
          show clipAt 1 (turn : Int) = 1
          unfold clipAt; simp; (clear hc hl1 hQ hnt rt rn re h hf ht he hu G; omega)
        rw [this]; rfl
    rw [hsl]
    have le := AH.le_trans (AH.le_set (o := .list [.ref NW]) (AH.le_refl H) hl1) (AH.le_set (o := .list nt) (AH.le_refl _) hc)
    have hit : ∀ {H1 : AH}, H.le H1 → Rd H1 (.ref NW) (dIt (xv, sz)) := fun k => Rd_it (p := (NW, xv, sz)) (k _ _ h.nw)
    have hrd : ∀ {H1 : AH} {a : Addr}, H.le H1 → H1 a = some (.list nt) → Rd H1 (.ref a) (.list (nt.map fun _ => dIt (xv, sz))) := fun {H1 a} k e => by
      refine Rd_list e rfl ?_
      rw [hnt]
      by_cases q : turn = 0
      · rw [if_pos q]; rw [List.map_nil, RdL]
      · rw [if_neg q]
        exact RdL_map (xs := [()]) (f := fun _ => V.ref NW) (e := fun _ => dIt (xv, sz)) fun _ _ => hit k
    have hsh : SeqAt.shaped (.list (nt.map fun _ => dIt (xv, sz))) = true := (Dp.list (k := 1) (fun d hd => by obtain ⟨_, _, rfl⟩ := List.mem_map.mp hd; exact Dp_it _)).shaped (by decide)
    refine ⟨_, _, hrd le (le _ _ h.n), hrd le (AH.set_same ..), hsh, hsh, H, le, ?_, rfl⟩
    have : ∀ d : PyData, SeqAt.shaped d = true → True := fun _ _ => trivial
    rw [hnt]
    by_cases q : turn = 0
    · rw [if_pos q]; rw [List.map_nil, eqv_nil]; rfl
    · rw [if_neg q]
      show (!PyData.eqv (.list (([(xv, sz)] : List (Int × Int)).map dIt)) (.list (([(xv, sz)] : List (Int × Int)).map dIt))) = false
      rw [eqv_list_map eqv_it]; simp
/-- the refusals -/
theorem refused_spec (hK : (hd.heap_39 P).In C.base) (G : Gl09 C) {env : Env} (hh : A.handled = none) (hdep : A.depth + 12 < recursionLimit) (hu : A.units + 200 < cLine) (hbm : Bm C) (hC : CodeHd C.base 82 78) (hfr : A.frames = some (env :: outer)) (hcur : CurF env) (hO : FrO H outer)
    (hth : H TH = some (.list (refs xs))) (hnu : H NU = some (.list (vints ns))) (hnw : H NW = some (.list [.int xv, .int sz])) (hb : H B = some (.list bv)) (hI : ∀ p ∈ xs, IsIt H p) (ht : Tab H 78 ("_law_refused.<locals>.<lambda>"))
    (hbv : bv.length ≤ 2) {lo : Int} (hlo : lo < 0) (hlv : loV bv = .int lo) {Q : V → AH → Prop} (hQ : ∀ H', Up H H' → Tab H' 78 ("_law_refused.<locals>.<lambda>") → Q (.bool true) H') :
    WCallT C A (.ref 83) [.bool right, .ref TH, .ref NU, .ref NW, .ref B] [] H env Q := by
  have hsz : 10000 ≤ sizeLine := by decide
  refine WCallT.fn hfr hcur hO (fn_in hK 83 rfl) (by lia) rfl rfl (fun h k => codeRec_of (hK.keeps k) rfl) (bs := [("right", .bool right), ("things", .ref TH), ("numbers", .ref NU), ("new", .ref NW), ("bounds", .ref B)]) ?_ rfl (show (["notes"] : List Str).Nodup by decide) ?_
  · intro vals e1
    obtain ⟨x1, x2, x3, x4, x5, rfl, y1, y2, y3, y4, y5⟩ := vals5 e1
    refine ⟨[("right", x1), ("things", x2), ("numbers", x3), ("new", x4), ("bounds", x5)], by kernel_rfl, ?_⟩
    show [(_, ab x1), (_, ab x2), (_, ab x3), (_, ab x4), (_, ab x5)] = _
    rw [y1, y2, y3, y4, y5]
  intro L oL h1 h2 h3 hcs hfr' hO'
  have hq : q83 P L = "_law_refused.<locals>.<lambda>" := by kernel_rfl
  have hdep' : (A.deeper (env83 P L)).depth + 8 < recursionLimit := by show A.depth + 1 + 8 < _; lia
  have hu' : (A.deeper (env83 P L)).units + 150 < cLine := by show A.units + 3 + 150 < cLine; lia
  have hh' : (A.deeper (env83 P L)).handled = none := hh
  change WS C (A.deeper (env83 P L)) (env83 P L) _ _ _ _
  generalize A.deeper (env83 P L) = A' at *
  have F : Fx C A' (env83 P L) := ⟨rfl, rfl, rfl, hh'⟩
  generalize hρ : (aL (kinds (fdOf (hd.heap_39 P) 83)) [("right", .bool right), ("things", .ref TH), ("numbers", .ref NU), ("new", .ref NW), ("bounds", .ref B)] fun _ => none) = ρ
  have r1 : ρ "right" = some (.bool right) := by rw [← hρ]; rfl
  have r2 : ρ "things" = some (.ref TH) := by rw [← hρ]; rfl
  have r3 : ρ "numbers" = some (.ref NU) := by rw [← hρ]; rfl
  have r4 : ρ "new" = some (.ref NW) := by rw [← hρ]; rfl
  have r5 : ρ "bounds" = some (.ref B) := by rw [← hρ]; rfl
  obtain ⟨n1, n2, n3⟩ := hcs ("notes", L + 1) (.head _)
  show WS C A' _ _ ρ ((H.set env.locals (.frm oL)).set (L + 1) (.cell none)) _
  have le0 : H.le (H.set env.locals (.frm oL)) := AH.le_set (AH.le_refl _) h1
  have le1 : (H.set env.locals (.frm oL)).le ((H.set env.locals (.frm oL)).set (L + 1) (.cell none)) := AH.le_set (AH.le_refl _) (by rw [AH.set_ne _ _ n3]; exact n1)
  have leA := AH.le_trans le0 le1
  have c1 : ((H.set env.locals (.frm oL)).set (L + 1) (.cell none)) (L + 1) = some (.cell none) := AH.set_same ..
  have f1 : ((H.set env.locals (.frm oL)).set (L + 1) (.cell none)) env.locals = some (.frm oL) := le1 _ _ (AH.set_same ..)
  have hO1 : FrO ((H.set env.locals (.frm oL)).set (L + 1) (.cell none)) (env :: outer) := hO'.mono fun a o e => le1 _ _ e
  have g1 := leA _ _ hth
  have g2 := leA _ _ hnu
  have g3 := leA _ _ hnw
  have g4 := leA _ _ hb
  have gI : ∀ p ∈ xs, IsIt ((H.set env.locals (.frm oL)).set (L + 1) (.cell none)) p := fun p hp => leA _ _ (hI p hp)
  have gt := ht.le leA
  rw [← hq] at gt
  generalize (H.set env.locals (.frm oL)).set (L + 1) (.cell none) = H1 at *
  -- row, plain, notes
  refine WS.seq (W1.asgTup F (WEs.cons (WE.slice (lo := Option.none) (hi := Option.none) (WE.of (Ev.local F rfl r2) ⟨TH, _, _, rfl, g1, rfl, .none, .none, fun ROW hROW => ?_⟩))))
  rw [slc_all]
  have le2 := AH.le_set (o := .list (refs xs)) (AH.le_refl H1) hROW
  have e2 : (H1.set ROW (.list (refs xs))) ROW = some (.list (refs xs)) := AH.set_same ..
  refine WEs.cons (WE.slice (lo := Option.none) (hi := Option.none) (WE.of (Ev.local F rfl r3) ⟨NU, _, _, rfl, le2 _ _ g2, rfl, .none, .none, fun PLN hPLN => ?_⟩))
  rw [slc_all]
  have le3 := AH.le_set (o := .list (vints ns)) (AH.le_refl (H1.set ROW (.list (refs xs)))) hPLN
  have e3 : ((H1.set ROW (.list (refs xs))).set PLN (.list (vints ns))) PLN = some (.list (vints ns)) := AH.set_same ..
  refine WEs.cons (WE.list rfl (by decide) (WEs.nil fun N hN => WEs.nil ?_))
  have le4 := AH.le_set (o := .list []) (AH.le_refl ((H1.set ROW (.list (refs xs))).set PLN (.list (vints ns)))) hN
  have e4 : (((H1.set ROW (.list (refs xs))).set PLN (.list (vints ns))).set N (.list [])) N = some (.list []) := AH.set_same ..
  have leB : H1.le (((H1.set ROW (.list (refs xs))).set PLN (.list (vints ns))).set N (.list [])) := AH.le_trans le2 (AH.le_trans le3 le4)
  have e2' := le4 _ _ (le3 _ _ e2)
  have e3' := le4 _ _ e3
  have nN : ∀ {a : Addr} {o : O}, ((H1.set ROW (.list (refs xs))).set PLN (.list (vints ns))) a = some o → N ≠ a := fun e q => by rw [← q, hN] at e; cases e
  have hne : N ≠ ROW ∧ N ≠ PLN ∧ N ≠ TH ∧ N ≠ NU ∧ N ≠ NW ∧ N ≠ B ∧ ∀ p ∈ xs, p.1 ≠ N := ⟨nN (le3 _ _ e2), nN e3, nN (le3 _ _ (le2 _ _ g1)), nN (le3 _ _ (le2 _ _ g2)), nN (le3 _ _ (le2 _ _ g3)), nN (le3 _ _ (le2 _ _ g4)), fun p hp => (nN (le3 _ _ (le2 _ _ (gI p hp)))).symm⟩
  have hNH : ∀ {a : Addr} {o : O}, H1 a = some o → a ≠ N := fun e => (nN (le3 _ _ (le2 _ _ e))).symm
  generalize ((H1.set ROW (.list (refs xs))).set PLN (.list (vints ns))).set N (.list []) = H2 at *
  refine Asg.local F rfl (Asg.local F rfl (Asg.cell F rfl rfl (leB _ _ c1) ⟨rfl, ?_⟩))
  have s : ∀ {a : Addr} {o : O}, H2 a = some o → (∀ w, o ≠ .cell w) → (H2.set (L + 1) (.cell (some (.ref N)))) a = some o := fun e hn => by rw [AH.set_ne _ _ (fun q => by rw [q, leB _ _ c1] at e; exact hn _ (Option.some.inj e).symm)]; exact e
  have j0 : J09 P L env.locals oL N ROW PLN TH NU NW B xs ns bv xv sz [] (H2.set (L + 1) (.cell (some (.ref N)))) :=
    ⟨s e2' (by simp), s e3' (by simp), s (leB _ _ g1) (by simp), s (leB _ _ g2) (by simp), s (leB _ _ g3) (by simp), s (leB _ _ g4) (by simp), fun p hp => s (leB _ _ (gI p hp)) (by simp), s e4 (by simp), AH.set_same .., s (leB _ _ f1) (by simp), let ⟨es, t1, t2⟩ := gt; ⟨es, s (leB _ _ t1) (by simp), fun e he => s (leB _ _ (t2 e he)) (by simp)⟩, hne⟩
  have up0 : ∀ a o, H a = some o → a ≠ 78 → a ≠ N ∧ (H2.set (L + 1) (.cell (some (.ref N)))) a = some o := fun a o e n => by
    have e' := leA _ _ e
    refine ⟨hNH e', ?_⟩
    rw [AH.set_ne _ _ (fun q => by rw [q, n1] at e; cases e)]; exact leB _ _ e'
  have hO2 : FrO (H2.set (L + 1) (.cell (some (.ref N)))) (env :: outer) := hO1.mono fun a o e => s (leB _ _ e) (by simp)
  have hNfr : ∀ {a : Addr} {o : Obj}, (H2.set (L + 1) (.cell (some (.ref N)))) a = some (.frm o) → a ≠ N := fun e q => by rw [q, j0.n] at e; cases e
  generalize H2.set (L + 1) (.cell (some (.ref N))) = H3 at *
  generalize hρ2 : ((ρ.set "row" (.ref ROW)).set "plain" (.ref PLN)) = ρ2
  have R2 : Rh ρ2 right ROW PLN TH NU NW B := by
    rw [← hρ2]
    exact ⟨r1, rfl, rfl, r2, r3, r4, r5⟩
  -- four tries
  refine WS.seq (W1.for (WIt.range1 F (Ev.glob F rfl G.range) Ev.int (by decide) (by decide) ?_))
  refine ⟨fun i ρ1 Hi => Rh ρ1 right ROW PLN TH NU NW B ∧ UpN N H3 Hi ∧ J09 P L env.locals oL N ROW PLN TH NU NW B xs ns bv xv sz (if i ≤ 1 then [] else [.ref NW]) Hi, ⟨R2, fun _ _ e _ _ => e, j0⟩, ?_, ?_⟩
  · rintro i ρ1 Hi hi ⟨ri, ui, ji⟩
    have hi4 : i < 4 := hi
    refine ⟨trivial, ?_⟩
    rintro d rfl
    refine Asg.local F rfl ?_
    have rt : (ρ1.set "turn" (.int i)) "turn" = some (.int (i : Nat)) := rfl
    have ri' : Rh (ρ1.set "turn" (.int i)) right ROW PLN TH NU NW B := ⟨ri.right, ri.row, ri.plain, ri.things, ri.numbers, ri.new, ri.bounds⟩
    generalize ρ1.set "turn" (.int i) = ρ3 at *
    have hOi : FrO Hi (env :: outer) := hO2.mono fun a o e => ui a _ e (hNfr e) (j0.ntab e (by simp))
    refine WS.cons (W1.tryX (m := neg) (outer := env :: outer) (R := fun ρ' H' => ρ' = ρ3 ∧ UpN N Hi H' ∧ J09 P L env.locals oL N ROW PLN TH NU NW B xs ns bv xv sz (if i = 0 then [] else [.ref NW]) H') F hfr' ⟨rfl, by intro q; cases q⟩ (try_body hK G F hdep' (by lia) hbm hC hfr' hOi ji hbv hlo hlv ri' hi4 rt rfl) rfl rfl G.ve ?_)
    rintro _ H4 ea t oe ot ⟨rfl, u4, j4⟩ hO4 hea het hne' hf
    have leE : H4.le ((H4.set ea (.raw oe)).set t (.raw ot)) := AH.le_trans (AH.le_set (AH.le_refl _) hea) (AH.le_set (AH.le_refl _) (by rw [AH.set_ne _ _ hne']; exact het))
    have j5 := j4.grow leE
    refine handler_ok (turn := i) G (by show A'.units + 100 < cLine; lia) (by rw [AH.set_ne _ _ (Ne.symm hne')]; exact AH.set_same ..) (AH.set_same ..) hf j5 (by rfl) (by exact ri'.new) (by exact rt) rfl ?_
    intro v
    refine WS.nil ⟨⟨?_, ?_, ?_, ?_, ?_, ?_, ?_⟩, ui.trans (u4.trans (UpN.of_up (Up.of_le leE))), ?_⟩
    · exact ri'.right
    · exact ri'.row
    · exact ri'.plain
    · exact ri'.things
    · exact ri'.numbers
    · exact ri'.new
    · exact ri'.bounds
    · have : (if i + 1 ≤ 1 then ([] : List V) else [.ref NW]) = if i = 0 then [] else [.ref NW] := by
        by_cases q : i = 0
        · subst q; rfl
        · rw [if_neg (by (clear j5 leE hf hne' het hea hO4 j4 u4 ri' rt hOi hi4 ji ui ri hi R2 hρ2 hNfr hO2 up0 j0 s e3' e2' leB e4 le4 hNH hne nN hN e3 le3 hPLN e2 le2 hROW gt gI g4 g3 g2 g1 hO1 f1 c1 leA le1 le0 n3 n2 n1 r5 r4 r3 r2 r1 hρ F hh' hu' hdep' hfr' hq hO' hcs h3 h2 h1 hsz hQ hlv hlo hbv ht hI hb hnw hnu hth hO hcur hfr hC hbm hu hdep hh G hK; lia)), if_neg q]
      rw [this]; exact j5
  · rintro ρ1 Hi ⟨ri, ui, ji⟩
    refine ⟨trivial, rfl, ?_⟩
    refine WS.cons (W1.ret (WE.of (v := .bool (true && true)) (Ev.and2 (WE.ev (WE.eqD (by lia) (WE.of (Ev.local F rfl ri.row) (WE.of (Ev.local F rfl ri.things) ⟨dPart xs, dPart xs, Rd_part ji.row rfl ji.hI, Rd_part ji.th rfl ji.hI, (Dp_part _).shaped (by decide), (Dp_part _).shaped (by decide), by rw [eqv_part]; simp, rfl⟩)))) fun _ => WE.ev (WE.eqD (by lia) (WE.of (Ev.local F rfl ri.plain) (WE.of (Ev.local F rfl ri.numbers) ⟨dints ns, dints ns, Rd_ints ji.pln rfl, Rd_ints ji.nu rfl, shaped_ints _, shaped_ints _, by rw [eqv_ints]; simp, rfl⟩)))) ?_))
    refine ⟨ji.fr, hQ _ (fun a o e n => ?_) ?_⟩
    · obtain ⟨p1, p2⟩ := up0 a o e n
      unfold eraseA
      rw [if_neg (fun q => by rw [q, h1] at e; cases e)]
      exact ui a o p2 p1 n
    · rw [← hq]
      obtain ⟨es, t1, t2⟩ := ji.t
      refine ⟨es, ?_, fun e he => ?_⟩
      · unfold eraseA; rw [if_neg (fun q => by rw [q, ji.fr] at t1; cases t1)]; exact t1
      · unfold eraseA; rw [if_neg (fun q => by have := t2 e he; rw [q, ji.fr] at this; cases this)]; exact t2 e he
end
end Mine

set_option maxHeartbeats 4000000
namespace Mine
open PySem PySem.W PyProof.Rows

noncomputable def loN (bs : List Nat) : Nat := bs.getD 0 0
noncomputable def hiN (bs : List Nat) (m : Nat) : Nat := bs.getD 1 m
noncomputable def vnats (bs : List Nat) : List V := bs.map fun (b : Nat) => V.int b
theorem loV_nats : ∀ (bs : List Nat), loV (vnats bs) = .int (loN bs : Nat)
  | [] => rfl
  | b :: r => rfl
theorem hiV_nats (m : Nat) : ∀ (bs : List Nat), bs.length ≤ 2 → (∀ b ∈ bs, b ≤ m) → (hiV (vnats bs) = .none ∧ hiN bs m = m) ∨ (hiV (vnats bs) = .int (hiN bs m : Nat) ∧ hiN bs m ≤ m)
  | [], _, _ => .inl ⟨rfl, rfl⟩
  | [b], _, _ => .inl ⟨rfl, rfl⟩
  | [b, c], _, h => .inr ⟨rfl, h c (by simp)⟩
  | _ :: _ :: _ :: _, h, _ => absurd h (by simp)
theorem loN_le {m : Nat} : ∀ (bs : List Nat), (∀ b ∈ bs, b ≤ m) → loN bs ≤ m
  | [], _ => Nat.zero_le _
  | b :: r, h => h b (by simp)
theorem hiN_le {m : Nat} : ∀ (bs : List Nat), (∀ b ∈ bs, b ≤ m) → hiN bs m ≤ m
  | [], _ => Nat.le_refl _
  | [b], _ => Nat.le_refl _
  | b :: c :: r, h => h c (by simp)
noncomputable def fR (right : Bool) (xv : Int) (ns : List Int) (i : Nat) : Bool := if right then decide (xv < ns.getD i 0) else !decide (ns.getD i 0 < xv)
noncomputable def Ok9 (A A' : Around) : Prop := A'.handled = none ∧ A'.depth ≤ A.depth + 4 ∧ A'.units ≤ A.units + 12
theorem AH.set_id {H : AH} {a : Addr} {o : O} (h : H a = some o) : H.set a o = H := by
  funext b; unfold AH.set; split
  · rename_i q; rw [q, h]
  · rfl
/-- things, each with its number and its place -/
structure Th (xs : List It) (ns : List Int) : Prop where
  len : xs.length = ns.length
  at_ : ∀ (i : Nat) (p : It), xs[i]? = some p → p.2.1 = ns.getD i 0 ∧ p.2.2 = (i : Int)
section
variable {C : Cx} {A : Around} {H : AH} {P : Params} {right : Bool} {xs : List It} {ns : List Int} {xv : Int} {bs : List Nat} {TH N g B NU : Addr} {o : Obj} {fd : FuncData}
theorem asked_refs (T : Th xs ns) (f : Nat → Bool) {lo hi : Nat} (h : hi ≤ ns.length) : (bisA f lo hi).map (fun i => (refs xs).getD i .none) = refs ((bisA f lo hi).map fun i => xs.getD i d0) := by
  unfold refs
  rw [List.map_map]
  apply List.map_congr_left
  intro i hi'
  have := (bisA_mem f lo hi i hi').2
  have hx : i < xs.length := by rw [T.len]; lia
  show (xs.map _).getD i .none = V.ref (xs.getD i d0).1
  rw [List.getD_eq_getElem?_getD, List.getD_eq_getElem?_getD, List.getElem?_map, List.getElem?_eq_getElem hx]; rfl
theorem bind_bs (hK : (hd.heap_39 P).In C.base) (f : Addr) (hf : f = 23 ∨ f = 32 ∨ f = 41 ∨ f = 50) {a x keyV : V} (hbs : bs.length ≤ 2) : ∀ (vals : List Value) (kvs : List (Str × Value)), vals.map ab = a :: x :: vnats bs → kvs.map (fun p => (p.1, ab p.2)) = ([("key", keyV)] : List (Str × V)) → ∃ binds, (∀ s, Keep C s → BindsTo s (fdOf (hd.heap_39 P) f) ⟨vals, kvs⟩ binds) ∧ binds.map (fun p => (p.1, ab p.2)) = ([("a", a), ("x", x), ("lo", .int (loN bs : Nat)), ("hi", hiV (vnats bs)), ("key", keyV)] : List (Str × V)) := fun vals kvs e1 e2 => by
  obtain ⟨binds, b1, b2⟩ := bind_b hK f hf (keyV := keyV) (by unfold vnats; rw [List.length_map]; exact hbs) vals kvs e1 e2
  exact ⟨binds, b1, by rw [b2, loV_nats]⟩
/-- a search that notes -/
theorem searchN (hK : (hd.heap_39 P).In C.base) (G : Gl09 C) (hh : A.handled = none) (hdep : A.depth + 8 < recursionLimit) (T : Th xs ns) (hm : ns.length ≤ 64) (hbs : bs.length ≤ 2) (hbl : ∀ b ∈ bs, b ≤ ns.length)
    (hth : H TH = some (.list (refs xs))) (hB : H B = some (.list (vnats bs))) (hN : H N = some (.list [])) (hTN : TH ≠ N) (hfn : ∀ l, FnAt C (H.set N (.list l)) g o fd)
    (hkey : ∀ A', Ok9 A A' → ∀ p ∈ xs, NoteOk C A' (fun l => H.set N (.list l)) g (.ref p.1) (.int p.2.1))
    {Q : V → AH → Prop} (hQ : Q (.int (bis (fR right xv ns) (loN bs) (hiN bs ns.length) : Nat)) (H.set N (.list (refs ((bisA (fR right xv ns) (loN bs) (hiN bs ns.length)).map fun i => xs.getD i d0))))) :
    WCall C A (.ref 64) [.bool right, .ref TH, .int xv, .ref B, .ref g] [] H Q := by
  have hhi := hiN_le bs hbl
  have hrl : (refs xs).length = ns.length := by rw [refs_len, T.len]
  have hhv : (hiV (vnats bs) = .none ∧ hiN bs ns.length = (refs xs).length) ∨ (hiV (vnats bs) = .int (hiN bs ns.length : Nat) ∧ hiN bs ns.length ≤ (refs xs).length) := by rw [hrl]; exact hiV_nats _ bs hbs hbl
  have hHS : (fun l => H.set N (.list l)) ([] : List V) = H := AH.set_id hN
  have hth' : ∀ l : List V, (fun l => H.set N (.list l)) l TH = some (.list (refs xs)) := fun l => by show (H.set N _) TH = _; rw [AH.set_ne _ _ hTN]; exact hth
  rw [← asked_refs T (fR right xv ns) hhi] at hQ
  refine search_spec hK G hh (by lia) hB rfl fun A' hA' => ?_
  have hok : ∀ A'', Nx A' A'' → Ok9 A A'' := fun A'' h2 => ⟨h2.2.2.trans (hA'.2.2.trans hh), by rw [h2.1, hA'.1]; lia, by rw [h2.2.1, hA'.2.1]; lia⟩
  have item : ∀ (i : Nat) (v : V), (refs xs)[i]? = some v → ∃ p ∈ xs, v = .ref p.1 ∧ p.2.1 = ns.getD i 0 := fun i v hv => by
    obtain ⟨p, hp, rfl⟩ := refs_at hv
    exact ⟨p, List.mem_of_getElem? hp, rfl, (T.at_ i p hp).1⟩
  have key : WCall C A' (.ref (if right then 32 else 50)) (.ref TH :: .int xv :: vnats bs) [("key", .ref g)] ((fun l => H.set N (.list l)) ([] : List V)) Q := by
    cases right with
    | true =>
      refine br_note (ns0 := []) (o := o) (fd := fd) hK G.len (hA'.2.2.trans hh) (by rw [hA'.1]; lia) (fR true xv ns) (bind_bs hK 32 (by simp) hbs) hth' hhv hfn (fun A'' hA'' i v _ _ hv => ?_) (by simp; lia) hQ
      obtain ⟨p, hp, rfl, e⟩ := item i v hv
      refine ⟨_, hkey A'' (hok A'' hA'') p hp, fun l => ?_⟩
      show LtOk C A'' _ _ _ (decide (xv < ns.getD i 0))
      rw [e]; exact LtOk.int
    | false =>
      refine bl_note (ns0 := []) (o := o) (fd := fd) hK G.len (hA'.2.2.trans hh) (by rw [hA'.1]; lia) (fR false xv ns) (bind_bs hK 50 (by simp) hbs) hth' hhv hfn (fun A'' hA'' i v _ _ hv => ?_) (by simp; lia) hQ
      obtain ⟨p, hp, rfl, e⟩ := item i v hv
      refine ⟨_, hkey A'' (hok A'' hA'') p hp, fun l => ?_⟩
      show LtOk C A'' _ _ _ (!!decide (ns.getD i 0 < xv))
      rw [Bool.not_not, e]; exact LtOk.int
  rw [hHS] at key
  exact key
/-- a search without a key -/
theorem search0 (hK : (hd.heap_39 P).In C.base) (G : Gl09 C) (hh : A.handled = none) (hdep : A.depth + 8 < recursionLimit) (hbs : bs.length ≤ 2) (hbl : ∀ b ∈ bs, b ≤ ns.length)
    (hnu : H NU = some (.list (vints ns))) (hB : H B = some (.list (vnats bs))) {Q : V → AH → Prop} (hQ : Q (.int (bis (fR right xv ns) (loN bs) (hiN bs ns.length) : Nat)) H) :
    WCall C A (.ref 64) [.bool right, .ref NU, .int xv, .ref B, .none] [] H Q := by
  have hhi := hiN_le bs hbl
  have hhv : (hiV (vnats bs) = .none ∧ hiN bs ns.length = (vints ns).length) ∨ (hiV (vnats bs) = .int (hiN bs ns.length : Nat) ∧ hiN bs ns.length ≤ (vints ns).length) := by rw [ints_length]; exact hiV_nats _ bs hbs hbl
  refine search_spec hK G hh (by lia) hB rfl fun A' hA' => ?_
  cases right with
  | true =>
    refine br_core hK G.len (hA'.2.2.trans hh) (by rw [hA'.1]; lia) (fR true xv ns) (bind_bs hK 32 (by simp) hbs) hnu rfl hhv (fun A'' hA'' => .inl ⟨rfl, fun i v _ _ hv => ?_⟩) hQ
    obtain ⟨rfl, _⟩ := vints_at hv
    exact LtOk.int
  | false =>
    refine bl_core hK G.len (hA'.2.2.trans hh) (by rw [hA'.1]; lia) (fR false xv ns) (bind_bs hK 50 (by simp) hbs) hnu rfl hhv (fun A'' hA'' => .inl ⟨rfl, fun i v _ _ hv => ?_⟩) hQ
    obtain ⟨rfl, _⟩ := vints_at hv
    show LtOk C A'' _ _ _ (!!decide (ns.getD i 0 < xv))
    rw [Bool.not_not]; exact LtOk.int
/-- a thing put in, noting -/
theorem putN {ROW NW : Addr} {sz : Int} (hK : (hd.heap_39 P).In C.base) (G : Gl09 C) (hh : A.handled = none) (hdep : A.depth + 8 < recursionLimit) (T : Th xs ns) (hm : ns.length ≤ 64) (hbs : bs.length ≤ 2) (hbl : ∀ b ∈ bs, b ≤ ns.length)
    (hrow : H ROW = some (.list (refs xs))) (hB : H B = some (.list (vnats bs))) (hN : H N = some (.list [])) (hRN : ROW ≠ N) (hfn : ∀ l, FnAt C (H.set N (.list l)) g o fd)
    (hkx : ∀ A', Ok9 A A' → NoteOk C A' (fun l => H.set N (.list l)) g (.ref NW) (.int xv)) (hkey : ∀ A', Ok9 A A' → ∀ p ∈ xs, NoteOk C A' (fun l => H.set N (.list l)) g (.ref p.1) (.int p.2.1))
    {Q : V → AH → Prop} (hQ : Q .none ((H.set N (.list (.ref NW :: refs ((bisA (fR right xv ns) (loN bs) (hiN bs ns.length)).map fun i => xs.getD i d0)))).set ROW (.list (ins (refs xs) (bis (fR right xv ns) (loN bs) (hiN bs ns.length)) (.ref NW))))) :
    WCall C A (.ref 71) [.bool right, .ref ROW, .ref NW, .ref B, .ref g] [] H Q := by
  have hsz : 1000 < sizeLine := by decide
  have hhi := hiN_le bs hbl
  have hll := loN_le bs hbl
  have hrl : (refs xs).length = ns.length := by rw [refs_len, T.len]
  have hhv : (hiV (vnats bs) = .none ∧ hiN bs ns.length = (refs xs).length) ∨ (hiV (vnats bs) = .int (hiN bs ns.length : Nat) ∧ hiN bs ns.length ≤ (refs xs).length) := by rw [hrl]; exact hiV_nats _ bs hbs hbl
  have hbb : bis (fR right xv ns) (loN bs) (hiN bs ns.length) ≤ (refs xs).length := by
    have := bis_le (fR right xv ns) (loN bs) (hiN bs ns.length); (clear hhv hsz hQ hkey hkx hfn hRN hN hB hrow hbl hbs hm T hdep hh G hK; lia)
  have hHS : (fun l => H.set N (.list l)) ([] : List V) = H := AH.set_id hN
  have hth' : ∀ l : List V, (fun l => H.set N (.list l)) l ROW = some (.list (refs xs)) := fun l => by show (H.set N _) ROW = _; rw [AH.set_ne _ _ hRN]; exact hrow
  rw [← asked_refs T (fR right xv ns) hhi] at hQ
  refine put_spec hK G hh (by lia) hB rfl fun A' hA' => ?_
  have hok1 : ∀ A'', Nx A' A'' → Ok9 A A'' := fun A'' h2 => ⟨h2.2.2.trans (hA'.2.2.trans hh), by rw [h2.1, hA'.1]; lia, by rw [h2.2.1, hA'.2.1]; lia⟩
  have hok : ∀ A'' A3, Nx A' A'' → Nx A'' A3 → Ok9 A A3 := fun A'' A3 h2 h3 => ⟨h3.2.2.trans (h2.2.2.trans (hA'.2.2.trans hh)), by rw [h3.1, h2.1, hA'.1]; lia, by rw [h3.2.1, h2.2.1, hA'.2.1]; lia⟩
  have item : ∀ (i : Nat) (v : V), (refs xs)[i]? = some v → ∃ p ∈ xs, v = .ref p.1 ∧ p.2.1 = ns.getD i 0 := fun i v hv => by
    obtain ⟨p, hp, rfl⟩ := refs_at hv
    exact ⟨p, List.mem_of_getElem? hp, rfl, (T.at_ i p hp).1⟩
  have key : WCall C A' (.ref (if right then 23 else 41)) (.ref ROW :: .ref NW :: vnats bs) [("key", .ref g)] ((fun l => H.set N (.list l)) ([] : List V)) Q := by
    cases right with
    | true =>
      refine ir_note (ns0 := []) (o := o) (fd := fd) (kx := .int xv) hK G.len G.br (hA'.2.2.trans hh) (by rw [hA'.1]; lia) (fR true xv ns) (bind_bs hK 23 (by simp) hbs) hth' (by lia) hbb hhv hfn (fun A'' hA'' => hkx A'' (hok1 A'' hA'')) (fun A'' A3 h2 h3 i v _ _ hv => ?_) (by simp; lia) hQ
      obtain ⟨p, hp, rfl, e⟩ := item i v hv
      refine ⟨_, hkey A3 (hok A'' A3 h2 h3) p hp, fun l => ?_⟩
      show LtOk C A3 _ _ _ (decide (xv < ns.getD i 0))
      rw [e]; exact LtOk.int
    | false =>
      refine il_note (ns0 := []) (o := o) (fd := fd) (kx := .int xv) hK G.len G.bl (hA'.2.2.trans hh) (by rw [hA'.1]; lia) (fR false xv ns) (bind_bs hK 41 (by simp) hbs) hth' (by lia) hbb hhv hfn (fun A'' hA'' => hkx A'' (hok1 A'' hA'')) (fun A'' A3 h2 h3 i v _ _ hv => ?_) (by simp; lia) hQ
      obtain ⟨p, hp, rfl, e⟩ := item i v hv
      refine ⟨_, hkey A3 (hok A'' A3 h2 h3) p hp, fun l => ?_⟩
      show LtOk C A3 _ _ _ (!!decide (ns.getD i 0 < xv))
      rw [Bool.not_not, e]; exact LtOk.int
  rw [hHS] at key
  exact key
/-- a number put in -/
theorem put0 {PL : Addr} (hK : (hd.heap_39 P).In C.base) (G : Gl09 C) (hh : A.handled = none) (hdep : A.depth + 8 < recursionLimit) (hm : ns.length ≤ 64) (hbs : bs.length ≤ 2) (hbl : ∀ b ∈ bs, b ≤ ns.length)
    (hpl : H PL = some (.list (vints ns))) (hB : H B = some (.list (vnats bs))) {Q : V → AH → Prop} (hQ : Q .none (H.set PL (.list (ins (vints ns) (bis (fR right xv ns) (loN bs) (hiN bs ns.length)) (.int xv))))) :
    WCall C A (.ref 71) [.bool right, .ref PL, .int xv, .ref B, .none] [] H Q := by
  have hsz : 1000 < sizeLine := by decide
  have hhi := hiN_le bs hbl
  have hll := loN_le bs hbl
  have hhv : (hiV (vnats bs) = .none ∧ hiN bs ns.length = (vints ns).length) ∨ (hiV (vnats bs) = .int (hiN bs ns.length : Nat) ∧ hiN bs ns.length ≤ (vints ns).length) := by rw [ints_length]; exact hiV_nats _ bs hbs hbl
  have hbb : bis (fR right xv ns) (loN bs) (hiN bs ns.length) ≤ (vints ns).length := by
    have := bis_le (fR right xv ns) (loN bs) (hiN bs ns.length); rw [ints_length]; (clear hhv hsz hQ hB hpl hbl hbs hm hdep hh G hK; lia)
  refine put_spec hK G hh (by lia) hB rfl fun A' hA' => ?_
  cases right with
  | true =>
    refine ir_core hK G.len G.br (hA'.2.2.trans hh) (by rw [hA'.1]; lia) (fR true xv ns) (bind_bs hK 23 (by simp) hbs) hpl (by rw [ints_length]; lia) hbb hhv (.inl ⟨rfl, fun A'' A3 _ _ i v _ _ hv => ?_⟩) hQ
    obtain ⟨rfl, _⟩ := vints_at hv
    exact LtOk.int
  | false =>
    refine il_core hK G.len G.bl (hA'.2.2.trans hh) (by rw [hA'.1]; lia) (fR false xv ns) (bind_bs hK 41 (by simp) hbs) hpl (by rw [ints_length]; lia) hbb hhv (.inl ⟨rfl, fun A'' A3 _ _ i v _ _ hv => ?_⟩) hQ
    obtain ⟨rfl, _⟩ := vints_at hv
    show LtOk C A3 _ _ _ (!!decide (ns.getD i 0 < xv))
    rw [Bool.not_not]; exact LtOk.int
end
section
variable {C : Cx} {A : Around} {env : Env} {ρ : Lo} {H : AH}
theorem WT.isNotNone {l : Expr} {k : Nat} {p pos : Pos} {Q : Bool → AH → Prop} (h : WE C A env l ρ H (fun v H1 => Q (!decide (v = .none)) H1)) : WT C A env (.Compare l [.IsNot] [.Constant .none k p] pos) ρ H Q :=
  W.isTrue_Compare1 rfl (W.mono h (by
    rintro x _ H1 ⟨rfl, q⟩
    refine Ev.none.then fun y e' => ?_
    rw [ab_none e']
    intro s hs
    refine isNot_none ⟨_, _, hs, .refl .., ?_⟩
    rw [beq_none rfl]
    exact W.truthy_bool ⟨rfl, q⟩))
end
end Mine

set_option maxHeartbeats 4000000
namespace Mine
open PySem PySem.W PyProof.Rows

noncomputable abbrev env88 (P : Params) (L : Addr) : Env := callEnvC (fdOf (hd.heap_39 P) 88) L 88
noncomputable abbrev q88 (P : Params) (L : Addr) : Str := (env88 P L).qual ++ "<lambda>"
noncomputable abbrev rb09 (P : Params) : List Stmt := forBody (stAt (bodyOf (fdOf (hd.heap_39 P) 88)) 6)
noncomputable abbrev bb09 (P : Params) : List Stmt := forBody (stAt (rb09 P) 1)
noncomputable def UpT (H H' : AH) : Prop := ∀ a o, H a = some o → (∀ es, o ≠ .tab es) → H' a = some o
theorem UpT.of_le {H H' : AH} (x : H.le H') : UpT H H' := fun a o e _ => x a o e
structure K9 (P : Params) (L NU TH NW : Addr) (xs : List It) (ns : List Int) (xv : Int) (H : AH) : Prop where
  cx : H (L + 1) = some (.cell (some (.int xv)))
  cn : H (L + 2) = some (.cell (some (.ref NU)))
  cs : H (L + 3) = some (.cell (some (.int ns.length)))
  cr : ∃ v, H (L + 4) = some (.cell v)
  ca : ∃ v, H (L + 5) = some (.cell v)
  co : ∃ v, H (L + 6) = some (.cell v)
  nu : H NU = some (.list (vints ns))
  th : H TH = some (.list (refs xs))
  nw : H NW = some (.list [.int xv, .int ns.length])
  hI : ∀ p ∈ xs, IsIt H p
  t1 : Tab H 78 "_law_refused.<locals>.<lambda>"
  t2 : Tab H 85 (q88 P L)
section
variable {P : Params} {L NU TH NW : Addr} {xs : List It} {ns : List Int} {xv : Int} {H : AH}
theorem K9.up {H' : AH} (h : K9 P L NU TH NW xs ns xv H) (k : UpT H H') (t1 : Tab H' 78 "_law_refused.<locals>.<lambda>") (t2 : Tab H' 85 (q88 P L)) : K9 P L NU TH NW xs ns xv H' :=
  ⟨k _ _ h.cx (by simp), k _ _ h.cn (by simp), k _ _ h.cs (by simp), let ⟨v, e⟩ := h.cr; ⟨v, k _ _ e (by simp)⟩, let ⟨v, e⟩ := h.ca; ⟨v, k _ _ e (by simp)⟩, let ⟨v, e⟩ := h.co; ⟨v, k _ _ e (by simp)⟩, k _ _ h.nu (by simp), k _ _ h.th (by simp), k _ _ h.nw (by simp), fun p hp => k _ _ (h.hI p hp) (by simp), t1, t2⟩
theorem K9.grow {H' : AH} (h : K9 P L NU TH NW xs ns xv H) (k : H.le H') : K9 P L NU TH NW xs ns xv H' := h.up (UpT.of_le k) (h.t1.le k) (h.t2.le k)
theorem K9.ntab {a : Addr} {o : O} (h : K9 P L NU TH NW xs ns xv H) (e : H a = some o) (ho : ∀ es, o ≠ .tab es) : a ≠ 85 := fun q => by
  obtain ⟨es, e1, _⟩ := h.t2
  rw [q, e1] at e
  exact ho es (Option.some.inj e).symm
theorem K9.lamUp {H' : AH} (h : K9 P L NU TH NW xs ns xv H) (up : ∀ a o, H a = some o → a ≠ 85 → H' a = some o) : UpT H H' := fun a o e n => up a o e (h.ntab e n)
/-- the other table stays when a lambda is made -/
theorem K9.lamT {H' : AH} (h : K9 P L NU TH NW xs ns xv H) (up : ∀ a o, H a = some o → a ≠ 85 → H' a = some o) (tb : Tab H' 85 (q88 P L)) : K9 P L NU TH NW xs ns xv H' := by
  refine h.up (h.lamUp up) ?_ tb
  obtain ⟨es, e1, e2⟩ := h.t1
  exact ⟨es, up _ _ e1 (by decide), fun e he => h.lamUp up _ _ (e2 e he) (by simp)⟩
/-- one of the last three cells is set -/
theorem K9.cell (h : K9 P L NU TH NW xs ns xv H) {i : Nat} (hi : i = 4 ∨ i = 5 ∨ i = 6) {v : Option V} : K9 P L NU TH NW xs ns xv (H.set (L + i) (.cell v)) := by
  have hc : ∃ w, H (L + i) = some (.cell w) := by rcases hi with rfl | rfl | rfl <;> first | exact h.cr | exact h.ca | exact h.co
  obtain ⟨w, hc⟩ := hc
  have n : ∀ j, j = 1 ∨ j = 2 ∨ j = 3 → L + j ≠ L + i := fun j hj => by rcases hi with rfl | rfl | rfl <;> rcases hj with rfl | rfl | rfl <;> exact addr_ne L _ _ rfl
  have s : ∀ {a : Addr} {o : O}, H a = some o → (∀ w, o ≠ .cell w) → (H.set (L + i) (.cell v)) a = some o := fun e hn => by rw [AH.set_ne _ _ (fun q => by rw [q, hc] at e; exact hn _ (Option.some.inj e).symm)]; exact e
  have st : ∀ {T : Addr} {q : Str}, Tab H T q → Tab (H.set (L + i) (.cell v)) T q := fun ⟨es, e1, e2⟩ => ⟨es, s e1 (by simp), fun e he => s (e2 e he) (by simp)⟩
  have c : ∀ j, (∃ w, H (L + j) = some (.cell w)) → ∃ w, (H.set (L + i) (.cell v)) (L + j) = some (.cell w) := fun j ⟨w, e⟩ => by
    by_cases q : L + j = L + i
    · rw [q]; exact ⟨_, AH.set_same ..⟩
    · rw [AH.set_ne _ _ q]; exact ⟨w, e⟩
  exact ⟨by rw [AH.set_ne _ _ (n 1 (by simp))]; exact h.cx, by rw [AH.set_ne _ _ (n 2 (by simp))]; exact h.cn, by rw [AH.set_ne _ _ (n 3 (by simp))]; exact h.cs, c 4 h.cr, c 5 h.ca, c 6 h.co, s h.nu (by simp), s h.th (by simp), s h.nw (by simp), fun p hp => s (h.hI p hp) (by simp), st h.t1, st h.t2⟩
/-- a list that is none of these is set -/
theorem K9.other (h : K9 P L NU TH NW xs ns xv H) {N : Addr} {l l' : List V} (hN : H N = some (.list l)) (h1 : N ≠ NU) (h2 : N ≠ TH) (h3 : N ≠ NW) (h4 : ∀ p ∈ xs, p.1 ≠ N) : K9 P L NU TH NW xs ns xv (H.set N (.list l')) := by
  have s : ∀ {a : Addr} {o : O}, H a = some o → (∀ vs, o ≠ .list vs) → (H.set N (.list l')) a = some o := fun e hn => by rw [AH.set_ne _ _ (fun q => by rw [q, hN] at e; exact hn _ (Option.some.inj e).symm)]; exact e
  have st : ∀ {T : Addr} {q : Str}, Tab H T q → Tab (H.set N (.list l')) T q := fun ⟨es, e1, e2⟩ => ⟨es, s e1 (by simp), fun e he => s (e2 e he) (by simp)⟩
  exact ⟨s h.cx (by simp), s h.cn (by simp), s h.cs (by simp), let ⟨v, e⟩ := h.cr; ⟨v, s e (by simp)⟩, let ⟨v, e⟩ := h.ca; ⟨v, s e (by simp)⟩, let ⟨v, e⟩ := h.co; ⟨v, s e (by simp)⟩, by rw [AH.set_ne _ _ (Ne.symm h1)]; exact h.nu, by rw [AH.set_ne _ _ (Ne.symm h2)]; exact h.th, by rw [AH.set_ne _ _ (Ne.symm h3)]; exact h.nw, fun p hp => by show (H.set N _) p.1 = _; rw [AH.set_ne _ _ (h4 p hp)]; exact h.hI p hp, st h.t1, st h.t2⟩
end
theorem ins_vrefs (xs : List It) (k : Nat) (p : It) : ins (refs xs) k (.ref p.1) = refs (xs.take k ++ p :: xs.drop k) := ins_refs xs k p
theorem slc_pair (bs : List Nat) (m : Nat) (hbs : bs.length ≤ 2) : vnats bs ++ slc (some (bs.length : Int)) none [.int (0 : Nat), .int (m : Nat)] = [.int (loN bs : Nat), .int (hiN bs m : Nat)] := by
  rw [slc_drop]
  match bs, hbs with
  | [], _ => rfl
  | [b], _ => rfl
  | [b, c], _ => rfl
section
variable {C : Cx} {A : Around} {ρ : Lo} {H : AH} {P : Params} {L NU TH NW : Addr} {xs : List It} {ns : List Int} {xv : Int} {right : Bool} {bs : List Nat}
/-- one turn of the inner loop -/
theorem bounds_body (hK : (hd.heap_39 P).In C.base) (G : Gl09 C) (F : Fx C A (env88 P L)) (hdep : A.depth + 20 < recursionLimit) (hu : A.units + 300 < cLine) (hbm : Bm C) (hC : CodeHd C.base 87 85) (T : Th xs ns) (hm : ns.length ≤ 64)
    (h : K9 P L NU TH NW xs ns xv H) (hr : H (L + 4) = some (.cell (some (.bool right)))) {AB B : Addr} (hab : H AB = some (.list ((List.range ns.length).map fun i => V.bool (!fR right xv ns i)))) (hb : H B = some (.list (vnats bs))) (hbs : bs.length ≤ 2) (hbl : ∀ b ∈ bs, b ≤ ns.length)
    (rt : ρ "things" = some (.ref TH)) (rn : ρ "new" = some (.ref NW)) (ra : ρ "ahead" = some (.ref AB)) (rb : ρ "bounds" = some (.ref B))
    {Q : Fl → Lo → AH → Prop} (hQ : ∀ ρ' H', K9 P L NU TH NW xs ns xv H' → (∀ a o, H a = some o → a ≠ L + 5 → a ≠ L + 6 → (∀ es, o ≠ .tab es) → H' a = some o) → ρ' "things" = ρ "things" → ρ' "new" = ρ "new" → ρ' "ahead" = ρ "ahead" → ρ' "low" = ρ "low" → ρ' "high" = ρ "high" → Q .next ρ' H') :
    WS C A (env88 P L) (bb09 P) ρ H Q := by
  have hsz : 10000 ≤ sizeLine := by decide
  have hhi := hiN_le bs hbl
  have hll := loN_le bs hbl
  have hbz : (vnats bs).length = bs.length := by unfold vnats; simp
  -- lo, hi
  refine WS.seq (W1.asg (WE.addList (WE.of (Ev.local F rfl rb) (WE.slice (lo := some (bs.length : Int)) (hi := Option.none) (WE.list rfl (by decide) (WEs.of (.cons (v := .int (0 : Nat)) (Ev.as Ev.int rfl) (.cons (Ev.cell F rfl rfl h.cs) .nil)) fun l1 hl1 => ⟨l1, _, _, rfl, AH.set_same .., rfl, .some (Ev.as (Ev.len (Ev.glob F rfl G.len) (Ev.local F rfl rb) (AH.get_of_set hb hl1) rfl) (by rw [hbz])), .none, fun l2 hl2 => ⟨B, l2, _, _, _, _, rfl, rfl, AH.get_of_set (AH.get_of_set hb hl1) hl2, AH.set_same .., rfl, rfl, ?_, fun l3 hl3 => ?_⟩⟩))))))
  · rw [hbz, slc_drop, List.length_drop]; simp; lia
  rw [slc_pair bs ns.length hbs]
  refine Asg.unpackL F rfl (AH.set_same ..) rfl rfl (Asg.local F rfl (Asg.local F rfl ⟨rfl, ?_⟩))
  have le1 : H.le ((((H.set l1 (.list [.int (0 : Nat), .int ns.length])).set l2 (.list (slc (some (bs.length : Int)) none [.int (0 : Nat), .int (ns.length : Nat)]))).set l3 (.list [.int (loN bs : Nat), .int (hiN bs ns.length : Nat)]))) := AH.le_trans (AH.le_trans (AH.le_set (AH.le_refl _) hl1) (AH.le_set (AH.le_refl _) hl2)) (AH.le_set (AH.le_refl _) hl3)
  have h1 := h.grow le1
  have hr1 := le1 _ _ hr
  have hab1 := le1 _ _ hab
  have hb1 := le1 _ _ hb
  generalize (((H.set l1 (.list [.int (0 : Nat), .int ns.length])).set l2 (.list (slc (some (bs.length : Int)) none [.int (0 : Nat), .int (ns.length : Nat)]))).set l3 (.list [.int (loN bs : Nat), .int (hiN bs ns.length : Nat)])) = H1 at *
  clear hl1 hl2 hl3
  -- asked, notes, row, plain
  refine WS.seq (W1.asgTup F (WEs.cons (WE.list rfl (by decide) (WEs.nil fun AS hAS => WEs.cons (WE.list rfl (by decide) (WEs.nil fun N hN => WEs.cons (WE.slice (lo := Option.none) (hi := Option.none) (WE.of (Ev.local F rfl (by exact rt)) ⟨TH, _, _, rfl, AH.get_of_set (AH.get_of_set h1.th hAS) hN, rfl, .none, .none, fun ROW hROW => ?_⟩))))))))
  rw [slc_all]
  have leA := AH.le_set (o := .list []) (AH.le_refl H1) hAS
  have eA : (H1.set AS (.list [])) AS = some (.list []) := AH.set_same ..
  have h2 := h1.grow leA
  have hr2 := leA _ _ hr1
  have hab2 := leA _ _ hab1
  have hb2 := leA _ _ hb1
  have dA : ∀ {a : Addr} {o : O}, H1 a = some o → a ≠ AS := fun e q => by rw [q, hAS] at e; cases e
  have leA' := AH.le_trans le1 leA
  generalize H1.set AS (.list []) = H2 at *
  have leN := AH.le_set (o := .list []) (AH.le_refl H2) hN
  have eN : (H2.set N (.list [])) N = some (.list []) := AH.set_same ..
  have h3 := h2.grow leN
  have hr3 := leN _ _ hr2
  have hab3 := leN _ _ hab2
  have hb3 := leN _ _ hb2
  have eA3 := leN _ _ eA
  have dN : ∀ {a : Addr} {o : O}, H2 a = some o → a ≠ N := fun e q => by rw [q, hN] at e; cases e
  have leN' := AH.le_trans leA' leN
  generalize H2.set N (.list []) = H3 at *
  have leR := AH.le_set (o := .list (refs xs)) (AH.le_refl H3) hROW
  have eR : (H3.set ROW (.list (refs xs))) ROW = some (.list (refs xs)) := AH.set_same ..
  have h4 := h3.grow leR
  have hr4 := leR _ _ hr3
  have hab4 := leR _ _ hab3
  have hb4 := leR _ _ hb3
  have eA4 := leR _ _ eA3
  have eN4 := leR _ _ eN
  have dR : ∀ {a : Addr} {o : O}, H3 a = some o → a ≠ ROW := fun e q => by rw [q, hROW] at e; cases e
  have leR' := AH.le_trans leN' leR
  generalize H3.set ROW (.list (refs xs)) = H4 at *
  refine WEs.cons (WE.slice (lo := Option.none) (hi := Option.none) (WE.of (Ev.cell F rfl rfl h4.cn) ⟨NU, _, _, rfl, h4.nu, rfl, .none, .none, fun PL hPL => WEs.nil ?_⟩))
  rw [slc_all]
  have leP := AH.le_set (o := .list (vints ns)) (AH.le_refl H4) hPL
  have eP : (H4.set PL (.list (vints ns))) PL = some (.list (vints ns)) := AH.set_same ..
  have h5 := h4.grow leP
  have hr5 := leP _ _ hr4
  have hab5 := leP _ _ hab4
  have hb5 := leP _ _ hb4
  have eA5 := leP _ _ eA4
  have eN5 := leP _ _ eN4
  have eR5 := leP _ _ eR
  have dP : ∀ {a : Addr} {o : O}, H4 a = some o → a ≠ PL := fun e q => by rw [q, hPL] at e; cases e
  have leP' := AH.le_trans leR' leP
  -- unlike addresses
  have aB : AS ≠ B ∧ AS ≠ AB ∧ AS ≠ TH ∧ AS ≠ NU ∧ AS ≠ NW ∧ ∀ p ∈ xs, p.1 ≠ AS := ⟨(dA hb1).symm, (dA hab1).symm, (dA h1.th).symm, (dA h1.nu).symm, (dA h1.nw).symm, fun p hp => dA (h1.hI p hp)⟩
  have nB : N ≠ B ∧ N ≠ AB ∧ N ≠ TH ∧ N ≠ NU ∧ N ≠ NW ∧ (∀ p ∈ xs, p.1 ≠ N) ∧ N ≠ AS := ⟨(dN hb2).symm, (dN hab2).symm, (dN h2.th).symm, (dN h2.nu).symm, (dN h2.nw).symm, fun p hp => dN (h2.hI p hp), (dN eA).symm⟩
  have rB : ROW ≠ B ∧ ROW ≠ AB ∧ ROW ≠ TH ∧ ROW ≠ NU ∧ ROW ≠ NW ∧ (∀ p ∈ xs, p.1 ≠ ROW) ∧ ROW ≠ AS ∧ ROW ≠ N := ⟨(dR hb3).symm, (dR hab3).symm, (dR h3.th).symm, (dR h3.nu).symm, (dR h3.nw).symm, fun p hp => dR (h3.hI p hp), (dR eA3).symm, (dR eN).symm⟩
  have pB : PL ≠ B ∧ PL ≠ AB ∧ PL ≠ TH ∧ PL ≠ NU ∧ PL ≠ NW ∧ (∀ p ∈ xs, p.1 ≠ PL) ∧ PL ≠ AS ∧ PL ≠ N ∧ PL ≠ ROW := ⟨(dP hb4).symm, (dP hab4).symm, (dP h4.th).symm, (dP h4.nu).symm, (dP h4.nw).symm, fun p hp => dP (h4.hI p hp), (dP eA4).symm, (dP eN4).symm, (dP eR).symm⟩
  have old : ∀ {a : Addr} {o : O}, H a = some o → a ≠ AS ∧ a ≠ N ∧ a ≠ ROW ∧ a ≠ PL := fun e => ⟨dA (le1 _ _ e), dN (leA' _ _ e), dR (leN' _ _ e), dP (leR' _ _ e)⟩
  generalize H4.set PL (.list (vints ns)) = H5 at *
  clear dA dN dR dP h1 h2 h3 h4 hr1 hr2 hr3 hr4 hab1 hab2 hab3 hab4 hb1 hb2 hb3 hb4 eA eA3 eA4 eN eN4 eR le1 leA leA' leN leN' leR leR' leP hAS hN hROW hPL
  obtain ⟨va, hca⟩ := h5.ca
  obtain ⟨vo, hco⟩ := h5.co
  refine Asg.cell F rfl rfl hca (Asg.cell (o := vo) F rfl rfl (by rw [AH.set_ne _ _ (addr_ne L 6 5 rfl)]; exact hco) (Asg.local F rfl (Asg.local F rfl ⟨rfl, ?_⟩)))
  have s : ∀ {a : Addr} {o : O}, H5 a = some o → a ≠ L + 5 → a ≠ L + 6 → ((H5.set (L + 5) (.cell (some (.ref AS)))).set (L + 6) (.cell (some (.ref N)))) a = some o := fun e n1 n2 => by rw [AH.set_ne _ _ n2, AH.set_ne _ _ n1]; exact e
  have sc : ∀ {a : Addr} {o : O}, H5 a = some o → (∀ w, o ≠ .cell w) → ((H5.set (L + 5) (.cell (some (.ref AS)))).set (L + 6) (.cell (some (.ref N)))) a = some o := fun e hn => s e (fun q => by rw [q, hca] at e; exact hn _ (Option.some.inj e).symm) (fun q => by rw [q, hco] at e; exact hn _ (Option.some.inj e).symm)
  have h6 := (h5.cell (i := 5) (by simp) (v := some (.ref AS))).cell (i := 6) (by simp) (v := some (.ref N))
  have c5 : ((H5.set (L + 5) (.cell (some (.ref AS)))).set (L + 6) (.cell (some (.ref N)))) (L + 5) = some (.cell (some (.ref AS))) := by rw [AH.set_ne _ _ (addr_ne L 5 6 rfl)]; exact AH.set_same ..
  have c6 : ((H5.set (L + 5) (.cell (some (.ref AS)))).set (L + 6) (.cell (some (.ref N)))) (L + 6) = some (.cell (some (.ref N))) := AH.set_same ..
  have hr6 := s hr5 (addr_ne L 4 5 rfl) (addr_ne L 4 6 rfl)
  have hab6 := sc hab5 (by simp)
  have hb6 := sc hb5 (by simp)
  have eA6 := sc eA5 (by simp)
  have eN6 := sc eN5 (by simp)
  have eR6 := sc eR5 (by simp)
  have eP6 := sc eP (by simp)
  have old6 : ∀ a o, H a = some o → a ≠ L + 5 → a ≠ L + 6 → ((H5.set (L + 5) (.cell (some (.ref AS)))).set (L + 6) (.cell (some (.ref N)))) a = some o := fun a o e n1 n2 => s (leP' _ _ e) n1 n2
  generalize (H5.set (L + 5) (.cell (some (.ref AS)))).set (L + 6) (.cell (some (.ref N))) = H6 at *
  clear s sc hr5 hab5 hb5 eA5 eN5 eR5 eP h5 leP' hca hco h hr hab hb
  generalize hfr : fR right xv ns = f at *
  generalize hlo : loN bs = lo at *
  generalize hhi' : hiN bs ns.length = hi at *
  -- place
  refine WS.seq (W1.asgLocal F rfl (WE.callB (fun _ => fn_in hK 64 rfl) (Ev.glob F rfl G.search) (WEs.cons (WE.of (Ev.cell F rfl rfl hr6) (WEs.cons (WE.of (Ev.local F rfl (by exact rt)) (WEs.cons (WE.of (Ev.cell F rfl rfl h6.cx) (WEs.cons (WE.of (Ev.local F rfl (by exact rb)) (WEs.cons (WE.lamT F hbm rfl hC h6.t2 fun H7 g c' ctv up tb hg hc' hgn nn => WEs.nil (WKs.nil ?_)))))))))))))
  have u7 := h6.lamUp up
  have h7 := h6.lamT up tb
  have hgN : ∀ {X : Addr} {l l' : List V}, H7 X = some (.list l') → (H7.set X (.list l)) g = some (.fn _) := fun e => by rw [AH.set_ne _ _ (fun q => by rw [q, e] at hg; cases hg)]; exact hg
  have hcN : ∀ {X : Addr} {l l' : List V}, H7 X = some (.list l') → (H7.set X (.list l)) c' = some (.code _) := fun e => by rw [AH.set_ne _ _ (fun q => by rw [q, e] at hc'; cases hc')]; exact hc'
  have eA7 := u7 _ _ eA6 (by simp)
  have c57 := u7 _ _ c5 (by simp)
  have c5N : ∀ l, (H7.set AS (.list l)) (L + 5) = some (.cell (some (.ref AS))) := fun l => by rw [AH.set_ne _ _ (fun q => by rw [← q, c57] at eA7; cases eA7)]; exact c57
  have iN : ∀ l, ∀ p ∈ xs, (H7.set AS (.list l)) p.1 = some (.list [.int p.2.1, .int p.2.2]) := fun l p hp => by rw [AH.set_ne _ _ (aB.2.2.2.2.2 p hp)]; exact h7.hI p hp
  refine searchN (right := right) (xv := xv) (ns := ns) (bs := bs) (N := AS) hK G F.hh (by lia) T hm hbs hbl h7.th (u7 _ _ hb6 (by simp)) eA7 (Ne.symm aB.2.2.1) (fun l => ⟨rfl, .inr ⟨hgN eA7, rfl⟩⟩) (fun A' ok p hp l hl => ?_) ?_
  · refine WCall.mono (note_lam hK G ⟨ok.1, by have := ok.2.1; lia, by have := ok.2.2; lia⟩ (by have := ok.2.1; lia) (by have := ok.2.2; lia) (hgN eA7) rfl rfl (hcN eA7) (noCell rfl) (fun x => by kernel_rfl) rfl rfl rfl rfl rfl rfl rfl rfl rfl rfl rfl (c5N l) (AH.set_same ..) (iN l p hp) (aB.2.2.2.2.2 p hp) hl) ?_
    rintro r H' ⟨e1, e2⟩
    exact ⟨e1, by rw [e2, AH.set_set]⟩
  rw [hfr, hlo, hhi']
  refine ⟨rfl, ?_⟩
  have h8 := h7.other (l' := refs ((bisA f lo hi).map fun i => xs.getD i d0)) eA7 aB.2.2.2.1 aB.2.2.1 aB.2.2.2.2.1 aB.2.2.2.2.2
  have k8 : ∀ {a : Addr} {o : O}, H6 a = some o → a ≠ AS → (∀ es, o ≠ .tab es) → (H7.set AS (.list (refs ((bisA f lo hi).map fun i => xs.getD i d0)))) a = some o := fun e n1 n2 => by rw [AH.set_ne _ _ n1]; exact u7 _ _ e n2
  have eA8 : (H7.set AS (.list (refs ((bisA f lo hi).map fun i => xs.getD i d0)))) AS = some (.list (refs ((bisA f lo hi).map fun i => xs.getD i d0))) := AH.set_same ..
  have lA : ∀ {a : Addr} {o : O}, H6 a = some o → (∀ vs, o ≠ .list vs) → a ≠ AS := fun e n q => by rw [q, eA6] at e; exact n _ (Option.some.inj e).symm
  have c58 := k8 c5 (lA c5 (by simp)) (by simp)
  have c68 := k8 c6 (lA c6 (by simp)) (by simp)
  have hr8 := k8 hr6 (lA hr6 (by simp)) (by simp)
  have hab8 := k8 hab6 (Ne.symm aB.2.1) (by simp)
  have hb8 := k8 hb6 (Ne.symm aB.1) (by simp)
  have eN8 := k8 eN6 nB.2.2.2.2.2.2 (by simp)
  have eR8 := k8 eR6 rB.2.2.2.2.2.2.1 (by simp)
  have eP8 := k8 eP6 pB.2.2.2.2.2.2.1 (by simp)
  have old8 : ∀ a o, H a = some o → a ≠ L + 5 → a ≠ L + 6 → (∀ es, o ≠ .tab es) → (H7.set AS (.list (refs ((bisA f lo hi).map fun i => xs.getD i d0)))) a = some o := fun a o e n1 n2 n3 => k8 (old6 a o e n1 n2) (old e).1 n3
  generalize H7.set AS (.list (refs ((bisA f lo hi).map fun i => xs.getD i d0))) = H8 at *
  clear up tb hg hc' hgn nn u7 h7 hgN hcN eA7 c57 c5N iN k8 lA h6 c5 c6 hr6 hab6 hb6 eA6 eN6 eR6 eP6 old6
  generalize hpl : bis f lo hi = place at *
  -- few
  refine WS.seq (W1.if (WT.of (b := false) (EvT.not (b := true) (EvT.of (v := .bool true) (WE.ev (WE.callB (fun _ => fn_in hK 76 rfl) (Ev.glob F rfl G.few) (WEs.of (.cons (Ev.cell F rfl rfl c58) (.cons (Ev.local F rfl (by exact rt)) (.cons (Ev.local F rfl (by exact ra)) (.cons (v := .int (lo : Nat)) (Ev.local F rfl (by rw [← hlo]; rfl)) (.cons (v := .int (hi : Nat)) (Ev.local F rfl (by rw [← hhi']; rfl)) (.cons (v := .int (bis f lo hi : Nat)) (Ev.local F rfl (by rw [hpl]; rfl)) .nil)))))) (WKs.nil (few_spec (xs := xs) (f := f) (lo := lo) (hi := hi) hK G F.hh (by lia) (by lia) (fun i p hp => (T.at_ i p hp).2) h8.hI h8.th eA8 (by rw [T.len]; exact hab8) (by rw [T.len]; exact hll) (by rw [T.len]; exact hhi) (by rw [T.len]; exact hm) ⟨rfl, rfl⟩))))) rfl (by intro x e; cases e))) ⟨fun e => (by cases e), fun _ => WS.nil ⟨rfl, ?_⟩⟩))
  -- without a key
  refine WS.seq (W1.if (WT.of (b := false) (EvT.icmp (op := .NotEq) (a := place) (b := place) (WE.ev (WE.callB (fun _ => fn_in hK 64 rfl) (Ev.glob F rfl G.search) (WEs.of (.cons (Ev.cell F rfl rfl hr8) (.cons (Ev.cell F rfl rfl h8.cn) (.cons (Ev.cell F rfl rfl h8.cx) (.cons (Ev.local F rfl (by exact rb)) (.cons Ev.none .nil))))) (WKs.nil (search0 (ns := ns) (bs := bs) (right := right) (xv := xv) hK G F.hh (by lia) hbs hbl h8.nu hb8 ⟨by rw [hfr, hlo, hhi', hpl], rfl⟩))))) (Ev.local F rfl rfl) (by simp [icmp])) ⟨fun e => (by cases e), fun _ => WS.nil ⟨rfl, ?_⟩⟩))
  -- put
  refine WS.seq (W1.if (WT.isNotNone (WE.callB (fun _ => fn_in hK 71 rfl) (Ev.glob F rfl G.put) (WEs.cons (WE.of (Ev.cell F rfl rfl hr8) (WEs.cons (WE.of (Ev.local F rfl rfl) (WEs.cons (WE.of (Ev.local F rfl (by exact rn)) (WEs.cons (WE.of (Ev.local F rfl (by exact rb)) (WEs.cons (WE.lamT F hbm rfl hC h8.t2 fun H9 g c' ctv up tb hg hc' hgn nn => WEs.nil (WKs.nil ?_))))))))))))))
  have u9 := h8.lamUp up
  have h9 := h8.lamT up tb
  have hgN : ∀ {X : Addr} {l l' : List V}, H9 X = some (.list l') → (H9.set X (.list l)) g = some (.fn _) := fun e => by rw [AH.set_ne _ _ (fun q => by rw [q, e] at hg; cases hg)]; exact hg
  have hcN : ∀ {X : Addr} {l l' : List V}, H9 X = some (.list l') → (H9.set X (.list l)) c' = some (.code _) := fun e => by rw [AH.set_ne _ _ (fun q => by rw [q, e] at hc'; cases hc')]; exact hc'
  have eN9 := u9 _ _ eN8 (by simp)
  have c69 := u9 _ _ c68 (by simp)
  have c6N : ∀ l, (H9.set N (.list l)) (L + 6) = some (.cell (some (.ref N))) := fun l => by rw [AH.set_ne _ _ (fun q => by rw [← q, c69] at eN9; cases eN9)]; exact c69
  have iN : ∀ l, ∀ p ∈ xs, (H9.set N (.list l)) p.1 = some (.list [.int p.2.1, .int p.2.2]) := fun l p hp => by rw [AH.set_ne _ _ (nB.2.2.2.2.2.1 p hp)]; exact h9.hI p hp
  have wN : ∀ l, (H9.set N (.list l)) NW = some (.list [.int xv, .int ns.length]) := fun l => by rw [AH.set_ne _ _ (Ne.symm nB.2.2.2.2.1)]; exact h9.nw
  refine putN (sz := 0) (right := right) (xv := xv) (ns := ns) (bs := bs) (N := N) hK G F.hh (by lia) T hm hbs hbl (u9 _ _ eR8 (by simp)) (u9 _ _ hb8 (by simp)) eN9 rB.2.2.2.2.2.2.2 (fun l => ⟨rfl, .inr ⟨hgN eN9, rfl⟩⟩) (fun A' ok l hl => ?_) (fun A' ok p hp l hl => ?_) ?_
  · refine WCall.mono (note_lam hK G ⟨ok.1, by have := ok.2.1; lia, by have := ok.2.2; lia⟩ (by have := ok.2.1; lia) (by have := ok.2.2; lia) (hgN eN9) rfl rfl (hcN eN9) (noCell rfl) (fun x => by kernel_rfl) rfl rfl rfl rfl rfl rfl rfl rfl rfl rfl rfl (c6N l) (AH.set_same ..) (wN l) (Ne.symm nB.2.2.2.2.1) hl) ?_
    rintro r H' ⟨e1, e2⟩
    exact ⟨e1, by rw [e2, AH.set_set]⟩
  · refine WCall.mono (note_lam hK G ⟨ok.1, by have := ok.2.1; lia, by have := ok.2.2; lia⟩ (by have := ok.2.1; lia) (by have := ok.2.2; lia) (hgN eN9) rfl rfl (hcN eN9) (noCell rfl) (fun x => by kernel_rfl) rfl rfl rfl rfl rfl rfl rfl rfl rfl rfl rfl (c6N l) (AH.set_same ..) (iN l p hp) (nB.2.2.2.2.2.1 p hp) hl) ?_
    rintro r H' ⟨e1, e2⟩
    exact ⟨e1, by rw [e2, AH.set_set]⟩
  rw [hfr, hlo, hhi', hpl]
  refine ⟨fun e => (by simp at e), fun _ => WS.nil ⟨rfl, ?_⟩⟩
  rw [show V.ref NW = V.ref ((NW, xv, (ns.length : Int)) : It).1 from rfl, ins_vrefs, show (V.ref ((NW, xv, (ns.length : Int)) : It).1 :: refs ((bisA f lo hi).map fun i => xs.getD i d0)) = refs ((NW, xv, (ns.length : Int)) :: (bisA f lo hi).map fun i => xs.getD i d0) from rfl]
  generalize hasd : ((bisA f lo hi).map fun i => xs.getD i d0) = asd at *
  have hasm : ∀ p ∈ asd, p ∈ xs := fun p hp => by
    rw [← hasd] at hp
    obtain ⟨i, hi', rfl⟩ := List.mem_map.mp hp
    have := (bisA_mem f lo hi i hi').2
    rw [List.getD_eq_getElem?_getD, List.getElem?_eq_getElem (by rw [T.len]; lia)]; exact List.getElem_mem _
  have hplz : place ≤ ns.length := by have := bis_le f lo hi; lia
  have hasz : asd.length ≤ 64 := by rw [← hasd, List.length_map]; have := bisA_len f lo hi; lia
  have h10 := (h9.other (l' := refs ((NW, xv, (ns.length : Int)) :: asd)) eN9 nB.2.2.2.1 nB.2.2.1 nB.2.2.2.2.1 nB.2.2.2.2.2.1)
  have eR9 : (H9.set N (.list (refs ((NW, xv, (ns.length : Int)) :: asd)))) ROW = some (.list (refs xs)) := by rw [AH.set_ne _ _ rB.2.2.2.2.2.2.2]; exact u9 _ _ eR8 (by simp)
  have h11 := h10.other (l' := refs (xs.take place ++ (NW, xv, (ns.length : Int)) :: xs.drop place)) eR9 rB.2.2.2.1 rB.2.2.1 rB.2.2.2.2.1 rB.2.2.2.2.2.1
  have k11 : ∀ {a : Addr} {o : O}, H8 a = some o → a ≠ N → a ≠ ROW → (∀ es, o ≠ .tab es) → ((H9.set N (.list (refs ((NW, xv, (ns.length : Int)) :: asd)))).set ROW (.list (refs (xs.take place ++ (NW, xv, (ns.length : Int)) :: xs.drop place)))) a = some o := fun e n1 n2 n3 => by rw [AH.set_ne _ _ n2, AH.set_ne _ _ n1]; exact u9 _ _ e n3
  have eN11 : ((H9.set N (.list (refs ((NW, xv, (ns.length : Int)) :: asd)))).set ROW (.list (refs (xs.take place ++ (NW, xv, (ns.length : Int)) :: xs.drop place)))) N = some (.list (refs ((NW, xv, (ns.length : Int)) :: asd))) := by rw [AH.set_ne _ _ (Ne.symm rB.2.2.2.2.2.2.2)]; exact AH.set_same ..
  have eR11 : ((H9.set N (.list (refs ((NW, xv, (ns.length : Int)) :: asd)))).set ROW (.list (refs (xs.take place ++ (NW, xv, (ns.length : Int)) :: xs.drop place)))) ROW = some (.list (refs (xs.take place ++ (NW, xv, (ns.length : Int)) :: xs.drop place))) := AH.set_same ..
  have lNR : ∀ {a : Addr} {o : O}, H8 a = some o → (∀ vs, o ≠ .list vs) → a ≠ N ∧ a ≠ ROW := fun e n => ⟨fun q => by rw [q, eN8] at e; exact n _ (Option.some.inj e).symm, fun q => by rw [q, eR8] at e; exact n _ (Option.some.inj e).symm⟩
  have c511 := k11 c58 (lNR c58 (by simp)).1 (lNR c58 (by simp)).2 (by simp)
  have c611 := k11 c68 (lNR c68 (by simp)).1 (lNR c68 (by simp)).2 (by simp)
  have hr11 := k11 hr8 (lNR hr8 (by simp)).1 (lNR hr8 (by simp)).2 (by simp)
  have hb11 := k11 hb8 (Ne.symm nB.1) (Ne.symm rB.1) (by simp)
  have eA11 := k11 eA8 (Ne.symm nB.2.2.2.2.2.2) (Ne.symm rB.2.2.2.2.2.2.1) (by simp)
  have eP11 := k11 eP8 pB.2.2.2.2.2.2.2.1 pB.2.2.2.2.2.2.2.2 (by simp)
  have old11 : ∀ a o, H a = some o → a ≠ L + 5 → a ≠ L + 6 → (∀ es, o ≠ .tab es) → ((H9.set N (.list (refs ((NW, xv, (ns.length : Int)) :: asd)))).set ROW (.list (refs (xs.take place ++ (NW, xv, (ns.length : Int)) :: xs.drop place)))) a = some o := fun a o e n1 n2 n3 => k11 (old8 a o e n1 n2 n3) (old e).2.1 (old e).2.2.1 n3
  generalize (H9.set N (.list (refs ((NW, xv, (ns.length : Int)) :: asd)))).set ROW (.list (refs (xs.take place ++ (NW, xv, (ns.length : Int)) :: xs.drop place))) = H11 at *
  clear k11 lNR h10 eR9 u9 h9 hgN hcN eN9 c69 c6N iN wN up tb hg hc' hgn nn h8 eA8 c58 c68 hr8 hab8 hb8 eN8 eR8 eP8 old8 hasd
  have hw : IsIt H11 (NW, xv, (ns.length : Int)) := h11.nw
  have hcat : ∀ p ∈ (NW, xv, (ns.length : Int)) :: asd, IsIt H11 p := fun p hp => by
    rcases List.mem_cons.mp hp with rfl | hp
    · exact hw
    · exact h11.hI p (hasm p hp)
  have hcat2 : ∀ p ∈ xs.take place ++ (NW, xv, (ns.length : Int)) :: xs.drop place, IsIt H11 p := fun p hp => by
    rcases List.mem_append.mp hp with hp | hp
    · exact h11.hI p (List.mem_of_mem_take hp)
    · rcases List.mem_cons.mp hp with rfl | hp
      · exact hw
      · exact h11.hI p (List.mem_of_mem_drop hp)
  have st1 : slc none (some (place : Int)) (refs xs) = refs (xs.take place) := by
    rw [slc_take _ _ (by rw [refs_len, T.len]; exact hplz)]; unfold refs; rw [List.map_take]
  have st2 : slc (some (place : Int)) none (refs xs) = refs (xs.drop place) := by
    rw [slc_drop]; unfold refs; rw [List.map_drop]
  have hne : ∀ ps : List It, (!PyData.eqv (dPart ps) (dPart ps)) = false := fun ps => by rw [eqv_part]; simp
  -- what was noted, and where it lies
  refine WS.seq (W1.if (WT.of (b := (false || (false || false))) (EvT.boolop (AllT.or_cons (b := false) (WT.ev (WT.drop ?_)) fun _ => AllT.or_cons (b := false) (WT.ev (WT.drop ?_)) fun _ => AllT.or_nil)) ⟨fun e => (by cases e), fun _ => WS.nil ⟨rfl, ?_⟩⟩))
  · refine WT.neD (by lia) (WE.of (Ev.cell F rfl rfl c611) (WE.addList (WE.list rfl (by decide) (WEs.of (.cons (Ev.local F rfl (by exact rn)) .nil) fun l1 hl1 => WE.of (Ev.cell F rfl rfl (AH.get_of_set c511 hl1)) ⟨l1, AS, _, _, _, _, rfl, rfl, AH.set_same .., AH.get_of_set eA11 hl1, rfl, rfl, ?_, fun c hc => ?_⟩))))
    · rw [refs_len]; simp; lia
    · have le := AH.le_trans (AH.le_set (o := .list [.ref NW]) (AH.le_refl H11) hl1) (AH.le_set (o := .list ([.ref NW] ++ refs asd)) (AH.le_refl _) hc)
      exact ⟨dPart ((NW, xv, (ns.length : Int)) :: asd), dPart ((NW, xv, (ns.length : Int)) :: asd), Rd_part (le _ _ eN11) rfl fun p hp => le _ _ (hcat p hp), Rd_part (xs := (NW, xv, (ns.length : Int)) :: asd) (AH.set_same ..) rfl fun p hp => le _ _ (hcat p hp), (Dp_part _).shaped (by decide), (Dp_part _).shaped (by decide), H11, le, hne _, rfl⟩
  · refine WT.neD (by lia) (WE.of (Ev.local F rfl rfl) (WE.addList (WE.addList (WE.slice (lo := Option.none) (hi := some (place : Int)) (WE.of (Ev.local F rfl (by exact rt)) ⟨TH, _, _, rfl, h11.th, rfl, .none, .some (Ev.local F rfl rfl), fun l1 hl1 => WE.list rfl (by decide) (WEs.of (.cons (Ev.local F rfl (by exact rn)) .nil) fun l2 hl2 => ⟨l1, l2, _, _, _, _, rfl, rfl, AH.get_of_set (AH.set_same ..) hl2, AH.set_same .., rfl, rfl, ?_, fun l3 hl3 => WE.slice (lo := some (place : Int)) (hi := Option.none) (WE.of (Ev.local F rfl (by exact rt)) ⟨TH, _, _, rfl, AH.get_of_set (AH.get_of_set (AH.get_of_set h11.th hl1) hl2) hl3, rfl, .some (Ev.local F rfl rfl), .none, fun l4 hl4 => ⟨l3, l4, _, _, _, _, rfl, rfl, AH.get_of_set (AH.set_same ..) hl4, AH.set_same .., rfl, rfl, ?_, fun l5 hl5 => ?_⟩⟩)⟩)⟩)))))
    · rw [st1, refs_len, List.length_take]; simp; lia
    · rw [st1, st2, List.length_append, refs_len, refs_len, List.length_take, List.length_drop, T.len]; simp; lia
    · rw [st1] at *
      rw [st2] at *
      have le := AH.le_trans (AH.le_trans (AH.le_trans (AH.le_trans (AH.le_set (o := .list (refs (xs.take place))) (AH.le_refl H11) hl1) (AH.le_set (o := .list [.ref NW]) (AH.le_refl _) hl2)) (AH.le_set (o := .list (refs (xs.take place) ++ [.ref NW])) (AH.le_refl _) hl3)) (AH.le_set (o := .list (refs (xs.drop place))) (AH.le_refl _) hl4)) (AH.le_set (o := .list (refs (xs.take place) ++ [.ref NW] ++ refs (xs.drop place))) (AH.le_refl _) hl5)
      have hcv : refs (xs.take place) ++ [.ref NW] ++ refs (xs.drop place) = refs (xs.take place ++ (NW, xv, (ns.length : Int)) :: xs.drop place) := by unfold refs; simp
      rw [hcv] at le ⊢
      exact ⟨dPart (xs.take place ++ (NW, xv, (ns.length : Int)) :: xs.drop place), dPart (xs.take place ++ (NW, xv, (ns.length : Int)) :: xs.drop place), Rd_part (le _ _ eR11) rfl fun p hp => le _ _ (hcat2 p hp), Rd_part (AH.set_same ..) rfl fun p hp => le _ _ (hcat2 p hp), (Dp_part _).shaped (by decide), (Dp_part _).shaped (by decide), H11, le, hne _, rfl⟩
  -- a number put in
  refine WS.seq (W1.if (WT.isNotNone (WE.callB (fun _ => fn_in hK 71 rfl) (Ev.glob F rfl G.put) (WEs.of (.cons (Ev.cell F rfl rfl hr11) (.cons (Ev.local F rfl rfl) (.cons (Ev.cell F rfl rfl h11.cx) (.cons (Ev.local F rfl (by exact rb)) (.cons Ev.none .nil))))) (WKs.nil (put0 (right := right) (xv := xv) (ns := ns) (bs := bs) hK G F.hh (by lia) hm hbs hbl eP11 hb11 ?_))))))
  rw [hfr, hlo, hhi', hpl]
  refine ⟨fun e => (by simp at e), fun _ => WS.nil ⟨rfl, ?_⟩⟩
  have hiv : ins (vints ns) place (V.int xv) = vints (ns.take place ++ xv :: ns.drop place) := by unfold vints ins; simp
  rw [hiv]
  have h12 := h11.other (l' := vints (ns.take place ++ xv :: ns.drop place)) eP11 pB.2.2.2.1 pB.2.2.1 pB.2.2.2.2.1 pB.2.2.2.2.2.1
  have eP12 : (H11.set PL (.list (vints (ns.take place ++ xv :: ns.drop place)))) PL = some (.list (vints (ns.take place ++ xv :: ns.drop place))) := AH.set_same ..
  have old12 : ∀ a o, H a = some o → a ≠ L + 5 → a ≠ L + 6 → (∀ es, o ≠ .tab es) → (H11.set PL (.list (vints (ns.take place ++ xv :: ns.drop place)))) a = some o := fun a o e n1 n2 n3 => by rw [AH.set_ne _ _ (old e).2.2.2]; exact old11 a o e n1 n2 n3
  generalize H11.set PL (.list (vints (ns.take place ++ xv :: ns.drop place))) = H12 at *
  have su1 : slc none (some (place : Int)) (vints ns) = vints (ns.take place) := by
    rw [slc_take _ _ (by rw [ints_length]; exact hplz)]; unfold vints; rw [List.map_take]
  have su2 : slc (some (place : Int)) none (vints ns) = vints (ns.drop place) := by
    rw [slc_drop]; unfold vints; rw [List.map_drop]
  refine WS.cons (W1.if (WT.neD (by lia) (WE.of (Ev.local F rfl rfl) (WE.addList (WE.addList (WE.slice (lo := Option.none) (hi := some (place : Int)) (WE.of (Ev.cell F rfl rfl h12.cn) ⟨NU, _, _, rfl, h12.nu, rfl, .none, .some (Ev.local F rfl rfl), fun l1 hl1 => WE.list rfl (by decide) (WEs.of (.cons (Ev.cell F rfl rfl (AH.get_of_set h12.cx hl1)) .nil) fun l2 hl2 => ⟨l1, l2, _, _, _, _, rfl, rfl, AH.get_of_set (AH.set_same ..) hl2, AH.set_same .., rfl, rfl, ?_, fun l3 hl3 => WE.slice (lo := some (place : Int)) (hi := Option.none) (WE.of (Ev.cell F rfl rfl (AH.get_of_set (AH.get_of_set (AH.get_of_set h12.cn hl1) hl2) hl3)) ⟨NU, _, _, rfl, AH.get_of_set (AH.get_of_set (AH.get_of_set h12.nu hl1) hl2) hl3, rfl, .some (Ev.local F rfl rfl), .none, fun l4 hl4 => ⟨l3, l4, _, _, _, _, rfl, rfl, AH.get_of_set (AH.set_same ..) hl4, AH.set_same .., rfl, rfl, ?_, fun l5 hl5 => ?_⟩⟩)⟩)⟩)))))))
  · rw [su1, ints_length, List.length_take]; simp; lia
  · rw [su1, su2, List.length_append, ints_length, ints_length, List.length_take, List.length_drop]; simp; lia
  rw [su1] at *
  rw [su2] at *
  have le := AH.le_trans (AH.le_trans (AH.le_trans (AH.le_trans (AH.le_set (o := .list (vints (ns.take place))) (AH.le_refl H12) hl1) (AH.le_set (o := .list [.int xv]) (AH.le_refl _) hl2)) (AH.le_set (o := .list (vints (ns.take place) ++ [.int xv])) (AH.le_refl _) hl3)) (AH.le_set (o := .list (vints (ns.drop place))) (AH.le_refl _) hl4)) (AH.le_set (o := .list (vints (ns.take place) ++ [.int xv] ++ vints (ns.drop place))) (AH.le_refl _) hl5)
  have hcv : vints (ns.take place) ++ [.int xv] ++ vints (ns.drop place) = vints (ns.take place ++ xv :: ns.drop place) := by unfold vints; simp
  rw [hcv] at le ⊢
  refine ⟨dints (ns.take place ++ xv :: ns.drop place), dints (ns.take place ++ xv :: ns.drop place), Rd_ints (le _ _ eP12) rfl, Rd_ints (AH.set_same ..) rfl, shaped_ints _, shaped_ints _, fun e => ?_, fun e => WS.nil (WS.nil (hQ _ _ (h12.grow le) (fun a o e n1 n2 n3 => le _ _ (old12 a o e n1 n2 n3)) rfl rfl rfl rfl rfl))⟩
  rw [eqv_ints] at e; simp at e
end
end Mine

set_option maxHeartbeats 4000000
namespace Mine
open PySem PySem.W PyProof.Rows

section
variable {C : Cx} {A : Around} {env : Env} {ρ : Lo} {H : AH}
/-- a list of values is made, the heap left alone -/
theorem comp_vals {n : Nat} {g : Nat → V} {elt tgt : Expr} {Ok : Nat → AH → Prop} {Pd : Nat → AH → Dv → Prop} {Q : AH → List V → Prop} (hn : n ≤ sizeLine)
    (ht : ∀ i (ρ1 : Lo), i < n → Ok i H ∧ ∀ d, Pd i H d → Asg C A env tgt d ρ1 H (fun ρ2 H3 => H3 = H ∧ Ev C A env ρ2 H elt (g i))) (hOk : Ok n H) (hQ : Q H ((List.range n).map g)) :
    LoopOk C A env elt tgt [] [] H n Ok Pd (fun _ => none) [] (fun _ H2 zs => Q H2 zs) := by
  refine ⟨fun i ρ1 H1 zs => H1 = H ∧ zs = (List.range i).map g, ⟨rfl, rfl⟩, ?_, ?_⟩
  · rintro i ρ1 H1 zs hi ⟨rfl, rfl⟩
    obtain ⟨ok, t⟩ := ht i ρ1 hi
    refine ⟨ok, fun d hd => Asg.mono (t d hd) ?_⟩
    rintro ρ2 H3 ⟨rfl, v⟩
    exact ⟨fun _ => WE.of v ⟨by simp; lia, rfl, by rw [List.range_succ]; simp⟩, fun e => by cases e⟩
  · rintro ρ1 H1 zs ⟨rfl, rfl⟩
    exact ⟨hOk, hQ⟩
/-- a list of lists of two numbers is made -/
theorem comp_its {n : Nat} {g : Nat → Int × Int} {elt tgt : Expr} {Ok : Nat → AH → Prop} {Pd : Nat → AH → Dv → Prop} {Q : AH → List V → Prop} (hn : n ≤ sizeLine)
    (ht : ∀ i (ρ1 : Lo) H1, i < n → H.le H1 → Ok i H1 ∧ ∀ d, Pd i H1 d → Asg C A env tgt d ρ1 H1 (fun ρ2 H3 => H3 = H1 ∧ WE C A env elt ρ2 H1 (fun v H4 => ∃ a, v = .ref a ∧ H1 a = none ∧ H4 = H1.set a (.list [.int (g i).1, .int (g i).2]))))
    (hOk : ∀ H1, H.le H1 → Ok n H1)
    (hQ : ∀ (ps : List It) H2, ps.map (·.2) = (List.range n).map g → H.le H2 → (∀ p ∈ ps, IsIt H2 p) → Q H2 (refs ps)) :
    LoopOk C A env elt tgt [] [] H n Ok Pd (fun _ => none) [] (fun _ H2 zs => Q H2 zs) := by
  refine ⟨fun i ρ1 H1 zs => ∃ ps : List It, zs = refs ps ∧ ps.length = i ∧ ps.map (·.2) = (List.range i).map g ∧ H.le H1 ∧ ∀ p ∈ ps, IsIt H1 p, ⟨[], rfl, rfl, rfl, AH.le_refl _, by simp⟩, ?_, ?_⟩
  · rintro i ρ1 H1 zs hi ⟨ps, rfl, hl, hm, hle, hps⟩
    obtain ⟨ok, t⟩ := ht i ρ1 H1 hi hle
    refine ⟨ok, fun d hd => Asg.mono (t d hd) ?_⟩
    rintro ρ2 H3 ⟨rfl, w⟩
    refine ⟨fun _ => WE.mono w ?_, fun e => by cases e⟩
    rintro v H4 ⟨a, rfl, ha, rfl⟩
    refine ⟨by rw [refs_len]; lia, ps ++ [(a, g i)], by simp [refs], by simp [hl], by rw [List.range_succ]; simp [hm], AH.le_trans hle (AH.le_set (AH.le_refl _) ha), fun p hp => ?_⟩
    rcases List.mem_append.mp hp with hp | hp
    · exact AH.get_of_set (hps p hp) ha
    · rw [List.mem_singleton.mp hp]; exact AH.set_same ..
  · rintro ρ1 H1 zs ⟨ps, rfl, hl, hm, hle, hps⟩
    exact ⟨hOk _ hle, hQ ps H1 hm hle hps⟩
theorem WT.bool {e : Expr} {Q : Bool → AH → Prop} (h : WE C A env e ρ H (fun v H1 => ∃ b, v = .bool b ∧ Q b H1)) (he : isTrue e env (eval e env) = (do let v ← eval e env; standAt e.pos; holding [v] (PySem.truthy v)) := by rfl) : WT C A env e ρ H Q := by
  unfold WT
  rw [he]
  refine W.bind (WE.then (WE.mono h ?_))
  rintro v H1 ⟨b, rfl, q⟩ x ex
  cases ab_bool ex
  exact W.bind (W.standAt (W.holding (W.truthy_bool ⟨rfl, q⟩)))
theorem WT.not {x : Expr} {pos : Pos} {Q : Bool → AH → Prop} (h : WT C A env x ρ H (fun b H1 => Q (!b) H1)) : WT C A env (.UnaryOp .Not x pos) ρ H Q := fun s hs =>
  wpAny_isTrue_Not (wpAny_mono (h s hs) (fun c s' ⟨ρ', H', x', y', e1, e2⟩ => ⟨ρ', H', x', y', e1, e2⟩) fun _ _ e => e)
end
noncomputable def Kp (L : Addr) (H H' : AH) : Prop := ∀ a o, H a = some o → a ≠ L + 5 → a ≠ L + 6 → (∀ es, o ≠ .tab es) → H' a = some o
theorem Kp.refl (L : Addr) (H : AH) : Kp L H H := fun _ _ e _ _ _ => e
theorem Kp.trans {L : Addr} {H H' H'' : AH} (x : Kp L H H') (y : Kp L H' H'') : Kp L H H'' := fun a o e n1 n2 n3 => y a o (x a o e n1 n2 n3) n1 n2 n3
theorem Kp.of_le {L : Addr} {H H' : AH} (x : H.le H') : Kp L H H' := fun a o e _ _ _ => x a o e
section
variable {C : Cx} {A : Around} {ρ : Lo} {H : AH} {P : Params} {L NU TH NW : Addr} {xs : List It} {ns : List Int} {xv : Int} {right : Bool}
theorem K9.lst {H' : AH} (h : K9 P L NU TH NW xs ns xv H) (k : Kp L H H') {a : Addr} {vs : List V} (e : H a = some (.list vs)) : H' a = some (.list vs) := by
  obtain ⟨v, c5⟩ := h.ca
  obtain ⟨w, c6⟩ := h.co
  exact k a _ e (fun q => by rw [q, c5] at e; cases e) (fun q => by rw [q, c6] at e; cases e) (by simp)
theorem K9.ntab78 {a : Addr} {o : O} (h : K9 P L NU TH NW xs ns xv H) (e : H a = some o) (ho : ∀ es, o ≠ .tab es) : a ≠ 78 := fun q => by
  obtain ⟨es, e1, _⟩ := h.t1
  rw [q, e1] at e
  exact ho es (Option.some.inj e).symm
theorem K9.up78 {H' : AH} (h : K9 P L NU TH NW xs ns xv H) (k : Up H H') (t1 : Tab H' 78 "_law_refused.<locals>.<lambda>") : K9 P L NU TH NW xs ns xv H' := by
  refine h.up (fun a o e n => k a o e (h.ntab78 e n)) t1 ?_
  obtain ⟨es, e1, e2⟩ := h.t2
  exact ⟨es, k _ _ e1 (by decide), fun e he => k _ _ (e2 e he) (h.ntab78 (e2 e he) (by simp))⟩
structure Rl (ρ : Lo) (TH NW : Addr) (low high : Nat) : Prop where
  things : ρ "things" = some (.ref TH)
  new : ρ "new" = some (.ref NW)
  low : ρ "low" = some (.int low)
  high : ρ "high" = some (.int high)
/-- one round: left or right -/
theorem round (hK : (hd.heap_39 P).In C.base) (G : Gl09 C) (F : Fx C A (env88 P L)) (hdep : A.depth + 20 < recursionLimit) (hu : A.units + 300 < cLine) (hbm : Bm C) (hC : CodeHd C.base 87 85) (hC2 : CodeHd C.base 82 78) (hfr : A.frames = some [env88 P L]) (T : Th xs ns) (hm : ns.length ≤ 64)
    (h : K9 P L NU TH NW xs ns xv H) (hr : H (L + 4) = some (.cell (some (.bool right)))) {low high : Nat} (hlow : low ≤ ns.length) (hhigh : high ≤ ns.length) (r : Rl ρ TH NW low high)
    {Q : Fl → Lo → AH → Prop} (hQ : ∀ ρ' H', K9 P L NU TH NW xs ns xv H' → Kp L H H' → Rl ρ' TH NW low high → Q .next ρ' H') :
    WS C A (env88 P L) (rb09 P) ρ H Q := by
  have hsz : 10000 ≤ sizeLine := by decide
  -- ahead
  refine WS.seq (W1.asgComp F rfl (cl := [("x", L + 1), ("right", L + 4)]) rfl (WIt.list F (WE.of (Ev.cell F rfl rfl h.cn) ⟨NU, _, _, rfl, h.nu, rfl, fun Cn hCn => ?_⟩)) rfl)
  refine comp_vals (g := fun i => V.bool (!fR right xv ns i)) (by rw [ints_length]; lia) (fun i ρ1 hi => ⟨h.nu, ?_⟩) h.nu ?_
  · rintro d ⟨u, hu1, rfl⟩
    obtain ⟨rfl, hi2⟩ := vints_at hu1
    refine Asg.local (F.comp rfl) rfl ⟨rfl, ?_⟩
    refine Ev.ifexp (c := right) (EvT.of (v := .bool right) (Ev.cell (F.comp rfl) rfl rfl hr) rfl (by intro x e; cases e)) (fun e => ?_) (fun e => ?_)
    · subst e
      refine Ev.as (Ev.icmp (op := .LtE) (Ev.local (F.comp rfl) rfl rfl) (Ev.cell (F.comp rfl) rfl rfl h.cx) rfl) ?_
      show V.bool _ = V.bool (!decide (xv < ns.getD i 0))
      congr 1
      rw [Bool.eq_iff_iff]; simp
    · subst e
      refine Ev.as (Ev.icmp (op := .Lt) (Ev.local (F.comp rfl) rfl rfl) (Ev.cell (F.comp rfl) rfl rfl h.cx) rfl) ?_
      show V.bool _ = V.bool (!!decide (ns.getD i 0 < xv))
      rw [Bool.not_not]
  intro AB hAB
  rw [ints_length]
  refine ⟨rfl, ?_⟩
  have le1 := AH.le_set (o := .list ((List.range ns.length).map fun i => V.bool (!fR right xv ns i))) (AH.le_refl H) hAB
  have eAB : (H.set AB (.list ((List.range ns.length).map fun i => V.bool (!fR right xv ns i)))) AB = some (.list ((List.range ns.length).map fun i => V.bool (!fR right xv ns i))) := AH.set_same ..
  have h1 := h.grow le1
  have hr1 := le1 _ _ hr
  have k1 : Kp L H _ := Kp.of_le le1
  generalize H.set AB (.list ((List.range ns.length).map fun i => V.bool (!fR right xv ns i))) = H1 at *
  have rA : (ρ.set "ahead" (.ref AB)) "ahead" = some (.ref AB) := rfl
  have r1 : Rl (ρ.set "ahead" (.ref AB)) TH NW low high := ⟨r.things, r.new, r.low, r.high⟩
  generalize ρ.set "ahead" (.ref AB) = ρ1 at *
  clear le1 hAB h hr r
  -- the bounds
  refine WS.seq (W1.for (WIt.list F (WE.list rfl (by decide) (WEs.cons (WE.list rfl (by decide) (WEs.nil fun b0 hb0 => WEs.cons (WE.list rfl (by decide) (WEs.of (.cons (Ev.local F rfl r1.low) .nil) fun b1 hb1 => WEs.cons (WE.list rfl (by decide) (WEs.of (.cons (Ev.local F rfl r1.low) (.cons (Ev.local F rfl r1.high) .nil)) fun b2 hb2 => WEs.cons (WE.list rfl (by decide) (WEs.of (.cons (Ev.local F rfl r1.high) (.cons (Ev.local F rfl r1.low) .nil)) fun b3 hb3 => WEs.nil fun BL hBL => ?_))))))))))))
  have le2 : H1.le (((((H1.set b0 (.list [])).set b1 (.list [.int low])).set b2 (.list [.int low, .int high])).set b3 (.list [.int high, .int low])).set BL (.list [.ref b0, .ref b1, .ref b2, .ref b3])) := AH.le_trans (AH.le_trans (AH.le_trans (AH.le_trans (AH.le_set (AH.le_refl _) hb0) (AH.le_set (AH.le_refl _) hb1)) (AH.le_set (AH.le_refl _) hb2)) (AH.le_set (AH.le_refl _) hb3)) (AH.le_set (AH.le_refl _) hBL)
  have eBL : (((((H1.set b0 (.list [])).set b1 (.list [.int low])).set b2 (.list [.int low, .int high])).set b3 (.list [.int high, .int low])).set BL (.list [.ref b0, .ref b1, .ref b2, .ref b3])) BL = some (.list [.ref b0, .ref b1, .ref b2, .ref b3]) := AH.set_same ..
  have e3 : (((((H1.set b0 (.list [])).set b1 (.list [.int low])).set b2 (.list [.int low, .int high])).set b3 (.list [.int high, .int low])).set BL (.list [.ref b0, .ref b1, .ref b2, .ref b3])) b3 = some (.list (vnats [high, low])) := AH.get_of_set (AH.set_same ..) hBL
  have e2 : (((((H1.set b0 (.list [])).set b1 (.list [.int low])).set b2 (.list [.int low, .int high])).set b3 (.list [.int high, .int low])).set BL (.list [.ref b0, .ref b1, .ref b2, .ref b3])) b2 = some (.list (vnats [low, high])) := AH.get_of_set (AH.get_of_set (AH.set_same ..) hb3) hBL
  have e1 : (((((H1.set b0 (.list [])).set b1 (.list [.int low])).set b2 (.list [.int low, .int high])).set b3 (.list [.int high, .int low])).set BL (.list [.ref b0, .ref b1, .ref b2, .ref b3])) b1 = some (.list (vnats [low])) := AH.get_of_set (AH.get_of_set (AH.get_of_set (AH.set_same ..) hb2) hb3) hBL
  have e0 : (((((H1.set b0 (.list [])).set b1 (.list [.int low])).set b2 (.list [.int low, .int high])).set b3 (.list [.int high, .int low])).set BL (.list [.ref b0, .ref b1, .ref b2, .ref b3])) b0 = some (.list (vnats [])) := AH.get_of_set (AH.get_of_set (AH.get_of_set (AH.get_of_set (AH.set_same ..) hb1) hb2) hb3) hBL
  have h2 := h1.grow le2
  have hr2 := le2 _ _ hr1
  have eAB2 := le2 _ _ eAB
  have k2 := k1.trans (Kp.of_le le2)
  refine ⟨BL, _, _, rfl, eBL, rfl, ?_⟩
  generalize (((((H1.set b0 (.list [])).set b1 (.list [.int low])).set b2 (.list [.int low, .int high])).set b3 (.list [.int high, .int low])).set BL (.list [.ref b0, .ref b1, .ref b2, .ref b3])) = H2 at *
  clear le2 hb0 hb1 hb2 hb3 hBL h1 hr1 eAB k1
  have hbl : ∀ (i : Nat) (v : V), ([.ref b0, .ref b1, .ref b2, .ref b3] : List V)[i]? = some v → ∃ b bs, v = .ref b ∧ H2 b = some (.list (vnats bs)) ∧ bs.length ≤ 2 ∧ ∀ c ∈ bs, c ≤ ns.length := fun i v hv => by
    match i, hv with
    | 0, hv => cases hv; exact ⟨b0, [], rfl, e0, by simp, by simp⟩
    | 1, hv => cases hv; exact ⟨b1, [low], rfl, e1, by simp, by simpa using hlow⟩
    | 2, hv => cases hv; exact ⟨b2, [low, high], rfl, e2, by simp, by simp [hlow, hhigh]⟩
    | 3, hv => cases hv; exact ⟨b3, [high, low], rfl, e3, by simp, by simp [hlow, hhigh]⟩
    | n + 4, hv => simp at hv
  clear e0 e1 e2 e3
  refine ⟨fun i ρ2 H3 => K9 P L NU TH NW xs ns xv H3 ∧ Kp L H2 H3 ∧ Rl ρ2 TH NW low high ∧ ρ2 "ahead" = some (.ref AB), ⟨h2, Kp.refl L H2, r1, rA⟩, ?_, ?_⟩
  · rintro i ρ2 H3 hi ⟨h3, k3, r3, rA3⟩
    refine ⟨h2.lst k3 eBL, ?_⟩
    rintro d ⟨v, hv, rfl⟩
    obtain ⟨b, bs, rfl, eb, hbs, hbl'⟩ := hbl i v hv
    refine Asg.local F rfl ?_
    refine bounds_body (right := right) (bs := bs) hK G F hdep hu hbm hC T hm h3 (k3 _ _ hr2 (addr_ne L 4 5 rfl) (addr_ne L 4 6 rfl) (by simp)) (h2.lst k3 eAB2) (h2.lst k3 eb) hbs hbl' (by exact r3.things) (by exact r3.new) (by exact rA3) rfl fun ρ' H' h' k' q1 q2 q3 q4 q5 => ⟨h', k3.trans k', ⟨q1.trans r3.things, q2.trans r3.new, q4.trans r3.low, q5.trans r3.high⟩, q3.trans rA3⟩
  rintro ρ2 H3 ⟨h3, k3, r3, rA3⟩
  refine ⟨h2.lst k3 eBL, rfl, ?_⟩
  have hr3 := k3 _ _ hr2 (addr_ne L 4 5 rfl) (addr_ne L 4 6 rfl) (by simp)
  have k4 := k2.trans k3
  clear h2 k2 k3 hr2 eAB2 eBL hbl
  -- refused
  have hlo : (-1 : Int) - (if xv < 0 then -xv else xv) < 0 := by split <;> lia
  generalize hlv : (-1 : Int) - (if xv < 0 then -xv else xv) = lo at *
  refine WS.cons (W1.for (WIt.list F (WE.list rfl (by decide) (WEs.cons (WE.list rfl (by decide) (WEs.of (.cons (v := .int lo) (Ev.as (Ev.sub (Ev.neg Ev.int) (Ev.abs (Ev.glob F rfl G.abs) (Ev.cell F rfl rfl h3.cx))) (by rw [hlv])) .nil) fun b0 hb0 => WEs.cons (WE.list rfl (by decide) (WEs.of (.cons (v := .int lo) (Ev.as (Ev.sub (Ev.neg Ev.int) (Ev.abs (Ev.glob F rfl G.abs) (Ev.cell F rfl rfl (AH.get_of_set h3.cx hb0)))) (by rw [hlv])) (.cons (Ev.local F rfl r3.high) .nil)) fun b1 hb1 => WEs.nil fun BL hBL => ?_))))))))
  have le2 : H3.le (((H3.set b0 (.list [.int lo])).set b1 (.list [.int lo, .int high])).set BL (.list [.ref b0, .ref b1])) := AH.le_trans (AH.le_trans (AH.le_set (AH.le_refl _) hb0) (AH.le_set (AH.le_refl _) hb1)) (AH.le_set (AH.le_refl _) hBL)
  have eBL : (((H3.set b0 (.list [.int lo])).set b1 (.list [.int lo, .int high])).set BL (.list [.ref b0, .ref b1])) BL = some (.list [.ref b0, .ref b1]) := AH.set_same ..
  have e1 : (((H3.set b0 (.list [.int lo])).set b1 (.list [.int lo, .int high])).set BL (.list [.ref b0, .ref b1])) b1 = some (.list [.int lo, .int high]) := AH.get_of_set (AH.set_same ..) hBL
  have e0 : (((H3.set b0 (.list [.int lo])).set b1 (.list [.int lo, .int high])).set BL (.list [.ref b0, .ref b1])) b0 = some (.list [.int lo]) := AH.get_of_set (AH.get_of_set (AH.set_same ..) hb1) hBL
  have h5 := h3.grow le2
  have hr5 := le2 _ _ hr3
  have k5 := k4.trans (Kp.of_le le2)
  refine ⟨BL, _, _, rfl, eBL, rfl, ?_⟩
  generalize ((H3.set b0 (.list [.int lo])).set b1 (.list [.int lo, .int high])).set BL (.list [.ref b0, .ref b1]) = H5 at *
  have hbl : ∀ (i : Nat) (v : V), ([.ref b0, .ref b1] : List V)[i]? = some v → ∃ b bv, v = .ref b ∧ H5 b = some (.list bv) ∧ bv.length ≤ 2 ∧ loV bv = .int lo := fun i v hv => by
    match i, hv with
    | 0, hv => cases hv; exact ⟨b0, _, rfl, e0, by simp, rfl⟩
    | 1, hv => cases hv; exact ⟨b1, _, rfl, e1, by simp, rfl⟩
    | n + 2, hv => simp at hv
  refine ⟨fun i ρ2 H6 => K9 P L NU TH NW xs ns xv H6 ∧ Kp L H5 H6 ∧ Rl ρ2 TH NW low high, ⟨h5, Kp.refl L H5, r3⟩, ?_, ?_⟩
  · rintro i ρ4 H6 hi ⟨h6, k6, r6⟩
    refine ⟨h5.lst k6 eBL, ?_⟩
    rintro d ⟨v, hv, rfl⟩
    obtain ⟨b, bv, rfl, eb, hbs, hlv'⟩ := hbl i v hv
    refine Asg.local F rfl ?_
    have hr6 := k6 _ _ hr5 (addr_ne L 4 5 rfl) (addr_ne L 4 6 rfl) (by simp)
    refine WS.cons (W1.if (WT.not (WT.bool (WE.callAT (fun _ => fn_in hK 83 rfl) (Ev.glob F rfl G.refused) (WArgs.plain (WEs.of (.cons (Ev.cell F rfl rfl hr6) (.cons (Ev.local F rfl (by exact r6.things)) (.cons (Ev.cell F rfl rfl h6.cn) (.cons (Ev.local F rfl (by exact r6.new)) (.cons (Ev.local F rfl rfl) .nil))))) (WKs.nil (refused_spec (xs := xs) (ns := ns) (bv := bv) (xv := xv) (sz := (ns.length : Int)) (right := right) (outer := []) hK G F.hh (by lia) (by lia) hbm hC2 hfr ⟨rfl, by intro q; cases q⟩ (fun e he => by cases he) h6.th h6.nu h6.nw (h5.lst k6 eb) h6.hI h6.t1 hbs hlo hlv' fun H7 u7 t7 => ⟨true, rfl, ?_⟩))))))))
    have h7 := h6.up78 u7 t7
    exact ⟨fun e => (by cases e), fun _ => WS.nil (WS.nil ⟨h7, k6.trans (fun a o e _ _ n => u7 a o e (h6.ntab78 e n)), ⟨r6.things, r6.new, r6.low, r6.high⟩⟩)⟩
  · rintro ρ4 H6 ⟨h6, k6, r6⟩
    exact ⟨h5.lst k6 eBL, WS.nil (hQ _ _ h6 (k5.trans k6) r6)⟩
end
end Mine

set_option maxHeartbeats 4000000
namespace Mine
open PySem PySem.W PyProof.Rows

section
variable {C : Cx} {A : Around} {ρ : Lo} {H : AH} {P : Params} {L : Addr}
theorem vget {xs : List Int} {i : Nat} (h : i < xs.length) : (vints xs)[i]? = some (.int (xs.getD i 0)) := by
  rw [List.getD_eq_getElem?_getD]; simp [vints, h]
theorem law_body (hK : (hd.heap_39 P).In C.base) (G : Gl09 C) {L : Addr} (F : Fx C A (env88 P L)) (hdep : A.depth + 20 < recursionLimit) (hu : A.units + 300 < cLine) (hfr : A.frames = some [env88 P L]) (hbm : Bm C) (hC2 : CodeHd C.base 82 78) (hC : CodeHd C.base 87 85)
    {sc : Addr} {ns : List Int} {ρ : Lo} (rs : ρ "script" = some (.ref sc)) (hsc : H sc = some (.scr (vints ns))) (hns : ns.length ≤ 63) (hT1 : H 78 = some (.tab [])) (hT2 : H 85 = some (.tab []))
    (c1 : H (L + 1) = some (.cell none)) (c2 : H (L + 2) = some (.cell none)) (c3 : H (L + 3) = some (.cell none)) (c4 : H (L + 4) = some (.cell none)) (c5 : H (L + 5) = some (.cell none)) (c6 : H (L + 6) = some (.cell none)) :
    WS C A (env88 P L) (bodyOf (fdOf (hd.heap_39 P) 88)) ρ H (fun f _ H' => retv f = .bool true ∧ (∃ es, H' 78 = some (.tab es)) ∧ (∃ es, H' 85 = some (.tab es))) := by
  have hsz : 10000 ≤ sizeLine := by decide
  -- x
  refine WS.seq (W1.asg (WE.of (v := .int (ns.headD 0)) (Ev.ifexp (c := !(vints ns).isEmpty) (EvT.of (Ev.local F rfl rs) (by simp [truth, hsc]) (by intro x e; cases e)) (fun e => ?_) (fun e => ?_)) (Asg.cell F rfl rfl c1 ⟨rfl, ?_⟩)))
  · cases ns with
    | nil => simp [vints] at e
    | cons x r => exact Ev.item (k := 0) (Ev.local F rfl rs) Ev.int hsc rfl (by lia) rfl
  · cases ns with
    | nil => exact Ev.int
    | cons x r => simp [vints] at e
  generalize ns.headD 0 = xv
  have s : ∀ {a : Addr} {o : O}, H a = some o → a ≠ L + 1 → (H.set (L + 1) (.cell (some (.int xv)))) a = some o := fun e n1 => by rw [AH.set_ne _ _ n1]; exact e
  have d1 : (H.set (L + 1) (.cell (some (.int xv)))) (L + 1) = some (.cell (some (.int xv))) := AH.set_same ..
  have d2 := s c2 (addr_ne L 2 1 rfl)
  have d3 := s c3 (addr_ne L 3 1 rfl)
  have d4 := s c4 (addr_ne L 4 1 rfl)
  have d5 := s c5 (addr_ne L 5 1 rfl)
  have d6 := s c6 (addr_ne L 6 1 rfl)
  have dT1 := s hT1 (fun q => by rw [q, c1] at hT1; cases hT1)
  have dT2 := s hT2 (fun q => by rw [q, c1] at hT2; cases hT2)
  have ds := s hsc (fun q => by rw [q, c1] at hsc; cases hsc)
  generalize H.set (L + 1) (.cell (some (.int xv))) = H1 at *
  clear s c1 c2 c3 c4 c5 c6 hT1 hT2 hsc
  -- numbers
  refine WS.seq (W1.asg (WE.addList (WE.slice (lo := some 1) (hi := Option.none) (WE.of (Ev.local F rfl rs) ⟨sc, _, _, rfl, ds, rfl, .some Ev.int, .none, fun a ha => WE.list rfl (by decide) (WEs.of (.cons Ev.int .nil) fun b hb => ⟨a, b, _, _, _, _, rfl, rfl, AH.get_of_set (AH.set_same ..) hb, AH.set_same .., rfl, rfl, ?_, fun NU hNU => ?_⟩)⟩))))
  · have := slc_len (some 1) none (vints ns)
    rw [ints_length] at this
    simp; lia
  have hsl : slc (some 1) none (vints ns) = vints (ns.drop 1) := by
    rw [show (1 : Int) = ((1 : Nat) : Int) from rfl, slc_drop]; unfold vints; rw [List.map_drop]
  have hxs : slc (some 1) none (vints ns) ++ [V.int 0] = vints (ns.drop 1 ++ [0]) := by rw [hsl]; simp [vints]
  have leA : H1.le (((H1.set a (.list (slc (some 1) none (vints ns)))).set b (.list [.int 0])).set NU (.list (slc (some 1) none (vints ns) ++ [.int 0]))) := AH.le_trans (AH.le_trans (AH.le_set (AH.le_refl _) ha) (AH.le_set (AH.le_refl _) hb)) (AH.le_set (AH.le_refl _) hNU)
  have eN : (((H1.set a (.list (slc (some 1) none (vints ns)))).set b (.list [.int 0])).set NU (.list (slc (some 1) none (vints ns) ++ [.int 0]))) NU = some (.list (slc (some 1) none (vints ns) ++ [.int 0])) := AH.set_same ..
  rw [hxs] at leA eN ⊢
  generalize hnm : ns.drop 1 ++ [0] = nm at *
  have hnl : 1 ≤ nm.length ∧ nm.length ≤ 64 := by rw [← hnm]; simp; lia
  have f1 := leA _ _ d1
  have f2 := leA _ _ d2
  have f3 := leA _ _ d3
  have f4 := leA _ _ d4
  have f5 := leA _ _ d5
  have f6 := leA _ _ d6
  have fT1 := leA _ _ dT1
  have fT2 := leA _ _ dT2
  generalize ((H1.set a (.list (slc (some 1) none (vints ns)))).set b (.list [.int 0])).set NU (.list (vints nm)) = H2 at *
  clear leA d1 d2 d3 d4 d5 d6 dT1 dT2 ds hsl hxs hnm
  refine Asg.cell F rfl rfl f2 ⟨rfl, ?_⟩
  have s : ∀ {a : Addr} {o : O}, H2 a = some o → a ≠ L + 2 → (H2.set (L + 2) (.cell (some (.ref NU)))) a = some o := fun e n1 => by rw [AH.set_ne _ _ n1]; exact e
  have g1 := s f1 (addr_ne L 1 2 rfl)
  have g2 : (H2.set (L + 2) (.cell (some (.ref NU)))) (L + 2) = some (.cell (some (.ref NU))) := AH.set_same ..
  have g3 := s f3 (addr_ne L 3 2 rfl)
  have g4 := s f4 (addr_ne L 4 2 rfl)
  have g5 := s f5 (addr_ne L 5 2 rfl)
  have g6 := s f6 (addr_ne L 6 2 rfl)
  have gT1 := s fT1 (fun q => by rw [q, f2] at fT1; cases fT1)
  have gT2 := s fT2 (fun q => by rw [q, f2] at fT2; cases fT2)
  have gN := s eN (fun q => by rw [q, f2] at eN; cases eN)
  generalize H2.set (L + 2) (.cell (some (.ref NU))) = H3 at *
  clear s f1 f2 f3 f4 f5 f6 fT1 fT2 eN
  -- size
  refine WS.seq (W1.asg (WE.of (Ev.as (Ev.len (Ev.glob F rfl G.len) (Ev.cell F rfl rfl g2) gN rfl) (by rw [ints_length])) (Asg.cell F rfl rfl g3 ⟨rfl, ?_⟩)))
  have s : ∀ {a : Addr} {o : O}, H3 a = some o → a ≠ L + 3 → (H3.set (L + 3) (.cell (some (.int nm.length)))) a = some o := fun e n1 => by rw [AH.set_ne _ _ n1]; exact e
  have k1 := s g1 (addr_ne L 1 3 rfl)
  have k2 := s g2 (addr_ne L 2 3 rfl)
  have k3 : (H3.set (L + 3) (.cell (some (.int nm.length)))) (L + 3) = some (.cell (some (.int nm.length))) := AH.set_same ..
  have k4 := s g4 (addr_ne L 4 3 rfl)
  have k5 := s g5 (addr_ne L 5 3 rfl)
  have k6 := s g6 (addr_ne L 6 3 rfl)
  have kT1 := s gT1 (fun q => by rw [q, g3] at gT1; cases gT1)
  have kT2 := s gT2 (fun q => by rw [q, g3] at gT2; cases gT2)
  have kN := s gN (fun q => by rw [q, g3] at gN; cases gN)
  generalize H3.set (L + 3) (.cell (some (.int nm.length))) = H4 at *
  clear s g1 g2 g3 g4 g5 g6 gT1 gT2 gN
  -- things
  refine WS.seq (W1.asgComp F rfl (cl := [("numbers", L + 2)]) rfl (WIt.range1 F (Ev.glob F rfl G.range) (Ev.cell F rfl rfl k3) (by (clear kN kT2 kT1 k6 k5 k4 k3 k2 k1 hnl hNU hb ha hsz hns rs hC hC2 hbm hfr hu hdep F G hK; lia)) (by lia) fun Cn hCn => ?_) rfl)
  rw [Int.toNat_natCast]
  refine comp_its (g := fun i => (nm.getD i 0, (i : Int))) (by lia) (fun i ρ1 H5 hi hle => ⟨trivial, ?_⟩) (fun _ _ => trivial) ?_
  · rintro d rfl
    refine Asg.local (F.comp rfl) rfl ⟨rfl, ?_⟩
    refine WE.list rfl (by decide) (WEs.of (.cons (v := .int (nm.getD i 0)) (Ev.item (Ev.cell (F.comp rfl) rfl rfl (hle _ _ k2)) (Ev.local (F.comp rfl) rfl rfl) (hle _ _ kN) rfl (by lia) (by rw [Int.toNat_natCast]; exact vget hi)) (.cons (Ev.local (F.comp rfl) rfl rfl) .nil)) fun a ha => ⟨a, rfl, ha, rfl⟩)
  intro xs H5 hxs hle hI TH hTH
  refine ⟨rfl, ?_⟩
  have T : Th xs nm := by
    have hl := congrArg List.length hxs
    simp only [List.length_map, List.length_range] at hl
    refine ⟨hl, fun i p hp => ?_⟩
    have := congrArg (fun l => l[i]?) hxs
    have hi : i < nm.length := by rw [← hl]; exact (List.getElem?_eq_some_iff.mp hp).1
    simp only [List.getElem?_map, hp, List.getElem?_range hi, Option.map_some] at this
    have e := Option.some.inj this
    exact ⟨by rw [e], by rw [e]⟩
  have leT := AH.le_set (o := .list (refs xs)) (AH.le_refl H5) hTH
  have eTH : (H5.set TH (.list (refs xs))) TH = some (.list (refs xs)) := AH.set_same ..
  have leB := AH.le_trans hle leT
  have hI6 : ∀ p ∈ xs, IsIt (H5.set TH (.list (refs xs))) p := fun p hp => leT _ _ (hI p hp)
  generalize H5.set TH (.list (refs xs)) = H6 at *
  -- new
  refine WS.seq (W1.asgLocal F rfl (WE.list rfl (by decide) (WEs.of (.cons (Ev.cell F rfl rfl (leB _ _ k1)) (.cons (Ev.cell F rfl rfl (leB _ _ k3)) .nil)) fun NW hNW => ⟨rfl, ?_⟩)))
  have leW := AH.le_set (o := .list [.int xv, .int nm.length]) (AH.le_refl H6) hNW
  have eW : (H6.set NW (.list [.int xv, .int nm.length])) NW = some (.list [.int xv, .int nm.length]) := AH.set_same ..
  have leC := AH.le_trans leB leW
  have h7 : K9 P L NU TH NW xs nm xv (H6.set NW (.list [.int xv, .int nm.length])) := ⟨leC _ _ k1, leC _ _ k2, leC _ _ k3, ⟨_, leC _ _ k4⟩, ⟨_, leC _ _ k5⟩, ⟨_, leC _ _ k6⟩, leC _ _ kN, leW _ _ eTH, eW, fun p hp => leW _ _ (hI6 p hp), ⟨[], leC _ _ kT1, by simp⟩, ⟨[], leC _ _ kT2, by simp⟩⟩
  generalize H6.set NW (.list [.int xv, .int nm.length]) = H7 at *
  clear k1 k2 k3 k4 k5 k6 kT1 kT2 kN leB leC leW leT eTH eW hI hI6 hle hNW hTH hxs
  -- low, high
  refine WS.seq (W1.asg (WE.listComp (cl := [("size", L + 3)]) rfl (WIt.list F (WE.slice (lo := Option.none) (hi := some ((2 : Nat) : Int)) (WE.addList (WE.of (Ev.cell F rfl rfl h7.cn) (WE.list rfl (by decide) (WEs.of (.cons Ev.int .nil) fun b hb => ⟨NU, b, _, _, _, _, rfl, rfl, AH.get_of_set h7.nu hb, AH.set_same .., rfl, rfl, ?_, fun c hc => ⟨c, _, _, rfl, AH.set_same .., rfl, .none, .some Ev.int, fun e he => ⟨e, _, _, rfl, AH.set_same .., rfl, fun Cn hCn => ?_⟩⟩⟩))))))))
  · rw [ints_length]; simp; lia
  have hxs : vints nm ++ [V.int 0] = vints (nm ++ [0]) := by simp [vints]
  have hsl : slc none (some ((2 : Nat) : Int)) (vints nm ++ [V.int 0]) = vints ((nm ++ [0]).take 2) := by
    rw [hxs, slc_take _ _ (by rw [ints_length]; simp; lia)]; unfold vints; rw [List.map_take]
  rw [hsl]
  have leD : H7.le (((H7.set b (.list [.int 0])).set c (.list (vints nm ++ [.int 0]))).set e (.list (vints ((nm ++ [0]).take 2)))) := AH.le_trans (AH.le_trans (AH.le_set (AH.le_refl _) hb) (AH.le_set (AH.le_refl _) hc)) (AH.le_set (AH.le_refl _) he)
  have eE : (((H7.set b (.list [.int 0])).set c (.list (vints nm ++ [.int 0]))).set e (.list (vints ((nm ++ [0]).take 2)))) e = some (.list (vints ((nm ++ [0]).take 2))) := AH.set_same ..
  have h8 := h7.grow leD
  generalize ((H7.set b (.list [.int 0])).set c (.list (vints nm ++ [.int 0]))).set e (.list (vints ((nm ++ [0]).take 2))) = H8 at *
  obtain ⟨y0, y1, hy⟩ : ∃ y0 y1, (nm ++ [0]).take 2 = [y0, y1] := by
    match nm, hnl with
    | [a], _ => exact ⟨a, 0, rfl⟩
    | a :: b :: r, _ => exact ⟨a, b, rfl⟩
    | [], h => exact absurd h.1 (by simp)
  rw [hy] at eE ⊢
  have hmod : ∀ y : Int, ∃ k : Nat, y.fmod ((nm.length : Int) + 1) = (k : Int) ∧ k ≤ nm.length := fun y => by
    have h1 : 0 ≤ y.fmod ((nm.length : Int) + 1) := Int.fmod_nonneg_of_pos _ (by omega)
    have h2 : y.fmod ((nm.length : Int) + 1) < (nm.length : Int) + 1 := Int.fmod_lt_of_pos _ (by omega)
    exact ⟨(y.fmod ((nm.length : Int) + 1)).toNat, by omega, by omega⟩
  obtain ⟨low, hlow, hlowl⟩ := hmod y0
  obtain ⟨high, hhigh, hhighl⟩ := hmod y1
  refine comp_vals (g := fun i => V.int (([y0, y1] : List Int).getD i 0 |>.fmod ((nm.length : Int) + 1))) (by rw [ints_length]; simp; lia) (fun i ρ1 hi => ⟨eE, ?_⟩) eE ?_
  · rintro d ⟨u, hu1, rfl⟩
    obtain ⟨rfl, hi2⟩ := vints_at hu1
    refine Asg.local (F.comp rfl) rfl ⟨rfl, Ev.mod (Ev.local (F.comp rfl) rfl rfl) (Ev.add (Ev.cell (F.comp rfl) rfl rfl h8.cs) Ev.int) (by lia)⟩
  intro D hD
  have hvs : (List.range (vints [y0, y1]).length).map (fun i => V.int (([y0, y1] : List Int).getD i 0 |>.fmod ((nm.length : Int) + 1))) = [.int low, .int high] := by
    show [V.int (y0.fmod _), V.int (y1.fmod _)] = _
    rw [hlow, hhigh]
  rw [hvs]
  refine Asg.unpackL F rfl (AH.set_same ..) rfl rfl (Asg.local F rfl (Asg.local F rfl ⟨rfl, ?_⟩))
  have h9 := h8.grow (AH.le_set (o := .list [.int low, .int high]) (AH.le_refl H8) hD)
  generalize H8.set D (.list [.int low, .int high]) = H9 at *
  -- left, right
  refine WS.seq (W1.for (WIt.list F (WE.list rfl (by decide) (WEs.of (.cons Ev.bool (.cons Ev.bool .nil)) fun RL hRL => ⟨RL, _, _, rfl, AH.set_same .., rfl, ?_⟩))))
  have eRL : (H9.set RL (.list [.bool false, .bool true])) RL = some (.list [.bool false, .bool true]) := AH.set_same ..
  have h10 := h9.grow (AH.le_set (o := .list [.bool false, .bool true]) (AH.le_refl H9) hRL)
  generalize H9.set RL (.list [.bool false, .bool true]) = H10 at *
  refine ⟨fun i ρ2 H3 => K9 P L NU TH NW xs nm xv H3 ∧ H3 RL = some (.list [.bool false, .bool true]) ∧ Rl ρ2 TH NW low high, ⟨h10, eRL, ⟨rfl, rfl, rfl, rfl⟩⟩, ?_, ?_⟩
  · rintro i ρ2 H3 hi ⟨h3, e3, r3⟩
    refine ⟨e3, ?_⟩
    rintro d ⟨v, hv, rfl⟩
    obtain ⟨right, rfl⟩ : ∃ right, v = .bool right := by
      match i, hv with
      | 0, hv => cases hv; exact ⟨_, rfl⟩
      | 1, hv => cases hv; exact ⟨_, rfl⟩
      | n + 2, hv => simp at hv
    obtain ⟨w, c4⟩ := h3.cr
    refine Asg.cell F rfl rfl c4 ?_
    have h4 := h3.cell (i := 4) (by simp) (v := some (.bool right))
    have e4 : (H3.set (L + 4) (.cell (some (.bool right)))) RL = some (.list [.bool false, .bool true]) := by rw [AH.set_ne _ _ (fun q => by rw [q, c4] at e3; cases e3)]; exact e3
    refine round (right := right) hK G F hdep hu hbm hC hC2 hfr T hnl.2 h4 (AH.set_same ..) hlowl hhighl ⟨r3.things, r3.new, r3.low, r3.high⟩ fun ρ' H' h' k' r' => ⟨h', h4.lst k' e4, r'⟩
  · rintro ρ2 H3 ⟨h3, e3, r3⟩
    obtain ⟨es1, t1, _⟩ := h3.t1
    obtain ⟨es2, t2, _⟩ := h3.t2
    exact ⟨e3, rfl, WS.cons (W1.ret (WE.of Ev.bool ⟨rfl, ⟨es1, t1⟩, ⟨es2, t2⟩⟩))⟩
end
end Mine

open PySem PySem.W PyProof.Rows Mine in
set_option maxRecDepth 100000 in
set_option maxHeartbeats 8000000 in
theorem PySem.Challenge.cw_dm0010_09_holds : PySem.Challenge.rw_dm0010_09.Holds :=
  Mine.hd (by
  w_strict (
  k_fill
  intro w s₀ s₁ mg mb G Y fa o pm cd doc dV kV ho hd hcd hD hmg hg args vals as hpre hlay hrd hwl hlo
  have KX := km_in_of Y
  refine Ground.open G ?_
  intro T B D TE TW
  clear ho hd hcd hD
  wrow_args hpre hlay hrd hwl hlo
  rename_i ns _ _ _ _ _ _ _ sc vs _ hL _ _ _ hI _ hlen _
  have hfa : fa = 88 := by
    have h1 : mg "law" = some (.ref 88) := mg_of KX T.g rfl
    have h2 : mg "law" = some (.ref fa) := hmg
    rw [h1] at h2; cases h2; rfl
  subst hfa
  have hTb1 : CodeHd s₁.heap 82 78 ∧ s₁.heap.get? 78 = some (tabObj #[]) := ⟨codeHd_of_K KX (by kernel_rfl), km_tabs_of Y 78 (by simp)⟩
  have hTb2 : CodeHd s₁.heap 87 85 ∧ s₁.heap.get? 85 = some (tabObj #[]) := ⟨codeHd_of_K KX (by kernel_rfl), km_tabs_of Y 85 (by simp)⟩
  have hTA : TabsAt [(82, 78), (87, 85)] s₁.heap := fun q hq => by
    rcases List.mem_cons.mp hq with rfl | hq
    · exact hTb1
    · rw [List.mem_singleton.mp hq]; exact hTb2
  have hTt : ∀ b ∈ ([78, 85] : List Addr), s₁.heap.get? b = some (tabObj #[]) ∧ ∃ c, CodeHd s₁.heap c b := fun b hb => by
    rcases List.mem_cons.mp hb with rfl | hb
    · exact ⟨hTb1.2, _, hTb1.1⟩
    · rw [List.mem_singleton.mp hb]; exact ⟨hTb2.2, _, hTb2.1⟩
  let C : Cx := { prog := Challenge.rw_dm0010_09.row.prog, w := w, base := ghostOf s₁.heap [(82, 78), (87, 85)], mg := mg, mb := mb, hg := ghost_ns hTA T.g, hb := ghost_ns hTA T.b, lim := (ghost_top hTA T).nolimit }
  have KX' : (Mine.hd.heap_39 w.params).In C.base := ghost_K hTA KX rfl
  have bt : ∀ x : Str, x ≠ "__name__" → C.mb x = bootBuiltins x := T.builtins
  have hBm : Bm C := by
    obtain ⟨bm, ob, b1, b2, b3, b4, b5, b6⟩ := (ghost_top hTA T).bmain
    refine ⟨bm, ob, b1, b2, fun q => ?_, b3, b4, b5, b6⟩
    obtain ⟨o, es, ep, e, hd, _⟩ := C.hg
    have b3' : C.base.get? mainGlobals = some ob := q ▸ b3
    rw [b3'] at e; cases e; rw [b6] at hd; cases hd
  have hns : ns.length ≤ 63 := by omega
  have hmap : vs.map ab = vints ns := ints_of hI
  have hscT : ∀ b ∈ ([78, 85] : List Addr), sc ≠ b := fun b hb q => by
    obtain ⟨o, ho, hc, _⟩ := hL
    rw [q, (hTt b hb).1] at ho; cases ho; cases hc
  have key := top_call2 (C := C) (A := callerA) (H := (fun b => if b = sc then some (.scr (vints ns)) else if b ∈ ([78, 85] : List Addr) then some (.tab []) else none)) (Q := fun v H' => v = .bool true ∧ (∃ es, H' 78 = some (.tab es)) ∧ (∃ es, H' 85 = some (.tab es))) (s := s₁) (a := 88) (fd := fdOf (Mine.hd.heap_39 w.params) 88) (vals := [.ref sc]) (bs := [("script", .ref sc)]) (fun b o e => of_hideAll _ e) ?_ ?_ (KX 88 ⟨.type "function", none, .func (fdOf (Mine.hd.heap_39 w.params) 88), #[]⟩ rfl) rfl (by decide) rfl rfl (codeRec_of KX rfl) (binds := [("script", .ref sc)]) rfl rfl rfl (show (["notes", "asked", "right", "size", "numbers", "x"] : List Str).Nodup by decide) (aL (kinds (fdOf (Mine.hd.heap_39 w.params) 88)) [("script", .ref sc)] fun _ => none) (aC (kinds (fdOf (Mine.hd.heap_39 w.params) 88)) [("script", .ref sc)] fun _ => none) (fun L x => bindL_ab (fun _ => rfl) x) (fun L x => bindC_ab (fun _ => rfl) x) ?_
  · refine wpAny_mono key (fun v s' ⟨⟨H', ⟨hv, hes1, hes2⟩, hrep⟩, hbk, hk, hlv, hgn, hos⟩ => ?_) fun _ _ e => e.elim
    cases ab_bool hv
    refine law_end2 (H := H') (H' := H') (tabs := [78, 85]) rfl (by wrow_post) (fun P hP => ?_) hrep (fun b o hb e => hbk b o (ghost_ne e hb)) hlv (hgn.trans hg) hos
    refine ⟨?_, ?_⟩
    · obtain ⟨h1, c, h2⟩ := hTt P hP
      exact ⟨c, h2.tab h1⟩
    · skip
      rcases List.mem_cons.mp hP with rfl | hP
      · exact hes1
      · rw [List.mem_singleton.mp hP]; exact hes2
  · intro b ob hb
    by_cases q : b = sc
    · subst q
      rw [if_pos rfl] at hb; cases hb
      obtain ⟨o, ho, hc, n, hd⟩ := hL
      exact ⟨o, ho, hc, _, n, hd, hmap, by rw [ints_length]; exact Nat.le_trans hns (by decide)⟩
    · rw [if_neg q] at hb
      by_cases q2 : b ∈ ([78, 85] : List Addr)
      · rw [if_pos q2] at hb; cases hb
        exact ⟨_, (hTt b q2).1, rfl⟩
      · rw [if_neg q2] at hb; cases hb
  · intro b ob hb hm
    by_cases q : b = sc
    · subst q
      rw [if_pos rfl] at hb; cases hb; cases hm
    · rw [if_neg q] at hb
      by_cases q2 : b ∈ ([78, 85] : List Addr)
      · exact hideAll_none _ q2
      · rw [if_neg q2] at hb; cases hb
  · intro L hL0 hcs
    have hscL : ∀ p ∈ cellsFrom (L + 1) (fdOf (Mine.hd.heap_39 w.params) 88).scope.names [], sc ≠ p.2 ∧ p.2 ∉ ([78, 85] : List Addr) := fun p hp => by
      have := (hcs p hp).1
      refine ⟨fun q => ?_, fun q => ?_⟩
      · rw [if_pos q.symm] at this; cases this
      · have hne : ¬ p.2 = sc := fun e => hscT p.2 q e.symm
        rw [if_neg hne, if_pos q] at this; cases this
    have hTH : ∀ b ∈ ([78, 85] : List Addr), ((fun b => if b = sc then some (.scr (vints ns)) else if b ∈ ([78, 85] : List Addr) then some (.tab []) else none) : AH) b = some (.tab []) := fun b hb => (if_neg (fun e => hscT b hb e.symm)).trans (if_pos hb)
    obtain ⟨n1, t1⟩ := hscL ("x", L + 1) (.tail _ (.tail _ (.tail _ (.tail _ (.tail _ (.head _))))))
    obtain ⟨n2, t2⟩ := hscL ("numbers", L + 2) (.tail _ (.tail _ (.tail _ (.tail _ (.head _)))))
    obtain ⟨n3, t3⟩ := hscL ("size", L + 3) (.tail _ (.tail _ (.tail _ (.head _))))
    obtain ⟨n4, t4⟩ := hscL ("right", L + 4) (.tail _ (.tail _ (.head _)))
    obtain ⟨n5, t5⟩ := hscL ("asked", L + 5) (.tail _ (.head _))
    obtain ⟨n6, t6⟩ := hscL ("notes", L + 6) (.head _)
    refine law_body (C := C) (sc := sc) (ns := ns) KX' ⟨(gl_boot KX' rfl ((bt _ (by decide)).trans (by decide +kernel))), (gl_boot KX' rfl ((bt _ (by decide)).trans (by decide +kernel))), (gl_boot KX' rfl ((bt _ (by decide)).trans (by decide +kernel))), (gl_boot KX' rfl ((bt _ (by decide)).trans (by decide +kernel))), (gl_boot KX' rfl ((bt _ (by decide)).trans (by decide +kernel))), (gl_boot KX' rfl ((bt _ (by decide)).trans (by decide +kernel))), (gl_boot KX' rfl ((bt _ (by decide)).trans (by decide +kernel))), (gl_boot KX' rfl ((bt _ (by decide)).trans (by decide +kernel))), (gl_boot KX' rfl ((bt _ (by decide)).trans (by decide +kernel))), (gl_own KX' rfl), (gl_own KX' rfl), (gl_own KX' rfl), (gl_own KX' rfl), (gl_own KX' rfl), (gl_own KX' rfl), (gl_own KX' rfl), (gl_own KX' rfl), (gl_own KX' rfl)⟩ ⟨rfl, rfl, rfl, rfl⟩ (show callerA.depth + 1 + 20 < recursionLimit by decide) (show callerA.units + 3 + 300 < cLine by decide) rfl hBm (ghost_code hTA).1 (ghost_code hTA).2.1 rfl ?_ hns ?_ ?_ ?_ ?_ ?_ ?_ ?_ ?_
    · show ((AH.set (AH.set (AH.set (AH.set (AH.set (AH.set _ (L + 1) (.cell none)) (L + 2) (.cell none)) (L + 3) (.cell none)) (L + 4) (.cell none)) (L + 5) (.cell none)) (L + 6) (.cell none)) sc) = _
      rw [AH.set_ne _ _ n6, AH.set_ne _ _ n5, AH.set_ne _ _ n4, AH.set_ne _ _ n3, AH.set_ne _ _ n2, AH.set_ne _ _ n1]; exact if_pos rfl
    · show ((AH.set (AH.set (AH.set (AH.set (AH.set (AH.set _ (L + 1) (.cell none)) (L + 2) (.cell none)) (L + 3) (.cell none)) (L + 4) (.cell none)) (L + 5) (.cell none)) (L + 6) (.cell none)) 78) = _
      rw [AH.set_ne _ _ (fun e : 78 = L + 6 => t6 (e ▸ by simp)), AH.set_ne _ _ (fun e : 78 = L + 5 => t5 (e ▸ by simp)), AH.set_ne _ _ (fun e : 78 = L + 4 => t4 (e ▸ by simp)), AH.set_ne _ _ (fun e : 78 = L + 3 => t3 (e ▸ by simp)), AH.set_ne _ _ (fun e : 78 = L + 2 => t2 (e ▸ by simp)), AH.set_ne _ _ (fun e : 78 = L + 1 => t1 (e ▸ by simp))]; exact hTH 78 (by simp)
    · show ((AH.set (AH.set (AH.set (AH.set (AH.set (AH.set _ (L + 1) (.cell none)) (L + 2) (.cell none)) (L + 3) (.cell none)) (L + 4) (.cell none)) (L + 5) (.cell none)) (L + 6) (.cell none)) 85) = _
      rw [AH.set_ne _ _ (fun e : 85 = L + 6 => t6 (e ▸ by simp)), AH.set_ne _ _ (fun e : 85 = L + 5 => t5 (e ▸ by simp)), AH.set_ne _ _ (fun e : 85 = L + 4 => t4 (e ▸ by simp)), AH.set_ne _ _ (fun e : 85 = L + 3 => t3 (e ▸ by simp)), AH.set_ne _ _ (fun e : 85 = L + 2 => t2 (e ▸ by simp)), AH.set_ne _ _ (fun e : 85 = L + 1 => t1 (e ▸ by simp))]; exact hTH 85 (by simp)
    · show ((AH.set (AH.set (AH.set (AH.set (AH.set (AH.set _ (L + 1) (.cell none)) (L + 2) (.cell none)) (L + 3) (.cell none)) (L + 4) (.cell none)) (L + 5) (.cell none)) (L + 6) (.cell none)) (L + 1)) = _
      rw [AH.set_ne _ _ (addr_ne L 1 6 rfl), AH.set_ne _ _ (addr_ne L 1 5 rfl), AH.set_ne _ _ (addr_ne L 1 4 rfl), AH.set_ne _ _ (addr_ne L 1 3 rfl), AH.set_ne _ _ (addr_ne L 1 2 rfl), AH.set_same]
    · show ((AH.set (AH.set (AH.set (AH.set (AH.set (AH.set _ (L + 1) (.cell none)) (L + 2) (.cell none)) (L + 3) (.cell none)) (L + 4) (.cell none)) (L + 5) (.cell none)) (L + 6) (.cell none)) (L + 2)) = _
      rw [AH.set_ne _ _ (addr_ne L 2 6 rfl), AH.set_ne _ _ (addr_ne L 2 5 rfl), AH.set_ne _ _ (addr_ne L 2 4 rfl), AH.set_ne _ _ (addr_ne L 2 3 rfl), AH.set_same]
    · show ((AH.set (AH.set (AH.set (AH.set (AH.set (AH.set _ (L + 1) (.cell none)) (L + 2) (.cell none)) (L + 3) (.cell none)) (L + 4) (.cell none)) (L + 5) (.cell none)) (L + 6) (.cell none)) (L + 3)) = _
      rw [AH.set_ne _ _ (addr_ne L 3 6 rfl), AH.set_ne _ _ (addr_ne L 3 5 rfl), AH.set_ne _ _ (addr_ne L 3 4 rfl), AH.set_same]
    · show ((AH.set (AH.set (AH.set (AH.set (AH.set (AH.set _ (L + 1) (.cell none)) (L + 2) (.cell none)) (L + 3) (.cell none)) (L + 4) (.cell none)) (L + 5) (.cell none)) (L + 6) (.cell none)) (L + 4)) = _
      rw [AH.set_ne _ _ (addr_ne L 4 6 rfl), AH.set_ne _ _ (addr_ne L 4 5 rfl), AH.set_same]
    · show ((AH.set (AH.set (AH.set (AH.set (AH.set (AH.set _ (L + 1) (.cell none)) (L + 2) (.cell none)) (L + 3) (.cell none)) (L + 4) (.cell none)) (L + 5) (.cell none)) (L + 6) (.cell none)) (L + 5)) = _
      rw [AH.set_ne _ _ (addr_ne L 5 6 rfl), AH.set_same]
    · show ((AH.set (AH.set (AH.set (AH.set (AH.set (AH.set _ (L + 1) (.cell none)) (L + 2) (.cell none)) (L + 3) (.cell none)) (L + 4) (.cell none)) (L + 5) (.cell none)) (L + 6) (.cell none)) (L + 6)) = _
      rw [AH.set_same]))

