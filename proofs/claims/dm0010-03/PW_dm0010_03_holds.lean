import PyProof.Rows.All
import Wide.All
import OpenK.AllK
import Wide.FinOn
import PySem.Challenge.RW_dm0010_03
set_option Elab.async false
set_option linter.unusedVariables false
set_option maxRecDepth 100000
namespace Mine
open PySem PySem.W PyProof.Rows

/-! ## abstract values, objects, heaps -/
inductive V where
  | none | bool (b : Bool) | int (i : Int) | str (x : Str) | ref (a : Addr) | bi (id : String) | ty (n : String) | oth
  deriving DecidableEq

noncomputable def ab : Value → V
  | .none => .none
  | .bool b => .bool b
  | .int i _ => .int i
  | .str x _ => .str x
  | .ref a => .ref a
  | .builtin i => .bi i
  | .type n => .ty n
  | _ => .oth

theorem ab_none {v : Value} (h : ab v = .none) : v = .none := by cases v <;> simp_all [ab]
theorem ab_bool {v : Value} {b} (h : ab v = .bool b) : v = .bool b := by cases v <;> simp_all [ab]
theorem ab_int {v : Value} {i} (h : ab v = .int i) : ∃ t, v = .int i t := by cases v <;> simp_all [ab]
theorem ab_str {v : Value} {x} (h : ab v = .str x) : ∃ t, v = .str x t := by cases v <;> simp_all [ab]
theorem ab_ref {v : Value} {a} (h : ab v = .ref a) : v = .ref a := by cases v <;> simp_all [ab]
theorem ab_bi {v : Value} {a} (h : ab v = .bi a) : v = .builtin a := by cases v <;> simp_all [ab]
theorem ab_ty {v : Value} {a} (h : ab v = .ty a) : v = .type a := by cases v <;> simp_all [ab]

inductive O where
  | list (vs : List V)
  | scr (vs : List V)
  | tup (vs : List V)
  | cell (v : Option V)
  | fn (fd : FuncData)
  | rng (a n c : Int)
  | tab (es : List (Nat × Nat × Addr))
  | code (q : Str)
  | raw (c : Obj)
  | frm (o : Obj)

noncomputable def O.mut : O → Bool
  | .list _ => true
  | .cell _ => true
  | .tab _ => true
  | .frm _ => true
  | _ => false

noncomputable def tabItems (es : List (Nat × Nat × Addr)) : List Value := es.flatMap fun e => [rawInt e.1, rawInt e.2.1, .ref e.2.2]

noncomputable def Rep : O → Obj → Prop
  | .list vs, c => ∃ xs n, c = { cls := .type "list", data := .seq xs n } ∧ xs.toList.map ab = vs ∧ vs.length ≤ sizeLine
  | .scr vs, c => c.cls = .type "list" ∧ ∃ xs n, c.data = .seq xs n ∧ xs.toList.map ab = vs ∧ vs.length ≤ sizeLine
  | .tup vs, c => ∃ xs n, c = { cls := .type "tuple", data := .seq xs n } ∧ xs.toList.map ab = vs ∧ vs.length ≤ sizeLine
  | .cell v, c => ∃ u, c.data = .cell u ∧ u.map ab = v
  | .fn fd, c => c = { cls := .type "function", data := .func fd }
  | .rng a n d, c => c.cls = .type "range" ∧ c.data = .fields #[.int a 0, .int (a + n * d) 0, .int d 0]
  | .tab es, c => c = { cls := .none, data := .fields (tabItems es).toArray }
  | .code q, c => ∃ vs t, c.data = .fields vs ∧ vs[1]? = some (.str q t)
  | .raw c', c => c = c'
  | .frm o, c => ∃ sl, c = { o with slots := sl }

noncomputable abbrev AH := Addr → Option O
noncomputable abbrev Lo := Str → Option V

noncomputable def AH.set (H : AH) (a : Addr) (o : O) : AH := fun b => if b = a then some o else H b
@[simp] theorem AH.set_same (H : AH) (a : Addr) (o : O) : (H.set a o) a = some o := by simp [AH.set]
theorem AH.set_ne (H : AH) {a b : Addr} (o : O) (h : b ≠ a) : (H.set a o) b = H b := by simp [AH.set, h]
noncomputable def Lo.set (ρ : Lo) (x : Str) (v : V) : Lo := fun y => if y = x then some v else ρ y
@[simp] theorem Lo.set_same (ρ : Lo) (x : Str) (v : V) : (ρ.set x v) x = some v := by simp [Lo.set]

structure Cx where
  prog : Program
  w : World
  base : Heap
  mg : Str → Option Value
  mb : Str → Option Value
  hg : base.Ns mainGlobals mg
  hb : base.Ns builtinsNs mb
  lim : base.NoLimit

noncomputable def Cx.gl (C : Cx) (x : Str) : Option Value := match C.mg x with | some v => some v | none => C.mb x
noncomputable abbrev Cx.M (C : Cx) : Model := model C.prog C.w

structure St (C : Cx) (L : Addr) (ρ : Lo) (H : AH) (h : Heap) : Prop where
  keep : ∀ b o, C.base.get? b = some o → h.get? b = some o
  rep : ∀ a o, H a = some o → ∃ c, h.get? a = some c ∧ Rep o c
  own : ∀ a o, H a = some o → o.mut = true → C.base.get? a = none
  loc : ∃ m, h.Ns L m ∧ ∀ x, (m x).map ab = ρ x
  nl : H L = none
  bl : C.base.get? L = none

structure Step (L : Addr) (H H' : AH) (s s' : Shared) : Prop where
  same : s'.gens = s.gens ∧ s'.os = s.os
  kept : ∀ b o, s.heap.get? b = some o → H b = none → b ≠ L → s'.heap.get? b = some o
  new : ∀ b o, s.heap.get? b = some o → H b = none → H' b = none
  live : ∀ b o, s.heap.get? b = some o → ∃ o', s'.heap.get? b = some o'

theorem Step.refl (L : Addr) (H : AH) (s : Shared) : Step L H H s s := ⟨⟨rfl, rfl⟩, fun _ _ e _ _ => e, fun _ _ _ e => e, fun _ o e => ⟨o, e⟩⟩
theorem Step.trans {L : Addr} {H H' H'' : AH} {s s' s'' : Shared} (x : Step L H H' s s') (y : Step L H' H'' s' s'') (hL : H L = none → H' L = none → H'' L = none) : Step L H H'' s s'' := by
  obtain ⟨m1, k1, n1, l1⟩ := x
  obtain ⟨m2, k2, n2, l2⟩ := y
  refine ⟨⟨m2.1.trans m1.1, m2.2.trans m1.2⟩, fun b o e eH eL => k2 b o (k1 b o e eH eL) (n1 b o e eH) eL, fun b o e eH => ?_, fun b o e => let ⟨o', e'⟩ := l1 b o e; l2 b o' e'⟩
  by_cases hb : b = L
  · subst hb; exact hL eH (n1 _ o e eH)
  · exact n2 b o (k1 b o e eH hb) (n1 b o e eH)

noncomputable abbrev False2 : Value → Shared → Prop := fun _ _ => False

noncomputable def Post {α : Type} (C : Cx) (L : Addr) (H : AH) (s : Shared) (Q : α → Lo → AH → Prop) (a : α) (s' : Shared) : Prop := ∃ ρ' H', St C L ρ' H' s'.heap ∧ Step L H H' s s' ∧ Q a ρ' H'

noncomputable def W {α : Type} (C : Cx) (A : Around) (L : Addr) (t : Sem α) (ρ : Lo) (H : AH) (Q : α → Lo → AH → Prop) : Prop :=
  ∀ s : Shared, St C L ρ H s.heap → wpAny C.M A t (Post C L H s Q) False2 s

section
variable {α β : Type} {C : Cx} {A : Around} {L : Addr} {ρ : Lo} {H : AH}

theorem W.pure {a : α} {Q : α → Lo → AH → Prop} (h : Q a ρ H) : W C A L (Pure.pure a) ρ H Q := fun s hs => wpAny_pure ⟨ρ, H, hs, .refl .., h⟩
theorem W.mono {t : Sem α} {Q Q' : α → Lo → AH → Prop} (h : W C A L t ρ H Q) (hq : ∀ a ρ' H', Q a ρ' H' → Q' a ρ' H') : W C A L t ρ H Q' := fun s hs =>
  wpAny_mono (h s hs) (fun a s' ⟨ρ', H', x, y, z⟩ => ⟨ρ', H', x, y, hq _ _ _ z⟩) fun _ _ e => e
theorem W.bind {t : Sem α} {f : α → Sem β} {Q : β → Lo → AH → Prop} (h : W C A L t ρ H (fun a ρ' H' => W C A L (f a) ρ' H' Q)) : W C A L (t >>= f) ρ H Q := fun s hs =>
  wpAny_bind (wpAny_mono (h s hs) (fun a s' ⟨ρ', H', x, y, z⟩ => wpAny_mono (z s' x) (fun b s'' ⟨ρ'', H'', x', y', z'⟩ =>
    ⟨ρ'', H'', x', y.trans y' (fun _ _ => x'.nl), z'⟩) fun _ _ e => e) fun _ _ e => e)
theorem W.holding {vs : List Value} {t : Sem α} {Q : α → Lo → AH → Prop} (h : W C A L t ρ H Q) : W C A L (PySem.holding vs t) ρ H Q := fun s hs => wpAny_holding (h s hs)
theorem W.standAt {p : Pos} {Q : Unit → Lo → AH → Prop} (h : Q () ρ H) : W C A L (PySem.standAt p) ρ H Q := fun s hs => wpAny_standAt ⟨ρ, H, hs, .refl .., h⟩

/-- continue behind a step of a library rule -/
theorem W.at {t : Sem α} {Q : α → Lo → AH → Prop} {s s' : Shared} {ρ' : Lo} {H' : AH} (h : W C A L t ρ' H' Q) (hs : St C L ρ' H' s'.heap) (hst : Step L H H' s s') :
    wpAny C.M A t (Post C L H s Q) False2 s' :=
  wpAny_mono (h s' hs) (fun a s'' ⟨ρ'', H'', x', y', z'⟩ => ⟨ρ'', H'', x', hst.trans y' (fun _ _ => x'.nl), z'⟩) fun _ _ e => e
theorem W.at2 {t : Sem α} {f : α → Sem β} {Q : β → Lo → AH → Prop} {s s' : Shared} {ρ' : Lo} {H' : AH} (h : W C A L t ρ' H' (fun a ρ2 H2 => W C A L (f a) ρ2 H2 Q)) (hs : St C L ρ' H' s'.heap) (hst : Step L H H' s s') :
    wpAny C.M A t (fun a s2 => wpAny C.M A (f a) (Post C L H s Q) False2 s2) False2 s' :=
  wpAny_mono (h s' hs) (fun a s'' ⟨ρ'', H'', x', y', z'⟩ => z'.at x' (hst.trans y' (fun _ _ => x'.nl))) fun _ _ e => e
theorem W.at3 {γ : Type} {t : Sem α} {f : α → Sem β} {g : α → β → Sem γ} {Q : γ → Lo → AH → Prop} {s s' : Shared} {ρ' : Lo} {H' : AH} (h : W C A L t ρ' H' (fun a ρ2 H2 => W C A L (f a) ρ2 H2 (fun b ρ3 H3 => W C A L (g a b) ρ3 H3 Q))) (hs : St C L ρ' H' s'.heap) (hst : Step L H H' s s') :
    wpAny C.M A t (fun a s2 => wpAny C.M A (f a) (fun b s3 => wpAny C.M A (g a b) (Post C L H s Q) False2 s3) False2 s2) False2 s' :=
  wpAny_mono (h s' hs) (fun a s'' ⟨ρ'', H'', x', y', z'⟩ => z'.at2 x' (hst.trans y' (fun _ _ => x'.nl))) fun _ _ e => e

/-- only tokens, or new untracked objects -/
theorem St.ext {h h' : Heap} (x : St C L ρ H h) (k : ∀ b o, h.get? b = some o → h'.get? b = some o) : St C L ρ H h' where
  keep := fun b o e => k _ _ (x.keep b o e)
  rep := fun a o e => let ⟨c, e1, e2⟩ := x.rep a o e; ⟨c, k _ _ e1, e2⟩
  own := x.own
  loc := let ⟨m, e1, e2⟩ := x.loc; ⟨m, e1.keeps k, e2⟩
  nl := x.nl
  bl := x.bl
theorem Step.ext {s : Shared} {h' : Heap} {tk : Nat} (k : ∀ b o, s.heap.get? b = some o → h'.get? b = some o) : Step L H H s { s with heap := h', toks := tk } :=
  ⟨⟨rfl, rfl⟩, fun b o e _ _ => k b o e, fun _ _ _ e => e, fun b o e => ⟨o, k b o e⟩⟩
theorem Step.toks {s : Shared} {tk : Nat} : Step L H H s { s with toks := tk } := ⟨⟨rfl, rfl⟩, fun _ _ e _ _ => e, fun _ _ _ e => e, fun _ o e => ⟨o, e⟩⟩

/-- an address that is not tracked, not the base's and not the locals' may change -/
theorem St.off {h h' : Heap} {I : Addr} (x : St C L ρ H h) (hI : H I = none) (hB : C.base.get? I = none) (hL : I ≠ L) (k : ∀ b o, b ≠ I → h.get? b = some o → h'.get? b = some o) : St C L ρ H h' where
  keep := fun b o e => k _ _ (fun q => by rw [q, hB] at e; cases e) (x.keep b o e)
  rep := fun a o e => let ⟨c, e1, e2⟩ := x.rep a o e; ⟨c, k _ _ (fun q => by rw [q, hI] at e; cases e) e1, e2⟩
  own := x.own
  loc := let ⟨m, e1, e2⟩ := x.loc; ⟨m, e1.extBut (b := I) (fun b o hb e => k b o hb e) (Ne.symm hL), e2⟩
  nl := x.nl
  bl := x.bl

theorem St.fresh {h : Heap} (x : St C L ρ H h) {a : Addr} (ha : h.get? a = none) : H a = none ∧ C.base.get? a = none ∧ a ≠ L := by
  refine ⟨?_, ?_, ?_⟩
  · cases e : H a with
    | none => rfl
    | some o => obtain ⟨c, e1, _⟩ := x.rep a o e; rw [ha] at e1; cases e1
  · cases e : C.base.get? a with
    | none => rfl
    | some o => have := x.keep a o e; rw [ha] at this; cases this
  · rintro rfl
    obtain ⟨m, ⟨o, _, _, ho, _⟩, _⟩ := x.loc
    rw [ha] at ho; cases ho

theorem get?_size_none (h : Heap) : h.get? h.objs.size = none := by
  cases e : h.get? h.objs.size with
  | none => rfl
  | some o => exact absurd (Heap.lt_size e) (Nat.lt_irrefl _)

/-- a new tracked object -/
theorem St.alloc {h h' : Heap} {a : Addr} {c : Obj} {o : O} (x : St C L ρ H h) (ha : h.get? a = none) (hc : h'.get? a = some c) (hr : Rep o c) (k : ∀ b o, h.get? b = some o → h'.get? b = some o) : St C L ρ (H.set a o) h' where
  keep := fun b o e => k _ _ (x.keep b o e)
  rep := fun b o' e => by
    by_cases q : b = a
    · subst q; rw [AH.set_same] at e; cases e; exact ⟨c, hc, hr⟩
    · rw [AH.set_ne _ _ q] at e; obtain ⟨c, e1, e2⟩ := x.rep b o' e; exact ⟨c, k _ _ e1, e2⟩
  own := fun b o' e hm => by
    by_cases q : b = a
    · subst q; exact (x.fresh ha).2.1
    · rw [AH.set_ne _ _ q] at e; exact x.own b o' e hm
  loc := let ⟨m, e1, e2⟩ := x.loc; ⟨m, e1.keeps k, e2⟩
  nl := by rw [AH.set_ne _ _ (Ne.symm (x.fresh ha).2.2)]; exact x.nl
  bl := x.bl
theorem Step.alloc {s : Shared} {h' : Heap} {tk : Nat} {a : Addr} {o : O} (ha : s.heap.get? a = none) (k : ∀ b o, s.heap.get? b = some o → h'.get? b = some o) : Step L H (H.set a o) s { s with heap := h', toks := tk } :=
  ⟨⟨rfl, rfl⟩, fun b o e _ _ => k b o e, fun b o e hb => by rw [AH.set_ne _ _ (fun q => by rw [q, ha] at e; cases e)]; exact hb, fun b o e => ⟨o, k b o e⟩⟩

/-- a tracked object changed -/
theorem St.upd {h h' : Heap} {a : Addr} {c : Obj} {o₀ o : O} (x : St C L ρ H h) (hH : H a = some o₀) (hm : o₀.mut = true) (hc : h'.get? a = some c) (hr : Rep o c) (k : ∀ b o, b ≠ a → h.get? b = some o → h'.get? b = some o) : St C L ρ (H.set a o) h' where
  keep := fun b o e => k _ _ (fun q => by rw [q, x.own a o₀ hH hm] at e; cases e) (x.keep b o e)
  rep := fun b o' e => by
    by_cases q : b = a
    · subst q; rw [AH.set_same] at e; cases e; exact ⟨c, hc, hr⟩
    · rw [AH.set_ne _ _ q] at e; obtain ⟨c, e1, e2⟩ := x.rep b o' e; exact ⟨c, k _ _ q e1, e2⟩
  own := fun b o' e hm' => by
    by_cases q : b = a
    · subst q; exact x.own _ _ hH hm
    · rw [AH.set_ne _ _ q] at e; exact x.own b o' e hm'
  loc := let ⟨m, e1, e2⟩ := x.loc; ⟨m, e1.extBut (b := a) (fun b o hb e => k b o hb e) (fun q => by rw [← q, x.nl] at hH; cases hH), e2⟩
  nl := by rw [AH.set_ne _ _ (fun q => by rw [← q, x.nl] at hH; cases hH)]; exact x.nl
  bl := x.bl
theorem Step.upd {s : Shared} {h' : Heap} {tk : Nat} {a : Addr} {c : Obj} {o₀ o : O} (hH : H a = some o₀) (hc : h'.get? a = some c) (k : ∀ b o, b ≠ a → s.heap.get? b = some o → h'.get? b = some o) : Step L H (H.set a o) s { s with heap := h', toks := tk } :=
  ⟨⟨rfl, rfl⟩, fun b o e hb _ => k b o (fun q => by rw [q, hH] at hb; cases hb) e, fun b o e hb => by rw [AH.set_ne _ _ (fun q => by rw [q, hH] at hb; cases hb)]; exact hb, fun b o e => by
    by_cases q : b = a
    · subst q; exact ⟨c, hc⟩
    · exact ⟨o, k b o q e⟩⟩

/-- a local stored -/
theorem St.store {h h' : Heap} {x : Str} {v : Value} {m : Str → Option Value} (X : St C L ρ H h) (hm : ∀ x, (m x).map ab = ρ x) (hn : h'.Ns L (fun y => if y = x then some v else m y)) (hs : Heap.SameBut L h h') : St C L (ρ.set x (ab v)) H h' where
  keep := fun b o e => hs.extBut b o (fun q => by rw [q, X.bl] at e; cases e) (X.keep b o e)
  rep := fun a o e => let ⟨c, e1, e2⟩ := X.rep a o e; ⟨c, hs.extBut _ _ (fun q => by rw [q, X.nl] at e; cases e) e1, e2⟩
  own := X.own
  loc := ⟨_, hn, fun y => by
    unfold Lo.set
    by_cases q : y = x
    · simp [q]
    · simp [q, hm]⟩
  nl := X.nl
  bl := X.bl
theorem Step.store {s : Shared} {h' : Heap} {tk : Nat} {m : Str → Option Value} (hn : h'.Ns L m) (hs : Heap.SameBut L s.heap h') : Step L H H s { s with heap := h', toks := tk } :=
  ⟨⟨rfl, rfl⟩, fun b o e _ hb => hs.extBut b o hb e, fun _ _ _ e => e, fun b o e => by
    by_cases q : b = L
    · subst q; obtain ⟨o', _, _, ho, _⟩ := hn; exact ⟨o', ho⟩
    · exact ⟨o, hs.extBut b o q e⟩⟩

end
end Mine

namespace Mine
open PySem PySem.W PyProof.Rows

/-! ## facts of tracked objects -/
noncomputable def lst : O → Option (List V)
  | .list vs => some vs
  | .scr vs => some vs
  | _ => none

section
variable {C : Cx} {A : Around} {L : Addr} {ρ : Lo} {H : AH} {h : Heap} {a : Addr} {vs : List V}

theorem St.list (x : St C L ρ H h) {o : O} (e : H a = some o) (hl : lst o = some vs) : ∃ xs : Array Value, h.IsList a xs ∧ xs.toList.map ab = vs ∧ vs.length ≤ sizeLine := by
  obtain ⟨c, hc, r⟩ := x.rep a o e
  cases o <;> simp only [lst] at hl <;> try cases hl
  · obtain ⟨xs, n, rfl, e2, e3⟩ := r; exact ⟨xs, ⟨_, hc, rfl, n, rfl⟩, e2, e3⟩
  · obtain ⟨e1, xs, n, ed, e2, e3⟩ := r; exact ⟨xs, ⟨_, hc, e1, n, ed⟩, e2, e3⟩
theorem St.plist (x : St C L ρ H h) (e : H a = some (.list vs)) : ∃ xs : Array Value, h.PlainList a xs ∧ xs.toList.map ab = vs ∧ vs.length ≤ sizeLine := by
  obtain ⟨c, hc, xs, n, rfl, e2, e3⟩ := x.rep a _ e
  exact ⟨xs, ⟨n, hc⟩, e2, e3⟩
theorem St.tup (x : St C L ρ H h) (e : H a = some (.tup vs)) : ∃ xs : Array Value, IsTup h a xs ∧ xs.toList.map ab = vs ∧ vs.length ≤ sizeLine := by
  obtain ⟨c, hc, xs, n, rfl, e2, e3⟩ := x.rep a _ e
  exact ⟨xs, ⟨_, hc, rfl, n, rfl⟩, e2, e3⟩
theorem St.func (x : St C L ρ H h) {fd : FuncData} (e : H a = some (.fn fd)) : h.get? a = some { cls := .type "function", data := .func fd } := by
  obtain ⟨c, hc, e1⟩ := x.rep a _ e
  rw [hc, e1]

theorem arr_get {xs : Array Value} {i : Nat} {v : V} (e : xs.toList.map ab = vs) (hi : vs[i]? = some v) : ∃ x, xs[i]? = some x ∧ ab x = v := by
  subst e
  rw [List.getElem?_map] at hi
  cases hx : xs.toList[i]? with
  | none => rw [hx] at hi; cases hi
  | some x => rw [hx] at hi; exact ⟨x, by rw [← Array.getElem?_toList]; exact hx, by simpa using hi⟩
theorem arr_size {xs : Array Value} (e : xs.toList.map ab = vs) : xs.size = vs.length := by subst e; simp
end

structure Fx (C : Cx) (A : Around) (env : Env) : Prop where
  kind : env.scope.kind = .function
  gl : env.globals = mainGlobals
  bu : env.builtins = builtinsNs
  hh : A.handled = none

section
variable {C : Cx} {A : Around} {env : Env} {ρ : Lo} {H : AH}


theorem W.BinOp {l r : Expr} {op : Operator} {pos : Pos} {Q : Value → Lo → AH → Prop} {L : Addr}
    (h : W C A L (eval l env) ρ H (fun a ρ1 H1 => W C A L (eval r env) ρ1 H1 (fun b ρ2 H2 => W C A L (binaryOp op a b) ρ2 H2 Q))) :
    W C A L (eval (.BinOp l op r pos) env) ρ H Q := fun s hs => wpAny_BinOp (h.at3 hs (.refl ..))
theorem W.Compare1 {l r : Expr} {op : CmpOp} {pos : Pos} {Q : Value → Lo → AH → Prop} {L : Addr} (hm : behindInMarks op r = false)
    (h : W C A L (eval l env) ρ H (fun a ρ1 H1 => W C A L (eval r env) ρ1 H1 (fun b ρ2 H2 => W C A L (compareOp op a b) ρ2 H2 Q))) :
    W C A L (eval (.Compare l [op] [r] pos) env) ρ H Q := fun s hs => wpAny_Compare1 (h.at3 hs (.refl ..)) hm
theorem W.UnaryOp {x : Expr} {op : UnaryOp} {pos : Pos} {Q : Value → Lo → AH → Prop} {L : Addr}
    (h : W C A L (eval x env) ρ H (fun a ρ1 H1 => W C A L (unaryOp op a) ρ1 H1 Q)) :
    W C A L (eval (.UnaryOp op x pos) env) ρ H Q := fun s hs => wpAny_UnaryOp (h.at2 hs (.refl ..))
theorem W.Subscript {o i : Expr} {pos : Pos} {Q : Value → Lo → AH → Prop} {L : Addr}
    (h : W C A L (eval o env) ρ H (fun a ρ1 H1 => W C A L (eval i env) ρ1 H1 (fun b ρ2 H2 => W C A L (subscriptTail o i a b) ρ2 H2 Q))) :
    W C A L (eval (.Subscript o i pos) env) ρ H Q := fun s hs => Subscript_ (h.at3 hs (.refl ..))

/-! ## pure evaluation -/
noncomputable def Ev (C : Cx) (A : Around) (env : Env) (ρ : Lo) (H : AH) (e : Expr) (v : V) : Prop :=
  W C A env.locals (eval e env) ρ H (fun x ρ' H' => ρ' = ρ ∧ H' = H ∧ ab x = v)
noncomputable def EvT (C : Cx) (A : Around) (env : Env) (ρ : Lo) (H : AH) (e : Expr) (b : Bool) : Prop :=
  W C A env.locals (isTrue e env (eval e env)) ρ H (fun x ρ' H' => ρ' = ρ ∧ H' = H ∧ x = b)

theorem Ev.then {e : Expr} {v : V} {f : Value → Sem β} {Q : β → Lo → AH → Prop} (h : Ev C A env ρ H e v) (k : ∀ x, ab x = v → W C A env.locals (f x) ρ H Q) :
    W C A env.locals (eval e env) ρ H (fun x ρ1 H1 => W C A env.locals (f x) ρ1 H1 Q) :=
  W.mono h (by rintro x _ _ ⟨rfl, rfl, e⟩; exact k x e)

theorem Ev.local {x : Str} {pos : Pos} {v : V} (F : Fx C A env) (hl : env.kindOf x = some .local) (hv : ρ x = some v) (hd : (x == ("__debug__" : Str)) = false := by decide) : Ev C A env ρ H (.Name x pos) v := fun s hs => by
  obtain ⟨m, hn, hm⟩ := hs.loc
  have := hm x
  rw [hv] at this
  cases hx : m x with
  | none => rw [hx] at this; cases this
  | some y =>
    rw [hx] at this
    exact wpAny_Name (wpAny_loadName_local F.kind hl hn hx ⟨ρ, H, hs, .refl .., rfl, rfl, by simpa using this⟩) hd
theorem Ev.glob {x : Str} {pos : Pos} {v : Value} (F : Fx C A env) (hl : env.kindOf x = some .globalImplicit) (hv : C.gl x = some v) (hd : (x == ("__debug__" : Str)) = false := by decide) : Ev C A env ρ H (.Name x pos) (ab v) := fun s hs => by
  refine wpAny_Name ?_ hd
  rw [loadName_read F.kind hl]
  unfold loadGlobal
  unfold Cx.gl at hv
  refine wpAny_bind (wpAny_nsGet (by rw [F.gl]; exact C.hg.keeps hs.keep) ?_)
  cases hm : C.mg x with
  | some y =>
    rw [hm] at hv; cases hv
    exact wpAny_pure ⟨ρ, H, hs, .refl .., rfl, rfl, rfl⟩
  | none =>
    rw [hm] at hv
    dsimp only
    refine wpAny_bind (wpAny_nsGet (by rw [F.bu]; exact C.hb.keeps hs.keep) ?_)
    dsimp only at hv
    rw [hv]
    exact wpAny_pure ⟨ρ, H, hs, .refl .., rfl, rfl, rfl⟩

theorem Ev.int {i : Int} {k : Nat} {pos : Pos} : Ev C A env ρ H (.Constant (.int i) k pos) (.int i) := fun s hs => wpAny_Constant_int ⟨ρ, H, hs, .toks, rfl, rfl, rfl⟩
theorem Ev.none {k : Nat} {pos : Pos} : Ev C A env ρ H (.Constant .none k pos) .none := fun s hs => wpAny_Constant_none ⟨ρ, H, hs, .refl .., rfl, rfl, rfl⟩
theorem Ev.bool {b : Bool} {k : Nat} {pos : Pos} : Ev C A env ρ H (.Constant (.bool b) k pos) (.bool b) := fun s hs => wpAny_Constant_bool ⟨ρ, H, hs, .refl .., rfl, rfl, rfl⟩

theorem Ev.bin {l r : Expr} {op : Operator} {pos : Pos} {a b v : V} (h1 : Ev C A env ρ H l a) (h2 : Ev C A env ρ H r b)
    (h : ∀ x y, ab x = a → ab y = b → W C A env.locals (binaryOp op x y) ρ H (fun z ρ' H' => ρ' = ρ ∧ H' = H ∧ ab z = v)) : Ev C A env ρ H (.BinOp l op r pos) v :=
  W.BinOp (W.mono h1 (by rintro x _ _ ⟨rfl, rfl, e⟩; exact h2.then fun y e' => h x y e e'))
theorem Ev.add {l r : Expr} {pos : Pos} {a b : Int} (h1 : Ev C A env ρ H l (.int a)) (h2 : Ev C A env ρ H r (.int b)) : Ev C A env ρ H (.BinOp l .Add r pos) (.int (a + b)) :=
  Ev.bin h1 h2 fun x y e e' => by
    obtain ⟨t, rfl⟩ := ab_int e; obtain ⟨u, rfl⟩ := ab_int e'
    exact fun s hs => add_int ⟨ρ, H, hs, .toks, rfl, rfl, rfl⟩
theorem Ev.sub {l r : Expr} {pos : Pos} {a b : Int} (h1 : Ev C A env ρ H l (.int a)) (h2 : Ev C A env ρ H r (.int b)) : Ev C A env ρ H (.BinOp l .Sub r pos) (.int (a - b)) :=
  Ev.bin h1 h2 fun x y e e' => by
    obtain ⟨t, rfl⟩ := ab_int e; obtain ⟨u, rfl⟩ := ab_int e'
    exact fun s hs => sub_int' ⟨ρ, H, hs, .toks, rfl, rfl, rfl⟩
theorem Ev.fdiv {l r : Expr} {pos : Pos} {a b : Int} (h1 : Ev C A env ρ H l (.int a)) (h2 : Ev C A env ρ H r (.int b)) (hb : 0 < b) (hb' : b < 1000000) : Ev C A env ρ H (.BinOp l .FloorDiv r pos) (.int (a.fdiv b)) :=
  Ev.bin h1 h2 fun x y e e' => by
    obtain ⟨t, rfl⟩ := ab_int e; obtain ⟨u, rfl⟩ := ab_int e'
    exact fun s hs => floordiv_int (by lia) ⟨ρ, H, hs, .toks, rfl, rfl, rfl⟩ (Or.inl (PyProof.noPylong_small (by omega)))
theorem Ev.neg {x : Expr} {pos : Pos} {a : Int} (h1 : Ev C A env ρ H x (.int a)) : Ev C A env ρ H (.UnaryOp .USub x pos) (.int (-a)) :=
  W.UnaryOp (h1.then fun y e => by
    obtain ⟨t, rfl⟩ := ab_int e
    exact fun s hs => neg_int ⟨ρ, H, hs, .toks, rfl, rfl, rfl⟩)

/-! comparisons of ints -/
noncomputable def icmp : CmpOp → Int → Int → Option Bool
  | .Lt, a, b => some (decide (a < b))
  | .LtE, a, b => some (decide (a ≤ b))
  | .Gt, a, b => some (decide (b < a))
  | .GtE, a, b => some (decide (b ≤ a))
  | .Eq, a, b => some (a == b)
  | .NotEq, a, b => some (a != b)
  | _, _, _ => none

theorem W.icmp {L : Addr} {op : CmpOp} {a b : Int} {c : Bool} {x y : Value} {Q : Value → Lo → AH → Prop} (hx : ab x = .int a) (hy : ab y = .int b) (hc : icmp op a b = some c) (h : Q (.bool c) ρ H) : W C A L (compareOp op x y) ρ H Q := by
  obtain ⟨t, rfl⟩ := ab_int hx; obtain ⟨u, rfl⟩ := ab_int hy
  intro s hs
  have k : Post C L H s Q (Value.bool c) s := ⟨ρ, H, hs, .refl .., h⟩
  cases op <;> simp only [Mine.icmp] at hc <;> cases hc
  · exact eq_int k
  · exact ne_int k
  · exact lt_int k
  · exact le_int k
  · exact gt_int k
  · exact ge_int k
theorem Ev.icmp {l r : Expr} {op : CmpOp} {pos : Pos} {a b : Int} {c : Bool} (h1 : Ev C A env ρ H l (.int a)) (h2 : Ev C A env ρ H r (.int b)) (hc : Mine.icmp op a b = some c) (hm : behindInMarks op r = false := by with_unfolding_all rfl) :
    Ev C A env ρ H (.Compare l [op] [r] pos) (.bool c) :=
  W.Compare1 hm (W.mono h1 (by rintro x _ _ ⟨rfl, rfl, e⟩; exact h2.then fun y e' => W.icmp e e' hc ⟨rfl, rfl, rfl⟩))

theorem W.isTrue_Compare1 {l r : Expr} {op : CmpOp} {pos : Pos} {whole : Sem Value} {Q : Bool → Lo → AH → Prop} {L : Addr} (hm : behindInMarks op r = false)
    (h : W C A L (eval l env) ρ H (fun a ρ1 H1 => W C A L (eval r env) ρ1 H1 (fun b ρ2 H2 => W C A L (compareOp op a b) ρ2 H2 (fun c ρ3 H3 => W C A L (truthy c) ρ3 H3 Q)))) :
    W C A L (isTrue (.Compare l [op] [r] pos) env whole) ρ H Q := fun s hs => by
  refine wpAny_isTrue_Compare1 ?_ hm
  exact wpAny_mono (h s hs) (fun a s1 ⟨ρ1, H1, x1, y1, z1⟩ => z1.at3 x1 y1) fun _ _ e => e
theorem W.truthy_bool {L : Addr} {b : Bool} {Q : Bool → Lo → AH → Prop} (h : Q b ρ H) : W C A L (truthy (.bool b)) ρ H Q := fun s hs => wpAny_truthy_bool ⟨ρ, H, hs, .refl .., h⟩
theorem EvT.icmp {l r : Expr} {op : CmpOp} {pos : Pos} {a b : Int} {c : Bool} (h1 : Ev C A env ρ H l (.int a)) (h2 : Ev C A env ρ H r (.int b)) (hc : Mine.icmp op a b = some c) (hm : behindInMarks op r = false := by with_unfolding_all rfl) :
    EvT C A env ρ H (.Compare l [op] [r] pos) c :=
  W.isTrue_Compare1 hm (W.mono h1 (by rintro x _ _ ⟨rfl, rfl, e⟩; exact h2.then fun y e' => W.icmp e e' hc (W.truthy_bool ⟨rfl, rfl, rfl⟩)))

/-! is None -/
theorem beq_none {x : Value} {a : V} (h : ab x = a) : (x == Value.none) = decide (a = .none) := by
  subst h
  cases x <;> simp [ab]
theorem EvT.isNone {l : Expr} {k : Nat} {p pos : Pos} {a : V} (h1 : Ev C A env ρ H l a) : EvT C A env ρ H (.Compare l [.Is] [.Constant .none k p] pos) (decide (a = .none)) :=
  W.isTrue_Compare1 rfl (W.mono h1 (by
    rintro x _ _ ⟨rfl, rfl, e⟩
    refine Ev.none.then fun y e' => ?_
    rw [ab_none e']
    intro s hs
    refine is_none_gen ⟨_, _, hs, .refl .., ?_⟩
    rw [beq_none e]
    exact W.truthy_bool ⟨rfl, rfl, rfl⟩))

/-! truth -/
noncomputable def truth (H : AH) : V → Option Bool
  | .none => some false
  | .bool b => some b
  | .int i => some (i != 0)
  | .str x => some (decide (x.length ≠ 0))
  | .ref a => match H a with
    | some (.list vs) => some (!vs.isEmpty)
    | some (.scr vs) => some (!vs.isEmpty)
    | some (.tup vs) => some (!vs.isEmpty)
    | _ => none
  | _ => none

theorem W.truthy {L : Addr} {x : Value} {b : Bool} {Q : Bool → Lo → AH → Prop} (hb : truth H (ab x) = some b) (hx : ∀ y t, x = .str y t → y.length ≤ sizeLine) (h : Q b ρ H) : W C A L (PySem.truthy x) ρ H Q := fun s hs => by
  have hsl : (sizeLine : Int) < 2 ^ 63 := by decide
  cases x with
  | none => cases hb; exact truthy_none ⟨ρ, H, hs, .refl .., h⟩
  | bool c => cases hb; exact wpAny_truthy_bool ⟨ρ, H, hs, .refl .., h⟩
  | int i t => cases hb; exact truthy_int ⟨ρ, H, hs, .refl .., h⟩
  | str y t =>
    cases hb
    have := hx y t rfl
    refine P.truthy_str (by lia) ⟨ρ, H, hs, .toks, ?_⟩
    have e : ((y.length : Int) != 0) = decide (y.length ≠ 0) := by
      by_cases q : y.length = 0 <;> simp [q]
    rw [e]; exact h
  | ref a =>
    simp only [ab, truth] at hb
    split at hb
    · rename_i vs e; cases hb
      obtain ⟨xs, h1, h2, h3⟩ := hs.list e (vs := vs) rfl
      refine wpAny_truthy_list h1 (by rw [arr_size h2]; lia) ⟨ρ, H, hs, .toks, ?_⟩
      have e : xs.isEmpty = vs.isEmpty := by subst h2; obtain ⟨l⟩ := xs; cases l <;> simp
      rw [e]; exact h
    · rename_i vs e; cases hb
      obtain ⟨xs, h1, h2, h3⟩ := hs.list e (vs := vs) rfl
      refine wpAny_truthy_list h1 (by rw [arr_size h2]; lia) ⟨ρ, H, hs, .toks, ?_⟩
      have e : xs.isEmpty = vs.isEmpty := by subst h2; obtain ⟨l⟩ := xs; cases l <;> simp
      rw [e]; exact h
    · rename_i vs e; cases hb
      obtain ⟨xs, h1, h2, h3⟩ := hs.tup e
      refine truthy_tuple h1 (by rw [arr_size h2]; lia) ⟨ρ, H, hs, .toks, ?_⟩
      have e : xs.isEmpty = vs.isEmpty := by subst h2; obtain ⟨l⟩ := xs; cases l <;> simp
      rw [e]; exact h
    · cases hb
  | _ => cases hb

theorem EvT.of {e : Expr} {v : V} {b : Bool} (h : Ev C A env ρ H e v) (hb : truth H v = some b) (hs : ∀ x, v = .str x → x.length ≤ sizeLine)
    (he : isTrue e env (eval e env) = (do let v ← eval e env; standAt e.pos; holding [v] (PySem.truthy v)) := by rfl) : EvT C A env ρ H e b := by
  unfold EvT
  rw [he]
  exact W.bind (h.then fun x ex => W.bind (W.standAt (W.holding (W.truthy (by rw [ex]; exact hb) (fun y t ey => hs y (by rw [← ex, ey]; rfl)) ⟨rfl, rfl, rfl⟩))))
theorem EvT.not {x : Expr} {pos : Pos} {b : Bool} (h : EvT C A env ρ H x b) : EvT C A env ρ H (.UnaryOp .Not x pos) (!b) := fun s hs =>
  wpAny_isTrue_Not (wpAny_mono (h s hs) (fun c s' ⟨ρ', H', x', y', e1, e2, e3⟩ => ⟨ρ', H', x', y', e1, e2, by rw [e3]⟩) fun _ _ e => e)

noncomputable def AllT (C : Cx) (A : Around) (env : Env) (ρ : Lo) (H : AH) (op : BoolOp) (es : List Expr) (b : Bool) : Prop :=
  W C A env.locals (allTrue op es env) ρ H (fun x ρ' H' => ρ' = ρ ∧ H' = H ∧ x = b)
theorem EvT.boolop {op : BoolOp} {es : List Expr} {pos : Pos} {b : Bool} (h : AllT C A env ρ H op es b) : EvT C A env ρ H (.BoolOp op es pos) b := fun s hs => wpAny_isTrue_BoolOp (h s hs)
theorem AllT.and_nil : AllT C A env ρ H .And [] true := fun s hs => wpAny_allTrue_And_nil ⟨ρ, H, hs, .refl .., rfl, rfl, rfl⟩
theorem AllT.or_nil : AllT C A env ρ H .Or [] false := fun s hs => wpAny_allTrue_Or_nil ⟨ρ, H, hs, .refl .., rfl, rfl, rfl⟩
theorem AllT.and_cons {e : Expr} {es : List Expr} {b c : Bool} (h : EvT C A env ρ H e b) (h2 : b = true → AllT C A env ρ H .And es c) : AllT C A env ρ H .And (e :: es) (b && c) := fun s hs =>
  wpAny_allTrue_And_cons (wpAny_mono (h s hs) (fun x s1 ⟨ρ1, H1, x1, y1, e1, e2, e3⟩ => by
    subst e1 e2 e3
    cases x with
    | true => exact (h2 rfl).at x1 y1
    | false => exact ⟨_, _, x1, y1, rfl, rfl, rfl⟩) fun _ _ e => e)
theorem AllT.or_cons {e : Expr} {es : List Expr} {b c : Bool} (h : EvT C A env ρ H e b) (h2 : b = false → AllT C A env ρ H .Or es c) : AllT C A env ρ H .Or (e :: es) (b || c) := fun s hs =>
  wpAny_allTrue_Or_cons (wpAny_mono (h s hs) (fun x s1 ⟨ρ1, H1, x1, y1, e1, e2, e3⟩ => by
    subst e1 e2 e3
    cases x with
    | false => exact (h2 rfl).at x1 y1
    | true => exact ⟨_, _, x1, y1, rfl, rfl, rfl⟩) fun _ _ e => e)


/-! items -/
theorem Ev.item {o i : Expr} {pos : Pos} {a : Addr} {ob : O} {vs : List V} {k : Int} {v : V} (h1 : Ev C A env ρ H o (.ref a)) (h2 : Ev C A env ρ H i (.int k)) (hH : H a = some ob) (hl : lst ob = some vs) (h0 : 0 ≤ k) (hx : vs[k.toNat]? = some v)
    (hs : ∀ t, subscripted i false (.ref a) (.int k t) = operate [.ref a, .int k t] (getItem (.ref a) (.int k t)) := by intro _; with_unfolding_all rfl) : Ev C A env ρ H (.Subscript o i pos) v :=
  W.Subscript (W.mono h1 (by
    rintro x _ _ ⟨rfl, rfl, e⟩
    refine h2.then fun y e' => ?_
    cases ab_ref e
    obtain ⟨t, rfl⟩ := ab_int e'
    intro s hst
    obtain ⟨xs, q1, q2, q3⟩ := hst.list hH hl
    obtain ⟨y, y1, y2⟩ := arr_get q2 hx
    have hlt : k.toNat < vs.length := (List.getElem?_eq_some_iff.mp hx).1
    have hsl : (sizeLine : Int) < 2 ^ 63 := by decide
    exact tail_any q1.typeIs slot_list_getitem.lookup (wpAny_getItem_list q1 h0 (by lia) y1 ⟨_, _, hst, .refl .., rfl, rfl, y2⟩) (hs t)))
end
end Mine

namespace Mine
open PySem PySem.W PyProof.Rows

inductive Fl where
  | next | brk | cont | ret (v : V)
noncomputable def abF : Flow → Fl
  | .next => .next
  | .brk => .brk
  | .cont => .cont
  | .ret v => .ret (ab v)

noncomputable def WE (C : Cx) (A : Around) (env : Env) (e : Expr) (ρ : Lo) (H : AH) (Q : V → AH → Prop) : Prop :=
  W C A env.locals (eval e env) ρ H (fun v ρ' H' => ρ' = ρ ∧ Q (ab v) H')
noncomputable def WT (C : Cx) (A : Around) (env : Env) (e : Expr) (ρ : Lo) (H : AH) (Q : Bool → AH → Prop) : Prop :=
  W C A env.locals (isTrue e env (eval e env)) ρ H (fun b ρ' H' => ρ' = ρ ∧ Q b H')
noncomputable def WS (C : Cx) (A : Around) (env : Env) (ss : List Stmt) (ρ : Lo) (H : AH) (Q : Fl → Lo → AH → Prop) : Prop :=
  W C A env.locals (execs ss env) ρ H (fun f ρ' H' => Q (abF f) ρ' H')
noncomputable def W1 (C : Cx) (A : Around) (env : Env) (st : Stmt) (ρ : Lo) (H : AH) (Q : Fl → Lo → AH → Prop) : Prop :=
  W C A env.locals (exec st env) ρ H (fun f ρ' H' => Q (abF f) ρ' H')
noncomputable def WCall (C : Cx) (A : Around) (f : V) (args : List V) (kw : List (Str × V)) (H : AH) (Q : V → AH → Prop) : Prop :=
  ∀ L ρ (fv : Value) (vals : List Value) (kvs : List (Str × Value)), ab fv = f → vals.map ab = args → kvs.map (fun p => (p.1, ab p.2)) = kw →
    W C A L (call fv vals kvs) ρ H (fun v ρ' H' => ρ' = ρ ∧ Q (ab v) H')
theorem WCall.mono {C : Cx} {A : Around} {f : V} {args : List V} {kw : List (Str × V)} {H : AH} {Q Q' : V → AH → Prop} (h : WCall C A f args kw H Q) (hq : ∀ v H', Q v H' → Q' v H') : WCall C A f args kw H Q' :=
  fun L ρ fv vals kvs a b c => W.mono (h L ρ fv vals kvs a b c) fun _ _ _ q => ⟨q.1, hq _ _ q.2⟩

section
variable {C : Cx} {A : Around} {env : Env} {ρ : Lo} {H : AH}

theorem WE.of {e : Expr} {v : V} {Q : V → AH → Prop} (h : Ev C A env ρ H e v) (q : Q v H) : WE C A env e ρ H Q := W.mono h (by rintro x _ _ ⟨rfl, rfl, rfl⟩; exact ⟨rfl, q⟩)
theorem WE.mono {e : Expr} {Q Q' : V → AH → Prop} (h : WE C A env e ρ H Q) (hq : ∀ v H', Q v H' → Q' v H') : WE C A env e ρ H Q' := W.mono h fun _ _ _ q => ⟨q.1, hq _ _ q.2⟩
theorem WE.ev {e : Expr} {v : V} (h : WE C A env e ρ H (fun v' H' => v' = v ∧ H' = H)) : Ev C A env ρ H e v := W.mono h (by rintro x _ _ ⟨rfl, rfl, rfl⟩; exact ⟨rfl, rfl, rfl⟩)
theorem WT.of {e : Expr} {b : Bool} {Q : Bool → AH → Prop} (h : EvT C A env ρ H e b) (q : Q b H) : WT C A env e ρ H Q := W.mono h (by rintro x _ _ ⟨rfl, rfl, rfl⟩; exact ⟨rfl, q⟩)
theorem WE.then {β : Type} {e : Expr} {f : Value → Sem β} {Q : β → Lo → AH → Prop} (h : WE C A env e ρ H (fun v H1 => ∀ x, ab x = v → W C A env.locals (f x) ρ H1 Q)) :
    W C A env.locals (eval e env) ρ H (fun x ρ1 H1 => W C A env.locals (f x) ρ1 H1 Q) := W.mono h (by rintro x _ _ ⟨rfl, q⟩; exact q x rfl)
theorem W1.mono {ss : Stmt} {Q Q' : Fl → Lo → AH → Prop} (h : W1 C A env ss ρ H Q) (hq : ∀ f ρ' H', Q f ρ' H' → Q' f ρ' H') : W1 C A env ss ρ H Q' := W.mono h fun _ _ _ q => hq _ _ _ q

theorem WS.nil {Q : Fl → Lo → AH → Prop} (h : Q .next ρ H) : WS C A env [] ρ H Q := fun s hs => wpAny_execs_nil ⟨ρ, H, hs, .refl .., h⟩
theorem WS.cons {st : Stmt} {rest : List Stmt} {Q : Fl → Lo → AH → Prop} (h : W1 C A env st ρ H (fun f ρ1 H1 => match f with | .next => WS C A env rest ρ1 H1 Q | f => Q f ρ1 H1)) : WS C A env (st :: rest) ρ H Q := fun s hs =>
  wpAny_execs_cons (wpAny_mono (h s hs) (fun f s' ⟨ρ', H', x, y, z⟩ => by
    cases f with
    | next => exact W.at z x y
    | brk => exact ⟨ρ', H', x, y, z⟩
    | cont => exact ⟨ρ', H', x, y, z⟩
    | ret v => exact ⟨ρ', H', x, y, z⟩) fun _ _ e => e)
/-- a statement that goes on -/
theorem WS.seq {st : Stmt} {rest : List Stmt} {Q : Fl → Lo → AH → Prop} (h : W1 C A env st ρ H (fun f ρ1 H1 => f = .next ∧ WS C A env rest ρ1 H1 Q)) : WS C A env (st :: rest) ρ H Q :=
  WS.cons (W1.mono h fun f ρ' H' q => by obtain ⟨rfl, q⟩ := q; exact q)

theorem W1.ret {e : Expr} {pos : Pos} {Q : Fl → Lo → AH → Prop} (h : WE C A env e ρ H (fun v H1 => Q (.ret v) ρ H1)) : W1 C A env (.Return (some e) pos) ρ H Q := fun s hs =>
  wpAny_Return_some (wpAny_mono (h s hs) (fun v s' ⟨ρ', H', x, y, z⟩ => ⟨ρ', H', x, y, by rw [z.1]; exact z.2⟩) fun _ _ e => e)
theorem W1.if {t : Expr} {b o : List Stmt} {pos : Pos} {Q : Fl → Lo → AH → Prop} (h : WT C A env t ρ H (fun c H1 => (c = true → WS C A env b ρ H1 Q) ∧ (c = false → WS C A env o ρ H1 Q))) : W1 C A env (.If t b o pos) ρ H Q := fun s hs =>
  wpAny_If (wpAny_mono (h s hs) (fun c s' ⟨ρ', H', x, y, z1, z2⟩ => by
    subst z1
    cases c with
    | true => exact W.at (z2.1 rfl) x y
    | false => exact W.at (z2.2 rfl) x y) fun _ _ e => e)

/-! ## stores -/
theorem W.storeLocal {x : Str} {v : Value} {Q : Unit → Lo → AH → Prop} (F : Fx C A env) (hl : env.kindOf x = some .local) (h : Q () (ρ.set x (ab v)) H) : W C A env.locals (storeName env x v) ρ H Q := fun s hs => by
  obtain ⟨m, hn, hm⟩ := hs.loc
  exact wpAny_storeName_local hl hn (fun h' hn' hsb => ⟨_, H, hs.store hm hn' hsb, .store hn' hsb, h⟩) (by simp [F.kind])

/-- what is drawn: a value, or a tuple of values -/
inductive Dv where
  | one (v : V) | tup (vs : List V)
noncomputable def Dv.Is (h : Heap) : Dv → Value → Prop
  | .one v, x => ab x = v
  | .tup vs, x => ∃ T xs, x = .ref T ∧ IsTup h T xs ∧ xs.toList.map ab = vs

noncomputable def Asg (C : Cx) (A : Around) (env : Env) (tgt : Expr) (d : Dv) (ρ : Lo) (H : AH) (Q : Lo → AH → Prop) : Prop :=
  ∀ s x, St C env.locals ρ H s.heap → d.Is s.heap x → wpAny C.M A (assign tgt env x) (Post C env.locals H s (fun _ => Q)) False2 s
noncomputable def AsgL (C : Cx) (A : Around) (env : Env) (ts : List Expr) (vs : List V) (ρ : Lo) (H : AH) (Q : Lo → AH → Prop) : Prop :=
  match ts, vs with
  | [], [] => Q ρ H
  | t :: ts, v :: vs => Asg C A env t (.one v) ρ H (fun ρ1 H1 => AsgL C A env ts vs ρ1 H1 Q)
  | _, _ => False

theorem Asg.local {x : Str} {pos : Pos} {v : V} {Q : Lo → AH → Prop} (F : Fx C A env) (hl : env.kindOf x = some .local) (h : Q (ρ.set x v) H) : Asg C A env (.Name x pos) (.one v) ρ H Q := fun s y hs hd => by
  have e : ab y = v := hd
  subst e
  exact wpAny_assign_Name (W.storeLocal F hl h s hs)
noncomputable def noStar : List Expr → Bool
  | [] => true
  | .Starred _ _ :: _ => false
  | _ :: r => noStar r
theorem assignEach_plain : ∀ {ts : List Expr}, noStar ts = true → assignEach ts env = ts.map (fun t => (false, assign t env))
  | [], _ => rfl
  | t :: r, h => by
    have hr : noStar r = true := by
      unfold noStar at h; split at h <;> simp_all
    have e : assignEach (t :: r) env = (false, assign t env) :: assignEach r env := by
      cases t <;> first | rfl | (simp [noStar] at h)
    rw [e, assignEach_plain hr]; rfl
theorem Asg.inOrder : ∀ {ts : List Expr} {vs : List V} {ρ : Lo} {H : AH} {Q : Lo → AH → Prop} (xs : List Value), xs.map ab = vs → AsgL C A env ts vs ρ H Q →
    W C A env.locals (assignInOrder (ts.map fun t => assign t env) xs) ρ H (fun _ => Q)
  | [], [], _, _, _, [], _, h => W.pure h
  | [], _ :: _, _, _, _, _, _, h => h.elim
  | _ :: _, [], _, _, _, _, _, h => h.elim
  | t :: ts, v :: vs, ρ, H, Q, x :: xs, e, h => by
    simp only [List.map_cons, List.cons.injEq] at e
    show W C A env.locals (holding xs (assign t env x) >>= fun _ => assignInOrder (ts.map fun t => assign t env) xs) ρ H _
    refine W.bind (W.holding (fun s hs => ?_))
    exact wpAny_mono (h s x hs e.1) (fun _ s' ⟨ρ', H', a, b, c⟩ => ⟨ρ', H', a, b, Asg.inOrder xs e.2 c⟩) fun _ _ e => e
theorem Asg.tuple {ts : List Expr} {k : Nat} {pos : Pos} {vs : List V} {Q : Lo → AH → Prop} (F : Fx C A env) (hst : noStar ts = true) (hlen : ts.length = vs.length) (h : AsgL C A env ts vs ρ H Q) : Asg C A env (.Tuple ts k pos) (.tup vs) ρ H Q := fun s x hs hd => by
  obtain ⟨T, xs, rfl, hT, e⟩ := hd
  have hsz : xs.size = vs.length := by rw [← e]; simp
  refine assign_Tuple_tuple F.hh hT (by rw [assignEach_plain hst, List.length_map, hlen, hsz]) (by rw [assignEach_plain hst]; simp) fun h' hx => ?_
  have k : ∀ b o, s.heap.get? b = some o → h'.get? b = some o := fun b o eb => hx b o (Nat.ne_of_lt (Heap.lt_size eb)) eb
  have := Asg.inOrder (C := C) (A := A) (env := env) xs.toList e h
  rw [assignEach_plain hst, List.map_map]
  exact this.at (hs.ext k) (.ext k)
end
end Mine

namespace Mine
open PySem PySem.W PyProof.Rows

section
variable {C : Cx} {A : Around} {env : Env} {ρ : Lo} {H : AH}



/-! ## assignment statements -/
theorem W1.asg {tgt e : Expr} {pos : Pos} {Q : Fl → Lo → AH → Prop} (h : WE C A env e ρ H (fun v H1 => Asg C A env tgt (.one v) ρ H1 (fun ρ2 H2 => Q .next ρ2 H2)))
    (hs : swapsWithSole [tgt] e pos.line env = pure false := by rfl) (hw : swappedStores [tgt] e env = pure none := by rfl) (hn : noStar [tgt] = true := by rfl) : W1 C A env (.Assign [tgt] e pos) ρ H Q := by
  show W C A env.locals (standAt pos >>= fun _ => swapsWithSole [tgt] e pos.line env >>= fun b => if b then (evalThenUse e env (fun v => assignAll v ((assignEach [tgt] env).map (·.2))) >>= fun _ => pure .next) else
    (eval e env >>= fun v => swappedStores [tgt] e env >>= fun sw => assignStores env v sw ((assignEach [tgt] env).map (·.2)))) ρ H _
  refine W.bind (W.standAt ?_)
  rw [hs]
  refine W.bind (W.pure ?_)
  rw [if_neg Bool.false_ne_true]
  refine W.bind (WE.then (WE.mono h fun v H1 k x ex => ?_))
  rw [hw, assignEach_plain hn]
  refine W.bind (W.pure ?_)
  show W C A env.locals (assign tgt env x >>= fun _ => pure Flow.next) ρ H1 _
  refine W.bind (fun s hs => wpAny_mono (k s x hs ex) (fun _ s' ⟨ρ', H', a, b, c⟩ => ⟨ρ', H', a, b, W.pure c⟩) fun _ _ e => e)

theorem W1.asgLocal {x : Str} {p pos : Pos} {e : Expr} {Q : Fl → Lo → AH → Prop} (F : Fx C A env) (hl : env.kindOf x = some .local) (h : WE C A env e ρ H (fun v H1 => Q .next (ρ.set x v) H1))
    (hs : swapsWithSole [.Name x p] e pos.line env = pure false := by rfl) (hw : swappedStores [.Name x p] e env = pure none := by rfl) : W1 C A env (.Assign [.Name x p] e pos) ρ H Q :=
  W1.asg (WE.mono h fun v H1 q => Asg.local F hl q) hs hw rfl

theorem W1.asg2 {t₁ t₂ e : Expr} {pos : Pos} {Q : Fl → Lo → AH → Prop} (h : WE C A env e ρ H (fun v H1 => Asg C A env t₁ (.one v) ρ H1 (fun ρ2 H2 => Asg C A env t₂ (.one v) ρ2 H2 (fun ρ3 H3 => Q .next ρ3 H3))))
    (he : (assignEach [t₁, t₂] env).map (·.2) = [assign t₁ env, assign t₂ env] := by rfl) (hw : swappedStores [t₁, t₂] e env = pure none := by rfl) : W1 C A env (.Assign [t₁, t₂] e pos) ρ H Q := fun s hs => by
  refine wpAny_Assign_two ?_ he hw
  refine wpAny_mono (h s hs) (fun v s1 ⟨ρ1, H1, a1, b1, c1, d1⟩ => ?_) fun _ _ e => e
  subst c1
  refine wpAny_mono (d1 s1 v a1 rfl) (fun _ s2 ⟨ρ2, H2, a2, b2, c2⟩ => ?_) fun _ _ e => e
  exact wpAny_mono (c2 s2 v a2 rfl) (fun _ s3 ⟨ρ3, H3, a3, b3, c3⟩ => ⟨ρ3, H3, a3, (b1.trans b2 (fun _ _ => a2.nl)).trans b3 (fun _ _ => a3.nl), c3⟩) fun _ _ e => e

/-! ## argument lists, displays -/
noncomputable def WEs (C : Cx) (A : Around) (env : Env) : List Expr → Lo → AH → (List V → AH → Prop) → Prop
  | [], _, H, Q => Q [] H
  | e :: es, ρ, H, Q => WE C A env e ρ H (fun v H1 => WEs C A env es ρ H1 (fun vs H2 => Q (v :: vs) H2))
theorem starEach_plain : ∀ {es : List Expr}, noStar es = true → starEach es env = es.map fun e => (false, eval e env)
  | [], _ => rfl
  | t :: r, h => by
    have hr : noStar r = true := by
      unfold noStar at h; split at h <;> simp_all
    have e : starEach (t :: r) env = (false, eval t env) :: starEach r env := by
      cases t <;> first | rfl | (simp [noStar] at h)
    rw [e, starEach_plain hr]; rfl
theorem backTo_plain {pos : Pos} {es : List Expr} (h : noStar es = true) : backTo pos (starEach es env) = es.map fun e => (false, eval e env) := by
  rw [starEach_plain h]
  unfold backTo
  rw [List.map_map]
  rfl
theorem WEs.run : ∀ {es : List Expr} {ρ : Lo} {H : AH} {Q : List V → AH → Prop}, WEs C A env es ρ H Q → W C A env.locals (spliced (es.map fun e => (false, eval e env))) ρ H (fun vs ρ' H' => ρ' = ρ ∧ Q (vs.map ab) H')
  | [], ρ, H, Q, h => W.pure ⟨rfl, h⟩
  | e :: es, ρ, H, Q, h => fun s hs => PySem.Calls.spliced_cons (wpAny_mono (h s hs) (fun v s1 ⟨ρ1, H1, a1, b1, c1, d1⟩ => by
      subst c1
      exact wpAny_mono (WEs.run d1 s1 a1) (fun vs s2 ⟨ρ2, H2, a2, b2, c2, d2⟩ => ⟨ρ2, H2, a2, b1.trans b2 (fun _ _ => a2.nl), c2, d2⟩) fun _ _ e => e) fun _ _ e => e)
theorem WEs.mono : ∀ {es : List Expr} {ρ : Lo} {H : AH} {Q Q' : List V → AH → Prop}, WEs C A env es ρ H Q → (∀ vs H', Q vs H' → Q' vs H') → WEs C A env es ρ H Q'
  | [], _, _, _, _, h, k => k _ _ h
  | _ :: es, _, _, _, _, h, k => WE.mono h fun _ _ q => WEs.mono q fun _ _ r => k _ _ r
/-- all pure -/
inductive Evs (C : Cx) (A : Around) (env : Env) (ρ : Lo) (H : AH) : List Expr → List V → Prop
  | nil : Evs C A env ρ H [] []
  | cons {e : Expr} {es : List Expr} {v : V} {vs : List V} : Ev C A env ρ H e v → Evs C A env ρ H es vs → Evs C A env ρ H (e :: es) (v :: vs)
theorem WEs.of {es : List Expr} {vs : List V} {Q : List V → AH → Prop} (h : Evs C A env ρ H es vs) (q : Q vs H) : WEs C A env es ρ H Q := by
  induction h generalizing Q with
  | nil => exact q
  | cons h1 _ ih => exact WE.of h1 (ih q)

theorem WE.list {es : List Expr} {pos : Pos} {Q : V → AH → Prop} (hn : noStar es = true) (hlen : es.length ≤ 1000) (h : WEs C A env es ρ H (fun vs H1 => ∀ a, H1 a = none → Q (.ref a) (H1.set a (.list vs)))) : WE C A env (.List es pos) ρ H Q := fun s hs => by
  refine wpAny_List ?_
  rw [backTo_plain hn]
  have hl : ∀ {es : List Expr} {ρ : Lo} {H : AH} {Q : List V → AH → Prop}, WEs C A env es ρ H Q → WEs C A env es ρ H (fun vs H' => vs.length = es.length ∧ Q vs H') := by
    intro es
    induction es with
    | nil => intro ρ H Q h; exact ⟨rfl, h⟩
    | cons e es ih => intro ρ H Q h; exact WE.mono h fun v H1 q => WEs.mono (ih q) fun vs H2 r => ⟨by simp [r.1], r.2⟩
  refine wpAny_mono (WEs.run (hl h) s hs) (fun vs s1 ⟨ρ1, H1, a1, b1, c1, d1⟩ => ?_) fun _ _ e => e
  subst c1
  obtain ⟨d0, d1⟩ := d1
  rw [List.length_map] at d0
  have hz : vs.length ≤ sizeLine := by rw [d0]; exact Nat.le_trans hlen (by decide)
  have ha := get?_size_none s1.heap
  refine ⟨hz, _, _, a1.alloc (o := .list (vs.map ab)) ha (Heap.get?_push_size _ rfl) ⟨vs.toArray, 0, rfl, rfl, by simpa using hz⟩ (fun b o e => Heap.get?_push_of_some _ e), ?_, rfl, d1 _ (a1.fresh ha).1⟩
  exact b1.trans (Step.alloc (tk := s1.toks) ha (fun b o e => Heap.get?_push_of_some _ e)) (fun _ _ => by rw [AH.set_ne _ _ (Ne.symm (a1.fresh ha).2.2)]; exact a1.nl)


/-! a tuple display unpacked at once: the tuple is not tracked -/
theorem WEs.hidden {es : List Expr} {k : Nat} {pos : Pos} {s : Shared} {R : List V → AH → Prop} (hn : noStar es = true) (hlen : es.length ≤ 1000) (hs : St C env.locals ρ H s.heap) (h : WEs C A env es ρ H R) {Q : Value → Shared → Prop}
    (hq : ∀ T (xs : Array Value) s1 H1, IsTup s1.heap T xs → St C env.locals ρ H1 s1.heap → Step env.locals H H1 s s1 → xs.size = es.length → R (xs.toList.map ab) H1 → Q (.ref T) s1) :
    wpAny C.M A (eval (.Tuple es k pos) env) Q False2 s := by
  refine wpAny_Tuple ?_
  rw [backTo_plain hn]
  have hl : ∀ {es : List Expr} {ρ : Lo} {H : AH} {Q : List V → AH → Prop}, WEs C A env es ρ H Q → WEs C A env es ρ H (fun vs H' => vs.length = es.length ∧ Q vs H') := by
    intro es
    induction es with
    | nil => intro ρ H Q h; exact ⟨rfl, h⟩
    | cons e es ih => intro ρ H Q h; exact WE.mono h fun v H1 q => WEs.mono (ih q) fun vs H2 r => ⟨by simp [r.1], r.2⟩
  refine wpAny_mono (WEs.run (hl h) s hs) (fun vs s1 ⟨ρ1, H1, a1, b1, c1, d1⟩ => ?_) fun _ _ e => e
  subst c1
  obtain ⟨d0, d1⟩ := d1
  rw [List.length_map] at d0
  have hz : vs.length ≤ sizeLine := by rw [d0]; exact Nat.le_trans hlen (by decide)
  have k' : ∀ b o, s1.heap.get? b = some o → (s1.heap.push { cls := .type "tuple", data := .seq vs.toArray }).get? b = some o := fun b o e => Heap.get?_push_of_some _ e
  refine ⟨hz, hq _ vs.toArray _ H1 ⟨_, Heap.get?_push_size _ rfl, rfl, _, rfl⟩ (a1.ext k') (b1.trans (Step.ext (tk := s1.toks) k') (fun _ _ => a1.nl)) (by simp [d0]) d1⟩

theorem W1.asgTup {ts es : List Expr} {k k' : Nat} {p p' pos : Pos} {Q : Fl → Lo → AH → Prop} (F : Fx C A env) (h : WEs C A env es ρ H (fun vs H1 => AsgL C A env ts vs ρ H1 (fun ρ2 H2 => Q .next ρ2 H2)))
    (hs : swapsWithSole [.Tuple ts k p] (.Tuple es k' p') pos.line env = pure false := by rfl) (hw : swappedStores [.Tuple ts k p] (.Tuple es k' p') env = pure none := by rfl) (hn : noStar es = true := by rfl) (hnt : noStar ts = true := by rfl) (hlen : es.length = ts.length := by rfl) (hl : es.length ≤ 1000 := by decide) :
    W1 C A env (.Assign [.Tuple ts k p] (.Tuple es k' p') pos) ρ H Q := fun s hs' => by
  refine Assign_Tuple ?_ hs hw
  refine WEs.hidden hn hl hs' h fun T xs s1 H1 hT a1 b1 hz r => ?_
  refine wpAny_mono (Asg.tuple F hnt (by simp [← hlen, ← hz]) r s1 (.ref T) a1 ⟨T, xs, rfl, hT, rfl⟩) (fun _ s2 ⟨ρ2, H2, a2, b2, c2⟩ => ⟨ρ2, H2, a2, b1.trans b2 (fun _ _ => a2.nl), c2⟩) fun _ _ e => e

theorem bindName_run {x : Str} {v : Value} {Q : Unit → Lo → AH → Prop} {L : Addr} (h : W C A L (storeName env x v) ρ H Q) : W C A L (bindName env x v) ρ H Q := by
  unfold bindName
  refine W.bind (W.holding (fun s hs => wpAny_point ⟨ρ, H, hs, .refl .., ?_⟩))
  refine W.bind (W.mono h fun _ ρ' H' q => fun s hs => wpAny_point ⟨ρ', H', hs, .refl .., q⟩)
/-- names stored in exchanged order -/
noncomputable def StL (ns : List Str) (vs : List V) (ρ : Lo) : Lo := match ns, vs with
  | n :: ns, v :: vs => StL ns vs (ρ.set n v)
  | _, _ => ρ
theorem StL.run : ∀ {ns : List Str} {xs : List Value} {ρ : Lo} {Q : Lo → AH → Prop}, ns.length = xs.length → Fx C A env → (∀ n ∈ ns, env.kindOf n = some .local) → Q (StL ns (xs.map ab) ρ) H →
    W C A env.locals (assignInOrder (ns.map fun n => bindName env n) xs) ρ H (fun _ => Q)
  | [], [], ρ, Q, _, _, _, h => W.pure h
  | n :: ns, x :: xs, ρ, Q, hl, F, hk, h => by
    show W C A env.locals (holding xs (bindName env n x) >>= fun _ => assignInOrder (ns.map fun n => bindName env n) xs) ρ H _
    refine W.bind (W.holding (bindName_run (W.storeLocal F (hk n (List.mem_cons_self ..)) ?_)))
    exact StL.run (by simpa using hl) F (fun m hm => hk m (List.mem_cons_of_mem _ hm)) h
theorem W1.asgSwap {ts es : List Expr} {k k' : Nat} {p p' pos : Pos} {names : List Str} {Q : Fl → Lo → AH → Prop} (F : Fx C A env) (h : WEs C A env es ρ H (fun vs H1 => Q .next (StL names.reverse vs.reverse ρ) H1))
    (hw : swappedStores [.Tuple ts k p] (.Tuple es k' p') env = pure (some names)) (hk : ∀ n ∈ names, env.kindOf n = some .local) (hlen : es.length = names.length := by rfl)
    (hs : swapsWithSole [.Tuple ts k p] (.Tuple es k' p') pos.line env = pure false := by rfl) (hn : noStar es = true := by rfl) (hl : es.length ≤ 1000 := by decide) :
    W1 C A env (.Assign [.Tuple ts k p] (.Tuple es k' p') pos) ρ H Q := fun s hs' => by
  refine Assign_Tuple_swapped ?_ hs hw
  refine WEs.hidden hn hl hs' h fun T xs s1 H1 hT a1 b1 hz r => ?_
  rw [← hlen, ← hz]
  refine wpAny_unpackItems_tuple F.hh hT fun h' hx => ?_
  have k : ∀ b o, s1.heap.get? b = some o → h'.get? b = some o := fun b o eb => hx b o (Nat.ne_of_lt (Heap.lt_size eb)) eb
  have := StL.run (C := C) (A := A) (env := env) (H := H1) (ns := names.reverse) (xs := xs.toList.reverse) (ρ := ρ) (Q := fun ρ2 H2 => Q .next ρ2 H2) (by simp [← hlen, hz]) F (fun n hm => hk n (List.mem_reverse.mp hm)) (by rw [List.map_reverse]; exact r)
  exact W.at this (a1.ext k) (b1.trans (Step.ext k) (fun _ _ => a1.nl))

/-! ## expression statements -/
theorem W1.expr {e : Expr} {pos : Pos} {Q : Fl → Lo → AH → Prop} (F : Fx C A env) (h : WE C A env e ρ H (fun v H1 => (∀ a, v ≠ .ref a) ∧ Q .next ρ H1)) (hs : swapsWith e none pos.line env = pure false := by rfl) : W1 C A env (.Expr e pos) ρ H Q := fun s hs' => by
  refine wpAny_Expr (wpAny_mono (h s hs') (fun v s1 ⟨ρ1, H1, a1, b1, c1, d1, d2⟩ => ?_) fun _ _ e => e) (by simp [interactive, F.kind]) hs
  subst c1
  cases v <;> first | exact ⟨ρ1, H1, a1, b1, d2⟩ | exact absurd rfl (d1 _)
end
end Mine

namespace Mine
open PySem PySem.W PyProof.Rows

section
variable {C : Cx} {A : Around} {env : Env} {ρ : Lo} {H : AH}

/-! ## calls by a name -/
noncomputable def FnAt (C : Cx) (H : AH) (a : Addr) (o : Obj) (fd : FuncData) : Prop := o.data = .func fd ∧ (C.base.get? a = some o ∨ (H a = some (.fn fd) ∧ o = { cls := .type "function", data := .func fd }))
theorem FnAt.obj {a : Addr} {o : Obj} {fd : FuncData} {L : Addr} {h : Heap} (f : FnAt C H a o fd) (hs : St C L ρ H h) : h.get? a = some o ∧ o.data = .func fd := by
  obtain ⟨e, e1 | ⟨e1, rfl⟩⟩ := f
  · exact ⟨hs.keep _ _ e1, e⟩
  · exact ⟨hs.func e1, e⟩

noncomputable def WKs (C : Cx) (A : Around) (env : Env) : List Keyword → Lo → AH → (List (Str × V) → AH → Prop) → Prop
  | [], _, H, Q => Q [] H
  | ⟨some n, e, _⟩ :: ks, ρ, H, Q => WE C A env e ρ H (fun v H1 => WKs C A env ks ρ H1 (fun vs H2 => Q ((n, v) :: vs) H2))
  | ⟨none, _, _⟩ :: _, _, _, _ => False
theorem WKs.nil {Q : List (Str × V) → AH → Prop} (h : Q [] H) : WKs C A env [] ρ H Q := h
theorem WKs.run {pos : Pos} : ∀ {ks : List Keyword} {ρ : Lo} {H : AH} {Q : List (Str × V) → AH → Prop}, WKs C A env ks ρ H Q →
    W C A env.locals (evalAll ((backToKw pos (keywordEach ks env)).map (·.2))) ρ H (fun vs ρ' H' => ρ' = ρ ∧ Q ((((backToKw pos (keywordEach ks env)).filterMap (·.1)).zip vs).map fun p => (p.1, ab p.2)) H')
  | [], ρ, H, Q, h => W.pure ⟨rfl, h⟩
  | ⟨none, e, p⟩ :: ks, ρ, H, Q, h => h.elim
  | ⟨some n, e, p⟩ :: ks, ρ, H, Q, h => fun s hs => by
    show wpAny C.M A (evalAll ((do let v ← eval e env; standAt pos; pure v) :: (backToKw pos (keywordEach ks env)).map (·.2))) _ _ s
    refine wpAny_evalAll_cons (wpAny_bind (wpAny_mono (h s hs) (fun v s1 ⟨ρ1, H1, a1, b1, c1, d1⟩ => ?_) fun _ _ e => e))
    subst c1
    refine wpAny_bind (wpAny_standAt (wpAny_pure ?_))
    exact wpAny_mono (WKs.run (pos := pos) d1 s1 a1) (fun vs s2 ⟨ρ2, H2, a2, b2, c2, d2⟩ => ⟨ρ2, H2, a2, b1.trans b2 (fun _ _ => a2.nl), c2, d2⟩) fun _ _ e => e
theorem WKs.all {pos : Pos} : ∀ {ks : List Keyword} {ρ : Lo} {H : AH} {Q : List (Str × V) → AH → Prop}, ks.all (·.arg.isSome) = true → (backToKw pos (keywordEach ks env)).all (·.1.isSome) = true
  | [], _, _, _, _ => rfl
  | ⟨none, e, p⟩ :: ks, _, _, _, h => by simp at h
  | ⟨some n, e, p⟩ :: ks, ρ, H, Q, h => by
    have := WKs.all (pos := pos) (ks := ks) (ρ := ρ) (H := H) (Q := Q) (by simpa using h)
    simpa [backToKw, keywordEach] using this

theorem evalArgs_run {f : Value} {pos : Pos} {es : List Expr} {ks : List Keyword} {Q : List V → List (Str × V) → AH → Prop} (hn : noStar es = true) (hk : ks.all (·.arg.isSome) = true) (h : WEs C A env es ρ H (fun vs H1 => WKs C A env ks ρ H1 (fun kv H2 => Q vs kv H2))) :
    W C A env.locals (evalArgs f true (backTo pos (starEach es env)) (backToKw pos (keywordEach ks env))) ρ H (fun a ρ' H' => ρ' = ρ ∧ Q (a.pos.map ab) (a.kw.map fun p => (p.1, ab p.2)) H') := fun s hs => by
  have hall := WKs.all (env := env) (pos := pos) (ks := ks) (ρ := ρ) (H := H) (Q := fun _ _ => True) hk
  rw [backTo_plain hn]
  cases es with
  | nil =>
    refine evalArgs_kw_nil hall ?_
    exact wpAny_mono (WKs.run (pos := pos) h s hs) (fun vs s2 ⟨ρ2, H2, a2, b2, c2, d2⟩ => ⟨ρ2, H2, a2, b2, c2, d2⟩) fun _ _ e => e
  | cons e es =>
    refine evalArgs_kw hall ?_
    refine wpAny_mono (WEs.run h s hs) (fun vs s1 ⟨ρ1, H1, a1, b1, c1, d1⟩ => ?_) fun _ _ e => e
    subst c1
    exact wpAny_mono (WKs.run (pos := pos) d1 s1 a1) (fun vs s2 ⟨ρ2, H2, a2, b2, c2, d2⟩ => ⟨ρ2, H2, a2, b1.trans b2 (fun _ _ => a2.nl), c2, d2⟩) fun _ _ e => e

theorem WE.callFn {id : Str} {p pos : Pos} {a : Addr} {o : Obj} {fd : FuncData} {es : List Expr} {ks : List Keyword} {Q : V → AH → Prop} (hf : Ev C A env ρ H (.Name id p) (.ref a))
    (h : WEs C A env es ρ H (fun vs H1 => WKs C A env ks ρ H1 (fun kv H2 => FnAt C H2 a o fd ∧ WCall C A (.ref a) vs kv H2 Q))) (hn : noStar es = true := by rfl) (hk : ks.all (·.arg.isSome) = true := by rfl) :
    WE C A env (.Call (.Name id p) es ks pos) ρ H Q := fun s hs => by
  refine wpAny_Call_Name_kw ?_
  refine wpAny_mono (hf s hs) (fun f s1 ⟨ρ1, H1, a1, b1, c1, c2, c3⟩ => ?_) fun _ _ e => e
  subst c1 c2
  cases ab_ref c3
  refine callWith_function_kw (o := o) (fd := fd) ?_
  refine wpAny_mono (evalArgs_run hn hk h s1 a1) (fun x s2 ⟨ρ2, H2, a2, b2, c2, hfn, d2⟩ => ⟨hfn.obj a2, ?_⟩) fun _ _ e => e
  subst c2
  exact wpAny_mono (d2 env.locals ρ2 (.ref a) x.pos x.kw rfl rfl rfl s2 a2) (fun v s3 ⟨ρ3, H3, a3, b3, c3, d3⟩ => ⟨ρ3, H3, a3, (b1.trans b2 (fun _ _ => a2.nl)).trans b3 (fun _ _ => a3.nl), c3, d3⟩) fun _ _ e => e

theorem backTo_any {pos : Pos} {es : List Expr} (h : noStar es = true) : (backTo pos (starEach es env)).any (·.1) = false := by
  rw [backTo_plain h]; induction es with
  | nil => rfl
  | cons e es ih =>
    have : noStar es = true := by unfold noStar at h; split at h <;> simp_all
    simp
theorem WE.callBi {id : Str} {p pos : Pos} {b : String} {es : List Expr} {ks : List Keyword} {Q : V → AH → Prop} (hf : Ev C A env ρ H (.Name id p) (.bi b))
    (h : WEs C A env es ρ H (fun vs H1 => WKs C A env ks ρ H1 (fun kv H2 => WCall C A (.bi b) vs kv H2 Q))) (hn : noStar es = true := by rfl) (hk : ks.all (·.arg.isSome) = true := by rfl) :
    WE C A env (.Call (.Name id p) es ks pos) ρ H Q := fun s hs => by
  refine wpAny_Call_Name_kw ?_
  refine wpAny_mono (hf s hs) (fun f s1 ⟨ρ1, H1, a1, b1, c1, c2, c3⟩ => ?_) fun _ _ e => e
  subst c1 c2
  cases ab_bi c3
  have hall := WKs.all (env := env) (pos := pos) (ks := ks) (ρ := ρ1) (H := H1) (Q := fun _ _ => True) hk
  refine callWith_builtin_kwB (backTo_any hn) ?_ ?_
  · rw [List.any_eq_false]
    intro x hx
    have := List.all_eq_true.mp hall x hx
    cases hx1 : x.1 <;> simp_all
  refine wpAny_mono (evalArgs_run hn hk h s1 a1) (fun x s2 ⟨ρ2, H2, a2, b2, c2, d2⟩ => ?_) fun _ _ e => e
  subst c2
  exact wpAny_mono (d2 env.locals ρ2 (.builtin b) x.pos x.kw rfl rfl rfl s2 a2) (fun v s3 ⟨ρ3, H3, a3, b3, c3, d3⟩ => ⟨ρ3, H3, a3, (b1.trans b2 (fun _ _ => a2.nl)).trans b3 (fun _ _ => a3.nl), c3, d3⟩) fun _ _ e => e

theorem vals1 {vals : List Value} {a : V} (e : vals.map ab = [a]) : ∃ x, vals = [x] ∧ ab x = a := by
  cases vals with
  | nil => simp at e
  | cons x r => cases r with
    | nil => simp at e; exact ⟨x, rfl, e⟩
    | cons => simp at e
theorem vals2 {vals : List Value} {a b : V} (e : vals.map ab = [a, b]) : ∃ x y, vals = [x, y] ∧ ab x = a ∧ ab y = b := by
  cases vals with
  | nil => simp at e
  | cons x r =>
    simp only [List.map_cons, List.cons.injEq] at e
    obtain ⟨y, rfl, h⟩ := vals1 e.2
    exact ⟨x, y, rfl, e.1, h⟩

/-! ## methods of lists -/
theorem WE.listMeth {o : Expr} {name : Str} {id : String} {apos pos : Pos} {es : List Expr} {Q : V → AH → Prop} (slot : Slot "list" name id) (hty : typeOf (.builtin id) = pure (.type "method_descriptor"))
    (h : WE C A env o ρ H (fun v H1 => ∃ a vs, v = .ref a ∧ H1 a = some (.list vs) ∧ WEs C A env es ρ H1 (fun ws H2 => WCall C A (.bi id) (.ref a :: ws) [] H2 Q)))
    (hbase : attributeBase o name env (eval o env) = eval o env := by rfl) (hfew : ((backTo pos (starEach es env)).all (fun x => !x.1) && (backToKw pos (keywordEach [] env)).all (fun x => x.1.isSome) && decide (es.length + ([] : List Keyword).length + (if ([] : List Keyword).isEmpty then 0 else 1) < 30)) = true := by rfl)
    (hline : (apos.endLine == pos.line) = true := by rfl) (hn : noStar es = true := by rfl) : WE C A env (.Call (.Attribute o name apos) es [] pos) ρ H Q := fun s hs => by
  refine wpAny_Call_method hbase hfew hline PySem.F.plainAttrs_list slot hty ?_
  refine wpAny_mono (h s hs) (fun v s1 ⟨ρ1, H1, a1, b1, c1, a, vs, d1, d2, d3⟩ => ?_) fun _ _ e => e
  subst c1
  cases ab_ref d1
  obtain ⟨xs, ⟨n, e1⟩, e2, e3⟩ := a1.plist d2
  refine ⟨⟨_, e1, rfl⟩, fun b hb => ⟨_, by cases hb; exact e1, rfl⟩, ?_⟩
  refine PySem.Calls.callWith_builtin (backTo_any hn) ?_
  refine wpAny_mono (evalArgs_run (ks := []) (Q := fun ws kv H2 => kv = [] ∧ WCall C A (.bi id) (.ref a :: ws) [] H2 Q) hn rfl (WEs.mono d3 fun vs H1 q => ⟨rfl, q⟩) s1 a1) (fun x s2 ⟨ρ2, H2, a2, b2, c2, d1, d2⟩ => ?_) fun _ _ e => e
  subst c2
  have hkw : x.kw = [] := by simpa using d1
  rw [hkw]
  exact wpAny_mono (d2 env.locals ρ2 (.builtin id) (.ref a :: x.pos) [] rfl rfl rfl s2 a2) (fun v s3 ⟨ρ3, H3, a3, b3, c3, d3⟩ => ⟨ρ3, H3, a3, (b1.trans b2 (fun _ _ => a2.nl)).trans b3 (fun _ _ => a3.nl), c3, d3⟩) fun _ _ e => e

theorem WCall.append {a : Addr} {vs : List V} {v : V} {Q : V → AH → Prop} (hH : H a = some (.list vs)) (hz : vs.length < sizeLine) (h : Q .none (H.set a (.list (vs ++ [v])))) : WCall C A (.bi "list.append") [.ref a, v] [] H Q := by
  intro L ρ fv vals kvs e1 e2 e3
  cases ab_bi e1
  obtain ⟨x, y, rfl, ex, ey⟩ := vals2 e2
  cases ab_ref ex
  have : kvs = [] := by simpa using e3
  subst this
  intro s hs
  obtain ⟨xs, h1, h2, h3⟩ := hs.plist hH
  refine wpAny_list_append_plain h1 (fun h' ⟨n, hp⟩ hsb => ?_) (by rw [arr_size h2]; lia)
  refine ⟨_, _, hs.upd hH rfl hp (o := .list (vs ++ [v])) ⟨_, n, rfl, by simp [h2, ey], by simp; lia⟩ (fun b o hb e => hsb.extBut b o hb e), .upd hH hp (fun b o hb e => hsb.extBut b o hb e), rfl, h⟩

/-! ## built-in functions -/
theorem WCall.len {a : Addr} {o : O} {vs : List V} {Q : V → AH → Prop} (hH : H a = some o) (hl : lst o = some vs) (h : Q (.int vs.length) H) : WCall C A (.bi "len") [.ref a] [] H Q := by
  intro L ρ fv vals kvs e1 e2 e3
  cases ab_bi e1
  obtain ⟨x, rfl, ex⟩ := vals1 e2
  cases ab_ref ex
  have : kvs = [] := by simpa using e3
  subst this
  intro s hs
  obtain ⟨xs, h1, h2, h3⟩ := hs.list hH hl
  have hsl : (sizeLine : Int) < 2 ^ 63 := by decide
  refine len_list h1 (by rw [arr_size h2]; lia) ⟨ρ, H, hs, .toks, rfl, ?_⟩
  show Q (.int xs.size) H
  rw [arr_size h2]; exact h
/-- len(e) as a pure expression -/
theorem Ev.len {e : Expr} {p pos : Pos} {a : Addr} {o : O} {vs : List V} {id : Str} (hf : Ev C A env ρ H (.Name id p) (.bi "len")) (h : Ev C A env ρ H e (.ref a)) (hH : H a = some o) (hl : lst o = some vs) (hn : noStar [e] = true := by rfl) : Ev C A env ρ H (.Call (.Name id p) [e] [] pos) (.int vs.length) :=
  WE.ev (WE.callBi hf (WEs.of (.cons h .nil) (WKs.nil (WCall.len hH hl ⟨rfl, rfl⟩))) hn)
end
end Mine

namespace Mine
open PySem PySem.W PyProof.Rows

section
variable {C : Cx} {A : Around} {env : Env} {ρ : Lo} {H : AH}

/-! ## a def called -/
noncomputable def retv : Fl → V
  | .ret v => v
  | _ => .none
noncomputable def Keep (C : Cx) (s : Shared) : Prop := ∀ b o, C.base.get? b = some o → s.heap.get? b = some o
theorem lookup_ab (x : Str) (l : List (Str × Value)) : (l.lookup x).map ab = (l.map fun p => (p.1, ab p.2)).lookup x := by
  induction l with
  | nil => rfl
  | cons p r ih =>
    obtain ⟨n, v⟩ := p
    rw [List.map_cons, List.lookup_cons, List.lookup_cons]
    cases x == n
    · exact ih
    · rfl
/-- the frame left -/
theorem St.back {L L' : Addr} {s s1 s' : Shared} {ρ' : Lo} {H1 H' : AH} (hs : St C L ρ H s.heap) (hk : ∀ b o, s.heap.get? b = some o → s1.heap.get? b = some o) (hL' : s.heap.get? L' = none) (h1 : ∀ b o, s.heap.get? b = some o → H b = none → H1 b = none) (x : St C L' ρ' H' s'.heap) (y : Step L' H1 H' s1 s') :
    St C L ρ H' s'.heap ∧ (∀ b o, s.heap.get? b = some o → H b = none → s'.heap.get? b = some o) ∧ (∀ b o, s.heap.get? b = some o → H b = none → H' b = none) ∧ (∀ b o, s.heap.get? b = some o → ∃ o', s'.heap.get? b = some o') := by
  obtain ⟨m, ⟨o, es, ep, ho, r⟩, hm⟩ := hs.loc
  have ne : ∀ b o, s.heap.get? b = some o → b ≠ L' := fun b o e q => by rw [q, hL'] at e; cases e
  have kept : ∀ b o, s.heap.get? b = some o → H b = none → s'.heap.get? b = some o := fun b o e eb => y.kept b o (hk b o e) (h1 b o e eb) (ne b o e)
  have new : ∀ b o, s.heap.get? b = some o → H b = none → H' b = none := fun b o e eb => y.new b o (hk b o e) (h1 b o e eb)
  exact ⟨⟨x.keep, x.rep, x.own, ⟨m, ⟨o, es, ep, kept L o ho hs.nl, r⟩, hm⟩, new L o ho hs.nl, hs.bl⟩, kept, new, fun b o e => y.live b o (hk b o e)⟩

theorem WCall.def {a : Addr} {o : Obj} {fd : FuncData} {body : List Stmt} {args : List V} {kw bs : List (Str × V)} {Q : V → AH → Prop} (hfn : FnAt C H a o fd) (hdep : A.depth < recursionLimit)
    (hb : fd.body = .stmts body) (hcell : ∀ x ∈ fd.scope.names, x.2 ≠ .cell) (hcd : ∀ h : Heap, (∀ b o, C.base.get? b = some o → h.get? b = some o) → h.CodeRec fd.code fd.qualname)
    (hbind : ∀ vals kvs, vals.map ab = args → kvs.map (fun p => (p.1, ab p.2)) = kw → ∃ binds, (∀ s, Keep C s → BindsTo s fd ⟨vals, kvs⟩ binds) ∧ binds.map (fun p => (p.1, ab p.2)) = bs)
    (hloc : ∀ x ∈ bs, fd.scope.names.lookup x.1 = some .local)
    (h : ∀ L, H L = none → WS C (A.deeper (callEnv fd L a)) (callEnv fd L a) body (fun y => bs.reverse.lookup y) H (fun f _ H' => Q (retv f) H'))
    (hco : fd.scope.isCoroutine = false := by rfl) (hgen : fd.scope.isGenerator = false := by rfl) (hk : fd.scope.kind = .function := by rfl) : WCall C A (.ref a) args kw H Q := by
  intro L ρ fv vals kvs e1 e2 e3
  cases ab_ref e1
  obtain ⟨binds, hbt, hbs⟩ := hbind vals kvs e2 e3
  intro s hs
  obtain ⟨ho, hd⟩ := hfn.obj hs
  have hnone := get?_size_none s.heap
  refine wpAny_call (codeAny_call_def hdep ho hd (C.lim.keeps hs.keep) (hcd _ hs.keep) hb (hbt s hs.keep) hcell (fun x hx => hloc (x.1, ab x.2) (by rw [← hbs]; exact List.mem_map.mpr ⟨x, hx, rfl⟩)) (fun h₀ hn hk0 => ?_) hco hgen hk)
  have hst : St C s.heap.objs.size (fun y => bs.reverse.lookup y) H h₀ := by
    refine ⟨fun b o e => hk0 _ _ (hs.keep b o e), fun a o e => let ⟨c, e1, e2⟩ := hs.rep a o e; ⟨c, hk0 _ _ e1, e2⟩, hs.own, ⟨_, hn, fun x => ?_⟩, (hs.fresh hnone).1, (hs.fresh hnone).2.1⟩
    rw [← hbs, ← List.map_reverse]
    exact lookup_ab x binds.reverse
  have henv : (callEnv fd s.heap.objs.size a).locals = s.heap.objs.size := rfl
  refine wpAny_mono (h s.heap.objs.size (hs.fresh hnone).1 { s with heap := h₀, toks := s.toks + binds.length } hst) (fun f s' ⟨ρ', H', x, y, z⟩ => ?_) fun _ _ e => e.elim
  obtain ⟨q1, q2, q3, q4⟩ := hs.back (s1 := { s with heap := h₀, toks := s.toks + binds.length }) (L' := s.heap.objs.size) hk0 hnone (fun _ _ _ e => e) x y
  refine ⟨ρ, H', q1, ⟨?_, fun b o e eb _ => q2 b o e eb, q3, q4⟩, rfl, by cases f <;> exact z⟩
  exact y.same

/-! with cells -/
noncomputable def cellH (cm : Str → Option V) : List (Str × Addr) → AH → AH
  | [], H => H
  | (n, c) :: r, H => (cellH cm r H).set c (.cell (cm n))
theorem cellH_get {cm : Str → Option V} : ∀ {cs : List (Str × Addr)} {H : AH} {b : Addr}, (∀ p ∈ cs, p.2 ≠ b) → cellH cm cs H b = H b
  | [], _, _, _ => rfl
  | (n, c) :: r, H, b, h => by
    rw [cellH, AH.set_ne _ _ (Ne.symm (h (n, c) (List.mem_cons_self ..)))]
    exact cellH_get fun p hp => h p (List.mem_cons_of_mem _ hp)
theorem cellH_some {cm : Str → Option V} : ∀ {cs : List (Str × Addr)} {H : AH} {b : Addr} {o : O}, cellH cm cs H b = some o → (∃ n, (n, b) ∈ cs ∧ o = .cell (cm n)) ∨ H b = some o
  | [], _, _, _, h => .inr h
  | (n, c) :: r, H, b, o, h => by
    rw [cellH] at h
    by_cases q : b = c
    · subst q; rw [AH.set_same] at h; cases h; exact .inl ⟨n, List.mem_cons_self .., rfl⟩
    · rw [AH.set_ne _ _ q] at h
      rcases cellH_some h with ⟨m, hm, e⟩ | e
      · exact .inl ⟨m, List.mem_cons_of_mem _ hm, e⟩
      · exact .inr e


/-! ## while -/
theorem W1.while {t : Expr} {body : List Stmt} {pos : Pos} {Q : Fl → Lo → AH → Prop} (F : Fx C A env) (I : Nat → Lo → AH → Prop) (n : Nat) (h0 : I n ρ H)
    (turn : ∀ n ρ1 H1, I n ρ1 H1 → WT C A env t ρ1 H1 (fun c H2 => (c = true → WS C A env body ρ1 H2 (fun f ρ3 H3 => match f with | .next => ∃ m, m < n ∧ I m ρ3 H3 | .cont => ∃ m, m < n ∧ I m ρ3 H3 | .brk => Q .next ρ3 H3 | .ret v => Q (.ret v) ρ3 H3)) ∧ (c = false → Q .next ρ1 H2))) :
    W1 C A env (.While t body [] pos) ρ H Q := fun s hs => by
  refine wpAny_While ?_
  refine codeAny_whileLoop (fun k s' => ∃ ρ1 H1, St C env.locals ρ1 H1 s'.heap ∧ Step env.locals H H1 s s' ∧ I k ρ1 H1) ?_ n ⟨ρ, H, hs, .refl .., h0⟩
  rintro k s1 ⟨ρ1, H1, a1, b1, c1⟩
  refine wpAny_mono (turn k ρ1 H1 c1 s1 a1) (fun c s2 ⟨ρ2, H2, a2, b2, c2, d2⟩ => ?_) fun _ _ e => e.elim
  subst c2
  have b12 := b1.trans b2 (fun _ _ => a2.nl)
  cases c with
  | true =>
    refine wpAny_mono (d2.1 rfl s2 a2) (fun f s3 ⟨ρ3, H3, a3, b3, c3⟩ => ?_) fun _ _ e => e.elim
    have b13 := b12.trans b3 (fun _ _ => a3.nl)
    cases f with
    | next => obtain ⟨m, hm, hI⟩ := c3; exact ⟨m, hm, ρ3, H3, a3, b13, hI⟩
    | cont => obtain ⟨m, hm, hI⟩ := c3; exact ⟨m, hm, ρ3, H3, a3, b13, hI⟩
    | brk => exact ⟨ρ3, H3, a3, b13, c3⟩
    | ret v => exact ⟨ρ3, H3, a3, b13, c3⟩
  | false => exact wpAny_execs_nil ⟨ρ2, H2, a2, b12, d2.2 rfl⟩
end
end Mine

namespace Mine
open PySem PySem.W PyProof.Rows

/-! ## iterators (their own objects are not tracked) -/
noncomputable def Drawn (C : Cx) (A : Around) (tgt : Expr) (I : Addr) (Q : Option Value → Shared → Prop) (r : Option Value) (s₁ : Shared) : Prop :=
  match r with
  | none => Q none s₁
  | some v => wpAny C.M A (letOwnedTupleGo tgt (.ref I) v) (fun _ s₂ => Q (some v) s₂) False2 s₁

noncomputable def Off (C : Cx) (L : Addr) (H : AH) (wr : List Addr) : Prop := ∀ b ∈ wr, H b = none ∧ C.base.get? b = none ∧ b ≠ L

structure Itr (C : Cx) (A : Around) (I : Addr) (wr : List Addr) (tgt : Expr) (n : Nat) (Rr : Nat → Heap → Prop) (Ok : Nat → AH → Prop) (P : Nat → AH → Dv → Prop) : Prop where
  live : ∀ i h, Rr i h → ∀ b ∈ wr, ∃ o, h.get? b = some o
  frame : ∀ i h h', Rr i h → (∀ b ∈ wr, ∀ o, h.get? b = some o → h'.get? b = some o) → Rr i h'
  item : ∀ i (s : Shared) L ρ H (Q : Option Value → Shared → Prop), i < n → Rr i s.heap → St C L ρ H s.heap → Off C L H wr → Ok i H →
    (∀ v d h' tk, P i H d → d.Is h' v → St C L ρ H h' → Rr (i + 1) h' → (∀ b o, b ∉ wr → s.heap.get? b = some o → h'.get? b = some o) → Q (some v) { s with heap := h', toks := tk }) →
    wpAny C.M A (pyNext (.ref I)) (Drawn C A tgt I Q) False2 s
  done : ∀ (s : Shared) L ρ H (Q : Option Value → Shared → Prop), Rr n s.heap → St C L ρ H s.heap → Off C L H wr → Ok n H →
    (∀ h' tk, St C L ρ H h' → (∀ b o, b ∉ wr → s.heap.get? b = some o → h'.get? b = some o) → Q none { s with heap := h', toks := tk }) →
    wpAny C.M A (pyNext (.ref I)) (Drawn C A tgt I Q) False2 s
  self : ∀ i (s : Shared) (Q : Value → Shared → Prop), Rr i s.heap → Q (.ref I) s → wpAny C.M A (pyIter (.ref I)) Q False2 s

noncomputable def WIt (C : Cx) (A : Around) (env : Env) (e tgt : Expr) (ρ : Lo) (H : AH) (K : AH → Nat → (Nat → AH → Prop) → (Nat → AH → Dv → Prop) → Prop) : Prop :=
  ∀ s : Shared, St C env.locals ρ H s.heap → ∀ Q : Value → Shared → Prop,
    (∀ H1 n Ok P I wr Rr s', K H1 n Ok P → Itr C A I wr tgt n Rr Ok P → Rr 0 s'.heap → St C env.locals ρ H1 s'.heap → Step env.locals H H1 s s' → (∀ b ∈ wr, s.heap.get? b = none ∧ H1 b = none) → Q (.ref I) s') →
    wpAny C.M A (eval e env) (fun x s₁ => wpAny C.M A (pyIter x) Q False2 s₁) False2 s

section
variable {C : Cx} {A : Around} {env : Env} {ρ : Lo} {H : AH}

theorem St.offL {L : Addr} {h h' : Heap} {wr : List Addr} (x : St C L ρ H h) (hw : Off C L H wr) (k : ∀ b o, b ∉ wr → h.get? b = some o → h'.get? b = some o) : St C L ρ H h' where
  keep := fun b o e => k _ _ (fun q => by rw [(hw b q).2.1] at e; cases e) (x.keep b o e)
  rep := fun a o e => let ⟨c, e1, e2⟩ := x.rep a o e; ⟨c, k _ _ (fun q => by rw [(hw a q).1] at e; cases e) e1, e2⟩
  own := x.own
  loc := let ⟨m, ⟨o, es, ep, e1, r⟩, e2⟩ := x.loc; ⟨m, ⟨o, es, ep, k L o (fun q => (hw L q).2.2 rfl) e1, r⟩, e2⟩
  nl := x.nl
  bl := x.bl

theorem Step.offL {L : Addr} {H H' : AH} {s s2 : Shared} {h' : Heap} {tk : Nat} {wr : List Addr} (x : Step L H H' s s2) (hw : ∀ b ∈ wr, s.heap.get? b = none) (k : ∀ b o, b ∉ wr → s2.heap.get? b = some o → h'.get? b = some o) : Step L H H' s { s2 with heap := h', toks := tk } := by
  obtain ⟨m1, k1, n1, l1⟩ := x
  exact ⟨m1, fun b o e eb eL => k b o (fun q => by rw [hw b q] at e; cases e) (k1 b o e eb eL), n1, fun b o e => let ⟨o', e'⟩ := l1 b o e; ⟨o', k b o' (fun q => by rw [hw b q] at e; cases e) e'⟩⟩
/-! the loop itself -/
theorem forLoop_run {tgt : Expr} {it : Addr} {body : List Stmt} {R : Result → Shared → Prop} {s : Shared} (I : Nat → Shared → Prop)
    (turn : ∀ n s, I n s → wpAny C.M A (pyNext (.ref it)) (Drawn C A tgt it (fun r s₁ => match r with
      | none => R (.ok .next) s₁
      | some v => wpAny C.M A (PySem.assign tgt env v) (fun _ s₂ => wpAny C.M A (execs body env) (fun f s₃ => match f with
          | .next | .cont => ∃ m, m < n ∧ I m s₃
          | .brk => R (.ok .next) s₃
          | .ret v => R (.ok (.ret v)) s₃) False2 s₂) False2 s₁)) False2 s)
    (n : Nat) (h : I n s) : codeAny C.M A (.forLoop tgt (.ref it) body [] env) R s := by
  refine codeAny_loop' rfl I (fun n s hI => ?_) n h
  show wpAny _ _ ((forTurn tgt (.ref it) body [] env).onRaise (fun x => do noteFrame x env; theTreesLotGoes x)) _ _ s
  refine wpAny_noted ?_
  simp only [forTurn]
  refine wpAny_bind (wpAny_standAt (wpAny_bind (wpAny_onRaise (wpAny_mono (turn n s hI) (fun r s₁ h₁ => ?_) fun _ _ e => e.elim))))
  cases r with
  | none => exact wpAny_pure (.inr ⟨rfl, codeAny_block (wpAny_execs_nil h₁)⟩)
  | some v =>
    refine wpAny_bind (wpAny_mono h₁ (fun _ s₁' h₁' => ?_) fun _ _ e => e.elim)
    refine wpAny_bind (wpAny_mono h₁' (fun _ s₂ h₂ => wpAny_bind (wpAny_mono h₂ (fun f s₃ h₃ => ?_) fun _ _ e => e.elim)) fun _ _ e => e.elim)
    cases f with
    | next => exact wpAny_pure (.inl ⟨rfl, h₃⟩)
    | cont => exact wpAny_pure (.inl ⟨rfl, h₃⟩)
    | brk => exact wpAny_pure h₃
    | ret v => exact wpAny_pure h₃

theorem Off.step {L : Addr} {H H' : AH} {wr : List Addr} {s s' : Shared} (x : Off C L H wr) (hl : ∀ b ∈ wr, ∃ o, s.heap.get? b = some o) (y : Step L H H' s s') : Off C L H' wr := fun b hb =>
  ⟨let ⟨o, e⟩ := hl b hb; y.new b o e (x b hb).1, (x b hb).2⟩

theorem W1.for {tgt iter : Expr} {body : List Stmt} {pos : Pos} {Q : Fl → Lo → AH → Prop}
    (h : WIt C A env iter tgt ρ H (fun H1 n Ok P => ∃ Inv : Nat → Lo → AH → Prop, Inv 0 ρ H1 ∧
      (∀ i ρ1 H2, i < n → Inv i ρ1 H2 → Ok i H2 ∧ ∀ d, P i H2 d → Asg C A env tgt d ρ1 H2 (fun ρ2 H3 => WS C A env body ρ2 H3 (fun f ρ3 H4 => match f with
        | .next => Inv (i + 1) ρ3 H4
        | .cont => Inv (i + 1) ρ3 H4
        | .brk => Q .next ρ3 H4
        | .ret v => Q (.ret v) ρ3 H4))) ∧
      (∀ ρ1 H2, Inv n ρ1 H2 → Ok n H2 ∧ Q .next ρ1 H2)))
    (hs : ∀ x, foldedSetIterable iter env x = pure x := by intro _; rfl) : W1 C A env (.For tgt iter body [] pos) ρ H Q := fun s hst => by
  refine wpAny_For ?_ hs
  refine h s hst _ (fun H1 n Ok P I wr Rr s' ⟨Inv, h0, turn, fin⟩ it r0 a1 b1 hw => ?_)
  have hoff : Off C env.locals H1 wr := fun b hb => ⟨(hw b hb).2, (hst.fresh (hw b hb).1).2⟩
  refine forLoop_run (fun k s2 => ∃ i ρ2 H2, i ≤ n ∧ k = n - i ∧ St C env.locals ρ2 H2 s2.heap ∧ Step env.locals H H2 s s2 ∧ Rr i s2.heap ∧ Off C env.locals H2 wr ∧ Inv i ρ2 H2) ?_ n ⟨0, ρ, H1, Nat.zero_le _, rfl, a1, b1, r0, hoff, h0⟩
  rintro k s2 ⟨i, ρ2, H2, hi, rfl, a2, b2, r2, o2, i2⟩
  by_cases hlt : i < n
  · obtain ⟨ok, t⟩ := turn i ρ2 H2 hlt i2
    refine it.item i s2 env.locals ρ2 H2 _ hlt r2 a2 o2 ok fun v d h' tk hP hd a3 r3 k3 => ?_
    have b3 : Step env.locals H H2 s { s2 with heap := h', toks := tk } := b2.offL (fun b hb => (hw b hb).1) k3
    refine wpAny_mono (t d hP { s2 with heap := h', toks := tk } v a3 hd) (fun _ s4 ⟨ρ4, H4, a4, b4, c4⟩ => ?_) fun _ _ e => e
    have b14 := b3.trans b4 (fun _ _ => a4.nl)
    have r4 : Rr (i + 1) s4.heap := it.frame _ _ _ r3 fun b hb o e => b4.kept b o e (o2 b hb).1 (o2 b hb).2.2
    have o4 : Off C env.locals H4 wr := o2.step (it.live _ _ r3) b4
    refine wpAny_mono (c4 s4 a4) (fun f s5 ⟨ρ5, H5, a5, b5, c5⟩ => ?_) fun _ _ e => e
    have b15 := b14.trans b5 (fun _ _ => a5.nl)
    have r5 : Rr (i + 1) s5.heap := it.frame _ _ _ r4 fun b hb o e => b5.kept b o e (o4 b hb).1 (o4 b hb).2.2
    have o5 : Off C env.locals H5 wr := o4.step (it.live _ _ r4) b5
    cases f with
    | next => exact ⟨n - (i + 1), by omega, i + 1, ρ5, H5, hlt, rfl, a5, b15, r5, o5, c5⟩
    | cont => exact ⟨n - (i + 1), by omega, i + 1, ρ5, H5, hlt, rfl, a5, b15, r5, o5, c5⟩
    | brk => exact ⟨ρ5, H5, a5, b15, c5⟩
    | ret v => exact ⟨ρ5, H5, a5, b15, c5⟩
  · have hin : i = n := by lia
    subst hin
    obtain ⟨ok, q⟩ := fin ρ2 H2 i2
    exact it.done s2 env.locals ρ2 H2 _ r2 a2 o2 ok fun h' tk a3 k3 => ⟨ρ2, H2, a3, b2.offL (fun b hb => (hw b hb).1) k3, q⟩

/-! ## lists, ranges -/
theorem letOwned_list {tgt : Expr} {I l : Addr} {i : Nat} {v : Value} {s : Shared} {Q : Unit → Shared → Prop} (h : s.heap.IsListIter I l i) (q : Q () s) : wpAny C.M A (letOwnedTupleGo tgt (.ref I) v) Q False2 s := by
  obtain ⟨o, ho, hc, hd⟩ := h
  cases tgt <;> first | exact wpAny_pure q | skip
  all_goals
    cases v <;> first | exact wpAny_pure q | skip
    refine wpAny_bind (wpAny_load ho ?_)
    rw [hc, hd]
    show wpAny _ _ (if _ then _ else _) _ _ _
    rw [if_neg (by simp)]
    exact wpAny_pure q

theorem Itr.list {I l : Addr} {tgt : Expr} {ob : O} {vs : List V} (hh : A.handled = none) (hne : l ≠ I) (hl : lst ob = some vs) :
    Itr C A I [I] tgt vs.length (fun i h => h.IsListIter I l i) (fun _ H => H l = some ob) (fun i H d => ∃ v, vs[i]? = some v ∧ d = .one v) where
  live := fun i h ⟨o, ho, _⟩ b hb => by rw [List.mem_singleton.mp hb]; exact ⟨o, ho⟩
  frame := fun i h h' ⟨o, ho, r⟩ k => ⟨o, k I (List.mem_singleton.mpr rfl) o ho, r⟩
  item := fun i s L ρ H Q hi hr hs hw hok hq => by
    obtain ⟨xs, h1, h2, h3⟩ := hs.list hok hl
    obtain ⟨x, x1, x2⟩ := arr_get (i := i) (v := vs[i]) h2 (by simp [hi])
    refine wpAny_pyNext_list_item hr h1 x1 fun h' hit' hs' => ?_
    refine letOwned_list hit' ?_
    have k : ∀ b o, b ∉ [I] → s.heap.get? b = some o → h'.get? b = some o := fun b o hb e => hs'.extBut b o (fun q => hb (by simp [q])) e
    exact hq x (.one vs[i]) h' s.toks ⟨_, by simp [hi], rfl⟩ x2 (hs.offL hw k) hit' k
  done := fun s L ρ H Q hr hs hw hok hq => by
    obtain ⟨xs, h1, h2, h3⟩ := hs.list hok hl
    refine wpAny_pyNext_list_end hh hr h1 (by rw [← arr_size h2]; simp) fun h' he' => ?_
    have k : ∀ b o, b ∉ [I] → s.heap.get? b = some o → h'.get? b = some o := fun b o hb e => he' b o (fun q => hb (by simp [q])) e
    exact hq h' s.toks (hs.offL hw k) k
  self := fun i s Q hr hq => wpAny_pyIter_listiter hr hq

theorem WIt.list {e tgt : Expr} {K : AH → Nat → (Nat → AH → Prop) → (Nat → AH → Dv → Prop) → Prop} (F : Fx C A env)
    (h : WE C A env e ρ H (fun v H1 => ∃ l ob vs, v = .ref l ∧ H1 l = some ob ∧ lst ob = some vs ∧ K H1 vs.length (fun _ H2 => H2 l = some ob) (fun i _ d => ∃ v, vs[i]? = some v ∧ d = .one v))) : WIt C A env e tgt ρ H K := fun s hs Q hq => by
  refine wpAny_mono (h s hs) (fun x s1 ⟨ρ1, H1, a1, b1, c1, l, ob, vs, d1, d2, d3, d4⟩ => ?_) fun _ _ e => e
  subst c1
  cases ab_ref d1
  obtain ⟨xs, h1, h2, h3⟩ := a1.list d2 d3
  refine wpAny_pyIter_list h1 ?_
  have hn := get?_size_none s1.heap
  have hne : l ≠ s1.heap.objs.size := fun q => by obtain ⟨o, ho, _⟩ := h1; rw [q, hn] at ho; cases ho
  have k : ∀ b o, s1.heap.get? b = some o → (s1.heap.push { cls := .type "list_iterator", data := .fields #[.ref l, .int 0 0] }).get? b = some o := fun b o e => Heap.get?_push_of_some _ e
  refine hq H1 _ _ _ s1.heap.objs.size [s1.heap.objs.size] _ _ d4 (Itr.list F.hh hne d3) ⟨_, Heap.get?_push_size _ rfl, rfl, rfl⟩ (a1.ext k) (b1.trans (Step.ext (tk := s1.toks) k) (fun _ _ => a1.nl)) fun b hb => ?_
  rw [List.mem_singleton.mp hb]
  refine ⟨?_, (a1.fresh hn).1⟩
  cases e : s.heap.get? s1.heap.objs.size with
  | none => rfl
  | some o =>
    obtain ⟨o', e'⟩ := b1.live _ o e
    rw [hn] at e'; cases e'
end
end Mine

namespace Mine
open PySem PySem.W PyProof.Rows

section
variable {C : Cx} {A : Around} {env : Env} {ρ : Lo} {H : AH}

theorem letOwned_range {tgt : Expr} {I : Addr} {x left step : Int} {i : Int} {t : Tok} {s : Shared} {Q : Unit → Shared → Prop} (q : Q () s) : wpAny C.M A (letOwnedTupleGo tgt (.ref I) (.int i t)) Q False2 s := by
  cases tgt <;> exact wpAny_pure q

theorem Itr.range {I : Addr} {tgt : Expr} {a c : Int} {n : Nat} (hh : A.handled = none) :
    Itr C A I [I] tgt n (fun i h => IsRangeIter h I (a + (i : Nat) * c) ((n : Int) - (i : Nat)) c) (fun _ _ => True) (fun i H d => d = .one (.int (a + (i : Nat) * c))) where
  live := fun i h ho b hb => by rw [List.mem_singleton.mp hb]; exact ⟨_, ho⟩
  frame := fun i h h' ho k => k I (List.mem_singleton.mpr rfl) _ ho
  item := fun i s L ρ H Q hi hr hs hw hok hq => by
    refine wpAny_pyNext_range_item hr (by lia) fun h' hit' hs' => ?_
    refine letOwned_range (x := 0) (left := 0) (step := 0) ?_
    have k : ∀ b o, b ∉ [I] → s.heap.get? b = some o → h'.get? b = some o := fun b o hb e => hs'.extBut b o (fun q => hb (by simp [q])) e
    refine hq (.int (a + (i : Nat) * c) s.toks) _ h' (s.toks + 1) rfl rfl (hs.offL hw k) ?_ k
    have e1 : a + ((i + 1 : Nat) : Int) * c = a + (i : Int) * c + c := by push_cast; rw [Int.add_mul, Int.one_mul, Int.add_assoc]
    have e2 : (n : Int) - ((i + 1 : Nat) : Int) = (n : Int) - (i : Int) - 1 := by push_cast; lia
    rw [e1, e2]; exact hit'
  done := fun s L ρ H Q hr hs hw hok hq => by
    refine wpAny_pyNext_range_end hh hr (by lia) fun h' he' => ?_
    have k : ∀ b o, b ∉ [I] → s.heap.get? b = some o → h'.get? b = some o := fun b o hb e => he' b o (fun q => hb (by simp [q])) e
    exact hq h' s.toks (hs.offL hw k) k
  self := fun i s Q hr hq => wpAny_pyIter_rangeiter hr hq

/-- behind the call of range -/
theorem WIt.range_core {r : Addr} {tgt : Expr} {a b c : Int} {t u v : Tok} {n : Nat} {s s1 : Shared} {H1 : AH} {K : AH → Nat → (Nat → AH → Prop) → (Nat → AH → Dv → Prop) → Prop} (hh : A.handled = none)
    (hr : IsRange s1.heap r a b c t u v) (hsm : Builtin.Range.small a b c = true) (hn : Builtin.Range.rangeSize a b c = (n : Int)) (a1 : St C env.locals ρ H1 s1.heap) (b1 : Step env.locals H H1 s s1)
    (hK : K H1 n (fun _ _ => True) (fun i H d => d = .one (.int (a + (i : Nat) * c)))) {Q : Value → Shared → Prop}
    (hq : ∀ H1 n Ok P I wr Rr s', K H1 n Ok P → Itr C A I wr tgt n Rr Ok P → Rr 0 s'.heap → St C env.locals ρ H1 s'.heap → Step env.locals H H1 s s' → (∀ b ∈ wr, s.heap.get? b = none ∧ H1 b = none) → Q (.ref I) s') :
    wpAny C.M A (pyIter (.ref r)) Q False2 s1 := by
  refine wpAny_pyIter_range hr hsm ?_
  have hnn := get?_size_none s1.heap
  have k : ∀ b' o, s1.heap.get? b' = some o → (s1.heap.push { cls := .type "range_iterator", data := .fields #[rawInt a, rawInt (Builtin.Range.rangeSize a b c), rawInt c] }).get? b' = some o := fun b' o e => Heap.get?_push_of_some _ e
  refine hq H1 n _ _ s1.heap.objs.size [s1.heap.objs.size] _ _ hK (Itr.range (a := a) (c := c) hh) ?_ (a1.ext k) (b1.trans (Step.ext (tk := s1.toks) k) (fun _ _ => a1.nl)) fun b hb => ?_
  · have := Heap.get?_push_size s1.heap (o := { cls := .type "range_iterator", data := .fields #[rawInt a, rawInt (Builtin.Range.rangeSize a b c), rawInt c] }) rfl
    rw [hn] at this
    have e : a + ((0 : Nat) : Int) * c = a := by simp
    have e' : (n : Int) - ((0 : Nat) : Int) = n := by simp
    show IsRangeIter _ _ (a + ((0 : Nat) : Int) * c) ((n : Int) - ((0 : Nat) : Int)) c
    rw [e, e', hn]; exact this
  · rw [List.mem_singleton.mp hb]
    refine ⟨?_, (a1.fresh hnn).1⟩
    cases e : s.heap.get? s1.heap.objs.size with
    | none => rfl
    | some o =>
      obtain ⟨o', e'⟩ := b1.live _ o e
      rw [hnn] at e'; cases e'

theorem WIt.range1 {e tgt : Expr} {id : Str} {p pos : Pos} {b : Int} {K : AH → Nat → (Nat → AH → Prop) → (Nat → AH → Dv → Prop) → Prop} (F : Fx C A env) (hf : Ev C A env ρ H (.Name id p) (.ty "range")) (he : Ev C A env ρ H e (.int b)) (hb : -(2 ^ 62) ≤ b) (hb' : b < 2 ^ 62)
    (hK : K H b.toNat (fun _ _ => True) (fun i _ d => d = .one (.int i))) (hn : noStar [e] = true := by rfl) : WIt C A env (.Call (.Name id p) [e] [] pos) tgt ρ H K := fun s hs Q hq => by
  refine wpAny_Call_Name_kw (wpAny_mono (hf s hs) (fun f s1 ⟨ρ1, H1, a1, b1, c1, c2, c3⟩ => ?_) fun _ _ e => e)
  subst c1 c2
  cases ab_ty c3
  refine PySem.callWith_type (backTo_any hn) (wpAny_mono (evalArgs_run (ks := []) (Q := fun vs kv H2 => vs = [.int b] ∧ kv = [] ∧ H2 = H1) hn rfl (WEs.of (.cons he .nil) ⟨rfl, rfl, rfl⟩) s1 a1) (fun x s2 ⟨ρ2, H2, a2, b2, c2, d1, d2, d3⟩ => ?_) fun _ _ e => e)
  subst c2 d3
  have hkw : x.kw = [] := by simpa using d2
  obtain ⟨y, ey, ey'⟩ := vals1 d1
  obtain ⟨t, rfl⟩ := ab_int ey'
  rw [hkw, ey]
  have k : ∀ b' o, s2.heap.get? b' = some o → (s2.heap.push { cls := .type "range", data := .fields #[.int 0 s2.toks, .int b t, .int 1 (s2.toks + 1)] }).get? b' = some o := fun b' o e => Heap.get?_push_of_some _ e
  refine call_range_1 (WIt.range_core (n := b.toNat) F.hh (IsRange.new _ _ _ _ _ _ _) (small_one (by decide) (by decide) hb hb') (by rw [rangeSize_nat]; simp) (a2.ext k) ((b1.trans b2 (fun _ _ => a2.nl)).trans (Step.ext (tk := s2.toks + 1 + 1) k) (fun _ _ => a2.nl)) ?_ hq)
  have e : (fun (i : Nat) (H : AH) (d : Dv) => d = Dv.one (V.int (0 + (i : Int) * 1))) = fun i _ d => d = .one (.int i) := by funext i _ d; simp
  rw [e]; exact hK
end
end Mine

namespace Mine
open PySem PySem.W PyProof.Rows

section
variable {C : Cx} {A : Around} {env : Env} {ρ : Lo} {H : AH}

/-! ## tests of a clause -/
noncomputable def WIf (C : Cx) (A : Around) (env : Env) : List Expr → Lo → AH → (Bool → AH → Prop) → Prop
  | [], _, H, Q => Q true H
  | c :: cs, ρ, H, Q => WT C A env c ρ H (fun b H1 => (b = true → WIf C A env cs ρ H1 Q) ∧ (b = false → Q false H1))
theorem ifs_false {env : Env} : ∀ (ifs : List Expr), (forIn ifs false fun c r => if r = true then do let ok ← isTrue c env (eval c env); pure (ForInStep.yield ok) else pure (ForInStep.yield r) : Sem Bool) = pure false
  | [] => rfl
  | c :: cs => by
    rw [List.forIn_cons]
    show (if false = true then _ else pure (ForInStep.yield false) : Sem (ForInStep Bool)) >>= _ = _
    rw [if_neg Bool.false_ne_true]
    exact ifs_false cs
theorem WIf.run : ∀ {ifs : List Expr} {ρ : Lo} {H : AH} {Q : Bool → AH → Prop}, WIf C A env ifs ρ H Q →
    W C A env.locals (forIn ifs true fun c r => if r = true then do let ok ← isTrue c env (eval c env); pure (ForInStep.yield ok) else pure (ForInStep.yield r)) ρ H (fun b ρ' H' => ρ' = ρ ∧ Q b H')
  | [], ρ, H, Q, h => W.pure ⟨rfl, h⟩
  | c :: cs, ρ, H, Q, h => by
    rw [List.forIn_cons]
    refine W.bind (W.bind (W.mono h ?_))
    rintro b ρ1 H1 ⟨rfl, h1, h2⟩
    refine W.pure ?_
    cases b with
    | true => exact WIf.run (h1 rfl)
    | false =>
      show W C A env.locals (forIn cs false _) ρ1 H1 _
      rw [ifs_false]
      exact W.pure ⟨rfl, h2 rfl⟩

/-! ## comprehensions -/
structure StepX (ex : List Addr) (L : Addr) (H H' : AH) (s s' : Shared) : Prop where
  same : s'.gens = s.gens ∧ s'.os = s.os
  kept : ∀ b o, b ∉ ex → s.heap.get? b = some o → H b = none → b ≠ L → s'.heap.get? b = some o
  new : ∀ b o, b ∉ ex → s.heap.get? b = some o → H b = none → H' b = none
  live : ∀ b o, b ∉ ex → s.heap.get? b = some o → ∃ o', s'.heap.get? b = some o'
theorem Step.toX {ex : List Addr} {L : Addr} {H H' : AH} {s s' : Shared} (x : Step L H H' s s') : StepX ex L H H' s s' := ⟨x.same, fun b o _ e eb eL => x.kept b o e eb eL, fun b o _ => x.new b o, fun b o _ => x.live b o⟩
theorem StepX.trans {ex : List Addr} {L : Addr} {H H' H'' : AH} {s s' s'' : Shared} (x : StepX ex L H H' s s') (y : StepX ex L H' H'' s' s'') : StepX ex L H H'' s s'' := by
  obtain ⟨m1, k1, n1, l1⟩ := x
  obtain ⟨m2, k2, n2, l2⟩ := y
  exact ⟨⟨m2.1.trans m1.1, m2.2.trans m1.2⟩, fun b o hb e eH eL => k2 b o hb (k1 b o hb e eH eL) (n1 b o hb e eH) eL, fun b o hb e eH => let ⟨o', e'⟩ := l1 b o hb e; n2 b o' hb e' (n1 b o hb e eH), fun b o hb e => let ⟨o', e'⟩ := l1 b o hb e; l2 b o' hb e'⟩
/-- changes at untracked places -/
theorem StepX.off {ex : List Addr} {L : Addr} {H : AH} {s : Shared} {h' : Heap} {tk : Nat} (k : ∀ b o, b ∉ ex → s.heap.get? b = some o → h'.get? b = some o) : StepX ex L H H s { s with heap := h', toks := tk } :=
  ⟨⟨rfl, rfl⟩, fun b o hb e _ _ => k b o hb e, fun _ _ _ _ e => e, fun b o hb e => ⟨o, k b o hb e⟩⟩
theorem StepX.mono {ex ex' : List Addr} {L : Addr} {H H' : AH} {s s' : Shared} (x : StepX ex L H H' s s') (h : ∀ b ∈ ex, ∀ o, s.heap.get? b = some o → b ∈ ex') : StepX ex' L H H' s s' :=
  ⟨x.same, fun b o hb e eb eL => x.kept b o (fun q => hb (h b q o e)) e eb eL, fun b o hb e => x.new b o (fun q => hb (h b q o e)) e, fun b o hb e => x.live b o (fun q => hb (h b q o e)) e⟩

/-- the accumulator, not tracked -/
structure Acc (C : Cx) (L : Addr) (D : Addr) (H : AH) (ys : List V) (h : Heap) : Prop where
  off : H D = none ∧ C.base.get? D = none ∧ D ≠ L
  arr : ∃ xs : Array Value, h.PlainList D xs ∧ xs.toList.map ab = ys
  sz : ys.length ≤ sizeLine
theorem Acc.step {L D : Addr} {H H' : AH} {ys : List V} {s s' : Shared} (x : Acc C L D H ys s.heap) (y : Step L H H' s s') : Acc C L D H' ys s'.heap := by
  obtain ⟨o, ⟨xs, ⟨n, hp⟩, e⟩, z⟩ := x
  exact ⟨⟨y.new _ _ hp o.1, o.2⟩, ⟨xs, ⟨n, y.kept _ _ hp o.1 o.2.2⟩, e⟩, z⟩

noncomputable def CompR (C : Cx) (L D : Addr) (ex : List Addr) (H : AH) (s : Shared) (Q : Lo → AH → List V → Prop) (r : Result) (s' : Shared) : Prop :=
  match r with
  | .ok .next => ∃ ρ' H' zs, St C L ρ' H' s'.heap ∧ Acc C L D H' zs s'.heap ∧ StepX ex L H H' s s' ∧ Q ρ' H' zs
  | _ => False

/-- what is done for each item of the clauses behind -/
noncomputable def CompI (C : Cx) (A : Around) (env : Env) (elt : Expr) : List Comprehension → Lo → AH → List V → (Lo → AH → List V → Prop) → Prop
  | [], ρ, H, ys, Q => WE C A env elt ρ H (fun v H1 => ys.length < sizeLine ∧ Q ρ H1 (ys ++ [v]))
  | ⟨tgt, iter, ifs, _⟩ :: gs, ρ, H, ys, Q => WIt C A env iter tgt ρ H (fun H1 n Ok P => ∃ Inv : Nat → Lo → AH → List V → Prop, Inv 0 ρ H1 ys ∧
      (∀ i ρ1 H2 zs, i < n → Inv i ρ1 H2 zs → Ok i H2 ∧ ∀ d, P i H2 d → Asg C A env tgt d ρ1 H2 (fun ρ2 H3 => WIf C A env ifs ρ2 H3 (fun b H4 => (b = true → CompI C A env elt gs ρ2 H4 zs (fun ρ5 H5 us => Inv (i + 1) ρ5 H5 us)) ∧ (b = false → Inv (i + 1) ρ2 H4 zs)))) ∧
      (∀ ρ1 H2 zs, Inv n ρ1 H2 zs → Ok n H2 ∧ Q ρ1 H2 zs))

/-- the loop of one clause, given what is done inside -/
noncomputable def LoopOk (C : Cx) (A : Around) (env : Env) (elt tgt : Expr) (ifs : List Expr) (gs : List Comprehension) (H1 : AH) (n : Nat) (Ok : Nat → AH → Prop) (P : Nat → AH → Dv → Prop) (ρ : Lo) (ys : List V) (Q : Lo → AH → List V → Prop) : Prop :=
  ∃ Inv : Nat → Lo → AH → List V → Prop, Inv 0 ρ H1 ys ∧
      (∀ i ρ1 H2 zs, i < n → Inv i ρ1 H2 zs → Ok i H2 ∧ ∀ d, P i H2 d → Asg C A env tgt d ρ1 H2 (fun ρ2 H3 => WIf C A env ifs ρ2 H3 (fun b H4 => (b = true → CompI C A env elt gs ρ2 H4 zs (fun ρ5 H5 us => Inv (i + 1) ρ5 H5 us)) ∧ (b = false → Inv (i + 1) ρ2 H4 zs)))) ∧
      (∀ ρ1 H2 zs, Inv n ρ1 H2 zs → Ok n H2 ∧ Q ρ1 H2 zs)

theorem compTurn_last (elt : Expr) (gens : List Comprehension) (scope : Scope) (pos : Pos) (d : Nat) (tgt iter : Expr) (ifs : List Expr) (it acc : Value) (cenv : Env) (hd : gens[d]? = some ⟨tgt, iter, ifs, 0⟩) (hl : gens[d + 1]? = none) :
    compTurn (.ListComp elt gens scope pos) d it acc cenv = (standAt iter.pos >>= fun _ => pyNext it >>= fun r => match r with
      | none => pure (.done .next)
      | some v => letOwnedTupleGo tgt it v >>= fun _ => PySem.assign tgt cenv v >>= fun _ =>
          (forIn ifs true fun c r => if r = true then do let ok ← isTrue c cenv (eval c cenv); pure (ForInStep.yield ok) else pure (ForInStep.yield r)) >>= fun ok =>
            if ok = true then ((eval elt cenv >>= fun x => call (.builtin "list.append") [acc, x] >>= fun _ => pure PUnit.unit) >>= fun _ => again (.compLoop (.ListComp elt gens scope pos) d it acc cenv)) else again (.compLoop (.ListComp elt gens scope pos) d it acc cenv)) := by
  unfold compTurn
  simp only [hd, hl]
  rfl
theorem compTurn_more (elt : Expr) (gens : List Comprehension) (scope : Scope) (pos : Pos) (d : Nat) (tgt iter tgt' iter' : Expr) (ifs ifs' : List Expr) (it acc : Value) (cenv : Env) (hd : gens[d]? = some ⟨tgt, iter, ifs, 0⟩) (hl : gens[d + 1]? = some ⟨tgt', iter', ifs', 0⟩) :
    compTurn (.ListComp elt gens scope pos) d it acc cenv = (standAt iter.pos >>= fun _ => pyNext it >>= fun r => match r with
      | none => pure (.done .next)
      | some v => letOwnedTupleGo tgt it v >>= fun _ => PySem.assign tgt cenv v >>= fun _ =>
          (forIn ifs true fun c r => if r = true then do let ok ← isTrue c cenv (eval c cenv); pure (ForInStep.yield ok) else pure (ForInStep.yield r)) >>= fun ok =>
            if ok = true then (eval iter' cenv >>= fun x => standAt iter'.pos >>= fun _ => foldedSetIterable iter' cenv x >>= fun x => holding [x] (pyIter x) >>= fun it' => runOwn (.compStart (.ListComp elt gens scope pos) (d + 1) it' acc cenv) cenv >>= fun _ => again (.compLoop (.ListComp elt gens scope pos) d it acc cenv)) else again (.compLoop (.ListComp elt gens scope pos) d it acc cenv)) := by
  unfold compTurn
  simp only [hd, hl]
  rfl

theorem Off.stepX {L : Addr} {H H' : AH} {wr ex : List Addr} {s s' : Shared} (x : Off C L H wr) (hl : ∀ b ∈ wr, ∃ o, s.heap.get? b = some o) (y : StepX ex L H H' s s') (hex : ∀ b ∈ wr, b ∉ ex) : Off C L H' wr := fun b hb =>
  ⟨let ⟨o, e⟩ := hl b hb; y.new b o (hex b hb) e (x b hb).1, (x b hb).2⟩

noncomputable abbrev ifsT (ifs : List Expr) (env : Env) : Sem Bool := forIn ifs true fun c r => if r = true then do let ok ← isTrue c env (eval c env); pure (ForInStep.yield ok) else pure (ForInStep.yield r)
noncomputable def TurnP (C : Cx) (A : Around) (env : Env) (tgt : Expr) (ifs : List Expr) (I : Addr) (fin : Shared → Prop) (Inn : Shared → Prop) (K : Shared → Prop) : Option Value → Shared → Prop :=
  Drawn C A tgt I (fun r s₁ => match r with
    | none => fin s₁
    | some v => wpAny C.M A (PySem.assign tgt env v) (fun _ s₂ => wpAny C.M A (ifsT ifs env) (fun ok s₃ => (ok = true → Inn s₃) ∧ (ok = false → K s₃)) False2 s₂) False2 s₁)
noncomputable def InnLast (C : Cx) (A : Around) (env : Env) (elt : Expr) (D : Addr) (K : Shared → Prop) (s : Shared) : Prop :=
  wpAny C.M A (eval elt env) (fun x s₄ => wpAny C.M A (call (.builtin "list.append") [.ref D, x]) (fun _ s₅ => K s₅) False2 s₄) False2 s
noncomputable def InnMore (C : Cx) (A : Around) (env : Env) (e iter : Expr) (d : Nat) (D : Addr) (K : Shared → Prop) (s : Shared) : Prop :=
  wpAny C.M A (eval iter env) (fun x s₄ => wpAny C.M A (pyIter x) (fun it s₅ => codeAny C.M A (.compStart e d it (.ref D) env) (fun r s₆ => match r with | .ok _ => K s₆ | .error _ => False) s₅) False2 s₄) False2 s

theorem compLoop_last {elt : Expr} {gens : List Comprehension} {scope : Scope} {pos : Pos} {d : Nat} {tgt iter : Expr} {ifs : List Expr} {it D : Addr} {R : Result → Shared → Prop} {s : Shared} (hd : gens[d]? = some ⟨tgt, iter, ifs, 0⟩) (hl : gens[d + 1]? = none) (I : Nat → Shared → Prop)
    (turn : ∀ n s, I n s → wpAny C.M A (pyNext (.ref it)) (TurnP C A env tgt ifs it (R (.ok .next)) (InnLast C A env elt D (fun s' => ∃ m, m < n ∧ I m s')) (fun s' => ∃ m, m < n ∧ I m s')) False2 s) (n : Nat) (h : I n s) :
    codeAny C.M A (.compLoop (.ListComp elt gens scope pos) d (.ref it) (.ref D) env) R s := by
  refine codeAny_loop rfl I (fun n s hI => ?_) n h
  show wpAny _ A ((compTurn (.ListComp elt gens scope pos) d (.ref it) (.ref D) env).onRaise (fun x => do noteFrame x env; theTreesLotGoes x)) _ _ s
  refine wpAny_noted ?_
  rw [compTurn_last elt gens scope pos d tgt iter ifs _ _ _ hd hl]
  refine wpAny_bind (wpAny_standAt (wpAny_bind (wpAny_mono (turn n s hI) (fun r s₁ h₁ => ?_) fun _ _ e => e.elim)))
  cases r with
  | none => exact wpAny_pure h₁
  | some v =>
    refine wpAny_bind (wpAny_mono h₁ (fun _ s₂ h₂ => ?_) fun _ _ e => e.elim)
    refine wpAny_bind (wpAny_mono h₂ (fun _ s₃ h₃ => ?_) fun _ _ e => e.elim)
    refine wpAny_bind (wpAny_mono h₃ (fun ok s₄ h₄ => ?_) fun _ _ e => e.elim)
    cases ok with
    | false => exact wpAny_pure ⟨rfl, h₄.2 rfl⟩
    | true => exact wpAny_bind (wpAny_bind (wpAny_mono (h₄.1 rfl) (fun x s₅ h₅ => wpAny_bind (wpAny_mono h₅ (fun _ s₆ h₆ => wpAny_pure (wpAny_pure ⟨rfl, h₆⟩)) fun _ _ e => e.elim)) fun _ _ e => e.elim))
theorem compLoop_more {elt : Expr} {gens : List Comprehension} {scope : Scope} {pos : Pos} {d : Nat} {tgt iter tgt' iter' : Expr} {ifs ifs' : List Expr} {it D : Addr} {R : Result → Shared → Prop} {s : Shared} (hd : gens[d]? = some ⟨tgt, iter, ifs, 0⟩) (hl : gens[d + 1]? = some ⟨tgt', iter', ifs', 0⟩) (hs : ∀ x, foldedSetIterable iter' env x = pure x) (I : Nat → Shared → Prop)
    (turn : ∀ n s, I n s → wpAny C.M A (pyNext (.ref it)) (TurnP C A env tgt ifs it (R (.ok .next)) (InnMore C A env (.ListComp elt gens scope pos) iter' (d + 1) D (fun s' => ∃ m, m < n ∧ I m s')) (fun s' => ∃ m, m < n ∧ I m s')) False2 s) (n : Nat) (h : I n s) :
    codeAny C.M A (.compLoop (.ListComp elt gens scope pos) d (.ref it) (.ref D) env) R s := by
  refine codeAny_loop rfl I (fun n s hI => ?_) n h
  show wpAny _ A ((compTurn (.ListComp elt gens scope pos) d (.ref it) (.ref D) env).onRaise (fun x => do noteFrame x env; theTreesLotGoes x)) _ _ s
  refine wpAny_noted ?_
  rw [compTurn_more elt gens scope pos d tgt iter tgt' iter' ifs ifs' _ _ _ hd hl]
  refine wpAny_bind (wpAny_standAt (wpAny_bind (wpAny_mono (turn n s hI) (fun r s₁ h₁ => ?_) fun _ _ e => e.elim)))
  cases r with
  | none => exact wpAny_pure h₁
  | some v =>
    refine wpAny_bind (wpAny_mono h₁ (fun _ s₂ h₂ => ?_) fun _ _ e => e.elim)
    refine wpAny_bind (wpAny_mono h₂ (fun _ s₃ h₃ => ?_) fun _ _ e => e.elim)
    refine wpAny_bind (wpAny_mono h₃ (fun ok s₄ h₄ => ?_) fun _ _ e => e.elim)
    cases ok with
    | false => exact wpAny_pure ⟨rfl, h₄.2 rfl⟩
    | true =>
      refine wpAny_bind (wpAny_mono (h₄.1 rfl) (fun x s₅ h₅ => wpAny_bind (wpAny_standAt ?_)) fun _ _ e => e.elim)
      rw [hs]
      refine wpAny_bind (wpAny_pure (wpAny_bind (wpAny_holding (wpAny_mono h₅ (fun it' s₆ h₆ => ?_) fun _ _ e => e.elim))))
      refine wpAny_bind ?_
      unfold runOwn
      refine wpAny_onRaise (wpAny_run (codeAny_mono h₆ fun r s' hr => ?_))
      cases r with
      | ok f => exact wpAny_pure ⟨rfl, hr⟩
      | error e => exact hr.elim

theorem compStart_run {elt : Expr} {gens : List Comprehension} {scope : Scope} {pos : Pos} {d : Nat} {tgt iter : Expr} {ifs : List Expr} {it acc : Value} {R : Result → Shared → Prop} {s : Shared} (hd : gens[d]? = some ⟨tgt, iter, ifs, 0⟩)
    (h0 : codeAny C.M A (.compLoop (.ListComp elt gens scope pos) d it acc env) R s)
    (h : wpAny C.M A (pyIter it) (fun it' s' => codeAny C.M A (.compLoop (.ListComp elt gens scope pos) d it' acc env) R s') False2 s) :
    codeAny C.M A (.compStart (.ListComp elt gens scope pos) d it acc env) R s := by
  refine codeAny_of_tree ?_
  show wpAny _ _ ((compStart (.ListComp elt gens scope pos) d it acc env).onRaise (fun x => do noteFrame x env; standAt theWindowsPlace)) _ _ s
  refine wpAny_notedAt ?_
  unfold compStart
  have hcl : (clausesOf (.ListComp elt gens scope pos))[d]? = some ⟨tgt, iter, ifs, 0⟩ := hd
  rw [hcl]
  show wpAny _ _ (ask >>= _) _ _ s
  refine wpAny_bind (wpAny_askSetting (wpAny_ite ?_))
  split
  · exact wpAny_pure (And.intro rfl h0)
  · exact wpAny_bind (wpAny_rule (wpAny_bind (wpAny_standAt (wpAny_bind (wpAny_mono h (fun it' s' h' => wpAny_pure (And.intro rfl h')) fun _ _ x => x.elim)))))

section
variable {elt tgt : Expr} {ifs : List Expr} {gs : List Comprehension} {I D : Addr} {wr : List Addr} {n : Nat} {Rr : Nat → Heap → Prop} {Ok : Nat → AH → Prop} {P : Nat → AH → Dv → Prop} {Inv : Nat → Lo → AH → List V → Prop} {s : Shared} {Q : Lo → AH → List V → Prop}
noncomputable def CSt (C : Cx) (env : Env) (D : Addr) (wr : List Addr) (n : Nat) (Rr : Nat → Heap → Prop) (Inv : Nat → Lo → AH → List V → Prop) (H : AH) (s : Shared) (k : Nat) (s2 : Shared) : Prop :=
  ∃ i ρ2 H2 zs, i ≤ n ∧ k = n - i ∧ St C env.locals ρ2 H2 s2.heap ∧ StepX (D :: wr) env.locals H H2 s s2 ∧ Rr i s2.heap ∧ Off C env.locals H2 wr ∧ Acc C env.locals D H2 zs s2.heap ∧ Inv i ρ2 H2 zs
theorem comp_turns (Inn : (Shared → Prop) → Shared → Prop)
    (hInn : ∀ {ρ H zs Qi} {K : Shared → Prop} {s : Shared}, CompI C A env elt gs ρ H zs Qi → St C env.locals ρ H s.heap → Acc C env.locals D H zs s.heap →
      (∀ ρ5 H5 us s5, St C env.locals ρ5 H5 s5.heap → Acc C env.locals D H5 us s5.heap → StepX [D] env.locals H H5 s s5 → Qi ρ5 H5 us → K s5) → Inn K s)
    (it : Itr C A I wr tgt n Rr Ok P) (hDw : D ∉ wr)
    (turn : ∀ i ρ1 H2 zs, i < n → Inv i ρ1 H2 zs → Ok i H2 ∧ ∀ d, P i H2 d → Asg C A env tgt d ρ1 H2 (fun ρ2 H3 => WIf C A env ifs ρ2 H3 (fun b H4 => (b = true → CompI C A env elt gs ρ2 H4 zs (fun ρ5 H5 us => Inv (i + 1) ρ5 H5 us)) ∧ (b = false → Inv (i + 1) ρ2 H4 zs))))
    (fin : ∀ ρ1 H2 zs, Inv n ρ1 H2 zs → Ok n H2 ∧ Q ρ1 H2 zs) (k : Nat) (s2 : Shared) (hI : CSt C env D wr n Rr Inv H s k s2) :
    wpAny C.M A (pyNext (.ref I)) (TurnP C A env tgt ifs I (CompR C env.locals D (D :: wr) H s Q (.ok .next)) (Inn (fun s' => ∃ m, m < k ∧ CSt C env D wr n Rr Inv H s m s')) (fun s' => ∃ m, m < k ∧ CSt C env D wr n Rr Inv H s m s')) False2 s2 := by
  obtain ⟨i, ρ2, H2, zs, hi, rfl, a2, b2, r2, o2, acc2, i2⟩ := hI
  by_cases hlt : i < n
  · obtain ⟨ok, t⟩ := turn i ρ2 H2 zs hlt i2
    refine it.item i s2 env.locals ρ2 H2 _ hlt r2 a2 o2 ok fun v dd h' tk hP hdd a3 r3 k3 => ?_
    have b3 : StepX (D :: wr) env.locals H2 H2 s2 { s2 with heap := h', toks := tk } := StepX.off (fun b o hb e => k3 b o (fun q => hb (List.mem_cons_of_mem _ q)) e)
    have hDn : ∀ b ∈ wr, b ∉ [D] := fun b hb q => hDw (by rw [← List.mem_singleton.mp q]; exact hb)
    have acc3 : Acc C env.locals D H2 zs h' := by
      obtain ⟨oo, ⟨xs, ⟨nn, hp⟩, e⟩, z⟩ := acc2
      exact ⟨oo, ⟨xs, ⟨nn, k3 D _ hDw hp⟩, e⟩, z⟩
    refine wpAny_mono (t dd hP { s2 with heap := h', toks := tk } v a3 hdd) (fun _ s4 ⟨ρ4, H4, a4, b4, c4⟩ => ?_) fun _ _ e => e.elim
    have acc4 := acc3.step b4
    have r4 : Rr (i + 1) s4.heap := it.frame _ _ _ r3 fun b hb o e => b4.kept b o e (o2 b hb).1 (o2 b hb).2.2
    have o4 : Off C env.locals H4 wr := o2.step (it.live _ _ r3) b4
    refine wpAny_mono (WIf.run c4 s4 a4) (fun bb s5 ⟨ρ5, H5, a5, b5, c5, d5, d5'⟩ => ?_) fun _ _ e => e.elim
    subst c5
    have acc5 := acc4.step b5
    have r5 : Rr (i + 1) s5.heap := it.frame _ _ _ r4 fun b hb o e => b5.kept b o e (o4 b hb).1 (o4 b hb).2.2
    have o5 : Off C env.locals H5 wr := o4.step (it.live _ _ r4) b5
    have b25 := ((b2.trans b3).trans b4.toX).trans b5.toX
    refine ⟨fun e => ?_, fun e => ⟨n - (i + 1), by omega, i + 1, ρ5, H5, zs, hlt, rfl, a5, b25, r5, o5, acc5, d5' e⟩⟩
    refine hInn (d5 e) a5 acc5 fun ρ6 H6 us s6 a6 acc6 b6 i6 => ?_
    refine ⟨n - (i + 1), by omega, i + 1, ρ6, H6, us, hlt, rfl, a6, b25.trans (b6.mono fun b hb _ _ => by rw [List.mem_singleton.mp hb]; exact List.mem_cons_self ..), ?_, o5.stepX (it.live _ _ r5) b6 hDn, acc6, i6⟩
    exact it.frame _ _ _ r5 fun b hb o e => b6.kept b o (hDn b hb) e (o5 b hb).1 (o5 b hb).2.2
  · have hin : i = n := by lia
    subst hin
    obtain ⟨ok, q⟩ := fin ρ2 H2 zs i2
    refine it.done s2 env.locals ρ2 H2 _ r2 a2 o2 ok fun h' tk a3 k3 => ?_
    refine ⟨ρ2, H2, zs, a3, ?_, ?_, q⟩
    · obtain ⟨oo, ⟨xs, ⟨nn, hp⟩, e⟩, z⟩ := acc2
      exact ⟨oo, ⟨xs, ⟨nn, k3 D _ hDw hp⟩, e⟩, z⟩
    · exact b2.trans (StepX.off fun b o hb e => k3 b o (fun q => hb (List.mem_cons_of_mem _ q)) e)
end

theorem comp_run {elt : Expr} {gens : List Comprehension} {scope : Scope} {pos : Pos} {D : Addr} : ∀ (gs : List Comprehension) (d : Nat) (tgt iter : Expr) (ifs : List Expr), gens.drop d = ⟨tgt, iter, ifs, 0⟩ :: gs → (∀ g ∈ gs, g.is_async = 0 ∧ ∀ x, foldedSetIterable g.iter env x = pure x) →
    ∀ {I : Addr} {wr : List Addr} {n : Nat} {Rr : Nat → Heap → Prop} {Ok : Nat → AH → Prop} {P : Nat → AH → Dv → Prop} {ρ : Lo} {H : AH} {ys : List V} {Q : Lo → AH → List V → Prop} {s : Shared},
      LoopOk C A env elt tgt ifs gs H n Ok P ρ ys Q → Itr C A I wr tgt n Rr Ok P → Rr 0 s.heap → St C env.locals ρ H s.heap → Off C env.locals H wr → D ∉ wr → Acc C env.locals D H ys s.heap →
      codeAny C.M A (.compStart (.ListComp elt gens scope pos) d (.ref I) (.ref D) env) (CompR C env.locals D (D :: wr) H s Q) s := by
  intro gs
  induction gs with
  | nil =>
    intro d tgt iter ifs hdrop hasync I wr n Rr Ok P ρ H ys Q s ⟨Inv, h0, turn, fin⟩ it r0 a0 o0 hDw acc0
    have hd : gens[d]? = some ⟨tgt, iter, ifs, 0⟩ := by rw [← List.head?_drop, hdrop]; rfl
    have hl : gens[d + 1]? = none := by
      have : gens.drop (d + 1) = [] := by rw [← List.drop_drop, hdrop]; rfl
      rw [← List.head?_drop, this]; rfl
    have key : codeAny C.M A (.compLoop (.ListComp elt gens scope pos) d (.ref I) (.ref D) env) (CompR C env.locals D (D :: wr) H s Q) s := by
      refine compLoop_last hd hl (CSt C env D wr n Rr Inv H s) (fun k s2 hI => comp_turns (InnLast C A env elt D) ?_ it hDw turn fin k s2 hI) n ⟨0, ρ, H, ys, Nat.zero_le _, rfl, a0, (Step.refl ..).toX, r0, o0, acc0, h0⟩
      intro ρ5 H5 zs Qi K s5 hc a5 acc5 hK
      refine wpAny_mono (hc s5 a5) (fun y s6 ⟨ρ6, H6, a6, b6, c6, d6, d6'⟩ => ?_) fun _ _ e => e.elim
      subst c6
      obtain ⟨oo, ⟨xs, hp, e⟩, z6⟩ := acc5.step b6
      have hxs : xs.size = zs.length := by rw [← e]; simp
      refine wpAny_list_append_plain hp (fun h7 hp7 hs7 => ?_) (by rw [hxs]; exact Nat.le_of_lt d6)
      have k7 : ∀ b o, b ∉ [D] → s6.heap.get? b = some o → h7.get? b = some o := fun b o hb e => hs7.extBut b o (fun q => hb (by simp [q])) e
      exact hK ρ6 H6 (zs ++ [ab y]) _ (a6.offL (fun b hb => by rw [List.mem_singleton.mp hb]; exact oo) k7) ⟨oo, ⟨xs.push y, hp7, by simp [e]⟩, by simp; lia⟩ (b6.toX.trans (StepX.off k7)) d6'
    exact compStart_run hd key (it.self 0 s _ r0 key)
  | cons g gs ih =>
    intro d tgt iter ifs hdrop hasync I wr n Rr Ok P ρ H ys Q s ⟨Inv, h0, turn, fin⟩ it r0 a0 o0 hDw acc0
    obtain ⟨tgt', iter', ifs', as'⟩ := g
    have has : as' = 0 := (hasync _ (List.mem_cons_self ..)).1
    subst has
    have hfs : ∀ x, foldedSetIterable iter' env x = pure x := (hasync _ (List.mem_cons_self ..)).2
    have hd : gens[d]? = some ⟨tgt, iter, ifs, 0⟩ := by rw [← List.head?_drop, hdrop]; rfl
    have hdrop' : gens.drop (d + 1) = ⟨tgt', iter', ifs', 0⟩ :: gs := by rw [← List.drop_drop, hdrop]; rfl
    have hl : gens[d + 1]? = some ⟨tgt', iter', ifs', 0⟩ := by rw [← List.head?_drop, hdrop']; rfl
    have key : codeAny C.M A (.compLoop (.ListComp elt gens scope pos) d (.ref I) (.ref D) env) (CompR C env.locals D (D :: wr) H s Q) s := by
      refine compLoop_more hd hl hfs (CSt C env D wr n Rr Inv H s) (fun k s2 hI => comp_turns (InnMore C A env (.ListComp elt gens scope pos) iter' (d + 1) D) ?_ it hDw turn fin k s2 hI) n ⟨0, ρ, H, ys, Nat.zero_le _, rfl, a0, (Step.refl ..).toX, r0, o0, acc0, h0⟩
      intro ρ5 H5 zs Qi K s5 hc a5 acc5 hK
      refine hc s5 a5 _ (fun H6 n6 Ok6 P6 I6 wr6 Rr6 s6 hL6 it6 r6 a6 b6 hw6 => ?_)
      have acc6 := acc5.step b6
      have hD6 : D ∉ wr6 := fun q => by
        obtain ⟨_, ⟨xs, ⟨nn, hp⟩, _⟩, _⟩ := acc5
        rw [(hw6 D q).1] at hp; cases hp
      refine codeAny_mono (ih (d + 1) tgt' iter' ifs' hdrop' (fun g hg => hasync g (List.mem_cons_of_mem _ hg)) hL6 it6 r6 a6 (fun b hb => ⟨(hw6 b hb).2, (a5.fresh (hw6 b hb).1).2⟩) hD6 acc6) (fun r s7 h7 => ?_)
      cases r with
      | error e => exact h7
      | ok f =>
        cases f with
        | next =>
          obtain ⟨ρ7, H7, us, a7, acc7, b7, q7⟩ := h7
          refine hK ρ7 H7 us s7 a7 acc7 ?_ q7
          have b67 := (b6.toX (ex := D :: wr6)).trans b7
          refine b67.mono fun b hb o e => ?_
          rcases List.mem_cons.mp hb with rfl | hb
          · exact List.mem_singleton.mpr rfl
          · rw [(hw6 b hb).1] at e; cases e
        | brk => exact h7.elim
        | cont => exact h7.elim
        | ret v => exact h7.elim
    exact compStart_run hd key (it.self 0 s _ r0 key)

/-! the whole comprehension -/

noncomputable def CompOk (C : Cx) (A : Around) (env : Env) (elt : Expr) (g : Comprehension) (gs : List Comprehension) (scope : Scope) (cl : List (Str × Addr)) (ρ : Lo) (H : AH) (Q : AH → List V → Prop) : Prop :=
  WIt C A env g.iter g.target ρ H (fun H1 n Ok P => ∀ Cn, H1 Cn = none → LoopOk C A (compEnvC scope cl Cn env) elt g.target g.ifs gs H1 n Ok P (fun _ => none) [] (fun _ H2 zs => Q H2 zs))

theorem comp_whole {elt tgt iter : Expr} {ifs : List Expr} {gs : List Comprehension} {scope : Scope} {pos : Pos} {cl : List (Str × Addr)} {use : Option (Value → Sem Unit)} {s : Shared} {Q : AH → List V → Prop} {QQ : Value → Shared → Prop}
    (hclos : closureFor scope env = pure cl) (hcell : ∀ y ∈ scope.names, y.2 ≠ .cell) (hkind : scope.kind = .function) (hnames : ∀ x ∈ scope.names, x.2 = .local → scope.names.lookup x.1 = some .local)
    (hfs : ∀ x, foldedSetIterable iter env x = pure x) (hgs : ∀ g ∈ gs, g.is_async = 0 ∧ ∀ Cn, ∀ x, foldedSetIterable g.iter (compEnvC scope cl Cn env) x = pure x)
    (hs : St C env.locals ρ H s.heap) (h : CompOk C A env elt ⟨tgt, iter, ifs, 0⟩ gs scope cl ρ H Q)
    (hq : ∀ D Cn H2 zs s', Q H2 zs → H2 D = none → St C env.locals ρ (H2.set D (.list zs)) s'.heap → Step env.locals H (H2.set D (.list zs)) s s' → s.heap.get? Cn = none → Cn ≠ D → H2 Cn = none → (∃ m, s'.heap.Ns Cn m) → compPost C.M A False2 use QQ (.ref D) Cn (.ok .next) s') :
    wpAny C.M A (comprehension (.ListComp elt (⟨tgt, iter, ifs, 0⟩ :: gs) scope pos) scope env (firstIterPos (⟨tgt, iter, ifs, 0⟩ :: gs) pos) (newList []) false (eval iter env) use) QQ False2 s := by
  refine wpAny_comprehension_free (g := ⟨tgt, iter, ifs, 0⟩) (gs := gs) rfl hfs hclos hkind hnames ?_
  refine h s hs _ (fun H1 n Ok P I wr Rr s1 hL it r1 a1 b1 hw => ?_)
  refine wpAny_newObj_type (wpAny_newFunctionEnv hcell (by intro y hy; simp at hy) (fun h2 hns2 hsb2 => ?_) hkind)
  dsimp only at hns2 hsb2 ⊢
  generalize hH2 : s1.heap.push { cls := .type "list", dict := none, data := .seq ([] : List Value).toArray } = HH at hns2 hsb2 ⊢
  have hsz : HH.objs.size = s1.heap.objs.size + 1 := by rw [← hH2, Heap.size_push]
  have hDn : s1.heap.get? s1.heap.objs.size = none := get?_size_none _
  have hCn : HH.get? HH.objs.size = none := get?_size_none _
  have up1 : ∀ b o, s1.heap.get? b = some o → HH.get? b = some o := fun b o e => by rw [← hH2]; exact Heap.get?_push_of_some _ e
  have up2 : ∀ b o, HH.get? b = some o → h2.get? b = some o := fun b o e => hsb2.extBut b o (fun q => by rw [q, hCn] at e; cases e) (Heap.get?_push_of_some _ e)
  have hDC : s1.heap.objs.size ≠ HH.objs.size := by rw [hsz]; exact Nat.ne_of_lt (Nat.lt_succ_self _)
  have hC1 : s1.heap.get? HH.objs.size = none := by
    cases e : s1.heap.get? HH.objs.size with
    | none => rfl
    | some o => rw [up1 _ _ e] at hCn; cases hCn
  have fD := a1.fresh hDn
  have fC := a1.fresh hC1
  have a2 : St C HH.objs.size (fun _ => none) H1 h2 := ⟨fun b o e => up2 _ _ (up1 _ _ (a1.keep b o e)), fun a o e => let ⟨c, e1, e2⟩ := a1.rep a o e; ⟨c, up2 _ _ (up1 _ _ e1), e2⟩, a1.own, ⟨_, hns2, fun x => rfl⟩, fC.1, fC.2.1⟩
  have hDp : h2.PlainList s1.heap.objs.size #[] := ⟨0, up2 _ _ (by rw [← hH2]; exact Heap.get?_push_size _ rfl)⟩
  have accD : Acc C HH.objs.size s1.heap.objs.size H1 [] h2 := ⟨⟨fD.1, fD.2.1, hDC⟩, ⟨#[], hDp, rfl⟩, Nat.zero_le _⟩
  have live1 := it.live 0 s1.heap r1
  have hwne : ∀ b ∈ wr, b ≠ s1.heap.objs.size ∧ b ≠ HH.objs.size := fun b hb => by
    obtain ⟨o, e⟩ := live1 b hb
    exact ⟨fun q => (by rw [q, hDn] at e; cases e), fun q => (by rw [q, hC1] at e; cases e)⟩
  have r2 : Rr 0 h2 := it.frame _ _ _ r1 fun b hb o e => up2 _ _ (up1 _ _ e)
  have o2 : Off C HH.objs.size H1 wr := fun b hb => ⟨(hw b hb).2, (hs.fresh (hw b hb).1).2.1, (hwne b hb).2⟩
  have key := comp_run (C := C) (A := A) (env := compEnvC scope cl HH.objs.size env) (elt := elt) (gens := ⟨tgt, iter, ifs, 0⟩ :: gs) (scope := scope) (pos := pos) (D := s1.heap.objs.size) gs 0 tgt iter ifs rfl (fun g hg => ⟨(hgs g hg).1, (hgs g hg).2 _⟩) (s := { s1 with heap := h2, toks := s1.toks + ([] : List (Str × Value)).length }) (hL HH.objs.size fC.1) it r2 a2 o2 (fun q => (hwne _ q).1 rfl) accD
  refine codeAny_mono key fun r s3 h3 => ?_
  cases r with
  | error e => exact h3.elim
  | ok f =>
    cases f with
    | brk => exact h3.elim
    | cont => exact h3.elim
    | ret v => exact h3.elim
    | next =>
      obtain ⟨ρ3, H3, zs, a3, ⟨oD, ⟨xs, ⟨nn, hp⟩, e⟩, hzs⟩, b3, q3⟩ := h3
      have s13 : ∀ b o, s.heap.get? b = some o → b ∉ s1.heap.objs.size :: wr := fun b o eb q => by
        rcases List.mem_cons.mp q with rfl | q
        · obtain ⟨o', e'⟩ := b1.live _ o eb; rw [hDn] at e'; cases e'
        · rw [(hw b q).1] at eb; cases eb
      have neC : ∀ b o, s.heap.get? b = some o → b ≠ HH.objs.size := fun b o eb q => by obtain ⟨o', e'⟩ := b1.live _ o eb; rw [q, hC1] at e'; cases e'
      have alive2 : ∀ b o, s.heap.get? b = some o → ∃ o', h2.get? b = some o' := fun b o eb => let ⟨o', e'⟩ := b1.live _ o eb; ⟨o', up2 _ _ (up1 _ _ e')⟩
      have kept : ∀ b o, s.heap.get? b = some o → H b = none → b ≠ env.locals → s3.heap.get? b = some o := fun b o eb eH eL =>
        b3.kept b o (s13 b o eb) (up2 _ _ (up1 _ _ (b1.kept b o eb eH eL))) (b1.new b o eb eH) (neC b o eb)
      have new3 : ∀ b o, s.heap.get? b = some o → H b = none → H3 b = none := fun b o eb eH => by
        obtain ⟨o', e'⟩ := alive2 b o eb
        exact b3.new b o' (s13 b o eb) e' (b1.new b o eb eH)
      obtain ⟨m1, ⟨oL, esL, epL, hoL, rL⟩, hm1⟩ := a1.loc
      have hLD : env.locals ≠ s1.heap.objs.size := fun q => by rw [q, hDn] at hoL; cases hoL
      have hLC : env.locals ≠ HH.objs.size := fun q => by rw [q, hC1] at hoL; cases hoL
      have hLx : env.locals ∉ s1.heap.objs.size :: wr := fun q => by
        rcases List.mem_cons.mp q with q | q
        · exact hLD q
        · exact (hs.fresh (hw _ q).1).2.2 rfl
      have hL3 : s3.heap.get? env.locals = some oL := b3.kept _ _ hLx (up2 _ _ (up1 _ _ hoL)) a1.nl hLC
      have nL3 : H3 env.locals = none := b3.new _ _ hLx (up2 _ _ (up1 _ _ hoL)) a1.nl
      have St3 : St C env.locals ρ (H3.set s1.heap.objs.size (.list zs)) s3.heap := by
        refine ⟨a3.keep, fun b o eb => ?_, fun b o eb hm => ?_, ⟨m1, ⟨oL, esL, epL, hL3, rL⟩, hm1⟩, ?_, a1.bl⟩
        · by_cases q : b = s1.heap.objs.size
          · subst q; rw [AH.set_same] at eb; cases eb; exact ⟨_, hp, xs, nn, rfl, e, hzs⟩
          · rw [AH.set_ne _ _ q] at eb; exact a3.rep b o eb
        · by_cases q : b = s1.heap.objs.size
          · subst q; exact fD.2.1
          · rw [AH.set_ne _ _ q] at eb; exact a3.own b o eb hm
        · rw [AH.set_ne _ _ hLD]; exact nL3
      refine hq s1.heap.objs.size HH.objs.size H3 zs s3 q3 oD.1 St3 ⟨?_, kept, fun b o eb eH => ?_, fun b o eb => ?_⟩ ?_ (Ne.symm hDC) a3.nl (let ⟨m, hm, _⟩ := a3.loc; ⟨m, hm⟩)
      · exact ⟨b3.same.1.trans b1.same.1, b3.same.2.trans b1.same.2⟩
      · rw [AH.set_ne _ _ (fun q => by obtain ⟨o', e'⟩ := b1.live _ o eb; rw [q, hDn] at e'; cases e')]; exact new3 b o eb eH
      · obtain ⟨o', e'⟩ := alive2 b o eb
        exact b3.live b o' (s13 b o eb) e'
      · cases ec : s.heap.get? HH.objs.size with
        | none => rfl
        | some o => exact absurd rfl (neC _ o ec)

theorem Step.letgo {L Cn D : Addr} {H H2 : AH} {s s' : Shared} {h' : Heap} {zs : List V} (x : Step L H H2 s s') (hc : s.heap.get? Cn = none) (hs : Heap.SameBut Cn s'.heap h') : Step L H H2 s { s' with heap := h' } := by
  obtain ⟨m1, k, n, l⟩ := x
  have ne : ∀ b o, s.heap.get? b = some o → b ≠ Cn := fun b o e q => by rw [q, hc] at e; cases e
  exact ⟨m1, fun b o e eb eL => hs.extBut b o (ne b o e) (k b o e eb eL), n, fun b o e => let ⟨o', e'⟩ := l b o e; ⟨o', hs.extBut b o' (ne b o e) e'⟩⟩

theorem WE.listComp {elt tgt iter : Expr} {ifs : List Expr} {gs : List Comprehension} {scope : Scope} {pos : Pos} {cl : List (Str × Addr)} {Q : V → AH → Prop}
    (hclos : closureFor scope env = pure cl) (h : CompOk C A env elt ⟨tgt, iter, ifs, 0⟩ gs scope cl ρ H (fun H2 zs => ∀ D, H2 D = none → Q (.ref D) (H2.set D (.list zs))))
    (hcell : ∀ y ∈ scope.names, y.2 ≠ .cell := by decide) (hkind : scope.kind = .function := by rfl) (hnames : ∀ x ∈ scope.names, x.2 = .local → scope.names.lookup x.1 = some .local := by decide)
    (hfs : ∀ x, foldedSetIterable iter env x = pure x := by intro _; rfl) (hgs : ∀ g ∈ gs, g.is_async = 0 ∧ ∀ Cn, ∀ x, foldedSetIterable g.iter (compEnvC scope cl Cn env) x = pure x := by simp) :
    WE C A env (.ListComp elt (⟨tgt, iter, ifs, 0⟩ :: gs) scope pos) ρ H Q := fun s hs => by
  refine comp_whole (use := none) hclos hcell hkind hnames hfs hgs hs h fun D Cn H2 zs s' q hD a b hCs hCD hC2 hns => ?_
  obtain ⟨m, hm⟩ := hns
  refine ⟨m, hm, fun h' hsb => ⟨ρ, _, ?_, b.letgo (D := D) (zs := zs) hCs hsb, rfl, q D hD⟩⟩
  refine a.off (I := Cn) ?_ ?_ ?_ (fun b o hb e => hsb.extBut b o hb e)
  · rw [AH.set_ne _ _ hCD]; exact hC2
  · exact (hs.fresh hCs).2.1
  · exact (hs.fresh hCs).2.2

theorem W1.asgComp {elt tgt iter : Expr} {ifs : List Expr} {gs : List Comprehension} {scope : Scope} {pos spos p : Pos} {x : Str} {cl : List (Str × Addr)} {Q : Fl → Lo → AH → Prop} (F : Fx C A env) (hl : env.kindOf x = some .local)
    (hclos : closureFor scope env = pure cl) (h : CompOk C A env elt ⟨tgt, iter, ifs, 0⟩ gs scope cl ρ H (fun H2 zs => ∀ D, H2 D = none → Q .next (ρ.set x (.ref D)) (H2.set D (.list zs))))
    (hsw : swapsWith (.ListComp elt (⟨tgt, iter, ifs, 0⟩ :: gs) scope pos) (some (.Name x p)) spos.line env = pure true)
    (hcell : ∀ y ∈ scope.names, y.2 ≠ .cell := by decide) (hkind : scope.kind = .function := by rfl) (hnames : ∀ x ∈ scope.names, x.2 = .local → scope.names.lookup x.1 = some .local := by decide)
    (hfs : ∀ x, foldedSetIterable iter env x = pure x := by intro _; rfl) (hgs : ∀ g ∈ gs, g.is_async = 0 ∧ ∀ Cn, ∀ x, foldedSetIterable g.iter (compEnvC scope cl Cn env) x = pure x := by simp) :
    W1 C A env (.Assign [.Name x p] (.ListComp elt (⟨tgt, iter, ifs, 0⟩ :: gs) scope pos) spos) ρ H Q := fun s hs => by
  rw [exec_Assign_Name_used x p _ spos hsw]
  refine wpAny_bind (wpAny_standAt (wpAny_bind (m := evalThenUse (.ListComp elt (⟨tgt, iter, ifs, 0⟩ :: gs) scope pos) env (PySem.assign (.Name x p) env)) ?_))
  show wpAny C.M A (comprehension (.ListComp elt (⟨tgt, iter, ifs, 0⟩ :: gs) scope pos) scope env (firstIterPos (⟨tgt, iter, ifs, 0⟩ :: gs) pos) (newList []) false (eval iter env) (some (PySem.assign (.Name x p) env)) >>= fun _ => pure PUnit.unit) _ _ s
  refine wpAny_bind ?_
  refine comp_whole (use := some (PySem.assign (.Name x p) env)) hclos hcell hkind hnames hfs hgs hs h fun D Cn H2 zs s' q hD a b hCs hCD hC2 hns => ?_
  obtain ⟨m, hm⟩ := hns
  have hCo : (H2.set D (.list zs)) Cn = none := by rw [AH.set_ne _ _ hCD]; exact hC2
  have hCL : Cn ≠ env.locals := (hs.fresh hCs).2.2
  refine wpAny_mono (Asg.local (pos := p) F hl (Q := fun ρ2 H3 => ρ2 = ρ.set x (.ref D) ∧ H3 = H2.set D (.list zs)) ⟨rfl, rfl⟩ s' (.ref D) a rfl) (fun _ s'' ⟨ρ2, H3, a2, b2, c2, c3⟩ => ?_) fun _ _ e => e
  subst c2 c3
  have hm2 : s''.heap.Ns Cn m := by
    obtain ⟨o, es, ep, ho, r⟩ := hm
    exact ⟨o, es, ep, b2.kept _ _ ho hCo hCL, r⟩
  refine ⟨m, hm2, fun h' hsb => wpAny_pure (wpAny_pure ⟨_, _, ?_, (b.trans b2 (fun _ _ => a2.nl)).letgo (D := D) (zs := zs) hCs hsb, q D hD⟩)⟩
  exact a2.off (I := Cn) hCo (hs.fresh hCs).2.1 hCL (fun b o hb e => hsb.extBut b o hb e)
end
end Mine

namespace Mine
open PySem PySem.W PyProof.Rows

section
variable {C : Cx} {A : Around} {env : Env} {ρ : Lo} {H : AH}

/-! ## the library's frames and ledgers over my states -/
noncomputable def noHeap : Heap := ⟨#[], {}⟩
theorem noHeap_get (b : Addr) : noHeap.get? b = none := by simp [noHeap, Heap.get?]
noncomputable def allNews (h : Heap) (L : Addr) : List (Addr × Obj) := (List.range h.objs.size).filterMap fun b => if b = L then none else (h.get? b).map fun o => (b, o)
theorem mem_allNews {h : Heap} {L b : Addr} {o : Obj} (e : h.get? b = some o) (hb : b ≠ L) : (b, o) ∈ allNews h L :=
  List.mem_filterMap.mpr ⟨b, List.mem_range.mpr (Heap.lt_size e), by simp [hb, e]⟩
theorem news_all (h : Heap) (L : Addr) : News noHeap L h (allNews h L) := fun p hp => by
  obtain ⟨b, _, e⟩ := List.mem_filterMap.mp hp
  by_cases hb : b = L
  · simp [hb] at e
  · rw [if_neg hb] at e
    cases hg : h.get? b with
    | none => rw [hg] at e; cases e
    | some o => rw [hg] at e; cases e; exact ⟨hg, hb, noHeap_get _⟩
theorem St.fr {L : Addr} {h : Heap} (hs : St C L ρ H h) : ∃ m, Fr noHeap L h m ∧ ∀ x, (m x).map ab = ρ x := by
  obtain ⟨m, hn, hm⟩ := hs.loc
  exact ⟨m, ⟨hn, fun b o e => (by rw [noHeap_get] at e; cases e), Nat.zero_le _⟩, hm⟩
theorem News.kept {L : Addr} {h h' : Heap} {news : List (Addr × Obj)} (N : News noHeap L h' news) (hsub : ∀ p ∈ allNews h L, p ∈ news) : ∀ b o, b ≠ L → h.get? b = some o → h'.get? b = some o := fun b o hb e => (N _ (hsub _ (mem_allNews e hb))).1
theorem St.of_fr {L : Addr} {h h' : Heap} {m : Str → Option Value} (hs : St C L ρ H h) (F : Fr noHeap L h' m) (hm : ∀ x, (m x).map ab = ρ x) (k : ∀ b o, b ≠ L → h.get? b = some o → h'.get? b = some o) : St C L ρ H h' where
  keep := fun b o e => k b o (fun q => by rw [q, hs.bl] at e; cases e) (hs.keep b o e)
  rep := fun a o e => let ⟨c, e1, e2⟩ := hs.rep a o e; ⟨c, k a c (fun q => by rw [q, hs.nl] at e; cases e) e1, e2⟩
  own := hs.own
  loc := ⟨m, F.ns, hm⟩
  nl := hs.nl
  bl := hs.bl
theorem Step.of_fr {L : Addr} {s : Shared} {h' : Heap} {tk : Nat} {m : Str → Option Value} (F : Fr noHeap L h' m) (k : ∀ b o, b ≠ L → s.heap.get? b = some o → h'.get? b = some o) : Step L H H s { s with heap := h', toks := tk } :=
  ⟨⟨rfl, rfl⟩, fun b o e _ hb => k b o hb e, fun _ _ _ e => e, fun b o e => by
    by_cases q : b = L
    · subst q; obtain ⟨o', _, _, ho, _⟩ := F.ns; exact ⟨o', ho⟩
    · exact ⟨o, k b o q e⟩⟩
/-- a new object, given by its ledger row -/
theorem St.alloc_fr {L a : Addr} {h h' : Heap} {c : Obj} {o : O} {m : Str → Option Value} (hs : St C L ρ H h) (F : Fr noHeap L h' m) (hm : ∀ x, (m x).map ab = ρ x) (ha : h.get? a = none) (hc : h'.get? a = some c) (hr : Rep o c) (k : ∀ b o, b ≠ L → h.get? b = some o → h'.get? b = some o) : St C L ρ (H.set a o) h' := by
  have f := hs.fresh ha
  exact St.alloc' (hs.of_fr F hm k) f.1 f.2.1 f.2.2 hc hr
where
  St.alloc' {h' : Heap} {a : Addr} {c : Obj} {o : O} {L : Addr} {ρ : Lo} {H : AH} (x : St C L ρ H h') (hH : H a = none) (hB : C.base.get? a = none) (hL : a ≠ L) (hc : h'.get? a = some c) (hr : Rep o c) : St C L ρ (H.set a o) h' :=
    ⟨x.keep, fun b o' e => by
      by_cases q : b = a
      · subst q; rw [AH.set_same] at e; cases e; exact ⟨c, hc, hr⟩
      · rw [AH.set_ne _ _ q] at e; exact x.rep b o' e, fun b o' e m => by
      by_cases q : b = a
      · subst q; exact hB
      · rw [AH.set_ne _ _ q] at e; exact x.own b o' e m, x.loc, by rw [AH.set_ne _ _ (Ne.symm hL)]; exact x.nl, x.bl⟩
theorem Step.alloc_fr {L a : Addr} {s : Shared} {h' : Heap} {tk : Nat} {o : O} {m : Str → Option Value} (F : Fr noHeap L h' m) (ha : s.heap.get? a = none) (k : ∀ b o, b ≠ L → s.heap.get? b = some o → h'.get? b = some o) : Step L H (H.set a o) s { s with heap := h', toks := tk } :=
  let x : Step L H H s { s with heap := h', toks := tk } := Step.of_fr F k
  ⟨x.same, x.kept, fun b o e eb => by rw [AH.set_ne _ _ (fun q => by rw [q, ha] at e; cases e)]; exact eb, x.live⟩

/-! ## lists: +, slices -/

noncomputable def slc (lo hi : Option Int) (vs : List V) : List V := (vs.drop (lo.elim 0 (clipAt vs.length))).take (hi.elim vs.length (clipAt vs.length) - lo.elim 0 (clipAt vs.length))
theorem slc_pick {xs : Array Value} {vs : List V} {lo hi : Option Int} (e : xs.toList.map ab = vs) : (slicePick xs lo hi none).toList.map ab = slc lo hi vs := by
  rw [slicePick_plain]
  unfold slc
  rw [show vs.length = xs.size from (arr_size e).symm]
  simp [List.map_take, List.map_drop, ← e]
theorem slc_len (lo hi : Option Int) (vs : List V) : (slc lo hi vs).length ≤ vs.length := by
  unfold slc; simp; omega

/-- a part of a slice -/
inductive EvP (C : Cx) (A : Around) (env : Env) (ρ : Lo) (H : AH) : Option Expr → Option Int → Prop
  | none : EvP C A env ρ H none none
  | some {e : Expr} {i : Int} : Ev C A env ρ H e (.int i) → EvP C A env ρ H (some e) (some i)
theorem EvP.run {e : Option Expr} {k : Option Int} (h : EvP C A env ρ H e k) : W C A env.locals (evalPart e env) ρ H (fun x ρ' H' => ρ' = ρ ∧ H' = H ∧ IsPart x k) := by
  cases h with
  | none => exact W.pure ⟨rfl, rfl, .none⟩
  | some h => exact W.mono h (by rintro x _ _ ⟨rfl, rfl, e⟩; obtain ⟨t, rfl⟩ := ab_int e; exact ⟨rfl, rfl, .int _ t⟩)

theorem WE.slice {o : Expr} {lower upper : Option Expr} {p pos : Pos} {lo hi : Option Int} {Q : V → AH → Prop}
    (h : WE C A env o ρ H (fun v H1 => ∃ l ob vs, v = .ref l ∧ H1 l = some ob ∧ lst ob = some vs ∧ EvP C A env ρ H1 lower lo ∧ EvP C A env ρ H1 upper hi ∧ ∀ c, H1 c = none → Q (.ref c) (H1.set c (.list (slc lo hi vs))))) :
    WE C A env (.Subscript o (.Slice lower upper none p) pos) ρ H Q := fun s hs => by
  refine Subscript_ (wpAny_mono (h s hs) (fun x s1 ⟨ρ1, H1, a1, b1, c1, l, ob, vs, d1, d2, d3, d4, d5, d6⟩ => ?_) fun _ _ e => e)
  subst c1
  cases ab_ref d1
  refine wpAny_Slice (wpAny_mono (d4.run s1 a1) (fun vl s2 ⟨ρ2, H2, a2, b2, c2, c3, pl⟩ => ?_) fun _ _ e => e)
  subst c2 c3
  refine wpAny_mono (d5.run s2 a2) (fun vu s3 ⟨ρ3, H3, a3, b3, c3, c4, pu⟩ => ?_) fun _ _ e => e
  subst c3 c4
  rw [evalPart_none]
  refine wpAny_pure ?_
  obtain ⟨xs, x1, x2, x3⟩ := a3.list d2 d3
  have k1 : ∀ b o, s3.heap.get? b = some o → (s3.heap.push { cls := .type "slice", data := .fields #[vl, vu, .none] }).get? b = some o := fun b o e => Heap.get?_push_of_some _ e
  have a4 := a3.ext k1
  have x1' := x1.push { cls := .type "slice", data := .fields #[vl, vu, .none] }
  have hn := get?_size_none (s3.heap.push { cls := .type "slice", data := .fields #[vl, vu, .none] })
  refine tail_any (ops := [.ref s3.heap.objs.size, .ref l]) x1'.typeIs slot_list_getitem.lookup (wpAny_getItem_list_slice x1' (Heap.IsSliceOf.new ..) pl pu .none (by simp) ?_ (by rw [arr_size x2]; exact x3)) rfl
  have k2 : ∀ b o, (s3.heap.push { cls := .type "slice", data := .fields #[vl, vu, .none] }).get? b = some o → ((s3.heap.push { cls := .type "slice", data := .fields #[vl, vu, .none] }).push { cls := .type "list", data := .seq (slicePick xs lo hi none) }).get? b = some o := fun b o e => Heap.get?_push_of_some _ e
  refine ⟨_, _, a4.alloc (o := .list (slc lo hi vs)) hn (Heap.get?_push_size _ rfl) ⟨_, 0, rfl, slc_pick x2, Nat.le_trans (slc_len ..) x3⟩ k2, ?_, rfl, d6 _ (a4.fresh hn).1⟩
  have b13 := (b1.trans b2 (fun _ _ => a2.nl)).trans b3 (fun _ _ => a3.nl)
  exact (b13.trans (Step.ext (tk := s3.toks) k1) (fun _ _ => a3.nl)).trans (Step.alloc (tk := s3.toks) hn k2) (fun _ _ => by rw [AH.set_ne _ _ (Ne.symm (a4.fresh hn).2.2)]; exact a4.nl)

/-! ## vints of a list -/
noncomputable def vints (ns : List Int) : List V := ns.map V.int
theorem intsAre_of : ∀ {xs : List Value} {ns : List Int}, xs.map ab = vints ns → IntsAre xs ns
  | [], [], _ => .nil
  | [], _ :: _, h => by simp [vints] at h
  | _ :: _, [], h => by simp [vints] at h
  | x :: xs, n :: ns, h => by
    simp only [vints, List.map_cons, List.cons.injEq] at h
    obtain ⟨t, rfl⟩ := ab_int h.1
    exact .cons n t (intsAre_of h.2)
@[simp] theorem ints_length (ns : List Int) : (vints ns).length = ns.length := by simp [vints]

end
end Mine

namespace Mine
open PySem PySem.W PyProof.Rows

/-! ## forgetting tracked objects at the end -/
noncomputable def AH.le (H H' : AH) : Prop := ∀ a o, H a = some o → H' a = some o
theorem AH.le_refl (H : AH) : H.le H := fun _ _ e => e
theorem AH.le_trans {H H' H'' : AH} (x : H.le H') (y : H'.le H'') : H.le H'' := fun a o e => y a o (x a o e)
theorem AH.none_of_le {H H' : AH} (x : H.le H') {a : Addr} (e : H' a = none) : H a = none := by
  cases q : H a with
  | none => rfl
  | some o => have := x a o q; rw [e] at this; cases this
theorem AH.le_set {H H' : AH} (x : H.le H') {a : Addr} {o : O} (e : H a = none) : H.le (H'.set a o) := fun b o' eb => by
  by_cases q : b = a
  · subst q; rw [e] at eb; cases eb
  · rw [AH.set_ne _ _ q]; exact x b o' eb
theorem AH.set_le_set {H H' : AH} (x : H.le H') {a : Addr} {o : O} : (H.set a o).le (H'.set a o) := fun b o' eb => by
  by_cases q : b = a
  · subst q; rw [AH.set_same] at eb ⊢; exact eb
  · rw [AH.set_ne _ _ q] at eb ⊢; exact x b o' eb
theorem AH.get_of_set {H : AH} {a b : Addr} {o o' : O} (e : H b = some o') (ha : H a = none) : (H.set a o) b = some o' := by
  rw [AH.set_ne _ _ (fun q => by rw [q, ha] at e; cases e)]; exact e
theorem AH.none_of_set {H : AH} {a b : Addr} {o : O} (e : (H.set a o) b = none) : H b = none ∧ b ≠ a := by
  by_cases q : b = a
  · subst q; rw [AH.set_same] at e; cases e
  · rw [AH.set_ne _ _ q] at e; exact ⟨e, q⟩

section
variable {C : Cx} {A : Around} {env : Env} {ρ : Lo} {H : AH}
theorem St.le {L : Addr} {H H' : AH} {h : Heap} (x : H.le H') (y : St C L ρ H' h) : St C L ρ H h :=
  ⟨y.keep, fun a o e => y.rep a o (x a o e), fun a o e => y.own a o (x a o e), y.loc, AH.none_of_le x y.nl, y.bl⟩
theorem Post.drop {α : Type} {L : Addr} {s s' : Shared} {Q : α → Lo → AH → Prop} {a : α} (h : Post C L H s (fun a ρ' H' => ∃ H0, AH.le H0 H' ∧ Q a ρ' H0) a s') : Post C L H s Q a s' := by
  obtain ⟨ρ', H', x, y, H0, le, q⟩ := h
  exact ⟨ρ', H0, x.le le, ⟨y.same, y.kept, fun b o e eb => AH.none_of_le le (y.new b o e eb), y.live⟩, q⟩
theorem W.drop {α : Type} {L : Addr} {t : Sem α} {Q : α → Lo → AH → Prop} (h : W C A L t ρ H (fun a ρ' H' => ∃ H0, AH.le H0 H' ∧ Q a ρ' H0)) : W C A L t ρ H Q := fun s hs =>
  wpAny_mono (h s hs) (fun _ _ q => q.drop) fun _ _ e => e
theorem WE.drop {e : Expr} {Q : V → AH → Prop} (h : WE C A env e ρ H (fun v H' => ∃ H0, AH.le H0 H' ∧ Q v H0)) : WE C A env e ρ H Q :=
  W.drop (W.mono h fun _ _ _ ⟨a, H0, b, c⟩ => ⟨H0, b, a, c⟩)
theorem WT.drop {e : Expr} {Q : Bool → AH → Prop} (h : WT C A env e ρ H (fun v H' => ∃ H0, AH.le H0 H' ∧ Q v H0)) : WT C A env e ρ H Q :=
  W.drop (W.mono h fun _ _ _ ⟨a, H0, b, c⟩ => ⟨H0, b, a, c⟩)
theorem WS.drop {e : List Stmt} {Q : Fl → Lo → AH → Prop} (h : WS C A env e ρ H (fun v ρ' H' => ∃ H0, AH.le H0 H' ∧ Q v ρ' H0)) : WS C A env e ρ H Q := W.drop h

theorem WEs.nil {Q : List V → AH → Prop} (h : Q [] H) : WEs C A env [] ρ H Q := h
theorem WEs.cons {e : Expr} {es : List Expr} {Q : List V → AH → Prop} (h : WE C A env e ρ H (fun v H1 => WEs C A env es ρ H1 (fun vs H2 => Q (v :: vs) H2))) : WEs C A env (e :: es) ρ H Q := h

/-! ## the call from the top -/
theorem top_call {a : Addr} {o : Obj} {fd : FuncData} {body : List Stmt} {vals : List Value} {bs : List (Str × V)} {Q : V → AH → Prop} {s : Shared} (hbase : C.base = s.heap) (hrep : ∀ a o, H a = some o → ∃ c, s.heap.get? a = some c ∧ Rep o c) (hown : ∀ a o, H a = some o → o.mut = false)
    (ho : s.heap.get? a = some o) (hd : o.data = .func fd) (hdep : A.depth < recursionLimit)
    (hb : fd.body = .stmts body) (hclo : fd.closure = []) (hcd : s.heap.CodeRec fd.code fd.qualname)
    {binds : List (Str × Value)} (hbt : bindArgs fd ⟨vals, []⟩ = pure binds) (hbs : binds.map (fun p => (p.1, ab p.2)) = bs)
    (hkind : (bs.all fun y => fd.scope.names.lookup y.1 == some .local || fd.scope.names.lookup y.1 == some .cell) = true)
    (hnd : ((cellsFrom 0 fd.scope.names []).map (·.1)).Nodup)
    (lm cm : Str → Option V) (hlm : ∀ L x, (bindL (callEnvC fd L a).kindOf binds (fun _ => none) x).map ab = lm x) (hcm : ∀ L x, (bindC (callEnvC fd L a).kindOf binds (fun _ => none) x).map ab = cm x)
    (h : ∀ L, H L = none → (∀ p ∈ cellsFrom (L + 1) fd.scope.names [], H p.2 = none ∧ p.2 ≠ L) → WS C (A.deeper (callEnvC fd L a)) (callEnvC fd L a) body lm (cellH cm (cellsFrom (L + 1) fd.scope.names []) H) (fun f _ H' => Q (retv f) H'))
    (hco : fd.scope.isCoroutine = false := by rfl) (hgen : fd.scope.isGenerator = false := by rfl) (hk : fd.scope.kind = .function := by rfl) :
    wpAny C.M A (call (.ref a) vals []) (fun v s' => (∃ H', Q (ab v) H') ∧ (∀ b o, s.heap.get? b = some o → s'.heap.get? b = some o) ∧ s'.gens = s.gens ∧ s'.os = s.os) False2 s := by
  have hnone := get?_size_none s.heap
  have hHn : ∀ b, s.heap.get? b = none → H b = none := fun b e => by
    cases q : H b with
    | none => rfl
    | some o => obtain ⟨c, e1, _⟩ := hrep b o q; rw [e] at e1; cases e1
  have hkind' : ∀ n, ∀ x ∈ binds, fd.scope.names.lookup x.1 = some .local ∨ (fd.scope.names.lookup x.1 = some .cell ∧ ((cellsFrom n fd.scope.names []).lookup x.1).isSome = true) := fun n x hx => by
    have := kindsX (scope := fd.scope) (binds := binds) (by
      rw [List.all_eq_true]; intro y hy
      exact List.all_eq_true.mp hkind (y.1, ab y.2) (by rw [← hbs]; exact List.mem_map.mpr ⟨y, hy, rfl⟩)) n x hx
    exact this
  refine wpAny_call (codeAny_call_cells hdep ho hd (by have := C.lim; rw [hbase] at this; exact this) hcd hb hbt hclo (hkind' _) (fun s₁ X => ?_) hco hgen hk)
  have hnames : ∀ (n : Nat) (names : List (Str × NameKind)) (acc : List (Str × Addr)) (p : Str × Addr), p ∈ cellsFrom n names acc → p ∈ acc ∨ n ≤ p.2 := by
    intro n names
    induction names generalizing n with
    | nil => intro acc p hp; exact .inl hp
    | cons x r ih =>
      intro acc p hp
      obtain ⟨nm, k⟩ := x
      unfold cellsFrom at hp
      split at hp
      · rcases ih (n + 1) _ p hp with q | q
        · rcases List.mem_cons.mp q with rfl | q
          · exact .inr (Nat.le_refl _)
          · exact .inl q
        · exact .inr (by lia)
      · exact ih n acc p hp
  have habove : ∀ p ∈ cellsFrom (s.heap.objs.size + 1) fd.scope.names [], s.heap.objs.size < p.2 := fun p hp => by
    rcases hnames _ _ _ p hp with q | q
    · cases q
    · lia
  have hfresh : ∀ p ∈ cellsFrom (s.heap.objs.size + 1) fd.scope.names [], s.heap.get? p.2 = none := fun p hp => by
    cases e : s.heap.get? p.2 with
    | none => rfl
    | some o => exact absurd (Heap.lt_size e) (Nat.lt_asymm (habove p hp))
  have same_names : ∀ (n n' : Nat) (names : List (Str × NameKind)) (acc acc' : List (Str × Addr)), acc.map (·.1) = acc'.map (·.1) → (cellsFrom n names acc).map (·.1) = (cellsFrom n' names acc').map (·.1) := by
    intro n n' names
    induction names generalizing n n' with
    | nil => intro acc acc' e; exact e
    | cons x r ih =>
      intro acc acc' e
      obtain ⟨nm, k⟩ := x
      unfold cellsFrom
      split
      · exact ih _ _ _ _ (by simp [e])
      · exact ih _ _ _ _ e
  have hnd' : ((cellsFrom (s.heap.objs.size + 1) fd.scope.names []).map (·.1)).Nodup := by rw [same_names _ 0 _ _ [] rfl]; exact hnd
  have lookup_mem : ∀ {cs : List (Str × Addr)}, (cs.map (·.1)).Nodup → ∀ n c, (n, c) ∈ cs → cs.lookup n = some c := by
    intro cs
    induction cs with
    | nil => intro _ n c hm; cases hm
    | cons p r ih =>
      intro hn n c hm
      obtain ⟨pn, pc⟩ := p
      simp only [List.map_cons, List.nodup_cons] at hn
      rcases List.mem_cons.mp hm with e | hm
      · cases e; simp [List.lookup_cons]
      · have hne : n ≠ pn := fun q => hn.1 (q ▸ List.mem_map.mpr ⟨(n, c), hm, rfl⟩)
        rw [List.lookup_cons, beq_false_of_ne hne]; exact ih hn.2 n c hm
  obtain ⟨⟨⟨h1, tk1, rfl⟩, hns, hkeep, hab⟩, hcell, hap, hgt⟩ := X
  have hst : St C s.heap.objs.size lm (cellH cm (cellsFrom (s.heap.objs.size + 1) fd.scope.names []) H) h1 := by
    refine ⟨fun b o e => hkeep _ _ (by rw [hbase] at e; exact e), fun b o e => ?_, fun b o e hm => ?_, ⟨_, hns, fun x => hlm _ x⟩, ?_, by rw [hbase]; exact hnone⟩
    · rcases cellH_some e with ⟨n, hm, rfl⟩ | e
      · obtain ⟨oc, ho, hd⟩ := hcell n b (lookup_mem hnd' n b hm)
        exact ⟨oc, ho, _, hd, hcm _ n⟩
      · obtain ⟨c, e1, e2⟩ := hrep b o e; exact ⟨c, hkeep _ _ e1, e2⟩
    · rcases cellH_some e with ⟨n, hm', rfl⟩ | e
      · rw [hbase]; exact hfresh _ hm'
      · have := hown b o e; rw [hm] at this; cases this
    · rw [cellH_get (fun p hp q => Nat.ne_of_gt (habove p hp) q)]; exact hHn _ hnone
  refine wpAny_mono (h s.heap.objs.size (hHn _ hnone) (fun p hp => ⟨hHn _ (hfresh p hp), Nat.ne_of_gt (habove p hp)⟩) { s with heap := h1, toks := tk1 } hst) (fun f s' ⟨ρ', H', x, y, z⟩ => ?_) fun _ _ e => e.elim
  have e1 : (∃ H', Q (ab (match f with | .ret v => v | _ => .none)) H') := ⟨H', by cases f <;> exact z⟩
  have e2 : ∀ b o, s.heap.get? b = some o → s'.heap.get? b = some o := fun b o e => x.keep b o (by rw [hbase]; exact e)
  have e3 : s'.gens = s.gens ∧ s'.os = s.os := y.same
  exact ⟨by cases f <;> exact e1, e2, e3.1, e3.2⟩
end
end Mine

namespace Mine
open PySem PySem.W PyProof.Rows

noncomputable def aL (k : Str → Option NameKind) : List (Str × V) → Lo → Lo
  | [], m => m
  | (n, v) :: r, m => aL k r (if k n = some .local then fun y => if y = n then some v else m y else m)
noncomputable def aC (k : Str → Option NameKind) : List (Str × V) → Lo → Lo
  | [], m => m
  | (n, v) :: r, m => aC k r (if k n = some .local then m else fun y => if y = n then some v else m y)
theorem bindL_ab {k : Str → Option NameKind} : ∀ {binds : List (Str × Value)} {m : Str → Option Value} {m' : Lo}, (∀ x, (m x).map ab = m' x) → ∀ x, (bindL k binds m x).map ab = aL k (binds.map fun p => (p.1, ab p.2)) m' x
  | [], _, _, h, x => h x
  | (n, v) :: r, m, m', h, x => by
    rw [List.map_cons, bindL, aL]
    refine bindL_ab (fun y => ?_) x
    split
    · show Option.map ab (if y = n then some v else m y) = if y = n then some (ab v) else m' y
      split
      · rfl
      · exact h y
    · exact h y
theorem bindC_ab {k : Str → Option NameKind} : ∀ {binds : List (Str × Value)} {m : Str → Option Value} {m' : Lo}, (∀ x, (m x).map ab = m' x) → ∀ x, (bindC k binds m x).map ab = aC k (binds.map fun p => (p.1, ab p.2)) m' x
  | [], _, _, h, x => h x
  | (n, v) :: r, m, m', h, x => by
    rw [List.map_cons, bindC, aC]
    refine bindC_ab (fun y => ?_) x
    split
    · exact h y
    · show Option.map ab (if y = n then some v else m y) = if y = n then some (ab v) else m' y
      split
      · rfl
      · exact h y

section
variable {C : Cx} {A : Around} {env : Env} {ρ : Lo} {H : AH}
noncomputable def kinds (fd : FuncData) (x : Str) : Option NameKind := fd.scope.names.lookup x
theorem top_fn {a : Addr} {o : Obj} {fd : FuncData} {body : List Stmt} {vals : List Value} {bs : List (Str × V)} {Q : V → AH → Prop} {s : Shared} (hbase : C.base = s.heap) (hrep : ∀ a o, H a = some o → ∃ c, s.heap.get? a = some c ∧ Rep o c) (hown : ∀ a o, H a = some o → o.mut = false)
    (ho : s.heap.get? a = some o) (hd : o.data = .func fd) (hdep : A.depth < recursionLimit)
    (hb : fd.body = .stmts body) (hclo : fd.closure = []) (hcd : s.heap.CodeRec fd.code fd.qualname)
    {binds : List (Str × Value)} (hbt : bindArgs fd ⟨vals, []⟩ = pure binds) (hbs : binds.map (fun p => (p.1, ab p.2)) = bs)
    (hkind : (bs.all fun y => fd.scope.names.lookup y.1 == some .local || fd.scope.names.lookup y.1 == some .cell) = true)
    (hnd : ((cellsFrom 0 fd.scope.names []).map (·.1)).Nodup)
    (h : ∀ L, H L = none → (∀ p ∈ cellsFrom (L + 1) fd.scope.names [], H p.2 = none ∧ p.2 ≠ L) → WS C (A.deeper (callEnvC fd L a)) (callEnvC fd L a) body (aL (kinds fd) bs fun _ => none) (cellH (aC (kinds fd) bs fun _ => none) (cellsFrom (L + 1) fd.scope.names []) H) (fun f _ H' => Q (retv f) H'))
    (hco : fd.scope.isCoroutine = false := by rfl) (hgen : fd.scope.isGenerator = false := by rfl) (hk : fd.scope.kind = .function := by rfl) :
    wpAny C.M A (call (.ref a) vals []) (fun v s' => (∃ H', Q (ab v) H') ∧ (∀ b o, s.heap.get? b = some o → s'.heap.get? b = some o) ∧ s'.gens = s.gens ∧ s'.os = s.os) False2 s :=
  top_call hbase hrep hown ho hd hdep hb hclo hcd hbt hbs hkind hnd (aL (kinds fd) bs fun _ => none) (aC (kinds fd) bs fun _ => none) (fun L x => by rw [← hbs]; exact bindL_ab (fun _ => rfl) x) (fun L x => by rw [← hbs]; exact bindC_ab (fun _ => rfl) x) h hco hgen hk

/-! sums, counts, shorter -/
theorem slc_drop (vs : List V) (k : Nat) : slc (some (k : Int)) none vs = vs.drop k := by
  unfold slc
  rcases Nat.lt_or_ge vs.length k with h | h
  · have e : ((clipAt vs.length (k : Int)) : Nat) = vs.length := by simp [clipAt]; omega
    rw [show (some (k : Int)).elim 0 (clipAt vs.length) = vs.length from e, List.drop_of_length_le (Nat.le_refl _), List.drop_of_length_le (Nat.le_of_lt h)]; simp
  · have e : ((clipAt vs.length (k : Int)) : Nat) = k := by simp [clipAt]; lia
    rw [show (some (k : Int)).elim 0 (clipAt vs.length) = k from e]
    exact List.take_of_length_le (by simp)
theorem WE.callB {id : Str} {p pos : Pos} {a : Addr} {o : Obj} {fd : FuncData} {es : List Expr} {ks : List Keyword} {Q : V → AH → Prop} (hfn : ∀ H, FnAt C H a o fd) (hf : Ev C A env ρ H (.Name id p) (.ref a))
    (h : WEs C A env es ρ H (fun vs H1 => WKs C A env ks ρ H1 (fun kv H2 => WCall C A (.ref a) vs kv H2 Q))) (hn : noStar es = true := by rfl) (hk : ks.all (·.arg.isSome) = true := by rfl) :
    WE C A env (.Call (.Name id p) es ks pos) ρ H Q := WE.callFn (o := o) (fd := fd) hf (WEs.mono h fun vs H1 q => by
      have : ∀ {ks : List Keyword} {H1 : AH} {Q Q' : List (Str × V) → AH → Prop}, (∀ kv H2, Q kv H2 → Q' kv H2) → WKs C A env ks ρ H1 Q → WKs C A env ks ρ H1 Q' := by
        intro ks
        induction ks with
        | nil => intro H1 Q Q' hq h; exact hq _ _ h
        | cons k ks ih =>
          intro H1 Q Q' hq h
          obtain ⟨arg, value⟩ := k
          cases arg with
          | none => exact h
          | some n => exact WE.mono h fun v H2 h => ih (fun kv H3 q => hq _ _ q) h
      exact this (fun kv H2 q => ⟨hfn H2, q⟩) q) hn hk
theorem Fx.comp {scope : Scope} {cl : List (Str × Addr)} {Cn : Addr} (F : Fx C A env) (h : scope.kind = .function) : Fx C A (compEnvC scope cl Cn env) := ⟨h, F.gl, F.bu, F.hh⟩
end
end Mine

namespace Mine
open PySem PySem.W PyProof.Rows

/-! ## the top -/
theorem gl_own {C : Cx} {K : Frag} {x : Str} {v : Value} (hK : K.In C.base) (e : nsIn K mainGlobals x = some (some v)) : C.gl x = some v := by
  unfold Cx.gl; rw [mg_of hK C.hg e]
theorem gl_boot {C : Cx} {K : Frag} {x : Str} {v : Value} (hK : K.In C.base) (e : nsIn K mainGlobals x = some none) (hb : C.mb x = some v) : C.gl x = some v := by
  unfold Cx.gl; rw [ns_none_of hK C.hg e]; exact hb
theorem ints_of : ∀ {vs : List Value} {ns : List Int}, IntsAre vs ns → vs.map ab = vints ns
  | _, _, .nil => rfl
  | _, _, .cons _ _ h => by
    rw [List.map_cons, ints_of h]; rfl
theorem law_end {r : RowW} {cl : Str → Option Addr} {mean : ExcName → Option Value} {args : List WData} {s₁ s' : Shared} (hr : r.raises = []) (hp : r.claim.post args (.bool true) args = true)
    (hk : ∀ b o, s₁.heap.get? b = some o → s'.heap.get? b = some o) (hg : s'.gens = #[]) (hos : s'.os = s₁.os) : GoodWG r.claim cl mean args s₁ (.ok (.ret (.bool true))) s' :=
  GoodW.toG ⟨.inl ⟨.bool true, .bool true, [], rfl, raisesW_false (by rw [hr]; exact allW_false_nil), .bool true, hp, unshared_nil⟩, hk, hos, hg⟩
noncomputable def bodyOf (fd : FuncData) : List Stmt := match fd.body with
  | .stmts b => b
  | _ => []
noncomputable def fdOf (K : Frag) (a : Addr) : FuncData := match K.lookup a with
  | some ⟨_, _, .func fd, _⟩ => fd
  | _ => default
theorem noCell {l : List (Str × NameKind)} (h : l.all (fun x => x.2 != .cell) = true) : ∀ x ∈ l, x.2 ≠ .cell := fun x hx q => by
  have := List.all_eq_true.mp h x hx
  rw [q] at this
  exact absurd this (by decide)
theorem allLocal {l : List (Str × NameKind)} {bs : List (Str × V)} (h : bs.all (fun x => l.lookup x.1 == some .local) = true) : ∀ x ∈ bs, l.lookup x.1 = some .local := fun x hx => by
  simpa using List.all_eq_true.mp h x hx
theorem fn_in {C : Cx} {H : AH} {K : Frag} (hK : K.In C.base) (a : Addr) (h : K.lookup a = some ⟨.type "function", none, .func (fdOf K a), #[]⟩) : FnAt C H a ⟨.type "function", none, .func (fdOf K a), #[]⟩ (fdOf K a) := ⟨rfl, .inl (hK a _ h)⟩
end Mine

namespace Mine
open PySem PySem.W PyProof.Rows

section
variable {C : Cx} {A : Around} {env : Env} {ρ : Lo} {H : AH}

/-! ## a list changed, given by the ledger -/
theorem upd_map {D : Addr} {o o' : Obj} : ∀ {l : List (Addr × Obj)}, l.Pairwise (fun p q => p.1 ≠ q.1) → (D, o) ∈ l → Upd D o o' l (l.map fun p => if p.1 = D then (D, o') else p)
  | [], _, h => by cases h
  | p :: r, hp, h => by
    obtain ⟨h1, h2⟩ := List.pairwise_cons.mp hp
    rw [List.map_cons]
    by_cases q : p.1 = D
    · have hp : p = (D, o) := by
        rcases List.mem_cons.mp h with e | e
        · exact e.symm
        · exact absurd q (h1 _ e)
      subst hp
      have hr : ∀ x ∈ r, x.1 ≠ D := fun x hx => Ne.symm (h1 x hx)
      rw [if_pos rfl]
      have : (r.map fun p => if p.1 = D then (D, o') else p) = r := by
        conv => rhs; rw [← List.map_id r]
        exact List.map_congr_left fun x hx => by rw [if_neg (hr x hx)]; rfl
      rw [this]
      exact .head hr
    · rw [if_neg q]
      have : (D, o) ∈ r := by
        rcases List.mem_cons.mp h with e | e
        · rw [← e] at q; exact absurd rfl q
        · exact e
      exact .tail q (upd_map h2 this)
theorem allNews_keys (h : Heap) (L : Addr) : (allNews h L).Pairwise (fun p q => p.1 ≠ q.1) := by
  unfold allNews
  refine List.Pairwise.filterMap _ ?_ (List.nodup_range (n := h.objs.size))
  intro a a' hne b hb b' hb'
  have key : ∀ {a : Addr} {b : Addr × Obj}, (if a = L then none else (h.get? a).map fun o => (a, o)) = some b → b.1 = a := by
    intro a b e
    split at e
    · cases e
    · cases hg : h.get? a with
      | none => rw [hg] at e; cases e
      | some o => rw [hg] at e; cases e; rfl
  rw [key hb, key hb']; exact hne
/-- what the ledger says behind a change -/
theorem upd_all {L D : Addr} {h : Heap} {o o' : Obj} (hD : D ≠ L) (ho : h.get? D = some o) : ∃ news', Upd D o o' (allNews h L) news' ∧ ∀ h', News noHeap L h' news' → h'.get? D = some o' ∧ ∀ b ob, b ≠ L → b ≠ D → h.get? b = some ob → h'.get? b = some ob := by
  refine ⟨_, upd_map (allNews_keys h L) (mem_allNews ho hD), fun h' N => ⟨?_, fun b ob hb hbD e => ?_⟩⟩
  · exact (N (D, o') (List.mem_map.mpr ⟨(D, o), mem_allNews ho hD, by simp⟩)).1
  · exact (N (b, ob) (List.mem_map.mpr ⟨(b, ob), mem_allNews e hb, by simp [hbD]⟩)).1
theorem St.upd_fr {L a : Addr} {h h' : Heap} {c : Obj} {o₀ o : O} {m : Str → Option Value} (x : St C L ρ H h) (F : Fr noHeap L h' m) (hm : ∀ x, (m x).map ab = ρ x) (hH : H a = some o₀) (hmut : o₀.mut = true) (hc : h'.get? a = some c) (hr : Rep o c) (k : ∀ b o, b ≠ L → b ≠ a → h.get? b = some o → h'.get? b = some o) : St C L ρ (H.set a o) h' where
  keep := fun b o e => k _ _ (fun q => by rw [q, x.bl] at e; cases e) (fun q => by rw [q, x.own a o₀ hH hmut] at e; cases e) (x.keep b o e)
  rep := fun b o' e => by
    by_cases q : b = a
    · subst q; rw [AH.set_same] at e; cases e; exact ⟨c, hc, hr⟩
    · rw [AH.set_ne _ _ q] at e; obtain ⟨c, e1, e2⟩ := x.rep b o' e; exact ⟨c, k _ _ (fun q => by rw [q, x.nl] at e; cases e) q e1, e2⟩
  own := fun b o' e hm' => by
    by_cases q : b = a
    · subst q; exact x.own _ _ hH hmut
    · rw [AH.set_ne _ _ q] at e; exact x.own b o' e hm'
  loc := ⟨m, F.ns, hm⟩
  nl := by rw [AH.set_ne _ _ (fun q => by rw [← q, x.nl] at hH; cases hH)]; exact x.nl
  bl := x.bl
theorem Step.upd_fr {L a : Addr} {s : Shared} {h' : Heap} {tk : Nat} {c : Obj} {o₀ o : O} {m : Str → Option Value} (F : Fr noHeap L h' m) (hH : H a = some o₀) (hc : h'.get? a = some c) (k : ∀ b o, b ≠ L → b ≠ a → s.heap.get? b = some o → h'.get? b = some o) : Step L H (H.set a o) s { s with heap := h', toks := tk } :=
  ⟨⟨rfl, rfl⟩, fun b o e hb hL => k b o hL (fun q => by rw [q, hH] at hb; cases hb) e, fun b o e hb => by rw [AH.set_ne _ _ (fun q => by rw [q, hH] at hb; cases hb)]; exact hb, fun b o e => by
    by_cases q : b = a
    · subst q; exact ⟨c, hc⟩
    · by_cases ql : b = L
      · subst ql; obtain ⟨o', _, _, ho, _⟩ := F.ns; exact ⟨o', ho⟩
      · exact ⟨o, k b o ql q e⟩⟩
theorem St.at {L D : Addr} {h : Heap} {vs : List V} (hs : St C L ρ H h) (hH : H D = some (.list vs)) : ∃ its n, h.get? D = some (listOf its n) ∧ its.toList.map ab = vs ∧ vs.length ≤ sizeLine ∧ D ≠ L := by
  obtain ⟨c, e1, xs, n, rfl, e2, e3⟩ := hs.rep _ _ hH
  exact ⟨xs, n, e1, e2, e3, fun q => by rw [q, hs.nl] at hH; cases hH⟩

/-! ## methods -/
theorem ab_nil {kvs : List (Str × Value)} (h : kvs.map (fun p => (p.1, ab p.2)) = []) : kvs = [] := by simpa using h
theorem kl_last_some : ∀ {l : List Value}, l ≠ [] → ∃ y, kl_last l = some (l.dropLast, y) ∧ l.getLast? = some y
  | [], h => absurd rfl h
  | [x], _ => ⟨x, rfl, rfl⟩
  | x :: y :: r, _ => by
    obtain ⟨z, e1, e2⟩ := kl_last_some (l := y :: r) (by simp)
    refine ⟨z, ?_, ?_⟩
    · rw [kl_last, e1]; rfl
    · rw [List.getLast?_cons_cons]; exact e2
theorem WCall.pop {a : Addr} {vs : List V} {v : V} {Q : V → AH → Prop} (hH : H a = some (.list (vs ++ [v]))) (h : Q v (H.set a (.list vs))) : WCall C A (.bi "list.pop") [.ref a] [] H Q := by
  intro L ρ fv vals kvs e1 e2 e3
  cases ab_bi e1
  obtain ⟨x, rfl, ex⟩ := vals1 e2
  cases ab_ref ex
  cases ab_nil e3
  intro s hs
  obtain ⟨its, n, ho, hi, hsz, hL⟩ := hs.at hH
  obtain ⟨m, F, hm⟩ := hs.fr
  have hlen : its.toList.length = (vs ++ [v]).length := by rw [← hi]; simp
  obtain ⟨y, ey, ey'⟩ := kl_last_some (l := its.toList) (by intro q; rw [q] at hlen; simp at hlen)
  obtain ⟨news', U, hU⟩ := upd_all (o' := listOf its.toList.dropLast.toArray (n + 1)) hL ho
  have hvy : ab y = v := by
    have := congrArg List.getLast? hi
    rw [List.getLast?_map, ey'] at this
    simpa using this
  refine kl_pop F (news_all _ _) ey U (by rw [hlen]; exact hsz) (fun h' F' N' => ?_)
  obtain ⟨k1, k2⟩ := hU h' N'
  refine ⟨_, _, hs.upd_fr F' hm hH rfl k1 (o := .list vs) ⟨_, _, rfl, ?_, ?_⟩ k2, .upd_fr F' hH k1 k2, rfl, by rw [hvy]; exact h⟩
  · rw [List.toList_toArray, List.map_dropLast, hi]; simp
  · simp at hsz; lia
end
end Mine

namespace Mine
open PySem PySem.W PyProof.Rows
open PySem.SeqAt (shaped compareEq_shaped compareNe_shaped in_list_reads notIn_list_reads canLay_of_shaped depth_of_shaped)

/-! ## deep data -/
mutual
noncomputable def Rd (H : AH) (v : V) : PyData → Prop
  | .none => v = .none
  | .bool b => v = .bool b
  | .int i => v = .int i
  | .str x => v = .str x
  | .list ds => ∃ a ob vs, v = .ref a ∧ H a = some ob ∧ lst ob = some vs ∧ RdL H vs ds
  | .tuple ds => ∃ a vs, v = .ref a ∧ H a = some (.tup vs) ∧ RdL H vs ds
  | .dict _ => False
noncomputable def RdL (H : AH) (vs : List V) : List PyData → Prop
  | [] => vs = []
  | d :: ds => ∃ v r, vs = v :: r ∧ Rd H v d ∧ RdL H r ds
end

section
variable {C : Cx} {A : Around} {env : Env} {ρ : Lo} {H : AH}
mutual
theorem Rd.reads {L : Addr} {h : Heap} (hs : St C L ρ H h) : ∀ (d : PyData) (x : Value), Rd H (ab x) d → ∃ as, Reads h x d as
  | .none, x, r => by rw [Rd] at r; cases ab_none r; exact ⟨_, .none⟩
  | .bool b, x, r => by rw [Rd] at r; cases ab_bool r; exact ⟨_, .bool b⟩
  | .int i, x, r => by rw [Rd] at r; obtain ⟨t, rfl⟩ := ab_int r; exact ⟨_, .int i t⟩
  | .str y, x, r => by rw [Rd] at r; obtain ⟨t, rfl⟩ := ab_str r; exact ⟨_, .str y t⟩
  | .list ds, x, r => by
    rw [Rd] at r
    obtain ⟨a, ob, vs, e, hH, hl, hr⟩ := r
    cases ab_ref e
    obtain ⟨xs, ⟨o, ho, hc, n, hd⟩, h2, _⟩ := hs.list hH hl
    obtain ⟨as, R⟩ := RdL.reads hs ds xs.toList (by rw [h2]; exact hr)
    exact ⟨_, .list ho hc hd R⟩
  | .tuple ds, x, r => by
    rw [Rd] at r
    obtain ⟨a, vs, e, hH, hr⟩ := r
    cases ab_ref e
    obtain ⟨xs, ⟨o, ho, hc, n, hd⟩, h2, _⟩ := hs.tup hH
    obtain ⟨as, R⟩ := RdL.reads hs ds xs.toList (by rw [h2]; exact hr)
    exact ⟨_, .tuple ho hc hd R⟩
  | .dict _, x, r => by rw [Rd] at r; exact r.elim
theorem RdL.reads {L : Addr} {h : Heap} (hs : St C L ρ H h) : ∀ (ds : List PyData) (xs : List Value), RdL H (xs.map ab) ds → ∃ as, ReadsAll h xs ds as
  | [], xs, r => by
    rw [RdL] at r
    have : xs = [] := by simpa using r
    subst this; exact ⟨_, .nil⟩
  | d :: ds, xs, r => by
    rw [RdL] at r
    obtain ⟨v, q, e, r1, r2⟩ := r
    cases xs with
    | nil => simp at e
    | cons x xs =>
      rw [List.map_cons] at e
      cases e
      obtain ⟨as, R⟩ := Rd.reads hs d x r1
      obtain ⟨bs, R'⟩ := RdL.reads hs ds xs r2
      exact ⟨_, .cons R R'⟩
end
theorem RdL_ints {H : AH} : ∀ (ns : List Int), RdL H (vints ns) (ns.map .int)
  | [] => by rw [List.map_nil, RdL]; rfl
  | n :: ns => by rw [List.map_cons, RdL]; exact ⟨.int n, vints ns, rfl, by rw [Rd], RdL_ints ns⟩
noncomputable def dints (ns : List Int) : PyData := .list (ns.map .int)
theorem Rd_ints {H : AH} {a : Addr} {ob : O} {ns : List Int} (h : H a = some ob) (hl : lst ob = some (vints ns)) : Rd H (.ref a) (dints ns) := by
  unfold dints; rw [Rd]; exact ⟨a, ob, _, rfl, h, hl, RdL_ints ns⟩
theorem shaped_ints (ns : List Int) : shaped (dints ns) = true := by
  have h1 : PyData.canLayAll0 (ns.map .int) = true := by
    induction ns with
    | nil => rfl
    | cons n ns ih => rw [List.map_cons, PyData.canLayAll0, ih]; rfl
  have h2 : PyData.depthAll (ns.map .int) = 0 := by
    induction ns with
    | nil => rfl
    | cons n ns ih =>
      rw [List.map_cons, PyData.depthAll, ih (by rw [List.map_cons, PyData.canLayAll0] at h1; exact (Bool.and_eq_true_iff.mp h1).2)]; rfl
  unfold shaped dints
  rw [PyData.canLay0, PyData.depth, h1, h2]; rfl
theorem eqvAll_map {α : Type} [DecidableEq α] {enc : α → PyData} (he : ∀ a b, PyData.eqv (enc a) (enc b) = decide (a = b)) : ∀ (xs ys : List α), PyData.eqvAll (xs.map enc) (ys.map enc) = decide (xs = ys)
  | [], [] => by simp [PyData.eqvAll]
  | [], _ :: _ => by simp [PyData.eqvAll]
  | _ :: _, [] => by simp [PyData.eqvAll]
  | x :: xs, y :: ys => by
    rw [List.map_cons, List.map_cons, PyData.eqvAll, he, eqvAll_map he]
    simp
theorem eqv_list_map {α : Type} [DecidableEq α] {enc : α → PyData} (he : ∀ a b, PyData.eqv (enc a) (enc b) = decide (a = b)) (xs ys : List α) : PyData.eqv (.list (xs.map enc)) (.list (ys.map enc)) = decide (xs = ys) := by
  rw [PyData.eqv]; exact eqvAll_map he xs ys
theorem eqv_int (a b : Int) : PyData.eqv (.int a) (.int b) = decide (a = b) := by
  rw [PyData.eqv]; rfl
theorem eqv_ints (xs ys : List Int) : PyData.eqv (dints xs) (dints ys) = decide (xs = ys) := eqv_list_map eqv_int xs ys

theorem W.eqData {L : Addr} {x y : Value} {d e : PyData} {Q : Value → Lo → AH → Prop} (hx : Rd H (ab x) d) (hy : Rd H (ab y) e) (hd : shaped d = true) (he : shaped e = true) (hu : A.units + 64 < cLine) (h : Q (.bool (PyData.eqv d e)) ρ H) : W C A L (compareOp .Eq x y) ρ H Q := fun s hs => by
  obtain ⟨as, R⟩ := Rd.reads hs d x hx
  obtain ⟨bs, R'⟩ := Rd.reads hs e y hy
  exact compareEq_shaped R R' hd he hu ⟨ρ, H, hs, .refl .., h⟩
theorem W.neData {L : Addr} {x y : Value} {d e : PyData} {Q : Value → Lo → AH → Prop} (hx : Rd H (ab x) d) (hy : Rd H (ab y) e) (hd : shaped d = true) (he : shaped e = true) (hu : A.units + 64 < cLine) (h : Q (.bool (!PyData.eqv d e)) ρ H) : W C A L (compareOp .NotEq x y) ρ H Q := fun s hs => by
  obtain ⟨as, R⟩ := Rd.reads hs d x hx
  obtain ⟨bs, R'⟩ := Rd.reads hs e y hy
  exact compareNe_shaped R R' hd he hu ⟨ρ, H, hs, .refl .., h⟩

/-- a comparison whose sides may make things, as a value and as a test -/
theorem WE.cmp {l r : Expr} {op : CmpOp} {pos : Pos} {Q : V → AH → Prop} (h : WE C A env l ρ H (fun v H1 => WE C A env r ρ H1 (fun w H2 => ∀ x y, ab x = v → ab y = w → W C A env.locals (compareOp op x y) ρ H2 (fun z ρ' H' => ρ' = ρ ∧ Q (ab z) H'))))
    (hm : behindInMarks op r = false := by with_unfolding_all rfl) : WE C A env (.Compare l [op] [r] pos) ρ H Q :=
  W.Compare1 hm (W.mono h (by rintro x _ H1 ⟨rfl, h1⟩; exact W.mono h1 (by rintro y _ H2 ⟨rfl, h2⟩; exact h2 x y rfl rfl)))
theorem WT.cmp {l r : Expr} {op : CmpOp} {pos : Pos} {Q : Bool → AH → Prop} (h : WE C A env l ρ H (fun v H1 => WE C A env r ρ H1 (fun w H2 => ∀ x y, ab x = v → ab y = w → W C A env.locals (compareOp op x y) ρ H2 (fun z ρ' H' => ρ' = ρ ∧ ∃ b, z = .bool b ∧ Q b H'))))
    (hm : behindInMarks op r = false := by with_unfolding_all rfl) : WT C A env (.Compare l [op] [r] pos) ρ H Q :=
  W.isTrue_Compare1 hm (W.mono h (by rintro x _ H1 ⟨rfl, h1⟩; exact W.mono h1 (by rintro y _ H2 ⟨rfl, h2⟩; exact W.mono (h2 x y rfl rfl) (by rintro z _ H3 ⟨rfl, b, rfl, q⟩; exact W.truthy_bool ⟨rfl, q⟩))))
theorem WT.neD {l r : Expr} {pos : Pos} {Q : Bool → AH → Prop} (hu : A.units + 64 < cLine) (h : WE C A env l ρ H (fun v H1 => WE C A env r ρ H1 (fun w H2 => ∃ d e, Rd H2 v d ∧ Rd H2 w e ∧ shaped d = true ∧ shaped e = true ∧ Q (!PyData.eqv d e) H2)))
    (hm : behindInMarks .NotEq r = false := by with_unfolding_all rfl) : WT C A env (.Compare l [.NotEq] [r] pos) ρ H Q :=
  WT.cmp (WE.mono h fun v H1 q => WE.mono q fun w H2 ⟨d, e, r1, r2, s1, s2, q⟩ x y ex ey => W.neData (ex ▸ r1) (ey ▸ r2) s1 s2 hu ⟨rfl, _, rfl, q⟩) hm
theorem WE.eqD {l r : Expr} {pos : Pos} {Q : V → AH → Prop} (hu : A.units + 64 < cLine) (h : WE C A env l ρ H (fun v H1 => WE C A env r ρ H1 (fun w H2 => ∃ d e, Rd H2 v d ∧ Rd H2 w e ∧ shaped d = true ∧ shaped e = true ∧ Q (.bool (PyData.eqv d e)) H2)))
    (hm : behindInMarks .Eq r = false := by with_unfolding_all rfl) : WE C A env (.Compare l [.Eq] [r] pos) ρ H Q :=
  WE.cmp (WE.mono h fun v H1 q => WE.mono q fun w H2 ⟨d, e, r1, r2, s1, s2, q⟩ x y ex ey => W.eqData (ex ▸ r1) (ey ▸ r2) s1 s2 hu ⟨rfl, q⟩) hm
/-- pure tests out of tests that make things -/
theorem WT.ev {e : Expr} {b : Bool} (h : WT C A env e ρ H (fun b' H' => b' = b ∧ H' = H)) : EvT C A env ρ H e b := W.mono h (by rintro x _ _ ⟨rfl, rfl, rfl⟩; exact ⟨rfl, rfl, rfl⟩)

/-! ## in -/

/-! ## negative places, stores, repeats, powers, the greatest -/
end
end Mine

namespace Mine
open PySem PySem.W PyProof.Rows

section
variable {C : Cx} {A : Around} {env : Env} {ρ : Lo} {H : AH}


/-! ## stores into lists -/
theorem ki_setL_some : ∀ {l : List Value} {k : Nat} {v : Value}, k < l.length → ki_setL l k v = some (l.set k v)
  | [], k, v, h => by simp at h
  | x :: r, 0, v, _ => rfl
  | x :: r, k + 1, v, h => by
    have := ki_setL_some (l := r) (k := k) (v := v) (by simpa using h)
    unfold ki_setL
    rw [this]; rfl
theorem W.setItem {L a : Addr} {vs : List V} {k : Nat} {x y : Value} {Q : Unit → Lo → AH → Prop} (hH : H a = some (.list vs)) (hx : ab x = .int k) (hk : k < vs.length) (h : Q () ρ (H.set a (.list (vs.set k (ab y))))) : W C A L (PySem.setItem (.ref a) x y) ρ H Q := fun s hs => by
  obtain ⟨t, rfl⟩ := ab_int hx
  obtain ⟨its, n, ho, hi, hsz, hL⟩ := hs.at hH
  obtain ⟨m, F, hm⟩ := hs.fr
  have hlen : its.toList.length = vs.length := by rw [← hi]; simp
  have hsl : (sizeLine : Int) < 2 ^ 62 := by decide
  obtain ⟨news', U, hU⟩ := upd_all (o' := listOf (its.toList.set k y).toArray n) hL ho
  refine ki_set F (news_all _ _) (by lia) (by lia) (q := its.toList.set k y) (by rw [Int.toNat_natCast]; exact ki_setL_some (by lia)) U (fun h' F' N' => ?_)
  obtain ⟨k1, k2⟩ := hU h' N'
  refine ⟨_, _, hs.upd_fr F' hm hH rfl k1 (o := .list (vs.set k (ab y))) ⟨_, _, rfl, ?_, ?_⟩ k2, .upd_fr F' hH k1 k2, h⟩
  · rw [List.toList_toArray, List.map_set, hi]
  · simp; exact hsz
/-- a[i] = v -/
theorem Asg.item {o i : Expr} {pos : Pos} {v : V} {a : Addr} {k : Nat} {vs : List V} {Q : Lo → AH → Prop} (h1 : Ev C A env ρ H o (.ref a)) (h2 : Ev C A env ρ H i (.int k)) (hH : H a = some (.list vs)) (hk : k < vs.length) (h : Q ρ (H.set a (.list (vs.set k v)))) : Asg C A env (.Subscript o i pos) (.one v) ρ H Q := fun s y hs hd => by
  have e : ab y = v := hd
  subst e
  refine kas_sub ?_
  refine wpAny_mono (h1 s hs) (fun ov s1 ⟨ρ1, H1, a1, b1, c1, c2, c3⟩ => ?_) fun _ _ e => e
  subst c1 c2
  cases ab_ref c3
  refine wpAny_mono (h2 s1 a1) (fun iv s2 ⟨ρ2, H2, a2, b2, c1, c2, c3⟩ => ?_) fun _ _ e => e
  subst c1 c2
  exact W.at (W.setItem hH c3 hk h) a2 (b1.trans b2 (fun _ _ => a2.nl))

/-! ## repeats, powers, the greatest -/
theorem WE.mulList {l r : Expr} {pos : Pos} {Q : V → AH → Prop}
    (h : WE C A env l ρ H (fun v H1 => WE C A env r ρ H1 (fun w H2 => ∃ a k v0, v = .ref a ∧ w = .int k ∧ H2 a = some (.list [v0]) ∧ 0 ≤ k ∧ k ≤ 1000000 ∧ ∀ c, H2 c = none → Q (.ref c) (H2.set c (.list (List.replicate k.toNat v0)))))) :
    WE C A env (.BinOp l .Mult r pos) ρ H Q := by
  refine W.BinOp (W.mono h ?_)
  rintro x _ H1 ⟨rfl, h1⟩
  refine W.mono h1 ?_
  rintro y _ H2 ⟨rfl, a, k, v0, ex, ey, ha, k0, k1, hq⟩
  cases ab_ref ex
  obtain ⟨u, rfl⟩ := ab_int ey
  intro s hs
  obtain ⟨its, n, ho, hi, hsz, hL⟩ := hs.at ha
  obtain ⟨m, F, hm⟩ := hs.fr
  have hn := get?_size_none s.heap
  have hlen : its.size = 1 := by rw [← Array.length_toList]; have := congrArg List.length hi; simpa using this
  obtain ⟨y0, hy0, hy0'⟩ : ∃ y0, its.toList = [y0] ∧ ab y0 = v0 := by
    obtain ⟨x, e1, e2⟩ := vals1 hi
    exact ⟨x, e1, e2⟩
  refine mul_list F (news_all s.heap env.locals) ho (by lia) (by lia) (by rw [hlen]; lia) (fun h' F' N' => ?_)
  have kk := News.kept N' fun p hp => List.mem_cons_of_mem _ hp
  have hc := (N' _ (List.mem_cons_self ..)).1
  have hemp : its.isEmpty = false := by simp [Array.isEmpty, hlen]
  have hfold : (List.foldl (fun x1 x2 => x1 ++ x2) (#[] : Array Value) (List.replicate (if its.isEmpty = true then 0 else k.toNat) its)).toList.map ab = List.replicate k.toNat v0 := by
    rw [hemp, if_neg (by simp)]
    have : ∀ (j : Nat) (z : Array Value), (List.foldl (fun x1 x2 => x1 ++ x2) z (List.replicate j its)).toList.map ab = z.toList.map ab ++ List.replicate j v0 := by
      intro j
      induction j with
      | zero => intro z; simp
      | succ j ih => intro z; rw [List.replicate_succ, List.foldl_cons, ih]; simp [hy0, hy0', List.replicate_succ]
    rw [this]; simp
  have hsl : 1000000 ≤ sizeLine := by decide
  exact ⟨_, _, hs.alloc_fr F' hm hn hc (o := .list (List.replicate k.toNat v0)) ⟨_, _, rfl, hfold, by rw [List.length_replicate]; lia⟩ kk, Step.alloc_fr (tk := s.toks) F' hn kk, rfl, hq _ (hs.fresh hn).1⟩

/-! ## the place's own changes -/
theorem W.loadLocal {x : Str} {v : V} (F : Fx C A env) (hl : env.kindOf x = some .local) (hv : ρ x = some v) : W C A env.locals (loadName env x) ρ H (fun y ρ' H' => ρ' = ρ ∧ H' = H ∧ ab y = v) := fun s hs => by
  obtain ⟨m, hn, hm⟩ := hs.loc
  have := hm x
  rw [hv] at this
  cases hx : m x with
  | none => rw [hx] at this; cases this
  | some y => rw [hx] at this; exact wpAny_loadName_local F.kind hl hn hx ⟨ρ, H, hs, .refl .., rfl, rfl, by simpa using this⟩
theorem W1.augLocal {x : Str} {p pos : Pos} {op : Operator} {e : Expr} {Q : Fl → Lo → AH → Prop} {u : V} (F : Fx C A env) (hl : env.kindOf x = some .local) (hv : ρ x = some u)
    (h : WE C A env e ρ H (fun v H1 => ∀ y z, ab y = u → ab z = v → W C A env.locals (inplaceOp op y z) ρ H1 (fun r ρ' H' => ρ' = ρ ∧ Q .next (ρ.set x (ab r)) H'))) : W1 C A env (.AugAssign (.Name x p) op e pos) ρ H Q := fun s hs => by
  refine wpAny_AugAssign_Name ?_
  refine wpAny_mono (W.loadLocal F hl hv s hs) (fun old s1 ⟨ρ1, H1, a1, b1, c1, c2, c3⟩ => ?_) fun _ _ e => e
  subst c1 c2
  refine wpAny_mono (h s1 a1) (fun v s2 ⟨ρ2, H2, a2, b2, c1, c4⟩ => ?_) fun _ _ e => e
  subst c1
  refine wpAny_mono (c4 old v c3 rfl s2 a2) (fun r s3 ⟨ρ3, H3, a3, b3, c1, c5⟩ => ?_) fun _ _ e => e
  subst c1
  exact W.at (W.storeLocal F hl c5) a3 ((b1.trans b2 (fun _ _ => a2.nl)).trans b3 (fun _ _ => a3.nl))
theorem W1.augAdd {x : Str} {p pos : Pos} {e : Expr} {Q : Fl → Lo → AH → Prop} {a b : Int} (F : Fx C A env) (hl : env.kindOf x = some .local) (hv : ρ x = some (.int a)) (he : Ev C A env ρ H e (.int b)) (h : Q .next (ρ.set x (.int (a + b))) H) : W1 C A env (.AugAssign (.Name x p) .Add e pos) ρ H Q :=
  W1.augLocal F hl hv (WE.of he fun y z ey ez => by
    obtain ⟨t, rfl⟩ := ab_int ey; obtain ⟨u, rfl⟩ := ab_int ez
    exact fun s hs => PySem.AutoIntOps.iadd_0 ⟨ρ, H, hs, .toks, rfl, h⟩)

/-! ## backwards -/
theorem WE.rev {o e : Expr} {p pos : Pos} {Q : V → AH → Prop}
    (h : WE C A env o ρ H (fun v H1 => ∃ l ob vs, v = .ref l ∧ H1 l = some ob ∧ lst ob = some vs ∧ Ev C A env ρ H1 e (.int (-1)) ∧ ∀ c, H1 c = none → Q (.ref c) (H1.set c (.list vs.reverse)))) :
    WE C A env (.Subscript o (.Slice none none (some e) p) pos) ρ H Q := fun s hs => by
  refine Subscript_ (wpAny_mono (h s hs) (fun x s1 ⟨ρ1, H1, a1, b1, c1, l, ob, vs, d1, d2, d3, d4, d6⟩ => ?_) fun _ _ e => e)
  subst c1
  cases ab_ref d1
  refine wpAny_Slice ?_
  rw [evalPart_none]
  refine wpAny_pure (wpAny_pure ?_)
  have hp := (EvP.some d4).run s1 a1
  refine wpAny_mono hp (fun vu s3 ⟨ρ3, H3, a3, b3, c3, c4, pu⟩ => ?_) fun _ _ e => e
  subst c3 c4
  obtain ⟨xs, x1, x2, x3⟩ := a3.list d2 d3
  have k1 : ∀ b o, s3.heap.get? b = some o → (s3.heap.push { cls := .type "slice", data := .fields #[.none, .none, vu] }).get? b = some o := fun b o e => Heap.get?_push_of_some _ e
  have a4 := a3.ext k1
  have x1' := x1.push { cls := .type "slice", data := .fields #[.none, .none, vu] }
  have hn := get?_size_none (s3.heap.push { cls := .type "slice", data := .fields #[.none, .none, vu] })
  refine tail_any (ops := [.ref l, .ref s3.heap.objs.size]) x1'.typeIs slot_list_getitem.lookup (wpAny_getItem_list_slice x1' (Heap.IsSliceOf.new ..) .none .none pu (by simp) ?_ (by rw [arr_size x2]; exact x3)) rfl
  have k2 : ∀ b o, (s3.heap.push { cls := .type "slice", data := .fields #[.none, .none, vu] }).get? b = some o → ((s3.heap.push { cls := .type "slice", data := .fields #[.none, .none, vu] }).push { cls := .type "list", data := .seq (slicePick xs none none (some (-1))) }).get? b = some o := fun b o e => Heap.get?_push_of_some _ e
  refine ⟨_, _, a4.alloc (o := .list vs.reverse) hn (Heap.get?_push_size _ rfl) ⟨_, 0, rfl, ?_, by simpa using x3⟩ k2, ?_, rfl, d6 _ (a4.fresh hn).1⟩
  · rw [krv_pick, List.toList_toArray, List.map_reverse, x2]
  · exact ((b1.trans b3 (fun _ _ => a3.nl)).trans (Step.ext (tk := s3.toks) k1) (fun _ _ => a3.nl)).trans (Step.alloc (tk := s3.toks) hn k2) (fun _ _ => by rw [AH.set_ne _ _ (Ne.symm (a4.fresh hn).2.2)]; exact a4.nl)
end
end Mine

namespace Mine
open PySem PySem.W PyProof.Rows

section
variable {C : Cx} {A : Around} {env : Env} {ρ : Lo} {H : AH}
/-- a list of which nothing is taken -/
theorem comp_none {n : Nat} {elt c : Expr} {x : Str} {pos : Pos} {Ok : Nat → AH → Prop} {P : Nat → AH → Dv → Prop} {g : Nat → V} {Q : AH → List V → Prop} (F : Fx C A env) (hx : env.kindOf x = some .local)
    (hOk : ∀ i, Ok i H) (hP : ∀ i d, P i H d → d = .one (g i)) (he : ∀ i (ρ : Lo), i < n → ρ x = some (g i) → EvT C A env ρ H c false) (hQ : Q H []) :
    LoopOk C A env elt (.Name x pos) [c] [] H n Ok P (fun _ => none) [] (fun _ H2 zs => Q H2 zs) := by
  refine ⟨fun i ρ1 H1 zs => H1 = H ∧ zs = [], ⟨rfl, rfl⟩, ?_, ?_⟩
  · rintro i ρ1 H1 zs hi ⟨rfl, rfl⟩
    refine ⟨hOk i, fun d hd => ?_⟩
    rw [hP i d hd]
    refine Asg.local F hx (WT.of (he i _ hi (Lo.set_same ..)) ⟨fun e => (by cases e), fun _ => ⟨fun e => (by cases e), fun _ => ⟨rfl, rfl⟩⟩⟩)
  · rintro ρ1 H1 zs ⟨rfl, rfl⟩
    exact ⟨hOk n, hQ⟩
theorem vints_at {xs : List Int} {i : Nat} {v : V} (h : (vints xs)[i]? = some v) : v = .int (xs.getD i 0) ∧ i < xs.length := by
  have hi : i < (vints xs).length := (List.getElem?_eq_some_iff.mp h).1
  rw [ints_length] at hi
  rw [List.getD_eq_getElem?_getD]
  refine ⟨?_, hi⟩
  simp [vints, hi] at h ⊢
  exact h.symm
end
end Mine

namespace Mine
open PySem PySem.W PyProof.Rows

/-! ## comparisons and keys as judgements -/
noncomputable def LtOk (C : Cx) (A : Around) (H : AH) (v w : V) (b : Bool) : Prop := ∀ L ρ x y, ab x = v → ab y = w → W C A L (compareOp .Lt x y) ρ H (fun z ρ' H' => ρ' = ρ ∧ H' = H ∧ z = .bool b)
noncomputable def KeyOk (C : Cx) (A : Around) (H : AH) (f : Addr) (v kv : V) : Prop := WCall C A (.ref f) [v] [] H (fun r H' => r = kv ∧ H' = H)
section
variable {C : Cx} {A : Around} {env : Env} {ρ : Lo} {H : AH}
theorem LtOk.int {a b : Int} : LtOk C A H (.int a) (.int b) (decide (a < b)) := fun L ρ x y ex ey => W.icmp (op := .Lt) ex ey rfl ⟨rfl, rfl, rfl⟩
theorem EvT.ltOk {l r : Expr} {pos : Pos} {v w : V} {b : Bool} (h1 : Ev C A env ρ H l v) (h2 : Ev C A env ρ H r w) (h : LtOk C A H v w b) (hm : behindInMarks .Lt r = false := by with_unfolding_all rfl) : EvT C A env ρ H (.Compare l [.Lt] [r] pos) b :=
  WT.ev (WT.cmp (WE.of h1 (WE.of h2 fun x y ex ey => W.mono (h _ _ x y ex ey) (by rintro z _ _ ⟨rfl, rfl, rfl⟩; exact ⟨rfl, _, rfl, rfl, rfl⟩))) hm)
theorem Ev.key {id : Str} {p pos : Pos} {e : Expr} {f : Addr} {o : Obj} {fd : FuncData} {v kv : V} (hf : Ev C A env ρ H (.Name id p) (.ref f)) (hfn : FnAt C H f o fd) (he : Ev C A env ρ H e v) (hk : KeyOk C A H f v kv) (hn : noStar [e] = true := by rfl) : Ev C A env ρ H (.Call (.Name id p) [e] [] pos) kv :=
  WE.ev (WE.callFn hf (WEs.of (.cons he .nil) (WKs.nil ⟨hfn, hk⟩)) hn)
/-! is, is not -/
end
/-- one frame deeper -/
noncomputable def Nx (A A' : Around) : Prop := A'.depth = A.depth + 1 ∧ A'.units = A.units + 3 ∧ A'.handled = A.handled
theorem Nx.of (A : Around) (env : Env) : Nx A (A.deeper env) := ⟨rfl, rfl, rfl⟩

/-! ## the search -/
noncomputable def bis (f : Nat → Bool) (lo hi : Nat) : Nat :=
  if h : lo < hi then
    if f ((lo + hi) / 2) then bis f lo ((lo + hi) / 2) else bis f ((lo + hi) / 2 + 1) hi
  else lo
termination_by hi - lo
decreasing_by all_goals omega
theorem bis_eq {f : Nat → Bool} {s : Nat} : ∀ {lo hi : Nat}, lo ≤ s → s ≤ hi → (∀ i, lo ≤ i → i < s → f i = false) → (∀ i, s ≤ i → i < hi → f i = true) → bis f lo hi = s := by
  intro lo hi
  induction hm : hi - lo using Nat.strongRecOn generalizing lo hi with
  | ind n ih =>
    intro h1 h2 h3 h4
    unfold bis
    by_cases h : lo < hi
    · rw [dif_pos h]
      by_cases hf : f ((lo + hi) / 2) = true
      · rw [if_pos hf]
        have : s ≤ (lo + hi) / 2 := by
          rcases Nat.lt_or_ge ((lo + hi) / 2) s with q | q
          · have := h3 _ (by lia) q; rw [hf] at this; cases this
          · exact q
        exact ih _ (by (clear this hf h4 h3 h2 h1 ih; omega)) rfl h1 this h3 (fun i a b => h4 i a (by lia))
      · rw [if_neg hf]
        have : (lo + hi) / 2 < s := by
          rcases Nat.lt_or_ge ((lo + hi) / 2) s with q | q
          · exact q
          · exact absurd (h4 _ q (by lia)) hf
        exact ih _ (by (clear this hf h4 h3 h2 h1 ih; omega)) rfl this h2 (fun i a b => h3 i (by lia) b) h4
    · rw [dif_neg h]; lia
theorem bis_cross {f : Nat → Bool} {lo hi : Nat} (h : hi ≤ lo) : bis f lo hi = lo := by
  unfold bis; rw [dif_neg (by lia)]
theorem bis_true {f : Nat → Bool} {lo hi : Nat} (h : lo < hi) (hf : f ((lo + hi) / 2) = true) : bis f lo hi = bis f lo ((lo + hi) / 2) := by
  conv => lhs; unfold bis
  rw [dif_pos h, if_pos hf]
theorem bis_false {f : Nat → Bool} {lo hi : Nat} (h : lo < hi) (hf : f ((lo + hi) / 2) = false) : bis f lo hi = bis f ((lo + hi) / 2 + 1) hi := by
  conv => lhs; unfold bis
  rw [dif_pos h, if_neg (by simp [hf])]
end Mine

namespace Mine
open PySem PySem.W PyProof.Rows
open PySem.AutoSeq1 (wpAny_loadPart')
open PySem.MeetsSeq PySem.MeetsSeq3

/-! ## lists of one number, compared -/
section
variable {C : Cx} {A : Around} {env : Env} {ρ : Lo} {H : AH}

/-! ## more lists made -/
/-- of a list's items those that pass a test -/
theorem comp_filter {p : V → Bool} {elt c : Expr} {x : Str} {pos : Pos} {Ok : Nat → AH → Prop} {vs : List V} {g : V → V} {Q : AH → List V → Prop} (F : Fx C A env) (hx : env.kindOf x = some .local) (hn : vs.length ≤ sizeLine)
    (hOk : ∀ i, Ok i H) (he : ∀ v (ρ : Lo), v ∈ vs → ρ x = some v → Ev C A env ρ H elt (g v)) (hc : ∀ v (ρ : Lo), v ∈ vs → ρ x = some v → EvT C A env ρ H c (p v)) (hQ : Q H ((vs.filter p).map g)) :
    LoopOk C A env elt (.Name x pos) [c] [] H vs.length Ok (fun i _ d => ∃ v, vs[i]? = some v ∧ d = .one v) (fun _ => none) [] (fun _ H2 zs => Q H2 zs) := by
  refine ⟨fun i ρ1 H1 zs => H1 = H ∧ zs = ((vs.take i).filter p).map g, ⟨rfl, rfl⟩, ?_, ?_⟩
  · rintro i ρ1 H1 zs hi ⟨rfl, rfl⟩
    refine ⟨hOk i, ?_⟩
    rintro d ⟨v, hv, rfl⟩
    have hm : v ∈ vs := List.mem_of_getElem? hv
    have ht : vs.take (i + 1) = vs.take i ++ [v] := by rw [List.take_add_one, hv]; rfl
    refine Asg.local F hx (WT.of (hc v _ hm (Lo.set_same ..)) ⟨fun e => ⟨fun _ => ?_, fun e => (by cases e)⟩, fun e => ⟨fun e => (by cases e), fun _ => ⟨rfl, ?_⟩⟩⟩)
    · refine WE.of (he v _ hm (Lo.set_same ..)) ⟨?_, rfl, ?_⟩
      · have := List.length_filter_le p (vs.take i)
        simp at this ⊢
        lia
      · rw [ht]; simp [e]
    · rw [ht]; simp [e]
  · rintro ρ1 H1 zs ⟨rfl, rfl⟩
    exact ⟨hOk _, by rw [List.take_length]; exact hQ⟩
/-- the items of lists, one list behind the other -/
theorem comp_flat {x y : Str} {p1 p2 p3 p4 : Pos} {Ok : Nat → AH → Prop} {as : List Addr} {vss : List (List V)} {Q : AH → List V → Prop} (F : Fx C A env) (hx : env.kindOf x = some .local) (hy : env.kindOf y = some .local)
    (hlen : as.length = vss.length) (hat : ∀ (i : Nat) a vs, as[i]? = some a → vss[i]? = some vs → H a = some (.list vs)) (hn : vss.flatten.length ≤ sizeLine)
    (hOk : ∀ i, Ok i H) (hQ : Q H vss.flatten) (hdx : (x == ("__debug__" : Str)) = false := by decide) (hdy : (y == ("__debug__" : Str)) = false := by decide) :
    LoopOk C A env (.Name y p1) (.Name x p2) [] [⟨.Name y p3, .Name x p4, [], 0⟩] H as.length Ok (fun i _ d => ∃ v, (as.map V.ref)[i]? = some v ∧ d = .one v) (fun _ => none) [] (fun _ H2 zs => Q H2 zs) := by
  refine ⟨fun i ρ1 H1 zs => H1 = H ∧ zs = (vss.take i).flatten, ⟨rfl, rfl⟩, ?_, ?_⟩
  · rintro i ρ1 H1 zs hi ⟨rfl, rfl⟩
    refine ⟨hOk i, ?_⟩
    rintro d ⟨v, hv, rfl⟩
    obtain ⟨a, ha, rfl⟩ : ∃ a, as[i]? = some a ∧ v = .ref a := ⟨as[i], List.getElem?_eq_getElem hi, by rw [List.getElem?_map, List.getElem?_eq_getElem hi] at hv; exact (Option.some.inj hv).symm⟩
    have hi' : i < vss.length := by lia
    have hvs : vss[i]? = some vss[i] := List.getElem?_eq_getElem hi'
    have hHa := hat i a _ ha hvs
    refine Asg.local F hx ⟨fun _ => ?_, fun e => by cases e⟩
    refine WIt.list F (WE.of (Ev.local F hx (Lo.set_same ..) hdx) ⟨a, _, _, rfl, hHa, rfl, ?_⟩)
    have ht : (vss.take (i + 1)).flatten = (vss.take i).flatten ++ vss[i] := by rw [List.take_add_one, hvs, List.flatten_append]; simp
    have hle : (vss.take i).flatten.length + vss[i].length ≤ vss.flatten.length := by
      rw [← List.length_append, ← ht]
      conv => rhs; rw [← List.take_append_drop (i + 1) vss]
      rw [List.flatten_append, List.length_append]
      exact Nat.le_add_right _ _
    refine ⟨fun j ρ2 H2 us => H2 = H1 ∧ us = (vss.take i).flatten ++ vss[i].take j, ⟨rfl, by simp⟩, ?_, ?_⟩
    · rintro j ρ2 H2 us hj ⟨rfl, rfl⟩
      refine ⟨hHa, ?_⟩
      rintro d ⟨v, hv, rfl⟩
      refine Asg.local F hy ⟨fun _ => ?_, fun e => by cases e⟩
      refine WE.of (Ev.local F hy (Lo.set_same ..) hdy) ⟨by rw [List.length_append, List.length_take]; lia, rfl, ?_⟩
      rw [List.take_add_one, hv]; simp
    · rintro ρ2 H2 us ⟨rfl, rfl⟩
      exact ⟨hHa, rfl, by rw [List.take_length, ht]⟩
  · rintro ρ1 H1 zs ⟨rfl, rfl⟩
    exact ⟨hOk _, by rw [hlen, List.take_length]; exact hQ⟩
end
end Mine

namespace Mine
open PySem PySem.W PyProof.Rows

/-! ## plain lists: the place among sorted things, one part grown -/
theorem count_split {α : Type} {P : α → Bool} : ∀ {xs : List α}, xs.Pairwise (fun p q => P q = true → P p = true) → ∀ (j : Nat) (x : α), xs[j]? = some x → (P x = true ↔ j < xs.countP P)
  | [], _, j, x, e => by simp at e
  | a :: r, h, j, x, e => by
    obtain ⟨h1, h2⟩ := List.pairwise_cons.mp h
    have ih := count_split h2
    by_cases ha : P a = true
    · rw [List.countP_cons_of_pos ha]
      cases j with
      | zero => simp at e; subst e; simp [ha]
      | succ j => rw [List.getElem?_cons_succ] at e; rw [ih j x e]; lia
    · have hall : ∀ y ∈ r, ¬ P y = true := fun y hy q => ha (h1 y hy q)
      have h0 : r.countP P = 0 := by rw [List.countP_eq_zero]; exact hall
      rw [List.countP_cons_of_neg ha, h0]
      cases j with
      | zero => simp at e; subst e; simp [ha]
      | succ j =>
        rw [List.getElem?_cons_succ] at e
        have := hall x (List.mem_of_getElem? e)
        simp [this]


theorem bis_part {α : Type} {P : α → Bool} {xs : List α} {f : Nat → Bool} {lo hi : Nat} (h : xs.Pairwise (fun p q => P q = true → P p = true)) (hhi : hi = lo + xs.length) (hf : ∀ j x, xs[j]? = some x → f (lo + j) = !P x) : bis f lo hi = lo + xs.countP P := by
  have hc := List.countP_le_length (p := P) (l := xs)
  refine bis_eq (by lia) (by lia) (fun i h1 h2 => ?_) (fun i h1 h2 => ?_)
  · obtain ⟨j, rfl⟩ : ∃ j, i = lo + j := ⟨i - lo, by lia⟩
    have hj : j < xs.length := by lia
    rw [hf j _ (List.getElem?_eq_getElem hj), ((count_split h j _ (List.getElem?_eq_getElem hj)).mpr (by lia))]; rfl
  · obtain ⟨j, rfl⟩ : ∃ j, i = lo + j := ⟨i - lo, by lia⟩
    have hj : j < xs.length := by lia
    rw [hf j _ (List.getElem?_eq_getElem hj)]
    cases q : P xs[j] with
    | false => rfl
    | true => have := (count_split h j _ (List.getElem?_eq_getElem hj)).mp q; lia

theorem split_at {α : Type} {P : α → Bool} {xs : List α} (h : xs.Pairwise (fun p q => P q = true → P p = true)) : (∀ p ∈ xs.take (xs.countP P), P p = true) ∧ (∀ p ∈ xs.drop (xs.countP P), P p = false) := by
  refine ⟨fun p hp => ?_, fun p hp => ?_⟩
  · obtain ⟨j, hj⟩ := List.getElem?_of_mem hp
    rw [List.getElem?_take] at hj
    split at hj
    · exact (count_split h j p hj).mpr ‹_›
    · cases hj
  · obtain ⟨j, hj⟩ := List.getElem?_of_mem hp
    rw [List.getElem?_drop] at hj
    have := count_split h _ p hj
    cases q : P p with
    | false => rfl
    | true => have := this.mp q; (clear q hj hp h; lia)

/-! ## statements, lambdas, heaps -/
noncomputable def stAt (l : List Stmt) (n : Nat) : Stmt := (l[n]?).getD (.Pass ⟨0, 0, 0, 0⟩)
noncomputable def forBody : Stmt → List Stmt
  | .For _ _ b _ _ => b
  | _ => []

section
variable {C : Cx} {A : Around} {env : Env} {ρ : Lo} {H : AH}
end
end Mine

namespace Mine
open PySem PySem.W PyProof.Rows
open PySem.SeqAt (shaped)

/-! ## deep data, made of parts -/
noncomputable def Dp (d : PyData) (k : Nat) : Prop := d.canLay0 = true ∧ d.depth ≤ k
theorem Dp.int (i : Int) : Dp (.int i) 0 := ⟨by rw [PyData.canLay0], by rw [PyData.depth]; exact Nat.le_refl _⟩
theorem Dp.shaped {d : PyData} {k : Nat} (h : Dp d k) (hk : k ≤ 64) : shaped d = true := by
  unfold PySem.SeqAt.shaped; rw [h.1, Bool.true_and]; exact decide_eq_true (Nat.le_trans h.2 hk)
theorem Dp.all {ds : List PyData} {k : Nat} (h : ∀ d ∈ ds, Dp d k) : PyData.canLayAll0 ds = true ∧ PyData.depthAll ds ≤ k := by
  induction ds with
  | nil => exact ⟨by rw [PyData.canLayAll0], by rw [PyData.depthAll]; exact Nat.zero_le _⟩
  | cons d r ih =>
    obtain ⟨h1, h2⟩ := ih fun x hx => h x (List.mem_cons_of_mem _ hx)
    obtain ⟨h3, h4⟩ := h d (List.mem_cons_self ..)
    refine ⟨by rw [PyData.canLayAll0, h3, h1]; rfl, ?_⟩
    rw [PyData.depthAll]; lia
theorem Dp.list {ds : List PyData} {k : Nat} (h : ∀ d ∈ ds, Dp d k) : Dp (.list ds) (k + 1) := by
  obtain ⟨h1, h2⟩ := Dp.all h
  exact ⟨by rw [PyData.canLay0]; exact h1, by rw [PyData.depth]; lia⟩
theorem Rd_list {H : AH} {a : Addr} {ob : O} {vs : List V} {ds : List PyData} (h : H a = some ob) (hl : lst ob = some vs) (hr : RdL H vs ds) : Rd H (.ref a) (.list ds) := by
  rw [Rd]; exact ⟨a, ob, vs, rfl, h, hl, hr⟩
section
variable {C : Cx} {A : Around} {env : Env} {ρ : Lo} {H : AH}
mutual
theorem Rd.le {H H' : AH} (k : H.le H') : ∀ (d : PyData) (v : V), Rd H v d → Rd H' v d
  | .none, v, r => by rw [Rd] at r ⊢; exact r
  | .bool b, v, r => by rw [Rd] at r ⊢; exact r
  | .int i, v, r => by rw [Rd] at r ⊢; exact r
  | .str x, v, r => by rw [Rd] at r ⊢; exact r
  | .list ds, v, r => by
    rw [Rd] at r ⊢
    obtain ⟨a, ob, vs, e, h, hl, hr⟩ := r
    exact ⟨a, ob, vs, e, k _ _ h, hl, RdL.le k ds vs hr⟩
  | .tuple ds, v, r => by
    rw [Rd] at r ⊢
    obtain ⟨a, vs, e, h, hr⟩ := r
    exact ⟨a, vs, e, k _ _ h, RdL.le k ds vs hr⟩
  | .dict _, v, r => by rw [Rd] at r; exact r.elim
theorem RdL.le {H H' : AH} (k : H.le H') : ∀ (ds : List PyData) (vs : List V), RdL H vs ds → RdL H' vs ds
  | [], vs, r => by rw [RdL] at r ⊢; exact r
  | d :: ds, vs, r => by
    rw [RdL] at r ⊢
    obtain ⟨v, q, e, r1, r2⟩ := r
    exact ⟨v, q, e, Rd.le k d v r1, RdL.le k ds q r2⟩
end
end
end Mine

namespace Mine
open PySem PySem.W PyProof.Rows
open PySem.AutoSeq1 (wpAny_loadPart')

/-! ## a list unpacked -/
section
variable {prog : Program} {w : World} {A : Around} {E : Value → Shared → Prop}
end
section
variable {C : Cx} {A : Around} {env : Env} {ρ : Lo} {H : AH}

/-! ## a list beside an empty one -/
theorem W.neNilRaw {L a b : Addr} {vs : List V} {Q : Value → Lo → AH → Prop} (ha : H a = some (.list vs)) (hb : H b = some (.list [])) (hu : A.units + 64 < cLine) (h : Q (.bool (!decide (vs = []))) ρ H) : W C A L (compareOp .NotEq (.ref a) (.ref b)) ρ H Q := fun s hs => by
  obtain ⟨its, n, ho, hi, _, _⟩ := hs.at ha
  obtain ⟨its2, n2, ho2, hi2, _, _⟩ := hs.at hb
  have h2 : its2.size = 0 := by rw [← Array.length_toList]; have := congrArg List.length hi2; simpa using this
  have h1 : its.size = vs.length := by rw [← hi]; simp
  by_cases q : vs = []
  · have h1' : its.size = 0 := by rw [h1, q]; rfl
    refine cmp_ofNotEq (richCompare_meets_room (T := "list") ⟨_, ho, rfl⟩ ⟨_, ho2, rfl⟩ PySem.F.slot_list_ne PySem.F.entry_list_ne (PySem.F.args_list_ne_2 _ _) (PySem.SeqAt.list_neAt a b its its2 n n2 none none #[] #[] (by lia) (fun _ => true)) ⟨ho, ho2, fun j hj _ => by lia, ?_⟩ (by lia))
    refine ⟨by simp, ρ, H, hs, .refl .., ?_⟩
    rw [h1']
    simpa [q] using h
  · have hne : (its.size != its2.size) = true := by rw [h1, h2]; have : vs.length ≠ 0 := fun e => q (List.eq_nil_of_length_eq_zero e); simpa using this
    refine cmp_ofNotEq (richCompare_meets_room (T := "list") ⟨_, ho, rfl⟩ ⟨_, ho2, rfl⟩ PySem.F.slot_list_ne PySem.F.entry_list_ne (PySem.F.args_list_ne_2 _ _) (PySem.SeqAt.list_ne_lengthsAt a b its its2 n n2 none none #[] #[] hne) ⟨ho, ho2, ?_⟩ (by lia))
    refine ⟨by simp, ρ, H, hs, .refl .., ?_⟩
    simpa [q] using h
theorem EvT.neNilRaw {l : Expr} {p pos : Pos} {a : Addr} {vs : List V} (hu : A.units + 64 < cLine) (h : Ev C A env ρ H l (.ref a)) (hH : H a = some (.list vs)) : EvT C A env ρ H (.Compare l [.NotEq] [.List [] p] pos) (!decide (vs = [])) :=
  WT.ev (WT.drop (WT.cmp (WE.of h (WE.list rfl (by decide) (WEs.nil fun b hb => fun x y ex ey => by
    cases ab_ref ex; cases ab_ref ey
    exact W.neNilRaw (AH.get_of_set hH hb) (AH.set_same ..) hu ⟨rfl, _, rfl, H, AH.le_set (AH.le_refl _) hb, rfl, rfl⟩)))))
end

/-! ## del a[k:] -/
section
variable {prog : Program} {w : World} {A : Around} {E : Value → Shared → Prop} {s : Shared}
end
section
variable {C : Cx} {A : Around} {env : Env} {ρ : Lo} {H : AH}
end
end Mine

namespace Mine
open PySem PySem.W PyProof.Rows
open PySem.SeqAt (shaped)

/-! ## things in rising order -/
section
variable {α : Type} (g : α → Int)
noncomputable def SrtBy (xs : List α) : Prop := xs.Pairwise fun p q => g p ≤ g q
variable {g}
theorem SrtBy.le {xs : List α} (h : SrtBy g xs) (v : Int) : xs.Pairwise (fun p q => decide (g q ≤ v) = true → decide (g p ≤ v) = true) :=
  List.Pairwise.imp (fun {p q} hpq hq => by simp at *; lia) h
theorem srt_ints {xs : List Int} (h : xs.Pairwise (fun a b => a ≤ b)) : SrtBy (fun x => x) xs := h

end

/-! ## items of two numbers -/
section
variable {C : Cx} {A : Around} {ρ : Lo} {H : AH}


end
end Mine

set_option maxHeartbeats 1000000
namespace Mine
open PySem PySem.W PyProof.Rows

/-! ## the sorting of fewer than 64 things, asked by pairs -/

section
variable {lt : Nat → Nat → Bool} {N : Nat}
structure Ord (lt : Nat → Nat → Bool) : Prop where
  asym : ∀ a b, lt a b = true → lt b a = false
  trans : ∀ a b c, lt b a = false → lt c b = false → lt c a = false
theorem Ord.refl (o : Ord lt) (a : Nat) : lt a a = false := by
  cases h : lt a a with
  | false => rfl
  | true => have := o.asym a a h; rw [h] at this; cases this
noncomputable abbrev gP (p : Array Nat) (i : Nat) : Nat := p.getD i 0
noncomputable def SP (lt : Nat → Nat → Bool) (p : Array Nat) (k : Nat) : Prop := ∀ i j, i ≤ j → j < k → lt (gP p j) (gP p i) = false
structure In (N : Nat) (p : Array Nat) : Prop where
  size : p.size = N
  perm : p.toList.Perm (List.range N)
theorem In.bd {p : Array Nat} (h : In N p) {i : Nat} (hi : i < N) : gP p i < N := by
  have hi' : i < p.size := by rw [h.size]; exact hi
  have e : gP p i = p[i] := by simp [gP, Array.getD, hi']
  have hm : p[i] ∈ p.toList := by simp
  rw [e]; simpa using h.perm.mem_iff.mp hm
theorem gP_of {p q : Array Nat} {i j : Nat} (h : p[i]? = q[j]?) : gP p i = gP q j := by
  simp only [gP, Array.getD_eq_getD_getElem?, h]
theorem rev_get {p : Array Nat} {i j : Nat} (hj : j ≤ p.size) (k : Nat) : gP (kas_rev p i j) k = if i ≤ k ∧ k < j then gP p (i + j - 1 - k) else gP p k := by
  have := getElem?_mirror_all (xs := p) (i := i) hj k
  split
  · rename_i h; rw [if_pos h] at this; exact gP_of this
  · rename_i h; rw [if_neg h] at this; exact gP_of this
theorem In.rev {p : Array Nat} (h : In N p) (i j : Nat) : In N (kas_rev p i j) := ⟨by rw [kas_rev_size, h.size], (Array.perm_iff_toList_perm.mp (mirror_perm p i j _)).trans h.perm⟩
end
end Mine

set_option maxHeartbeats 1000000
namespace Mine

/-! ## one row: what is put in, what is pushed out -/
noncomputable def plc (R : List Int) (p : Int) : Nat := R.countP (fun z => decide (z ≤ p))

/-! the first column taken off -/

/-! what is taken off: the least ones -/


/-! what is pushed out comes in order -/
theorem plc_split {R : List Int} (h : R.Pairwise (fun a b => a ≤ b)) (p : Int) : (∀ z ∈ R.take (plc R p), z ≤ p) ∧ (∀ z ∈ R.drop (plc R p), p < z) := by
  obtain ⟨h1, h2⟩ := split_at (P := fun z => decide (z ≤ p)) (xs := R) ((srt_ints h).le p)
  exact ⟨fun z hz => by simpa using h1 z hz, fun z hz => by have := h2 z hz; simpa using this⟩
theorem plc_le (R : List Int) (p : Int) : plc R p ≤ R.length := List.countP_le_length
theorem set_split {R : List Int} {k : Nat} {p : Int} (hk : k < R.length) : R.set k p = R.take k ++ p :: R.drop (k + 1) := List.set_eq_take_append_cons_drop.trans (if_pos hk)

/-! ## the tables -/
/-- one more put in: the rows, and the place where a cell is added -/
noncomputable def putR : List (List Int) → Int → List (List Int) × Nat
  | [], b => ([[b]], 0)
  | R :: rows, b => if plc R b = R.length then ((R ++ [b]) :: rows, 0) else (R.set (plc R b) b :: (putR rows (R.getD (plc R b) 0)).1, (putR rows (R.getD (plc R b) 0)).2 + 1)
end Mine

set_option maxHeartbeats 1000000
namespace Mine
open PySem PySem.W PyProof.Rows

/-! ## the sorting keeps the order of those alike -/
noncomputable def lx (lt : Nat → Nat → Bool) (a b : Nat) : Bool := lt a b || (!lt b a && decide (a < b))
section
variable {lt : Nat → Nat → Bool} {N : Nat}
theorem lx_gt {x y : Nat} (h : y ≤ x) : lx lt x y = lt x y := by
  unfold lx; rw [decide_eq_false (by lia : ¬ x < y)]; simp
theorem lx_of {x y : Nat} (h : lt x y = true) : lx lt x y = true := by unfold lx; rw [h]; rfl
theorem lx_alike {x y : Nat} (h : lt y x = false) (hxy : x < y) : lx lt x y = true := by unfold lx; rw [h, decide_eq_true hxy]; simp
theorem lx_false {x y : Nat} : lx lt x y = false ↔ lt x y = false ∧ (lt y x = true ∨ ¬ x < y) := by
  unfold lx
  cases lt x y <;> cases lt y x <;> simp
theorem Ord.lx (o : Ord lt) : Ord (lx lt) where
  asym := fun a b h => by
    rw [lx_false]
    unfold Mine.lx at h
    cases h1 : lt a b with
    | true => exact ⟨o.asym _ _ h1, .inl rfl⟩
    | false =>
      rw [h1] at h
      simp at h
      exact ⟨h.1, .inr (by lia)⟩
  trans := fun a b c h1 h2 => by
    rw [lx_false] at h1 h2 ⊢
    have h3 := o.trans _ _ _ h1.1 h2.1
    refine ⟨h3, ?_⟩
    cases h4 : lt a c with
    | true => exact .inl rfl
    | false =>
      right
      have h5 : lt b c = false := o.trans c a b h4 h1.1
      have h6 : lt a b = false := o.trans b c a h2.1 h4
      rcases h1.2 with q | q
      · rw [h6] at q; cases q
      · rcases h2.2 with q' | q'
        · rw [h5] at q'; cases q'
        · omega
noncomputable def Fx2 (N : Nat) (p : Array Nat) (k : Nat) : Prop := ∀ m, k ≤ m → m < N → gP p m = m
theorem In.inj {p : Array Nat} (h : In N p) {i j : Nat} (hi : i < N) (hj : j < N) (e : gP p i = gP p j) : i = j := by
  have nd : p.toList.Nodup := h.perm.nodup_iff.mpr List.nodup_range
  have hi' : i < p.toList.length := by simp [h.size, hi]
  have hj' : j < p.toList.length := by simp [h.size, hj]
  have e1 : gP p i = p.toList[i] := by simp [gP, Array.getD, h.size, hi]
  have e2 : gP p j = p.toList[j] := by simp [gP, Array.getD, h.size, hj]
  rw [e1, e2] at e
  rcases Nat.lt_trichotomy i j with q | q | q
  · exact absurd e (List.pairwise_iff_getElem.mp nd i j hi' hj' q)
  · exact q
  · exact absurd e.symm (List.pairwise_iff_getElem.mp nd j i hj' hi' q)
theorem Fx2.lo {p : Array Nat} (hp : In N p) {k : Nat} (h : Fx2 N p k) {i : Nat} (hi : i < k) (hk : k ≤ N) : gP p i < k := by
  rcases Nat.lt_or_ge (gP p i) k with q | q
  · exact q
  · have hb := hp.bd (show i < N by lia)
    have := h _ q hb
    have := hp.inj hb (by lia) this
    (clear hb q hk h hp; omega)
theorem gP_range {m : Nat} (h : m < N) : gP (List.toArray (List.range N)) m = m := by simp [gP, Array.getD, h]
end
end Mine

set_option maxHeartbeats 1000000
namespace Mine
open PySem PySem.W PyProof.Rows

noncomputable def gallop' : Bool → Keyed → Array Keyed → Nat → Nat → Nat → StateT SortSt Sem (Option Nat) := sortPriv% PySem.Builtin.gallop
noncomputable def mergeLo' : Array Keyed → Array Keyed → StateT SortSt Sem (Array Keyed) := sortPriv% PySem.Builtin.mergeLo
noncomputable def mergeHi' : Array Keyed → Array Keyed → StateT SortSt Sem (Array Keyed) := sortPriv% PySem.Builtin.mergeHi
noncomputable def beyond' (left : Bool) (key : Keyed) (arr : Array Keyed) (base i : Nat) : StateT SortSt Sem (Option Bool) := do
  let x ← elem' arr (base + i)
  if left then lt' x key else return (← lt' key x).map (!·)
theorem gallop'_eq (left : Bool) (key : Keyed) (arr : Array Keyed) (base n hint : Nat) : gallop' left key arr base n hint = (do
  let mut lastofs := 0
  let mut ofs := 1
  let mut lo := 0
  let mut hi := 0
  let some right ← beyond' left key arr base hint | return none
  if right then
    let maxofs := n - hint
    for _ in [0:n] do
      if ofs ≥ maxofs then break
      let some more ← beyond' left key arr base (hint + ofs) | return none
      if !more then break
      lastofs := ofs
      ofs := 2 * ofs + 1
    lo := hint + lastofs + 1
    hi := hint + min ofs maxofs
  else
    let maxofs := hint + 1
    for _ in [0:n] do
      if ofs ≥ maxofs then break
      let some found ← beyond' left key arr base (hint - ofs) | return none
      if found then break
      lastofs := ofs
      ofs := 2 * ofs + 1
    lo := hint + 1 - min ofs maxofs
    hi := hint - lastofs
  for _ in [0:n] do
    if lo ≥ hi then break
    let m := lo + (hi - lo) / 2
    let some more ← beyond' left key arr base m | return none
    if more then lo := m + 1 else hi := m
  return some hi) := rfl

section
variable {prog : Program} {w : World} {A : Around} {E : Value → Shared → Prop} {s : Shared}
noncomputable def gSearch (left : Bool) (key : Keyed) (arr : Array Keyed) (base n lo₀ hi₀ : Nat) : StateT SortSt Sem (Option Nat) := do
  let mut lo := lo₀
  let mut hi := hi₀
  for _ in [0:n] do
    if lo ≥ hi then break
    let m := lo + (hi - lo) / 2
    let some more ← beyond' left key arr base m | return none
    if more then lo := m + 1 else hi := m
  return some hi
theorem search_w {left : Bool} {key : Keyed} {arr : Array Keyed} {base n lo hi : Nat} {bd : Nat → Bool} {st : SortSt} {Q : Option Nat → SortSt → Prop}
    (hb : ∀ i, i < n → ∀ Q : Option Bool → SortSt → Prop, Q (some (bd i)) st → wpS (model prog w) A E s (beyond' left key arr base i) Q st)
    (anti : ∀ i j, i ≤ j → j < n → bd j = true → bd i = true) (h1 : lo ≤ hi) (h2 : hi ≤ n) (hlo : ∀ i, i < lo → bd i = true) (hhi : ∀ i, hi ≤ i → i < n → bd i = false)
    (hq : ∀ k, k ≤ n → (∀ i, i < k → bd i = true) → (∀ i, k ≤ i → i < n → bd i = false) → Q (some k) st) : wpS (model prog w) A E s (gSearch left key arr base n lo hi) Q st := by
  unfold gSearch
  refine wpS_bind (wpS_mono (wpS_forRange
    (I := fun x c st' => st' = st ∧ ∃ l r, c = (none, l, r) ∧ l ≤ r ∧ r ≤ n ∧ r - l ≤ n - x ∧ (∀ i, i < l → bd i = true) ∧ (∀ i, r ≤ i → i < n → bd i = false))
    (Q := fun c st' => st' = st ∧ ∃ l r, c = (none, l, r) ∧ l = r ∧ r ≤ n ∧ (∀ i, i < l → bd i = true) ∧ (∀ i, r ≤ i → i < n → bd i = false)) ?step ?fin ⟨rfl, lo, hi, rfl, h1, h2, by lia, hlo, hhi⟩) ?post)
  case post =>
    rintro c st' ⟨rfl, l, r, rfl, rfl, a1, a2, a3⟩
    exact wpS_pure (hq l a1 a2 a3)
  case fin =>
    rintro c st' ⟨rfl, l, r, rfl, a1, a2, a3, a4, a5⟩
    exact ⟨rfl, l, r, rfl, by lia, a2, a4, a5⟩
  case step =>
    rintro x c st' _ hx ⟨rfl, l, r, rfl, a1, a2, a3, a4, a5⟩
    dsimp only
    by_cases hge : l ≥ r
    · rw [if_pos hge]
      exact wpS_pure ⟨rfl, l, r, rfl, by lia, a2, a4, a5⟩
    · rw [if_neg hge]
      refine wpS_bind (hb _ (by (clear a5 a4 a3 a1 hq hb hx hhi hlo h2 h1 anti; lia)) _ ?_)
      cases hm : bd (l + (r - l) / 2) with
      | true =>
        simp only [if_true]
        exact wpS_pure ⟨rfl, _, r, rfl, by (clear hm a5 a4 a3 a2 a1 hq hb hx hhi hlo h2 h1 anti; lia), a2, by (clear hm hge a5 a4 a2 hq hb hhi hlo h2 h1 anti; omega), fun i hi => anti i (l + (r - l) / 2) (by lia) (by (clear hi hm a5 a4 a3 a1 hq hb hx hhi hlo h2 h1 anti; lia)) hm, a5⟩
      | false =>
        simp only [Bool.false_eq_true, if_false]
        refine wpS_pure ⟨rfl, l, _, rfl, by lia, by (clear hm hge a5 a4 a3 hq hb hx hhi hlo h2 h1 anti; lia), by (clear hm hge a5 a4 a2 hq hb hhi hlo h2 h1 anti; omega), a4, fun i h3 h4 => ?_⟩
        cases h5 : bd i with
        | false => rfl
        | true => rw [anti _ i h3 h4 h5] at hm; cases hm
theorem gallop_w {left : Bool} {key : Keyed} {arr : Array Keyed} {base n hint : Nat} {bd : Nat → Bool} {st : SortSt} {Q : Option Nat → SortSt → Prop}
    (hb : ∀ i, i < n → ∀ Q : Option Bool → SortSt → Prop, Q (some (bd i)) st → wpS (model prog w) A E s (beyond' left key arr base i) Q st)
    (anti : ∀ i j, i ≤ j → j < n → bd j = true → bd i = true) (hh : hint < n)
    (hq : ∀ k, k ≤ n → (∀ i, i < k → bd i = true) → (∀ i, k ≤ i → i < n → bd i = false) → Q (some k) st) : wpS (model prog w) A E s (gallop' left key arr base n hint) Q st := by
  rw [gallop'_eq]
  refine wpS_bind (hb hint hh _ ?_)
  dsimp only
  cases hr : bd hint with
  | true =>
    simp only [if_true]
    refine wpS_bind (wpS_mono (wpS_forRange
      (I := fun x c st' => st' = st ∧ ∃ l o, c = (none, l, o) ∧ l < o ∧ l < n - hint ∧ x + 1 ≤ o ∧ bd (hint + l) = true)
      (Q := fun c st' => st' = st ∧ ∃ l o, c = (none, l, o) ∧ l < o ∧ l < n - hint ∧ bd (hint + l) = true ∧ (o < n - hint → bd (hint + o) = false)) ?step ?fin ⟨rfl, 0, 1, rfl, by lia, by omega, by lia, hr⟩) ?post)
    case fin =>
      rintro c st' ⟨rfl, l, o, rfl, a1, a2, a3, a4⟩
      exact ⟨rfl, l, o, rfl, a1, a2, a4, fun h => by lia⟩
    case step =>
      rintro x c st' _ hx ⟨rfl, l, o, rfl, a1, a2, a3, a4⟩
      dsimp only
      by_cases hge : o ≥ n - hint
      · rw [if_pos hge]
        exact wpS_pure ⟨rfl, l, o, rfl, a1, a2, a4, fun h => by lia⟩
      · rw [if_neg hge]
        refine wpS_bind (hb _ (by (clear a4 a3 a2 a1 hq hb hx hr hh anti; omega)) _ ?_)
        cases hm : bd (hint + o) with
        | true =>
          simp only [Bool.not_true, Bool.false_eq_true, if_false]
          exact wpS_pure ⟨rfl, _, _, rfl, by lia, by lia, by (clear hm hge a4 a2 a1 hq hb hx hr hh anti; lia), hm⟩
        | false =>
          simp only [Bool.not_false, if_true]
          exact wpS_pure ⟨rfl, l, o, rfl, a1, a2, a4, fun _ => hm⟩
    case post =>
      rintro c st' ⟨rfl, l, o, rfl, a1, a2, a3, a4⟩
      dsimp only
      refine search_w (bd := bd) (lo := hint + l + 1) (hi := hint + min o (n - hint)) hb anti (by (clear a4 a3 hq hb hr hh anti; lia)) (by (clear a4 a3 a2 hq hb hr anti; omega)) (fun i hi => anti i (hint + l) (by lia) (by (clear hi a4 a3 a1 hq hb hr hh anti; omega)) a3) (fun i h1 h2 => ?_) hq
      have h3 : bd (hint + o) = false := a4 (by (clear a4 a3 a2 a1 hq hb hr anti; omega))
      cases h5 : bd i with
      | false => rfl
      | true => rw [anti (hint + o) i (by lia) h2 h5] at h3; cases h3
  | false =>
    simp only [Bool.false_eq_true, if_false]
    have hn0 : ∀ i, hint ≤ i → i < n → bd i = false := fun i h1 h2 => by
      cases h5 : bd i with
      | false => rfl
      | true => rw [anti hint i h1 h2 h5] at hr; cases hr
    refine wpS_bind (wpS_mono (wpS_forRange
      (I := fun x c st' => st' = st ∧ ∃ l o, c = (none, l, o) ∧ l < o ∧ l < hint + 1 ∧ x + 1 ≤ o ∧ bd (hint - l) = false)
      (Q := fun c st' => st' = st ∧ ∃ l o, c = (none, l, o) ∧ l < o ∧ l < hint + 1 ∧ bd (hint - l) = false ∧ (o < hint + 1 → bd (hint - o) = true)) ?step ?fin ⟨rfl, 0, 1, rfl, by lia, by lia, by lia, hr⟩) ?post)
    case fin =>
      rintro c st' ⟨rfl, l, o, rfl, a1, a2, a3, a4⟩
      exact ⟨rfl, l, o, rfl, a1, a2, a4, fun h => by lia⟩
    case step =>
      rintro x c st' _ hx ⟨rfl, l, o, rfl, a1, a2, a3, a4⟩
      dsimp only
      by_cases hge : o ≥ hint + 1
      · rw [if_pos hge]
        exact wpS_pure ⟨rfl, l, o, rfl, a1, a2, a4, fun h => by lia⟩
      · rw [if_neg hge]
        refine wpS_bind (hb _ (by (clear hge a4 a3 a2 a1 hq hb hx hn0 hr anti; omega)) _ ?_)
        cases hm : bd (hint - o) with
        | true =>
          simp only [if_true]
          exact wpS_pure ⟨rfl, l, o, rfl, a1, a2, a4, fun _ => hm⟩
        | false =>
          simp only [Bool.false_eq_true, if_false]
          exact wpS_pure ⟨rfl, _, _, rfl, by lia, by lia, by (clear hm hge a4 a2 a1 hq hb hx hn0 hr hh anti; lia), hm⟩
    case post =>
      rintro c st' ⟨rfl, l, o, rfl, a1, a2, a3, a4⟩
      dsimp only
      refine search_w (bd := bd) (lo := hint + 1 - min o (hint + 1)) (hi := hint - l) hb anti (by (clear a4 a3 hq hb hn0 hr hh anti; omega)) (by (clear a4 a3 a2 a1 hq hb hn0 hr anti; omega)) (fun i hi => ?_) (fun i h1 h2 => ?_) hq
      · exact anti i (hint - o) (by (clear a4 a3 a2 hq hb hn0 hr hh anti; omega)) (by (clear hi a4 a3 a2 a1 hq hb hn0 hr anti; omega)) (a4 (by (clear a4 a3 a2 a1 hq hb hn0 hr hh anti; omega)))
      · cases h5 : bd i with
        | false => rfl
        | true => rw [anti (hint - l) i (by lia) h2 h5] at a3; cases a3
end
end Mine

set_option maxHeartbeats 1000000
namespace Mine
open PySem PySem.W PyProof.Rows

noncomputable def setGallop (g : Nat) : StateT SortSt Sem Unit := modify fun st => SortSt.mk' (kindOf st) (arrOf st) (pendingOf st) g (failedOf st)
theorem mergeLo'_eq (a b : Array Keyed) : mergeLo' a b = (do
  rule "list.sort.merge-lo"
  let total := a.size + b.size
  let done (out : Array Keyed) (ia ib : Nat) := out ++ a.extract ia a.size ++ b.extract ib b.size
  let lastOfA (out : Array Keyed) (ia ib : Nat) := out ++ b.extract ib b.size ++ a.extract ia a.size
  let mut out : Array Keyed := #[← elem' b 0]
  let mut ia := 0
  let mut ib := 1
  if ib == b.size then return done out ia ib
  if ia + 1 == a.size then return lastOfA out ia ib
  let mut minGallop := gallopOf (← get)
  for _ in [0:total] do
    let mut acount := 0
    let mut bcount := 0
    for _ in [0:total] do
      let some bWins ← lt' (← elem' b ib) (← elem' a ia) | return done out ia ib
      if bWins then
        out := out.push (← elem' b ib); ib := ib + 1; bcount := bcount + 1; acount := 0
        if ib == b.size then return done out ia ib
        if bcount ≥ minGallop then break
      else
        out := out.push (← elem' a ia); ia := ia + 1; acount := acount + 1; bcount := 0
        if ia + 1 == a.size then return lastOfA out ia ib
        if acount ≥ minGallop then break
    rule "list.sort.gallop"
    minGallop := minGallop + 1
    for _ in [0:total] do
      if minGallop > 1 then minGallop := minGallop - 1
      setGallop minGallop
      let some k ← gallop' false (← elem' b ib) a ia (a.size - ia) 0 | return done out ia ib
      acount := k
      if k > 0 then
        out := out ++ a.extract ia (ia + k); ia := ia + k
        if ia + 1 == a.size then return lastOfA out ia ib
        if ia == a.size then return done out ia ib
      out := out.push (← elem' b ib); ib := ib + 1
      if ib == b.size then return done out ia ib
      let some k ← gallop' true (← elem' a ia) b ib (b.size - ib) 0 | return done out ia ib
      bcount := k
      if k > 0 then
        out := out ++ b.extract ib (ib + k); ib := ib + k
        if ib == b.size then return done out ia ib
      out := out.push (← elem' a ia); ia := ia + 1
      if ia + 1 == a.size then return lastOfA out ia ib
      if acount < 7 && bcount < 7 then break
    minGallop := minGallop + 1
    setGallop minGallop
  unsupported "internal:list.sort.merge-bound") := rfl
section
variable {prog : Program} {w : World} {A : Around} {E : Value → Shared → Prop} {s : Shared}
theorem wpS_ite {α : Type} {σ : Type} {M : Model} {c : Prop} [Decidable c] {t e : StateT σ Sem α} {Q : α → σ → Prop} {st : σ} (h1 : c → wpS M A E s t Q st) (h2 : ¬ c → wpS M A E s e Q st) : wpS M A E s (if c then t else e) Q st := by
  split
  · exact h1 ‹_›
  · exact h2 ‹_›
theorem wpS_ite_fun {α : Type} {σ β : Type} {M : Model} {c : Prop} [Decidable c] (f : β → StateT σ Sem α) {a b : β} {Q : α → σ → Prop} {st : σ} (h : ∀ x, wpS M A E s (f x) Q st) : wpS M A E s (if c then f a else f b) Q st := by
  split
  · exact h _
  · exact h _
theorem setG_w {M : Model} {κ : SortKind} {arr : Array Keyed} {pend : Array (Nat × Nat × Nat)} {g g' : Nat} {f : Option Value} {Q : Unit → SortSt → Prop} (h : Q () (SortSt.mk' κ arr pend g' f)) : wpS M A E s (setGallop g') Q (SortSt.mk' κ arr pend g f) := wpS_modify h
noncomputable abbrev gL (l : List Nat) (i : Nat) : Nat := l.getD i 0
theorem arr_at {it : Array Keyed} {l : List Nat} {i : Nat} (h : i < l.length) : ((l.map (kas_item it)).toArray)[i]? = some (kas_item it (gL l i)) := by
  simp [gL, h]
theorem elem_w {M : Model} {it : Array Keyed} {l : List Nat} {i : Nat} {st : SortSt} {Q : Keyed → SortSt → Prop} (h : i < l.length) (hq : Q (kas_item it (gL l i)) st) : wpS M A E s (elem' (l.map (kas_item it)).toArray i) Q st := by
  rw [elem'_eq, arr_at h]; exact wpS_pure hq
/-- the questions that are asked -/
noncomputable def Asks (prog : Program) (w : World) (A : Around) (s : Shared) (κ : SortKind) (it : Array Keyed) (N : Nat) (lt : Nat → Nat → Bool) : Prop :=
  ∀ i j (Q : Bool → Shared → Prop), i < N → j < N → Q (lt i j) s → wpAny (model prog w) A (keyLt' κ (kas_item it i).1 (kas_item it j).1) Q (fun _ _ => False) s
variable {κ : SortKind} {it : Array Keyed} {N : Nat} {lt : Nat → Nat → Bool}
theorem lt_w (hc : Asks prog w A s κ it N lt) {i j : Nat} {st : SortSt} {Q : Option Bool → SortSt → Prop} (hk : kindOf st = κ) (hi : i < N) (hj : j < N) (hq : Q (some (lt i j)) st) : wpS (model prog w) A E s (lt' (kas_item it i) (kas_item it j)) Q st := by
  rw [lt'_eq]
  refine wpS_bind (wpS_get ?_)
  rw [hk]
  refine wpS_bind (wpS_lift (wpAny_attempt (wpAny_mono (hc i j (fun b s' => s' = s ∧ b = lt i j) hi hj ⟨rfl, rfl⟩) (fun b s' hb => ?_) fun _ _ hF => hF.elim)))
  obtain ⟨rfl, rfl⟩ := hb
  exact ⟨rfl, wpS_pure hq⟩
theorem beyond_w (hc : Asks prog w A s κ it N lt) {left : Bool} {x base i : Nat} {l : List Nat} {st : SortSt} {Q : Option Bool → SortSt → Prop} (hk : kindOf st = κ) (hx : x < N) (hi : base + i < l.length) (hl : gL l (base + i) < N)
    (hq : Q (some (if left = true then lt (gL l (base + i)) x else !lt x (gL l (base + i)))) st) : wpS (model prog w) A E s (beyond' left (kas_item it x) (l.map (kas_item it)).toArray base i) Q st := by
  unfold beyond'
  refine wpS_bind (elem_w hi ?_)
  cases left with
  | true =>
    simp only [if_true] at hq ⊢
    exact lt_w hc hk hl hx hq
  | false =>
    simp only [Bool.false_eq_true, if_false] at hq ⊢
    exact wpS_bind (lt_w hc hk hx hl (wpS_pure hq))

/-! ## two runs laid into one -/
structure Two (N : Nat) (lt : Nat → Nat → Bool) (la lb : List Nat) : Prop where
  ord : Ord lt
  na : ∀ i, i < la.length → gL la i < N
  nb : ∀ i, i < lb.length → gL lb i < N
  sa : ∀ i j, i ≤ j → j < la.length → lx lt (gL la j) (gL la i) = false
  sb : ∀ i j, i ≤ j → j < lb.length → lx lt (gL lb j) (gL lb i) = false
  ab : ∀ i j, i < la.length → j < lb.length → gL la i < gL lb j
  ha : 0 < la.length
  hb : 0 < lb.length
  first : lt (gL lb 0) (gL la 0) = true
  last : ∀ j, j < lb.length → lt (gL lb j) (gL la (la.length - 1)) = true
theorem Two.ask {la lb : List Nat} (h : Two N lt la lb) {i j : Nat} (hi : i < la.length) (hj : j < lb.length) : lx lt (gL lb j) (gL la i) = lt (gL lb j) (gL la i) := lx_gt (Nat.le_of_lt (h.ab i j hi hj))
structure Mg (lt : Nat → Nat → Bool) (la lb : List Nat) (out : List Nat) (ia ib : Nat) : Prop where
  lea : ia ≤ la.length
  leb : ib ≤ lb.length
  perm : out.Perm (la.take ia ++ lb.take ib)
  srt : out.Pairwise fun x y => lx lt y x = false
  ba : ∀ x ∈ out, ∀ j, ia ≤ j → j < la.length → lx lt (gL la j) x = false
  bb : ∀ x ∈ out, ∀ j, ib ≤ j → j < lb.length → lx lt (gL lb j) x = false
theorem gL_drop (l : List Nat) (i k : Nat) : ∀ x ∈ (l.drop i).take k, ∃ j, i ≤ j ∧ j < i + k ∧ j < l.length ∧ x = gL l j := fun x hx => by
  obtain ⟨n, hn, e⟩ := List.getElem_of_mem hx
  simp at hn
  exact ⟨i + n, by lia, by lia, by (clear e hx; omega), by rw [← e]; simp [gL, (by (clear e hx; omega) : i + n < l.length)]⟩
theorem srt_drop {l : List Nat} (h : ∀ i j, i ≤ j → j < l.length → lx lt (gL l j) (gL l i) = false) (i k : Nat) : ((l.drop i).take k).Pairwise fun x y => lx lt y x = false := by
  rw [List.pairwise_iff_getElem]
  intro u v hu hv huv
  simp at hu hv
  have := h (i + u) (i + v) (by lia) (by omega)
  simpa [gL, (by omega : i + u < l.length), (by omega : i + v < l.length)] using this
theorem take_add_drop (l : List Nat) (i k : Nat) : l.take (i + k) = l.take i ++ (l.drop i).take k := by rw [List.take_add]
theorem Mg.addA {la lb out : List Nat} {ia ib k : Nat} (T : Two N lt la lb) (h : Mg lt la lb out ia ib) (hk : ia + k ≤ la.length) (hx : ∀ i, ia ≤ i → i < ia + k → ∀ j, ib ≤ j → j < lb.length → lx lt (gL lb j) (gL la i) = false) :
    Mg lt la lb (out ++ (la.drop ia).take k) (ia + k) ib where
  lea := hk
  leb := h.leb
  perm := by
    rw [take_add_drop]
    refine (h.perm.append_right _).trans ?_
    rw [List.append_assoc, List.append_assoc]
    exact List.Perm.append_left _ List.perm_append_comm
  srt := by
    rw [List.pairwise_append]
    refine ⟨h.srt, srt_drop T.sa _ _, fun x hx' y hy => ?_⟩
    obtain ⟨j, h1, h2, h3, rfl⟩ := gL_drop _ _ _ y hy
    exact h.ba x hx' j h1 h3
  ba := fun x hx' j h1 h2 => by
    rcases List.mem_append.mp hx' with q | q
    · exact h.ba x q j (by lia) h2
    · obtain ⟨i, h3, h4, h5, rfl⟩ := gL_drop _ _ _ x q
      exact T.sa i j (by lia) h2
  bb := fun x hx' j h1 h2 => by
    rcases List.mem_append.mp hx' with q | q
    · exact h.bb x q j h1 h2
    · obtain ⟨i, h3, h4, h5, rfl⟩ := gL_drop _ _ _ x q
      exact hx i h3 h4 j h1 h2
theorem Mg.addB {la lb out : List Nat} {ia ib k : Nat} (T : Two N lt la lb) (h : Mg lt la lb out ia ib) (hk : ib + k ≤ lb.length) (hx : ∀ i, ib ≤ i → i < ib + k → ∀ j, ia ≤ j → j < la.length → lx lt (gL la j) (gL lb i) = false) :
    Mg lt la lb (out ++ (lb.drop ib).take k) ia (ib + k) where
  lea := h.lea
  leb := hk
  perm := by
    rw [take_add_drop, ← List.append_assoc]
    exact h.perm.append_right _
  srt := by
    rw [List.pairwise_append]
    refine ⟨h.srt, srt_drop T.sb _ _, fun x hx' y hy => ?_⟩
    obtain ⟨j, h1, h2, h3, rfl⟩ := gL_drop _ _ _ y hy
    exact h.bb x hx' j h1 h3
  ba := fun x hx' j h1 h2 => by
    rcases List.mem_append.mp hx' with q | q
    · exact h.ba x q j h1 h2
    · obtain ⟨i, h3, h4, h5, rfl⟩ := gL_drop _ _ _ x q
      exact hx i h3 h4 j h1 h2
  bb := fun x hx' j h1 h2 => by
    rcases List.mem_append.mp hx' with q | q
    · exact h.bb x q j (by lia) h2
    · obtain ⟨i, h3, h4, h5, rfl⟩ := gL_drop _ _ _ x q
      exact T.sb i j (by lia) h2
noncomputable abbrev arrIt (it : Array Keyed) (l : List Nat) : Array Keyed := (l.map (kas_item it)).toArray
theorem arrIt_size (it : Array Keyed) (l : List Nat) : (arrIt it l).size = l.length := by simp
theorem arrIt_ext (it : Array Keyed) (l : List Nat) (i j : Nat) : (arrIt it l).extract i j = arrIt it ((l.drop i).take (j - i)) := by
  simp [arrIt, List.map_take, List.map_drop]
theorem arrIt_app (it : Array Keyed) (l m : List Nat) : arrIt it l ++ arrIt it m = arrIt it (l ++ m) := by simp [arrIt]
theorem arrIt_push (it : Array Keyed) (l : List Nat) (x : Nat) : (arrIt it l).push (kas_item it x) = arrIt it (l ++ [x]) := by simp [arrIt]
theorem one_drop {l : List Nat} {i : Nat} (h : i < l.length) : (l.drop i).take 1 = [gL l i] := by
  rw [List.drop_eq_getElem_cons h, List.take_succ_cons, List.take_zero]
  simp [gL, h]
noncomputable def MgA (it : Array Keyed) (lt : Nat → Nat → Bool) (la lb : List Nat) (arr : Array Keyed) (ia ib : Nat) : Prop := ∃ out, arr = arrIt it out ∧ Mg lt la lb out ia ib
noncomputable def MgF (it : Array Keyed) (lt : Nat → Nat → Bool) (la lb : List Nat) (arr : Array Keyed) : Prop := ∃ out, arr = arrIt it out ∧ out.Perm (la ++ lb) ∧ out.Pairwise fun x y => lx lt y x = false
section
variable {la lb : List Nat} {arr : Array Keyed} {ia ib k : Nat}
theorem MgA.extA (T : Two N lt la lb) (h : MgA it lt la lb arr ia ib) (hk : ia + k ≤ la.length) (hx : ∀ i, ia ≤ i → i < ia + k → ∀ j, ib ≤ j → j < lb.length → lx lt (gL lb j) (gL la i) = false) : MgA it lt la lb (arr ++ (arrIt it la).extract ia (ia + k)) (ia + k) ib := by
  obtain ⟨out, rfl, h⟩ := h
  exact ⟨_, by rw [arrIt_ext, arrIt_app, show ia + k - ia = k by lia], h.addA T hk hx⟩
theorem MgA.extB (T : Two N lt la lb) (h : MgA it lt la lb arr ia ib) (hk : ib + k ≤ lb.length) (hx : ∀ i, ib ≤ i → i < ib + k → ∀ j, ia ≤ j → j < la.length → lx lt (gL la j) (gL lb i) = false) : MgA it lt la lb (arr ++ (arrIt it lb).extract ib (ib + k)) ia (ib + k) := by
  obtain ⟨out, rfl, h⟩ := h
  exact ⟨_, by rw [arrIt_ext, arrIt_app, show ib + k - ib = k by lia], h.addB T hk hx⟩
theorem MgA.pushA (T : Two N lt la lb) (h : MgA it lt la lb arr ia ib) (hk : ia < la.length) (hx : ∀ j, ib ≤ j → j < lb.length → lx lt (gL lb j) (gL la ia) = false) : MgA it lt la lb (arr.push (kas_item it (gL la ia))) (ia + 1) ib := by
  obtain ⟨out, rfl, h⟩ := h
  exact ⟨_, by rw [arrIt_push, ← one_drop hk], h.addA T (by lia) (fun i h1 h2 j h3 h4 => by rw [show i = ia by lia]; exact hx j h3 h4)⟩
theorem MgA.pushB (T : Two N lt la lb) (h : MgA it lt la lb arr ia ib) (hk : ib < lb.length) (hx : ∀ j, ia ≤ j → j < la.length → lx lt (gL la j) (gL lb ib) = false) : MgA it lt la lb (arr.push (kas_item it (gL lb ib))) ia (ib + 1) := by
  obtain ⟨out, rfl, h⟩ := h
  exact ⟨_, by rw [arrIt_push, ← one_drop hk], h.addB T (by lia) (fun i h1 h2 j h3 h4 => by rw [show i = ib by lia]; exact hx j h3 h4)⟩
theorem MgA.end (h : MgA it lt la lb arr la.length lb.length) : MgF it lt la lb arr := by
  obtain ⟨out, rfl, h⟩ := h
  refine ⟨out, rfl, ?_, h.srt⟩
  have := h.perm
  rwa [List.take_length, List.take_length] at this
theorem ext_nil (l : List Nat) (i j : Nat) (h : l.length ≤ i) : (arrIt it l).extract i j = #[] := by
  rw [arrIt_ext, List.drop_eq_nil_of_le h, List.take_nil]; rfl
theorem MgA.le (h : MgA it lt la lb arr ia ib) : ia ≤ la.length ∧ ib ≤ lb.length := by obtain ⟨_, _, h⟩ := h; exact ⟨h.lea, h.leb⟩
theorem MgA.done (T : Two N lt la lb) (h : MgA it lt la lb arr ia ib) (he : ib = lb.length ∨ ia = la.length) : MgF it lt la lb (arr ++ (arrIt it la).extract ia la.length ++ (arrIt it lb).extract ib lb.length) := by
  have hl := h.le
  rcases he with q | q
  · subst q
    have := h.extA T (k := la.length - ia) (by omega) (fun i _ _ j h3 h4 => by lia)
    rw [show ia + (la.length - ia) = la.length by omega] at this
    rw [ext_nil lb _ _ (Nat.le_refl _), Array.append_empty]
    exact this.end
  · subst q
    have := h.extB T (k := lb.length - ib) (by omega) (fun i _ _ j h3 h4 => by lia)
    rw [show ib + (lb.length - ib) = lb.length by omega] at this
    rw [ext_nil la _ _ (Nat.le_refl _), Array.append_empty]
    exact this.end
theorem MgA.lastA (T : Two N lt la lb) (h : MgA it lt la lb arr ia ib) (he : ia + 1 = la.length) : MgF it lt la lb (arr ++ (arrIt it lb).extract ib lb.length ++ (arrIt it la).extract ia la.length) := by
  have hl := h.le
  have h1 := h.extB T (k := lb.length - ib) (by lia) (fun i h1 h2 j h3 h4 => by
    rw [show j = la.length - 1 by lia]
    exact (T.ord.lx).asym _ _ (lx_of (T.last i (by lia))))
  rw [show ib + (lb.length - ib) = lb.length by lia] at h1
  have h2 := h1.extA T (k := la.length - ia) (by lia) (fun i _ _ j h3 h4 => by lia)
  rw [show ia + (la.length - ia) = la.length by lia] at h2
  exact h2.end
end
noncomputable abbrev LoG := Option (Array Keyed) × Array Keyed × Nat × Nat × Nat × Nat × Nat
/-- a number of the first run, at the end of a round -/
noncomputable def loEnd (it : Array Keyed) (la lb : List Nat) (mg ac bc : Nat) (out : Array Keyed) (ia ib : Nat) : StateT SortSt Sem (ForInStep LoG) :=
  elem' (arrIt it la) ia >>= fun x =>
  if (ia + 1 + 1 == la.length) = true then pure (.done (some (out.push x ++ (arrIt it lb).extract ib lb.length ++ (arrIt it la).extract (ia + 1) la.length), out.push x, ia + 1, ib, mg, ac, bc))
  else if (decide (ac < 7) && decide (bc < 7)) = true then pure (.done (none, out.push x, ia + 1, ib, mg, ac, bc)) else pure (.yield (none, out.push x, ia + 1, ib, mg, ac, bc))
noncomputable def loMid (it : Array Keyed) (la lb : List Nat) (mg ac m : Nat) (out : Array Keyed) (ia ib : Nat) : StateT SortSt Sem (ForInStep LoG) :=
  if m > 0 then
    if (ib + m == lb.length) = true then pure (.done (some (out ++ (arrIt it lb).extract ib (ib + m) ++ (arrIt it la).extract ia la.length ++ (arrIt it lb).extract (ib + m) lb.length), out ++ (arrIt it lb).extract ib (ib + m), ia, ib + m, mg, ac, m))
    else loEnd it la lb mg ac m (out ++ (arrIt it lb).extract ib (ib + m)) ia (ib + m)
  else loEnd it la lb mg ac m out ia ib
/-- what a round may leave -/
structure LoR (it : Array Keyed) (lt : Nat → Nat → Bool) (la lb : List Nat) (lim : Nat) (st : SortSt) (R : ForInStep LoG → SortSt → Prop) : Prop where
  don : ∀ res tl, MgF it lt la lb res → R (.done (some res, tl)) st
  brk : ∀ out ia ib mg ac bc, MgA it lt la lb out ia ib → ia + 1 < la.length → ib < lb.length → lim ≤ ia + ib → R (.done (none, out, ia, ib, mg, ac, bc)) st
  nxt : ∀ out ia ib mg ac bc, MgA it lt la lb out ia ib → ia + 1 < la.length → ib < lb.length → lim ≤ ia + ib → R (.yield (none, out, ia, ib, mg, ac, bc)) st
theorem loEnd_w {M : Model} {la lb : List Nat} {lim mg ac bc ia ib : Nat} {out : Array Keyed} {st : SortSt} {R : ForInStep LoG → SortSt → Prop} (T : Two N lt la lb) (hR : LoR it lt la lb lim st R) (hia : ia < la.length) (hib : ib < lb.length) (hl : lim ≤ ia + 1 + ib)
    (hM : MgA it lt la lb out ia ib) (hx : ∀ j, ib ≤ j → j < lb.length → lx lt (gL lb j) (gL la ia) = false) (hne : ia + 1 < la.length) : wpS M A E s (loEnd it la lb mg ac bc out ia ib) R st := by
  have hM4 := hM.pushA T hia hx
  unfold loEnd
  refine wpS_bind (elem_w hia ?_)
  refine wpS_ite (fun e => wpS_pure (hR.don _ _ (hM4.lastA T (by simpa using e)))) (fun e => ?_)
  have e' : ia + 1 + 1 < la.length := by simp at e; lia
  exact wpS_ite (fun _ => wpS_pure (hR.brk _ _ _ _ _ _ hM4 e' hib hl)) (fun _ => wpS_pure (hR.nxt _ _ _ _ _ _ hM4 e' hib hl))
theorem loMid_w {M : Model} {la lb : List Nat} {lim mg ac m ia ib : Nat} {out : Array Keyed} {st : SortSt} {R : ForInStep LoG → SortSt → Prop} (T : Two N lt la lb) (hR : LoR it lt la lb lim st R) (hib : ib < lb.length) (hl : lim ≤ ia + 1 + ib)
    (hM : MgA it lt la lb out ia ib) (hne : ia + 1 < la.length) (hm : ib + m ≤ lb.length) (h1 : ∀ i, ib ≤ i → i < ib + m → lx lt (gL lb i) (gL la ia) = true) (h2 : ∀ i, ib + m ≤ i → i < lb.length → lx lt (gL lb i) (gL la ia) = false) : wpS M A E s (loMid it la lb mg ac m out ia ib) R st := by
  have ox := T.ord.lx
  have hM3 := hM.extB T (k := m) hm (fun i a1 a2 j a3 a4 => ox.trans _ _ _ (ox.asym _ _ (h1 i a1 a2)) (T.sa ia j a3 a4))
  unfold loMid
  refine wpS_ite (fun hm0 => wpS_ite (fun e => wpS_pure (hR.don _ _ (hM3.done T (.inl (by simpa using e))))) (fun e => ?_)) (fun hm0 => ?_)
  · have e' : ib + m < lb.length := by simp at e; lia
    exact loEnd_w T hR (by lia) e' (by (clear e' e hm0 hM3 ox h2 h1 hm hne hM hib hR T; lia)) hM3 h2 hne
  · have hm00 : m = 0 := by lia
    subst hm00
    exact loEnd_w T hR (by lia) hib hl hM h2 hne
noncomputable def loMid1 (it : Array Keyed) (la lb : List Nat) (mg ac bc : Nat) (out : Array Keyed) (ia ib : Nat) : StateT SortSt Sem (ForInStep LoG) :=
  elem' (arrIt it lb) ib >>= fun y =>
  if (ib + 1 == lb.length) = true then pure (.done (some (out.push y ++ (arrIt it la).extract ia la.length ++ (arrIt it lb).extract (ib + 1) lb.length), out.push y, ia, ib + 1, mg, ac, bc))
  else elem' (arrIt it la) ia >>= fun x => gallop' true x (arrIt it lb) (ib + 1) (lb.length - (ib + 1)) 0 >>= fun r => match r with
    | some k => loMid it la lb mg ac k (out.push y) ia (ib + 1)
    | _ => pure (.done (some (out.push y ++ (arrIt it la).extract ia la.length ++ (arrIt it lb).extract (ib + 1) lb.length), out.push y, ia, ib + 1, mg, ac, bc))
noncomputable def loRnd (it : Array Keyed) (la lb : List Nat) (ac bc : Nat) (out : Array Keyed) (ia ib mg : Nat) : StateT SortSt Sem (ForInStep LoG) :=
  setGallop mg >>= fun _ => elem' (arrIt it lb) ib >>= fun y => gallop' false y (arrIt it la) ia (la.length - ia) 0 >>= fun r => match r with
    | some k =>
      if k > 0 then
        if (ia + k + 1 == la.length) = true then pure (.done (some (out ++ (arrIt it la).extract ia (ia + k) ++ (arrIt it lb).extract ib lb.length ++ (arrIt it la).extract (ia + k) la.length), out ++ (arrIt it la).extract ia (ia + k), ia + k, ib, mg, k, bc))
        else if (ia + k == la.length) = true then pure (.done (some (out ++ (arrIt it la).extract ia (ia + k) ++ (arrIt it la).extract (ia + k) la.length ++ (arrIt it lb).extract ib lb.length), out ++ (arrIt it la).extract ia (ia + k), ia + k, ib, mg, k, bc))
        else loMid1 it la lb mg k bc (out ++ (arrIt it la).extract ia (ia + k)) (ia + k) ib
      else loMid1 it la lb mg k bc out ia ib
    | _ => pure (.done (some (out ++ (arrIt it la).extract ia la.length ++ (arrIt it lb).extract ib lb.length), out, ia, ib, mg, ac, bc))
theorem loMid1_w (hc : Asks prog w A s κ it N lt) {la lb : List Nat} {lim mg ac bc ia ib : Nat} {out : Array Keyed} {st : SortSt} {R : ForInStep LoG → SortSt → Prop} (T : Two N lt la lb) (hk : kindOf st = κ) (hR : LoR it lt la lb lim st R) (hib : ib < lb.length) (hl : lim ≤ ia + 1 + ib + 1)
    (hM0 : MgA it lt la lb out ia ib) (hia : ia + 1 < la.length) (hx : ∀ j, ia ≤ j → j < la.length → lx lt (gL la j) (gL lb ib) = false) : wpS (model prog w) A E s (loMid1 it la lb mg ac bc out ia ib) R st := by
  have ox := T.ord.lx
  have hM := hM0.pushB T hib hx
  clear hM0 hx
  unfold loMid1
  refine wpS_bind (elem_w hib ?_)
  refine wpS_ite (fun e => wpS_pure (hR.don _ _ (hM.done T (.inl (by simpa using e))))) (fun e => ?_)
  have e' : ib + 1 < lb.length := by simp at e; lia
  have hia2 : ia < la.length := by lia
  refine wpS_bind (elem_w hia2 ?_)
  refine wpS_bind (gallop_w (n := lb.length - (ib + 1)) (hint := 0) (bd := fun i => lt (gL lb (ib + 1 + i)) (gL la ia)) (fun i hi Q' hQ' => beyond_w (x := gL la ia) (base := ib + 1) (i := i) hc hk (T.na ia hia2) (by (clear hQ' hia2 e' e hM ox hia hl hib hR hk T hc; omega)) (T.nb _ (by (clear hQ' hia2 e' e hM ox hia hl hib hR hk T hc; omega))) (by simpa using hQ')) (fun i j hij hj h => ?_) (by omega) fun m hm hm1 hm2 => ?_)
  · cases h6 : lt (gL lb (ib + 1 + i)) (gL la ia) with
    | true => rfl
    | false =>
      rw [← T.ask hia2 (by (clear h6 h hia2 e' e hM ox hia hl hib hR hk T hc; omega))] at h6
      have := ox.trans _ _ _ h6 (T.sb (ib + 1 + i) (ib + 1 + j) (by (clear h6 h hj hia2 e' e hM ox hia hl hib hR hk T hc; lia)) (by (clear h6 h hij hia2 e' e hM ox hia hl hib hR hk T hc; omega)))
      rw [T.ask hia2 (by (clear this h6 h hij hia2 e' e hM ox hia hl hib hR hk T hc; omega))] at this
      rw [this] at h; cases h
  exact loMid_w T hR e' (by lia) hM hia (by (clear hm2 hm1 hia2 e' e hM ox hia hl hR hk T hc; omega)) (fun i h1 h2 => by
      have := hm1 (i - (ib + 1)) (by (clear hm2 hm1 hm hia2 e' e hM ox hia hl hib hR hk T hc; omega))
      rw [show ib + 1 + (i - (ib + 1)) = i by (clear this h2 hm2 hm1 hm hia2 e' e hM ox hia hl hib hR hk T hc; omega)] at this
      exact lx_of this) (fun i h1 h2 => by
      rw [T.ask hia2 h2]
      have := hm2 (i - (ib + 1)) (by (clear h2 hm2 hm1 hm hia2 e' e hM ox hia hl hib hR hk T hc; omega)) (by (clear h1 hm2 hm1 hm hia2 e hM ox hia hl hib hR hk T hc; omega))
      rw [show ib + 1 + (i - (ib + 1)) = i by lia] at this
      exact this)
theorem loRnd_w (hc : Asks prog w A s κ it N lt) {la lb : List Nat} {lim ac bc ia ib mg g : Nat} {ar : Array Keyed} {pend : Array (Nat × Nat × Nat)} {out : Array Keyed} {R : ForInStep LoG → SortSt → Prop} (T : Two N lt la lb) (hR : LoR it lt la lb lim (SortSt.mk' κ ar pend mg none) R)
    (a1 : MgA it lt la lb out ia ib) (a2 : ia + 1 < la.length) (a3 : ib < lb.length) (hl : lim ≤ ia + ib + 1) : wpS (model prog w) A E s (loRnd it la lb ac bc out ia ib mg) R (SortSt.mk' κ ar pend g none) := by
  have ox := T.ord.lx
  unfold loRnd
  refine wpS_bind (setG_w ?_)
  refine wpS_bind (elem_w a3 ?_)
  refine wpS_bind (gallop_w (n := la.length - ia) (hint := 0) (bd := fun i => !lt (gL lb ib) (gL la (ia + i))) (fun i hi Q' hQ' => beyond_w (x := gL lb ib) (base := ia) (i := i) hc rfl (T.nb ib a3) (by (clear hQ' ox hl a3 a2 a1 hR T hc; omega)) (T.na _ (by (clear hQ' ox hl a3 a2 a1 hR T hc; omega))) (by simpa using hQ')) (fun i j hij hj h => ?_) (by lia) fun k hk hk1 hk2 => ?_)
  · have h' : lt (gL lb ib) (gL la (ia + j)) = false := by simpa using h
    rw [← T.ask (by (clear h' h hij ox hl a3 a2 a1 hR T hc; omega)) a3] at h'
    have := ox.trans _ _ _ (T.sa (ia + i) (ia + j) (by lia) (by (clear h' h hij ox hl a3 a2 a1 hR T hc; omega))) h'
    rw [T.ask (by (clear this h' h ox hl a3 a2 a1 hR T hc; omega)) a3] at this
    simpa using this
  have hk1' : ∀ i, i < k → lx lt (gL lb ib) (gL la (ia + i)) = false := fun i hi => by
    rw [T.ask (by (clear hk2 hk1 ox hl a3 a2 a1 hR T hc; omega)) a3]; simpa using hk1 i hi
  have hk2' : ∀ i, ia + k ≤ i → i < la.length → lx lt (gL lb ib) (gL la i) = true := fun i h1 h2 => by
    rw [T.ask (by lia) a3]
    have := hk2 (i - ia) (by lia) (by (clear h1 hk1' hk2 hk1 hk ox hl a3 a1 hR T hc; omega))
    rw [show ia + (i - ia) = i by lia] at this
    simpa using this
  clear hk1 hk2
  have hM1 := a1.extA T (k := k) (by lia) (fun i h1 h2 j h3 h4 => by
    have := hk1' (i - ia) (by lia)
    rw [show ia + (i - ia) = i by lia] at this
    exact ox.trans _ _ _ this (T.sb ib j h3 h4))
  refine wpS_ite (fun hk0 => wpS_ite (fun e => wpS_pure (hR.don _ _ (hM1.lastA T (by simpa using e)))) (fun e => wpS_ite (fun e2 => wpS_pure (hR.don _ _ (hM1.done T (.inr (by simpa using e2))))) (fun e2 => ?_))) (fun hk0 => ?_)
  · exact loMid1_w hc T rfl hR a3 (by lia) hM1 (by simp at e e2; (clear hk0 hM1 hk2' hk1' ox hl a3 a1 hR T hc; lia)) (fun j h1 h2 => ox.asym _ _ (hk2' j h1 h2))
  · exact loMid1_w hc T rfl hR a3 (by lia) a1 a2 (fun j h1 h2 => ox.asym _ _ (hk2' j (by lia) h2))
theorem mergeLo_w (hc : Asks prog w A s κ it N lt) {la lb : List Nat} {ar : Array Keyed} {pend : Array (Nat × Nat × Nat)} {g : Nat} {Q : Array Keyed → SortSt → Prop} (T : Two N lt la lb)
    (hq : ∀ res g', MgF it lt la lb res → Q res (SortSt.mk' κ ar pend g' none)) : wpS (model prog w) A E s (mergeLo' (arrIt it la) (arrIt it lb)) Q (SortSt.mk' κ ar pend g none) := by
  have ox := T.ord.lx
  rw [mergeLo'_eq]
  rw [arrIt_size, arrIt_size]
  refine wpS_bind (wpS_lift (wpAny_rule ⟨rfl, ?_⟩))
  refine wpS_bind (elem_w T.hb ?_)
  have h0 : MgA it lt la lb #[kas_item it (gL lb 0)] 0 1 := by
    have e : MgA it lt la lb #[] 0 0 := ⟨[], rfl, ⟨Nat.zero_le _, Nat.zero_le _, by simp, List.Pairwise.nil, fun x hx => (by cases hx), fun x hx => (by cases hx)⟩⟩
    exact e.pushB T T.hb (fun j h1 h2 => ox.trans _ _ _ (ox.asym _ _ (lx_of T.first)) (T.sa 0 j (Nat.zero_le _) h2))
  refine wpS_ite (fun h1 => wpS_pure (hq _ _ (h0.done T (.inl (by simpa using h1))))) (fun h1 => ?_)
  refine wpS_ite (fun h2 => wpS_pure (hq _ _ (h0.lastA T (by simpa using h2)))) (fun h2 => ?_)
  refine wpS_bind (wpS_get ?_)
  have i1 : 0 + 1 < la.length := by have := T.ha; simp at h2; lia
  have i2 : 1 < lb.length := by have := T.hb; simp at h1; lia
  refine wpS_bind (wpS_mono (wpS_forRange
    (I := fun x c st' => ∃ g out ia ib mg, c = (none, out, ia, ib, mg) ∧ st' = SortSt.mk' κ ar pend g none ∧ MgA it lt la lb out ia ib ∧ ia + 1 < la.length ∧ ib < lb.length ∧ x + 1 ≤ ia + ib)
    (Q := fun c st' => ∃ g res x, c = (some res, x) ∧ st' = SortSt.mk' κ ar pend g none ∧ MgF it lt la lb res) ?step ?fin ⟨_, _, 0, 1, _, rfl, rfl, h0, i1, i2, Nat.le_refl 1⟩) ?post)
  case post =>
    rintro c st' ⟨g, res, x, rfl, rfl, hf⟩
    exact wpS_pure (hq _ _ hf)
  case fin =>
    rintro c st' ⟨g, out, ia, ib, mg, rfl, rfl, a1, a2, a3, a4⟩
    lia
  case step =>
    rintro x c st' z0 hx ⟨g0, out0, ia0, ib0, mg0, rfl, rfl, o1, o2, o3, o4⟩
    clear h0 h1 h2 i1 i2 z0
    refine wpS_bind (wpS_mono (wpS_forRange
      (I := fun y c st' => ∃ g out ia ib ac bc, c = (none, out, ia, ib, ac, bc) ∧ st' = SortSt.mk' κ ar pend g none ∧ MgA it lt la lb out ia ib ∧ ia + 1 < la.length ∧ ib < lb.length ∧ x + 1 ≤ ia + ib)
      (Q := fun c st' => (∃ g res y, c = (some res, y) ∧ st' = SortSt.mk' κ ar pend g none ∧ MgF it lt la lb res) ∨ (∃ g out ia ib ac bc, c = (none, out, ia, ib, ac, bc) ∧ st' = SortSt.mk' κ ar pend g none ∧ MgA it lt la lb out ia ib ∧ ia + 1 < la.length ∧ ib < lb.length ∧ x + 1 ≤ ia + ib))
      ?step1 (fun c st' h => .inr h) ⟨g0, out0, ia0, ib0, 0, 0, rfl, rfl, o1, o2, o3, o4⟩) ?post1)
    case step1 =>
      rintro y c st' z1 hy ⟨g, out, ia, ib, ac, bc, rfl, rfl, a1, a2, a3, a4⟩
      clear hx hy z1 o1 o2 o3 o4
      refine wpS_bind (elem_w (i := ib) a3 ?_)
      refine wpS_bind (elem_w (i := ia) (by lia) ?_)
      refine wpS_bind (lt_w hc rfl (T.nb ib a3) (T.na ia (by lia)) ?_)
      refine wpS_ite (fun hw => ?_) (fun hw => ?_)
      · have hM := a1.pushB T a3 (fun j h1 h2 => ox.trans _ _ _ (ox.asym _ _ (lx_of hw)) (T.sa ia j h1 h2))
        refine wpS_bind (elem_w (i := ib) a3 ?_)
        refine wpS_ite (fun e => wpS_pure (.inl ⟨_, _, _, rfl, rfl, hM.done T (.inl (by simpa using e))⟩)) (fun e => ?_)
        have e' : ib + 1 < lb.length := by simp at e; lia
        exact wpS_ite (fun _ => wpS_pure (.inr ⟨_, _, ia, ib + 1, _, _, rfl, rfl, hM, a2, e', by lia⟩)) (fun _ => wpS_pure ⟨_, _, ia, ib + 1, _, _, rfl, rfl, hM, a2, e', by lia⟩)
      · have hw' : lt (gL lb ib) (gL la ia) = false := by simpa using hw
        have hM := a1.pushA T (by lia) (fun j h1 h2 => ox.trans _ _ _ ((T.ask (by lia) a3).trans hw') (T.sb ib j h1 h2))
        refine wpS_bind (elem_w (i := ia) (by lia) ?_)
        refine wpS_ite (fun e => wpS_pure (.inl ⟨_, _, _, rfl, rfl, hM.lastA T (by simpa using e)⟩)) (fun e => ?_)
        have e' : ia + 1 + 1 < la.length := by simp at e; lia
        exact wpS_ite (fun _ => wpS_pure (.inr ⟨_, _, ia + 1, ib, _, _, rfl, rfl, hM, e', a3, by lia⟩)) (fun _ => wpS_pure ⟨_, _, ia + 1, ib, _, _, rfl, rfl, hM, e', a3, by lia⟩)
    case post1 =>
      rintro c st' (⟨g, res, y, rfl, rfl, hf⟩ | ⟨g, out, ia, ib, ac, bc, rfl, rfl, b1, b2, b3, b4⟩)
      · exact wpS_pure ⟨_, _, _, rfl, rfl, hf⟩
      refine wpS_bind (wpS_lift (wpAny_rule ⟨rfl, ?_⟩))
      refine wpS_bind (wpS_mono (wpS_forRange
        (I := fun y c st' => ∃ g out ia ib mg ac bc, c = (none, out, ia, ib, mg, ac, bc) ∧ st' = SortSt.mk' κ ar pend g none ∧ MgA it lt la lb out ia ib ∧ ia + 1 < la.length ∧ ib < lb.length ∧ x + 1 ≤ ia + ib ∧ (0 < y → x + 1 + 1 ≤ ia + ib))
        (Q := fun c st' => (∃ g res y, c = (some res, y) ∧ st' = SortSt.mk' κ ar pend g none ∧ MgF it lt la lb res) ∨ (∃ g out ia ib mg ac bc, c = (none, out, ia, ib, mg, ac, bc) ∧ st' = SortSt.mk' κ ar pend g none ∧ MgA it lt la lb out ia ib ∧ ia + 1 < la.length ∧ ib < lb.length ∧ x + 1 + 1 ≤ ia + ib))
        ?step2 ?fin2 ⟨g, out, ia, ib, _, ac, bc, rfl, rfl, b1, b2, b3, b4, fun h => absurd h (Nat.lt_irrefl _)⟩) ?post2)
      case fin2 =>
        rintro c st' ⟨g, out, ia, ib, mg, ac, bc, rfl, rfl, a1, a2, a3, a4, a5⟩
        exact .inr ⟨_, _, _, _, _, _, _, rfl, rfl, a1, a2, a3, a5 (by (clear a5 a4 a3 a2 a1 b4 b3 b2 b1 o4 o3 o2 o1 ox hq T hc; lia))⟩
      case post2 =>
        rintro c st' (⟨g, res, y, rfl, rfl, hf⟩ | ⟨g, out, ia, ib, mg, ac, bc, rfl, rfl, b1, b2, b3, b4⟩)
        · exact wpS_pure ⟨_, _, _, rfl, rfl, hf⟩
        · exact wpS_bind (setG_w (wpS_pure ⟨_, _, _, _, _, rfl, rfl, b1, b2, b3, b4⟩))
      case step2 =>
        rintro y c st' z1 hy ⟨g, out, ia, ib, mg, ac, bc, rfl, rfl, a1, a2, a3, a4, -⟩
        clear hx hy z1 o1 o2 o3 o4 b1 b2 b3 b4
        refine wpS_ite_fun (fun mg => loRnd it la lb ac bc out ia ib mg) (fun mg' => ?_)
        exact loRnd_w (lim := x + 1 + 1) hc T ⟨fun res tl hf => .inl ⟨_, _, _, rfl, rfl, hf⟩, fun out ia ib mg ac bc m1 m2 m3 m4 => .inr ⟨_, _, _, _, _, _, _, rfl, rfl, m1, m2, m3, m4⟩, fun out ia ib mg ac bc m1 m2 m3 m4 => ⟨_, _, _, _, _, _, _, rfl, rfl, m1, m2, m3, Nat.le_of_succ_le m4, fun _ => m4⟩⟩ a1 a2 a3 (by lia)
end
end Mine

set_option maxHeartbeats 1000000
namespace Mine
open PySem PySem.W PyProof.Rows

theorem mergeHi'_eq (a b : Array Keyed) : mergeHi' a b = (do
  rule "list.sort.merge-hi"
  let total := a.size + b.size
  let done (out : Array Keyed) (na nb : Nat) := a.extract 0 na ++ b.extract 0 nb ++ out.reverse
  let firstOfB (out : Array Keyed) (na nb : Nat) := b.extract 0 nb ++ a.extract 0 na ++ out.reverse
  let mut na := a.size - 1
  let mut nb := b.size
  let mut out : Array Keyed := #[← elem' a na]
  if na == 0 then return done out na nb
  if nb == 1 then return firstOfB out na nb
  let mut minGallop := gallopOf (← get)
  for _ in [0:total] do
    let mut acount := 0
    let mut bcount := 0
    for _ in [0:total] do
      let some aWins ← lt' (← elem' b (nb - 1)) (← elem' a (na - 1)) | return done out na nb
      if aWins then
        na := na - 1; out := out.push (← elem' a na); acount := acount + 1; bcount := 0
        if na == 0 then return done out na nb
        if acount ≥ minGallop then break
      else
        nb := nb - 1; out := out.push (← elem' b nb); bcount := bcount + 1; acount := 0
        if nb == 1 then return firstOfB out na nb
        if bcount ≥ minGallop then break
    rule "list.sort.gallop"
    minGallop := minGallop + 1
    for _ in [0:total] do
      if minGallop > 1 then minGallop := minGallop - 1
      setGallop minGallop
      let some at_ ← gallop' false (← elem' b (nb - 1)) a 0 na (na - 1) | return done out na nb
      let k := na - at_
      acount := k
      if k > 0 then
        out := out ++ (a.extract at_ na).reverse; na := at_
        if na == 0 then return done out na nb
      nb := nb - 1; out := out.push (← elem' b nb)
      if nb == 1 then return firstOfB out na nb
      let some at_ ← gallop' true (← elem' a (na - 1)) b 0 nb (nb - 1) | return done out na nb
      let k := nb - at_
      bcount := k
      if k > 0 then
        out := out ++ (b.extract at_ nb).reverse; nb := at_
        if nb == 1 then return firstOfB out na nb
        if nb == 0 then return done out na nb
      na := na - 1; out := out.push (← elem' a na)
      if na == 0 then return done out na nb
      if acount < 7 && bcount < 7 then break
    minGallop := minGallop + 1
    setGallop minGallop
  unsupported "internal:list.sort.merge-bound") := rfl

section
variable {prog : Program} {w : World} {A : Around} {E : Value → Shared → Prop} {s : Shared} {κ : SortKind} {it : Array Keyed} {N : Nat} {lt : Nat → Nat → Bool}
structure Mh (lt : Nat → Nat → Bool) (la lb : List Nat) (suf : List Nat) (na nb : Nat) : Prop where
  lea : na ≤ la.length
  leb : nb ≤ lb.length
  perm : suf.Perm (la.drop na ++ lb.drop nb)
  srt : suf.Pairwise fun x y => lx lt y x = false
  ba : ∀ x ∈ suf, ∀ j, j < na → lx lt x (gL la j) = false
  bb : ∀ x ∈ suf, ∀ j, j < nb → lx lt x (gL lb j) = false
theorem drop_seg (l : List Nat) (m n : Nat) (h : m ≤ n) : l.drop m = (l.drop m).take (n - m) ++ l.drop n := by
  have := (List.take_append_drop (n - m) (l.drop m)).symm
  rw [List.drop_drop, show m + (n - m) = n by lia] at this
  exact this
theorem Mh.addA {la lb suf : List Nat} {na nb m : Nat} (T : Two N lt la lb) (h : Mh lt la lb suf na nb) (hm : m ≤ na) (hx : ∀ i, m ≤ i → i < na → ∀ j, j < nb → lx lt (gL la i) (gL lb j) = false) :
    Mh lt la lb ((la.drop m).take (na - m) ++ suf) m nb where
  lea := by have := h.lea; lia
  leb := h.leb
  perm := by
    have e := drop_seg la m na hm
    refine ((h.perm.append_left _).trans ?_)
    rw [← List.append_assoc, ← e]
  srt := by
    rw [List.pairwise_append]
    refine ⟨srt_drop T.sa _ _, h.srt, fun x hx' y hy => ?_⟩
    obtain ⟨j, h1, h2, h3, rfl⟩ := gL_drop _ _ _ x hx'
    exact h.ba y hy j (by lia)
  ba := fun x hx' j h1 => by
    rcases List.mem_append.mp hx' with q | q
    · obtain ⟨i, h3, h4, h5, rfl⟩ := gL_drop _ _ _ x q
      exact T.sa j i (by lia) h5
    · exact h.ba x q j (by lia)
  bb := fun x hx' j h1 => by
    rcases List.mem_append.mp hx' with q | q
    · obtain ⟨i, h3, h4, h5, rfl⟩ := gL_drop _ _ _ x q
      exact hx i h3 (by lia) j h1
    · exact h.bb x q j h1
theorem Mh.addB {la lb suf : List Nat} {na nb m : Nat} (T : Two N lt la lb) (h : Mh lt la lb suf na nb) (hm : m ≤ nb) (hx : ∀ i, m ≤ i → i < nb → ∀ j, j < na → lx lt (gL lb i) (gL la j) = false) :
    Mh lt la lb ((lb.drop m).take (nb - m) ++ suf) na m where
  lea := h.lea
  leb := by have := h.leb; lia
  perm := by
    have e := drop_seg lb m nb hm
    have h1 : (la.drop na ++ lb.drop m) = la.drop na ++ ((lb.drop m).take (nb - m) ++ lb.drop nb) := by rw [← e]
    rw [h1]
    refine (h.perm.append_left _).trans ?_
    rw [← List.append_assoc, ← List.append_assoc]
    exact List.Perm.append_right _ List.perm_append_comm
  srt := by
    rw [List.pairwise_append]
    refine ⟨srt_drop T.sb _ _, h.srt, fun x hx' y hy => ?_⟩
    obtain ⟨j, h1, h2, h3, rfl⟩ := gL_drop _ _ _ x hx'
    exact h.bb y hy j (by lia)
  ba := fun x hx' j h1 => by
    rcases List.mem_append.mp hx' with q | q
    · obtain ⟨i, h3, h4, h5, rfl⟩ := gL_drop _ _ _ x q
      exact hx i h3 (by lia) j h1
    · exact h.ba x q j h1
  bb := fun x hx' j h1 => by
    rcases List.mem_append.mp hx' with q | q
    · obtain ⟨i, h3, h4, h5, rfl⟩ := gL_drop _ _ _ x q
      exact T.sb j i (by lia) h5
    · exact h.bb x q j (by lia)
theorem arrIt_rev (it : Array Keyed) (l : List Nat) : (arrIt it l).reverse = arrIt it l.reverse := by simp [arrIt]
noncomputable def MhA (it : Array Keyed) (lt : Nat → Nat → Bool) (la lb : List Nat) (arr : Array Keyed) (na nb : Nat) : Prop := ∃ suf, arr = arrIt it suf.reverse ∧ Mh lt la lb suf na nb
section
variable {la lb : List Nat} {arr : Array Keyed} {na nb m : Nat}
theorem MhA.le (h : MhA it lt la lb arr na nb) : na ≤ la.length ∧ nb ≤ lb.length := by obtain ⟨_, _, h⟩ := h; exact ⟨h.lea, h.leb⟩
theorem MhA.extA (T : Two N lt la lb) (h : MhA it lt la lb arr na nb) (hm : m ≤ na) (hx : ∀ i, m ≤ i → i < na → ∀ j, j < nb → lx lt (gL la i) (gL lb j) = false) : MhA it lt la lb (arr ++ ((arrIt it la).extract m na).reverse) m nb := by
  obtain ⟨suf, rfl, h⟩ := h
  exact ⟨_, by rw [arrIt_ext, arrIt_rev, arrIt_app, List.reverse_append], h.addA T hm hx⟩
theorem MhA.extB (T : Two N lt la lb) (h : MhA it lt la lb arr na nb) (hm : m ≤ nb) (hx : ∀ i, m ≤ i → i < nb → ∀ j, j < na → lx lt (gL lb i) (gL la j) = false) : MhA it lt la lb (arr ++ ((arrIt it lb).extract m nb).reverse) na m := by
  obtain ⟨suf, rfl, h⟩ := h
  exact ⟨_, by rw [arrIt_ext, arrIt_rev, arrIt_app, List.reverse_append], h.addB T hm hx⟩
theorem MhA.pushA (T : Two N lt la lb) (h : MhA it lt la lb arr na nb) (h0 : 0 < na) (hx : ∀ j, j < nb → lx lt (gL la (na - 1)) (gL lb j) = false) : MhA it lt la lb (arr.push (kas_item it (gL la (na - 1)))) (na - 1) nb := by
  have hl := h.le
  obtain ⟨suf, rfl, h⟩ := h
  refine ⟨_, ?_, h.addA T (m := na - 1) (by omega) (fun i h1 h2 j h3 => by rw [show i = na - 1 by lia]; exact hx j h3)⟩
  rw [show na - (na - 1) = 1 by (clear h hl hx T; omega), one_drop (by omega), List.reverse_append, List.reverse_singleton, arrIt_push]
theorem MhA.pushB (T : Two N lt la lb) (h : MhA it lt la lb arr na nb) (h0 : 0 < nb) (hx : ∀ j, j < na → lx lt (gL lb (nb - 1)) (gL la j) = false) : MhA it lt la lb (arr.push (kas_item it (gL lb (nb - 1)))) na (nb - 1) := by
  have hl := h.le
  obtain ⟨suf, rfl, h⟩ := h
  refine ⟨_, ?_, h.addB T (m := nb - 1) (by omega) (fun i h1 h2 j h3 => by rw [show i = nb - 1 by lia]; exact hx j h3)⟩
  rw [show nb - (nb - 1) = 1 by (clear h hl hx T; omega), one_drop (by omega), List.reverse_append, List.reverse_singleton, arrIt_push]
theorem MhA.done (T : Two N lt la lb) (h : MhA it lt la lb arr na nb) (he : na = 0 ∨ nb = 0) : MgF it lt la lb ((arrIt it la).extract 0 na ++ (arrIt it lb).extract 0 nb ++ arr.reverse) := by
  obtain ⟨suf, rfl, h⟩ := h
  rw [arrIt_rev, List.reverse_reverse, arrIt_ext, arrIt_ext, arrIt_app, arrIt_app]
  have h1 := h.addB T (m := 0) (Nat.zero_le _) (fun i h1 h2 j h3 => by lia)
  have h2 := h1.addA T (m := 0) (Nat.zero_le _) (fun i h1 h2 j h3 => by lia)
  refine ⟨_, rfl, ?_, ?_⟩
  · have := h2.perm
    rw [List.drop_zero, List.drop_zero] at this
    rw [List.drop_zero, List.drop_zero, List.append_assoc]; exact this
  · have := h2.srt
    rw [List.append_assoc]; exact this
theorem MhA.firstB (T : Two N lt la lb) (h : MhA it lt la lb arr na nb) (he : nb = 1) : MgF it lt la lb ((arrIt it lb).extract 0 nb ++ (arrIt it la).extract 0 na ++ arr.reverse) := by
  have ox := T.ord.lx
  have hl := h.le
  obtain ⟨suf, rfl, h⟩ := h
  rw [arrIt_rev, List.reverse_reverse, arrIt_ext, arrIt_ext, arrIt_app, arrIt_app]
  subst he
  have h1 := h.addA T (m := 0) (Nat.zero_le _) (fun i h1 h2 j h3 => by
    rw [show j = 0 by lia]
    exact ox.trans _ _ _ (ox.asym _ _ (lx_of T.first)) (T.sa 0 i (Nat.zero_le _) (by lia)))
  have h2 := h1.addB T (m := 0) (Nat.zero_le _) (fun i h1 h2 j h3 => by lia)
  refine ⟨_, rfl, ?_, ?_⟩
  · have := h2.perm
    rw [List.drop_zero, List.drop_zero] at this
    rw [List.drop_zero, List.drop_zero, List.append_assoc]; exact this
  · have := h2.srt
    rw [List.append_assoc]; exact this
end
noncomputable abbrev HiG := Option (Array Keyed) × Nat × Nat × Array Keyed × Nat × Nat × Nat
noncomputable def hiEnd (it : Array Keyed) (la lb : List Nat) (mg ac bc : Nat) (na nb : Nat) (out : Array Keyed) : StateT SortSt Sem (ForInStep HiG) :=
  elem' (arrIt it la) (na - 1) >>= fun x =>
  if (na - 1 == 0) = true then pure (.done (some ((arrIt it la).extract 0 (na - 1) ++ (arrIt it lb).extract 0 nb ++ (out.push x).reverse), na - 1, nb, out.push x, mg, ac, bc))
  else if (decide (ac < 7) && decide (bc < 7)) = true then pure (.done (none, na - 1, nb, out.push x, mg, ac, bc)) else pure (.yield (none, na - 1, nb, out.push x, mg, ac, bc))
noncomputable def hiMid (it : Array Keyed) (la lb : List Nat) (mg ac m : Nat) (na nb : Nat) (out : Array Keyed) : StateT SortSt Sem (ForInStep HiG) :=
  if nb - m > 0 then
    if (m == 1) = true then pure (.done (some ((arrIt it lb).extract 0 m ++ (arrIt it la).extract 0 na ++ (out ++ ((arrIt it lb).extract m nb).reverse).reverse), na, m, out ++ ((arrIt it lb).extract m nb).reverse, mg, ac, nb - m))
    else if (m == 0) = true then pure (.done (some ((arrIt it la).extract 0 na ++ (arrIt it lb).extract 0 m ++ (out ++ ((arrIt it lb).extract m nb).reverse).reverse), na, m, out ++ ((arrIt it lb).extract m nb).reverse, mg, ac, nb - m))
    else hiEnd it la lb mg ac (nb - m) na m (out ++ ((arrIt it lb).extract m nb).reverse)
  else hiEnd it la lb mg ac (nb - m) na nb out
noncomputable def hiMid1 (it : Array Keyed) (la lb : List Nat) (mg ac bc : Nat) (na nb : Nat) (out : Array Keyed) : StateT SortSt Sem (ForInStep HiG) :=
  elem' (arrIt it lb) (nb - 1) >>= fun y =>
  if (nb - 1 == 1) = true then pure (.done (some ((arrIt it lb).extract 0 (nb - 1) ++ (arrIt it la).extract 0 na ++ (out.push y).reverse), na, nb - 1, out.push y, mg, ac, bc))
  else elem' (arrIt it la) (na - 1) >>= fun x => gallop' true x (arrIt it lb) 0 (nb - 1) (nb - 1 - 1) >>= fun r => match r with
    | some m => hiMid it la lb mg ac m na (nb - 1) (out.push y)
    | _ => pure (.done (some ((arrIt it la).extract 0 na ++ (arrIt it lb).extract 0 (nb - 1) ++ (out.push y).reverse), na, nb - 1, out.push y, mg, ac, bc))
noncomputable def hiRnd (it : Array Keyed) (la lb : List Nat) (ac bc : Nat) (na nb : Nat) (out : Array Keyed) (mg : Nat) : StateT SortSt Sem (ForInStep HiG) :=
  setGallop mg >>= fun _ => elem' (arrIt it lb) (nb - 1) >>= fun y => gallop' false y (arrIt it la) 0 na (na - 1) >>= fun r => match r with
    | some k =>
      if na - k > 0 then
        if (k == 0) = true then pure (.done (some ((arrIt it la).extract 0 k ++ (arrIt it lb).extract 0 nb ++ (out ++ ((arrIt it la).extract k na).reverse).reverse), k, nb, out ++ ((arrIt it la).extract k na).reverse, mg, na - k, bc))
        else hiMid1 it la lb mg (na - k) bc k nb (out ++ ((arrIt it la).extract k na).reverse)
      else hiMid1 it la lb mg (na - k) bc na nb out
    | _ => pure (.done (some ((arrIt it la).extract 0 na ++ (arrIt it lb).extract 0 nb ++ out.reverse), na, nb, out, mg, ac, bc))
structure HiR (it : Array Keyed) (lt : Nat → Nat → Bool) (la lb : List Nat) (lim : Nat) (st : SortSt) (R : ForInStep HiG → SortSt → Prop) : Prop where
  don : ∀ res tl, MgF it lt la lb res → R (.done (some res, tl)) st
  brk : ∀ na nb out mg ac bc, MhA it lt la lb out na nb → 0 < na → 1 < nb → na + nb ≤ lim → R (.done (none, na, nb, out, mg, ac, bc)) st
  nxt : ∀ na nb out mg ac bc, MhA it lt la lb out na nb → 0 < na → 1 < nb → na + nb ≤ lim → R (.yield (none, na, nb, out, mg, ac, bc)) st
theorem hiEnd_w {M : Model} {la lb : List Nat} {lim mg ac bc na nb : Nat} {out : Array Keyed} {st : SortSt} {R : ForInStep HiG → SortSt → Prop} (T : Two N lt la lb) (hR : HiR it lt la lb lim st R) (hna : 0 < na) (hnb : 1 < nb) (hl : na - 1 + nb ≤ lim)
    (hM : MhA it lt la lb out na nb) (hx : ∀ j, j < nb → lx lt (gL la (na - 1)) (gL lb j) = false) : wpS M A E s (hiEnd it la lb mg ac bc na nb out) R st := by
  have hle := hM.le
  have hM4 := hM.pushA T hna hx
  unfold hiEnd
  refine wpS_bind (elem_w (by omega) ?_)
  refine wpS_ite (fun e => wpS_pure (hR.don _ _ (hM4.done T (.inl (by simpa using e))))) (fun e => ?_)
  have e' : 0 < na - 1 := by simp at e; lia
  exact wpS_ite (fun _ => wpS_pure (hR.brk _ _ _ _ _ _ hM4 e' hnb hl)) (fun _ => wpS_pure (hR.nxt _ _ _ _ _ _ hM4 e' hnb hl))
theorem hiMid_w {M : Model} {la lb : List Nat} {lim mg ac m na nb : Nat} {out : Array Keyed} {st : SortSt} {R : ForInStep HiG → SortSt → Prop} (T : Two N lt la lb) (hR : HiR it lt la lb lim st R) (hna : 0 < na) (hnb : 1 < nb) (hl : na - 1 + nb ≤ lim)
    (hM : MhA it lt la lb out na nb) (hm : m ≤ nb) (h1 : ∀ i, i < m → lx lt (gL lb i) (gL la (na - 1)) = true) (h2 : ∀ i, m ≤ i → i < nb → lx lt (gL lb i) (gL la (na - 1)) = false) : wpS M A E s (hiMid it la lb mg ac m na nb out) R st := by
  have ox := T.ord.lx
  have hle := hM.le
  have hM3 := hM.extB T (m := m) hm (fun i a1 a2 j a3 => ox.trans _ _ _ (T.sa j (na - 1) (by (clear a2 a1 hle ox h2 h1 hm hM hl hnb hR T; omega)) (by omega)) (h2 i a1 a2))
  unfold hiMid
  refine wpS_ite (fun hm0 => wpS_ite (fun e => wpS_pure (hR.don _ _ (hM3.firstB T (by simpa using e)))) (fun e => wpS_ite (fun e2 => wpS_pure (hR.don _ _ (hM3.done T (.inr (by simpa using e2))))) (fun e2 => ?_))) (fun hm0 => ?_)
  · exact hiEnd_w T hR hna (by simp at e e2; lia) (by lia) hM3 (fun j a1 => ox.asym _ _ (h1 j a1))
  · exact hiEnd_w T hR hna hnb hl hM (fun j a1 => ox.asym _ _ (h1 j (by lia)))
theorem hiMid1_w (hc : Asks prog w A s κ it N lt) {la lb : List Nat} {lim mg ac bc na nb : Nat} {out : Array Keyed} {st : SortSt} {R : ForInStep HiG → SortSt → Prop} (T : Two N lt la lb) (hk : kindOf st = κ) (hR : HiR it lt la lb lim st R) (hna : 0 < na) (hnb : 1 < nb) (hl : na - 1 + (nb - 1) ≤ lim)
    (hM0 : MhA it lt la lb out na nb) (hx : ∀ j, j < na → lx lt (gL lb (nb - 1)) (gL la j) = false) : wpS (model prog w) A E s (hiMid1 it la lb mg ac bc na nb out) R st := by
  have ox := T.ord.lx
  have hle := hM0.le
  have hM := hM0.pushB T (by lia) hx
  clear hM0 hx
  unfold hiMid1
  refine wpS_bind (elem_w (by omega) ?_)
  refine wpS_ite (fun e => wpS_pure (hR.don _ _ (hM.firstB T (by simpa using e)))) (fun e => ?_)
  have e' : 1 < nb - 1 := by simp at e; omega
  have hk2 : na - 1 < la.length := by (clear e' e hM ox hl hnb hR hk T hc; omega)
  refine wpS_bind (elem_w hk2 ?_)
  refine wpS_bind (gallop_w (n := nb - 1) (hint := nb - 1 - 1) (bd := fun i => lt (gL lb i) (gL la (na - 1))) (fun i hi Q' hQ' => beyond_w (x := gL la (na - 1)) (base := 0) (i := i) hc hk (T.na _ hk2) (by (clear hQ' hk2 e' e hM ox hl hnb hna hR hk T hc; omega)) (T.nb _ (by (clear hQ' hk2 e' e hM ox hl hnb hna hR hk T hc; omega))) (by simpa using hQ')) (fun i j hij hj h => ?_) (by (clear hk2 e' e hM hle ox hl hna hR hk T hc; omega)) fun m hm hm1 hm2 => ?_)
  · cases h6 : lt (gL lb i) (gL la (na - 1)) with
    | true => rfl
    | false =>
      rw [← T.ask hk2 (by (clear h6 h hk2 e' e hM ox hl hnb hna hR hk T hc; omega))] at h6
      have := ox.trans _ _ _ h6 (T.sb i j (by lia) (by (clear h6 h hij hk2 e' e hM ox hl hnb hna hR hk T hc; omega)))
      rw [T.ask hk2 (by (clear this h6 h hij hk2 e' e hM ox hl hnb hna hR hk T hc; omega))] at this
      rw [this] at h; cases h
  exact hiMid_w T hR hna e' hl hM hm (fun i h1 => lx_of (hm1 i h1)) (fun i h1 h2 => by
      rw [T.ask hk2 (by (clear h1 hm2 hm1 hm hk2 e' e hM ox hl hnb hna hR hk T hc; omega))]
      exact hm2 i h1 h2)
theorem hiRnd_w (hc : Asks prog w A s κ it N lt) {la lb : List Nat} {lim ac bc na nb mg g : Nat} {ar : Array Keyed} {pend : Array (Nat × Nat × Nat)} {out : Array Keyed} {R : ForInStep HiG → SortSt → Prop} (T : Two N lt la lb) (hR : HiR it lt la lb lim (SortSt.mk' κ ar pend mg none) R)
    (a1 : MhA it lt la lb out na nb) (a2 : 0 < na) (a3 : 1 < nb) (hl : na + nb ≤ lim + 1) : wpS (model prog w) A E s (hiRnd it la lb ac bc na nb out mg) R (SortSt.mk' κ ar pend g none) := by
  have ox := T.ord.lx
  have hle := a1.le
  unfold hiRnd
  have hnb : nb - 1 < lb.length := by omega
  refine wpS_bind (setG_w ?_)
  refine wpS_bind (elem_w hnb ?_)
  refine wpS_bind (gallop_w (n := na) (hint := na - 1) (bd := fun i => !lt (gL lb (nb - 1)) (gL la i)) (fun i hi Q' hQ' => beyond_w (x := gL lb (nb - 1)) (base := 0) (i := i) hc rfl (T.nb (nb - 1) hnb) (by lia) (T.na _ (by lia)) (by simpa using hQ')) (fun i j hij hj h => ?_) (by (clear hnb hle ox hl a3 a1 hR T hc; omega)) fun k hk hk1 hk2 => ?_)
  · have h' : lt (gL lb (nb - 1)) (gL la j) = false := by simpa using h
    rw [← T.ask (by lia) hnb] at h'
    have := ox.trans _ _ _ (T.sa i j (by lia) (by lia)) h'
    rw [T.ask (by lia) hnb] at this
    simpa using this
  have hk1' : ∀ i, i < k → lx lt (gL lb (nb - 1)) (gL la i) = false := fun i hi => by
    rw [T.ask (by lia) hnb]; simpa using hk1 i hi
  have hk2' : ∀ i, k ≤ i → i < na → lx lt (gL lb (nb - 1)) (gL la i) = true := fun i h1 h2 => by
    rw [T.ask (by lia) hnb]
    have := hk2 i h1 h2
    simpa using this
  clear hk1 hk2
  have hM1 := a1.extA T (m := k) hk (fun i h1 h2 j h3 => ox.trans _ _ _ (T.sb j (nb - 1) (by lia) hnb) (ox.asym _ _ (hk2' i h1 h2)))
  refine wpS_ite (fun hk0 => wpS_ite (fun e => wpS_pure (hR.don _ _ (hM1.done T (.inl (by simpa using e))))) (fun e => ?_)) (fun hk0 => ?_)
  · exact hiMid1_w hc T rfl hR (by simp at e; (clear hk0 hM1 hk2' hk1' hk hnb hle ox hl a3 a2 a1 hR T hc; lia)) a3 (by (clear e hk0 hM1 hk2' hk1' hnb hle ox a1 hR T hc; omega)) hM1 hk1'
  · exact hiMid1_w hc T rfl hR a2 a3 (by lia) a1 (fun j h1 => hk1' j (by lia))
theorem mergeHi_w (hc : Asks prog w A s κ it N lt) {la lb : List Nat} {ar : Array Keyed} {pend : Array (Nat × Nat × Nat)} {g : Nat} {Q : Array Keyed → SortSt → Prop} (T : Two N lt la lb)
    (hq : ∀ res g', MgF it lt la lb res → Q res (SortSt.mk' κ ar pend g' none)) : wpS (model prog w) A E s (mergeHi' (arrIt it la) (arrIt it lb)) Q (SortSt.mk' κ ar pend g none) := by
  have ox := T.ord.lx
  rw [mergeHi'_eq]
  rw [arrIt_size, arrIt_size]
  have hla := T.ha
  have hlb := T.hb
  refine wpS_bind (wpS_lift (wpAny_rule ⟨rfl, ?_⟩))
  refine wpS_bind (elem_w (i := la.length - 1) (by omega) ?_)
  have h0 : MhA it lt la lb #[kas_item it (gL la (la.length - 1))] (la.length - 1) lb.length := by
    have e : MhA it lt la lb #[] la.length lb.length := ⟨[], rfl, ⟨Nat.le_refl _, Nat.le_refl _, by simp, List.Pairwise.nil, fun x hx => (by cases hx), fun x hx => (by cases hx)⟩⟩
    exact e.pushA T T.ha (fun j h1 => ox.asym _ _ (lx_of (T.last j h1)))
  refine wpS_ite (fun h1 => wpS_pure (hq _ _ (h0.done T (.inl (by simpa using h1))))) (fun h1 => ?_)
  refine wpS_ite (fun h2 => wpS_pure (hq _ _ (h0.firstB T (by simpa using h2)))) (fun h2 => ?_)
  refine wpS_bind (wpS_get ?_)
  have i1 : 0 < la.length - 1 := by simp at h1; lia
  have i2 : 1 < lb.length := by simp at h2; lia
  refine wpS_bind (wpS_mono (wpS_forRange
    (I := fun x c st' => ∃ g out na nb mg, c = (none, na, nb, out, mg) ∧ st' = SortSt.mk' κ ar pend g none ∧ MhA it lt la lb out na nb ∧ 0 < na ∧ 1 < nb ∧ x + 1 + (na + nb) ≤ la.length + lb.length)
    (Q := fun c st' => ∃ g res x, c = (some res, x) ∧ st' = SortSt.mk' κ ar pend g none ∧ MgF it lt la lb res) ?step ?fin ⟨_, _, la.length - 1, lb.length, _, rfl, rfl, h0, i1, i2, by lia⟩) ?post)
  case post =>
    rintro c st' ⟨g, res, x, rfl, rfl, hf⟩
    exact wpS_pure (hq _ _ hf)
  case fin =>
    rintro c st' ⟨g, out, na, nb, mg, rfl, rfl, a1, a2, a3, a4⟩
    (clear a3 a2 a1 i2 i1 h2 h1 h0 hlb hla ox hq T hc; lia)
  case step =>
    rintro x c st' z0 hx ⟨g0, out0, na0, nb0, mg0, rfl, rfl, o1, o2, o3, o4⟩
    clear h0 h1 h2 i1 i2 z0 hla hlb
    refine wpS_bind (wpS_mono (wpS_forRange
      (I := fun y c st' => ∃ g out na nb ac bc, c = (none, na, nb, out, ac, bc) ∧ st' = SortSt.mk' κ ar pend g none ∧ MhA it lt la lb out na nb ∧ 0 < na ∧ 1 < nb ∧ x + 1 + (na + nb) ≤ la.length + lb.length)
      (Q := fun c st' => (∃ g res y, c = (some res, y) ∧ st' = SortSt.mk' κ ar pend g none ∧ MgF it lt la lb res) ∨ (∃ g out na nb ac bc, c = (none, na, nb, out, ac, bc) ∧ st' = SortSt.mk' κ ar pend g none ∧ MhA it lt la lb out na nb ∧ 0 < na ∧ 1 < nb ∧ x + 1 + (na + nb) ≤ la.length + lb.length))
      ?step1 (fun c st' h => .inr h) ⟨g0, out0, na0, nb0, 0, 0, rfl, rfl, o1, o2, o3, o4⟩) ?post1)
    case step1 =>
      rintro y c st' z1 hy ⟨g, out, na, nb, ac, bc, rfl, rfl, a1, a2, a3, a4⟩
      clear hx hy z1 o1 o2 o3 o4
      have hl := a1.le
      refine wpS_bind (elem_w (i := nb - 1) (by omega) ?_)
      refine wpS_bind (elem_w (i := na - 1) (by omega) ?_)
      refine wpS_bind (lt_w hc rfl (T.nb (nb - 1) (by omega)) (T.na (na - 1) (by omega)) ?_)
      refine wpS_ite (fun hw => ?_) (fun hw => ?_)
      · have hM := a1.pushA T a2 (fun j h1 => ox.trans _ _ _ (T.sb j (nb - 1) (by lia) (by omega)) (ox.asym _ _ (lx_of hw)))
        refine wpS_bind (elem_w (i := na - 1) (by omega) ?_)
        refine wpS_ite (fun e => wpS_pure (.inl ⟨_, _, _, rfl, rfl, hM.done T (.inl (by simpa using e))⟩)) (fun e => ?_)
        have e' : 0 < na - 1 := by simp at e; lia
        exact wpS_ite (fun _ => wpS_pure (.inr ⟨_, _, na - 1, nb, _, _, rfl, rfl, hM, e', a3, by lia⟩)) (fun _ => wpS_pure ⟨_, _, na - 1, nb, _, _, rfl, rfl, hM, e', a3, by lia⟩)
      · have hw' : lt (gL lb (nb - 1)) (gL la (na - 1)) = false := by simpa using hw
        have hM := a1.pushB T (by lia) (fun j h1 => ox.trans _ _ _ (T.sa j (na - 1) (by (clear hw' hw hl a4 a3 a1 ox hq T hc; omega)) (by omega)) ((T.ask (by omega) (by omega)).trans hw'))
        refine wpS_bind (elem_w (i := nb - 1) (by omega) ?_)
        refine wpS_ite (fun e => wpS_pure (.inl ⟨_, _, _, rfl, rfl, hM.firstB T (by simpa using e)⟩)) (fun e => ?_)
        have e' : 1 < nb - 1 := by simp at e; lia
        exact wpS_ite (fun _ => wpS_pure (.inr ⟨_, _, na, nb - 1, _, _, rfl, rfl, hM, a2, e', by lia⟩)) (fun _ => wpS_pure ⟨_, _, na, nb - 1, _, _, rfl, rfl, hM, a2, e', by lia⟩)
    case post1 =>
      rintro c st' (⟨g, res, y, rfl, rfl, hf⟩ | ⟨g, out, na, nb, ac, bc, rfl, rfl, b1, b2, b3, b4⟩)
      · exact wpS_pure ⟨_, _, _, rfl, rfl, hf⟩
      refine wpS_bind (wpS_lift (wpAny_rule ⟨rfl, ?_⟩))
      refine wpS_bind (wpS_mono (wpS_forRange
        (I := fun y c st' => ∃ g out na nb mg ac bc, c = (none, na, nb, out, mg, ac, bc) ∧ st' = SortSt.mk' κ ar pend g none ∧ MhA it lt la lb out na nb ∧ 0 < na ∧ 1 < nb ∧ x + 1 + (na + nb) ≤ la.length + lb.length ∧ (0 < y → x + 1 + 1 + (na + nb) ≤ la.length + lb.length))
        (Q := fun c st' => (∃ g res y, c = (some res, y) ∧ st' = SortSt.mk' κ ar pend g none ∧ MgF it lt la lb res) ∨ (∃ g out na nb mg ac bc, c = (none, na, nb, out, mg, ac, bc) ∧ st' = SortSt.mk' κ ar pend g none ∧ MhA it lt la lb out na nb ∧ 0 < na ∧ 1 < nb ∧ x + 1 + 1 + (na + nb) ≤ la.length + lb.length))
        ?step2 ?fin2 ⟨g, out, na, nb, _, ac, bc, rfl, rfl, b1, b2, b3, b4, fun h => absurd h (Nat.lt_irrefl _)⟩) ?post2)
      case fin2 =>
        rintro c st' ⟨g, out, na, nb, mg, ac, bc, rfl, rfl, a1, a2, a3, a4, a5⟩
        exact .inr ⟨_, _, _, _, _, _, _, rfl, rfl, a1, a2, a3, a5 (by (clear a5 a4 a3 a2 a1 b4 b3 b2 b1 o4 o3 o2 o1 ox hq T hc; lia))⟩
      case post2 =>
        rintro c st' (⟨g, res, y, rfl, rfl, hf⟩ | ⟨g, out, na, nb, mg, ac, bc, rfl, rfl, b1, b2, b3, b4⟩)
        · exact wpS_pure ⟨_, _, _, rfl, rfl, hf⟩
        · exact wpS_bind (setG_w (wpS_pure ⟨_, _, _, _, _, rfl, rfl, b1, b2, b3, b4⟩))
      case step2 =>
        rintro y c st' z1 hy ⟨g, out, na, nb, mg, ac, bc, rfl, rfl, a1, a2, a3, a4, -⟩
        clear hx hy z1 o1 o2 o3 o4 b1 b2 b3 b4
        refine wpS_ite_fun (fun mg => hiRnd it la lb ac bc na nb out mg) (fun mg' => ?_)
        exact hiRnd_w (lim := la.length + lb.length - (x + 1 + 1)) hc T ⟨fun res tl hf => .inl ⟨_, _, _, rfl, rfl, hf⟩, fun na nb out mg ac bc m1 m2 m3 m4 => .inr ⟨_, _, _, _, _, _, _, rfl, rfl, m1, m2, m3, by (clear m3 m2 m1 a3 a1 ox hq T hc; omega)⟩, fun na nb out mg ac bc m1 m2 m3 m4 => ⟨_, _, _, _, _, _, _, rfl, rfl, m1, m2, m3, by (clear m3 m2 m1 a3 a2 a1 ox hq T hc; omega), fun _ => by (clear m3 m2 m1 a3 a1 ox hq T hc; omega)⟩⟩ a1 a2 a3 (by (clear a3 a2 a1 ox hq T hc; omega))
end
end Mine

set_option maxHeartbeats 1000000
namespace Mine
open PySem PySem.W PyProof.Rows

section
variable {prog : Program} {w : World} {A : Around} {E : Value → Shared → Prop} {s : Shared} {κ : SortKind} {it : Array Keyed} {N : Nat} {lt : Nat → Nat → Bool}
noncomputable abbrev sst (κ : SortKind) (it : Array Keyed) (p : Array Nat) (pend : Array (Nat × Nat × Nat)) (g : Nat) : SortSt := SortSt.mk' κ (p.map (kas_item it)) pend g none
theorem sst_get {p : Array Nat} {i : Nat} (hi : i < p.size) : (p.map (kas_item it))[i]? = some (kas_item it (gP p i)) := by
  have e : gP p i = p[i] := by simp [gP, Array.getD, hi]
  rw [e]; simp [hi]
theorem ltAt_w (hc : Asks prog w A s κ it N lt) {p : Array Nat} {pend : Array (Nat × Nat × Nat)} {g i j : Nat} {Q : Option Bool → SortSt → Prop} (hp : In N p) (hi : i < N) (hj : j < N) (hq : Q (some (lt (gP p i) (gP p j))) (sst κ it p pend g)) :
    wpS (model prog w) A E s (ltAt' i j) Q (sst κ it p pend g) := by
  rw [ltAt'_eq]
  refine wpS_bind (wpS_get ?_)
  show wpS _ _ _ _ (do let x ← elem' (p.map (kas_item it)) i; let y ← elem' (p.map (kas_item it)) j; lt' x y) Q _
  rw [elem'_eq, elem'_eq, sst_get (by rw [hp.size]; exact hi), sst_get (by rw [hp.size]; exact hj)]
  refine wpS_bind (wpS_pure (wpS_bind (wpS_pure ?_)))
  exact lt_w hc rfl (hp.bd hi) (hp.bd hj) hq
theorem rev_w {M : Model} {p : Array Nat} {pend : Array (Nat × Nat × Nat)} {g i j : Nat} {Q : Unit → SortSt → Prop} (h : Q () (sst κ it (kas_rev p i j) pend g)) : wpS M A E s (reverseSlice' i j) Q (sst κ it p pend g) := by
  rw [reverseSlice'_eq]
  refine wpS_modify ?_
  have e : mirror (p.map (kas_item it)) i j ((j - i) / 2) = (kas_rev p i j).map (kas_item it) := kas_swaps_map _ _ _ _ _
  show Q () (SortSt.mk' κ (mirror (p.map (kas_item it)) i j ((j - i) / 2)) pend g none)
  rw [e]; exact h
theorem move_w {M : Model} {p : Array Nat} {pend : Array (Nat × Nat × Nat)} {g k l : Nat} {Q : Unit → SortSt → Prop} (h : Q () (sst κ it (bubble p k (k - l)) pend g)) : wpS M A E s (moveDown' k l) Q (sst κ it p pend g) := by
  rw [moveDown'_eq]
  refine wpS_modify ?_
  have e : bubble (p.map (kas_item it)) k (k - l) = (bubble p k (k - l)).map (kas_item it) := kas_swaps_map _ _ _ _ _
  show Q () (SortSt.mk' κ (bubble (p.map (kas_item it)) k (k - l)) pend g none)
  rw [e]; exact h

/-- in order from lo to hi -/
noncomputable def SPw (r : Nat → Nat → Bool) (p : Array Nat) (lo hi : Nat) : Prop := ∀ i j, lo ≤ i → i ≤ j → j < hi → r (gP p j) (gP p i) = false
/-- falling from lo to hi -/
noncomputable def FLw (r : Nat → Nat → Bool) (p : Array Nat) (lo hi : Nat) : Prop := ∀ i j, lo ≤ i → i < j → j < hi → r (gP p j) (gP p i) = true
structure DA (lt : Nat → Nat → Bool) (N lo : Nat) (p : Array Nat) (e q : Nat) : Prop where
  dn : ∀ i j, lo ≤ i → i < j → j < e → i < e - (q + 1) → lx lt (gP p j) (gP p i) = true
  fx : Fx2 N p (e - (q + 1))
  qe : lo + q + 1 ≤ e
  eq : ∀ i, e - (q + 1) ≤ i → i < e → lt (gP p (e - 1)) (gP p i) = false ∧ lt (gP p i) (gP p (e - 1)) = false
variable {p : Array Nat} {lo e q : Nat}
theorem DA.rev (o : Ord lt) (hp : In N p) (he : e ≤ N) (h : DA lt N lo p e q) : FLw (lx lt) (kas_rev p (e - (q + 1)) e) lo e ∧ Fx2 N (kas_rev p (e - (q + 1)) e) e ∧ (∀ m, m < lo → gP (kas_rev p (e - (q + 1)) e) m = gP p m) := by
  have hq := h.qe
  have hget := rev_get (p := p) (i := e - (q + 1)) (j := e) (by rw [hp.size]; lia)
  refine ⟨fun i j hi hij hj => ?_, fun m hm hm' => by rw [hget, if_neg (by lia)]; exact h.fx m (by (clear hm' hget hq h he hp o; omega)) hm', fun m hm => by rw [hget, if_neg (by omega)]⟩
  rw [hget j, hget i]
  by_cases q1 : e - (q + 1) ≤ i
  · rw [if_pos (show e - (q + 1) ≤ j ∧ j < e from ⟨by lia, hj⟩), if_pos (show e - (q + 1) ≤ i ∧ i < e from ⟨q1, by lia⟩)]
    have a := h.eq (e - (q + 1) + e - 1 - i) (by (clear q1 hi hget hq h he hp o; omega)) (by (clear hj hij hi hget h he hp o; omega))
    have b := h.eq (e - (q + 1) + e - 1 - j) (by (clear a q1 hij hi hget hq h he hp o; omega)) (by (clear a hi hget hq h he hp o; omega))
    refine lx_alike (o.trans _ _ _ b.1 a.2) ?_
    rw [h.fx _ (by (clear b a q1 hij hi hget hq h he hp o; omega)) (by omega), h.fx _ (by (clear b a q1 hi hget hq h he hp o; omega)) (by (clear b a hj hij hi hget h hp o; omega))]; (clear b a hi hget hq h he hp o; omega)
  · rw [if_neg (by lia : ¬ (e - (q + 1) ≤ i ∧ i < e))]
    by_cases q2 : e - (q + 1) ≤ j
    · rw [if_pos (show e - (q + 1) ≤ j ∧ j < e from ⟨q2, hj⟩)]; exact h.dn i _ hi (by (clear hij hi hget hq h he hp o; omega)) (by (clear q1 hij hi hget hq h he hp o; omega)) (by lia)
    · rw [if_neg (show ¬ (e - (q + 1) ≤ j ∧ j < e) by lia)]; exact h.dn i j hi hij hj (by lia)
theorem DA.one (o : Ord lt) (hd : FLw (lx lt) p lo e) (hf : Fx2 N p e) (hn : lo + 1 ≤ e) (hc : lt (gP p e) (gP p (e - 1)) = true) : DA lt N lo p (e + 1) 0 where
  dn := fun i j hi hij hj hi2 => by
    by_cases q : j < e
    · exact hd i j hi hij q
    · have : j = e := by lia
      subst this
      refine lx_of ?_
      by_cases q2 : i = j - 1
      · rw [q2]; exact hc
      · have h1 := hd i (j - 1) hi (by lia) (by omega)
        cases h2 : lt (gP p j) (gP p i) with
        | true => rfl
        | false =>
          have h3 := (lx_false.mp ((o.lx).asym _ _ h1)).1
          have h8 : lt (gP p j) (gP p (j - 1)) = false := o.trans (gP p (j - 1)) (gP p i) (gP p j) h3 h2
          rw [hc] at h8; cases h8
  fx := fun m hm hm' => hf m (by lia) hm'
  qe := by lia
  eq := fun i hi hi2 => by
    have : i = e := by lia
    subst this
    exact ⟨o.refl _, o.refl _⟩
theorem DA.more (o : Ord lt) (hp : In N p) (he : e < N) (h : DA lt N lo p e q) (hc : lt (gP p e) (gP p (e - 1)) = false) (hd : lt (gP p (e - 1)) (gP p e) = false) : DA lt N lo p (e + 1) (q + 1) where
  dn := fun i j hi hij hj hi2 => by
    have hq := h.qe
    by_cases q1 : j < e
    · exact h.dn i j hi hij q1 (by lia)
    · have : j = e := by lia
      subst this
      have h3 := h.dn i (j - 1) hi (by (clear q1 hq hj hd hc h he hij hi hp o; omega)) (by omega) (by lia)
      cases h4 : lx lt (gP p j) (gP p i) with
      | true => rfl
      | false =>
        exfalso
        have hfj1 : gP p (j - 1) = j - 1 := h.fx (j - 1) (by omega) (by (clear h4 h3 q1 hq hi2 hj hd hc h hij hi hp o; omega))
        have hil : gP p i < j - (q + 1) := h.fx.lo hp (by lia) (by (clear hfj1 h4 h3 q1 hq hi2 hj hd hc h hij hi hp o; omega))
        have h6 := lx_false.mp h4
        have h7 : lt (gP p (j - 1)) (gP p i) = true := by
          rw [lx_gt (by rw [hfj1]; (clear h6 h4 h3 q1 hq hi2 hj hd hc h he hi hp o; omega))] at h3; exact h3
        have h9 : lt (gP p (j - 1)) (gP p i) = false := o.trans (gP p i) (gP p j) (gP p (j - 1)) h6.1 hd
        rw [h7] at h9; cases h9
  fx := fun m hm hm' => h.fx m (by lia) hm'
  qe := by have := h.qe; lia
  eq := fun i hi hi2 => by
    by_cases q1 : i = e
    · subst q1; exact ⟨o.refl _, o.refl _⟩
    · have := h.eq i (by lia) (by lia)
      exact ⟨o.trans _ _ _ this.1 hc, o.trans _ _ _ hd this.2⟩
theorem FLw.turn (o : Ord lt) (hp : In N p) (hle : lo ≤ e) (he : e ≤ N) (h : FLw (lx lt) p lo e) (hf : Fx2 N p e) : SPw (lx lt) (kas_rev p lo e) lo e ∧ Fx2 N (kas_rev p lo e) e ∧ (∀ m, m < lo → gP (kas_rev p lo e) m = gP p m) := by
  have hget := rev_get (p := p) (i := lo) (j := e) (by rw [hp.size]; lia)
  refine ⟨fun i j hi hij hj => ?_, fun m hm hm' => by rw [hget, if_neg (by lia)]; exact hf m hm hm', fun m hm => by rw [hget, if_neg (by lia)]⟩
  rw [hget, hget, if_pos ⟨by lia, by lia⟩, if_pos ⟨by lia, by lia⟩]
  by_cases q : i = j
  · subst q; exact (o.lx).refl _
  · exact (o.lx).asym _ _ (h _ _ (by (clear q hij hi hget hf h he hle hp o; omega)) (by (clear hi hget hf h he hle hp o; omega)) (by (clear q hij hget hf h he hle hp o; omega)))
theorem SPw.grow (o : Ord lt) (hp : In N p) (he : e < N) (hlo : lo < e) (h : SPw (lx lt) p lo e) (hf : Fx2 N p e) (hc : lt (gP p e) (gP p (e - 1)) = false) : SPw (lx lt) p lo (e + 1) := fun i j hi hij hj => by
  by_cases q : j < e
  · exact h i j hi hij q
  · have : j = e := by lia
    subst this
    by_cases q2 : i = j
    · subst q2; exact (o.lx).refl _
    · refine (o.lx).trans _ _ _ (h i (j - 1) hi (by lia) (by omega)) ?_
      rw [lx_gt (by rw [hf j (Nat.le_refl _) he]; exact Nat.le_of_lt (hf.lo hp (by omega) (by lia)))]
      exact hc
/-- a run counted -/
structure Run (lt : Nat → Nat → Bool) (N lo : Nat) (p0 p : Array Nat) (n : Nat) : Prop where
  in_ : In N p
  sp : SPw (lx lt) p lo (lo + n)
  fx : Fx2 N p (lo + n)
  low : ∀ m, m < lo → gP p m = gP p0 m
noncomputable def cntEnd (lo nrem n₀ : Nat) : StateT SortSt Sem (Option Nat) := do
  let mut n := n₀
  reverseSlice' lo (lo + n)
  for _ in [n:nrem] do
    let some smaller ← ltAt' (lo + n) (lo + n - 1) | return none
    if smaller then break
    n := n + 1
  return some n
noncomputable def cntDesc (lo nrem n₀ : Nat) : StateT SortSt Sem (Option Nat) := do
  let mut n := n₀
  rule "list.sort.descending-run"
  n := n + 1
  let mut neq := 0
  for _ in [n:nrem] do
    let some smaller ← ltAt' (lo + n) (lo + n - 1) | return none
    if smaller then
      if neq > 0 then reverseSlice' (lo + n - (neq + 1)) (lo + n)
      neq := 0
    else
      let some larger ← ltAt' (lo + n - 1) (lo + n) | return none
      if larger then break
      neq := neq + 1
    n := n + 1
  if neq > 0 then reverseSlice' (lo + n - (neq + 1)) (lo + n)
  reverseSlice' lo (lo + n)
  for _ in [n:nrem] do
    let some smaller ← ltAt' (lo + n) (lo + n - 1) | return none
    if smaller then break
    n := n + 1
  return some n
theorem cntEnd_w (hc : Asks prog w A s κ it N lt) (o : Ord lt) {p0 : Array Nat} {pend : Array (Nat × Nat × Nat)} {g nrem x : Nat} {Q : Option Nat → SortSt → Prop} (hn : lo + nrem = N) (h1 : 1 ≤ x) (hxn : x ≤ nrem)
    (c1 : In N p) (c2 : FLw (lx lt) p lo (lo + x)) (c3 : Fx2 N p (lo + x)) (c4 : ∀ m, m < lo → gP p m = gP p0 m)
    (hq : ∀ n p, 1 ≤ n → n ≤ nrem → Run lt N lo p0 p n → Q (some n) (sst κ it p pend g)) : wpS (model prog w) A E s (cntEnd lo nrem x) Q (sst κ it p pend g) := by
  obtain ⟨d1, d2, d3⟩ := c2.turn o c1 (by lia) (by lia) c3
  have c1' := c1.rev lo (lo + x)
  have d4 : ∀ m, m < lo → gP (kas_rev p lo (lo + x)) m = gP p0 m := fun m hm => (d3 m hm).trans (c4 m hm)
  clear c1 c2 c3 c4 d3
  unfold cntEnd
  refine wpS_bind (rev_w ?_)
  generalize kas_rev p lo (lo + x) = p' at *
  refine wpS_bind (wpS_mono (wpS_forRange
    (I := fun y c st' => c = (none, y) ∧ st' = sst κ it p' pend g ∧ x ≤ y ∧ SPw (lx lt) p' lo (lo + y))
    (Q := fun c st' => ∃ y, c = (none, y) ∧ st' = sst κ it p' pend g ∧ x ≤ y ∧ y ≤ nrem ∧ SPw (lx lt) p' lo (lo + y)) ?_ ?_ ⟨rfl, rfl, Nat.le_refl _, d1⟩) ?_)
  · rintro y c st' hy1 hy ⟨rfl, rfl, hxy, hs'⟩
    refine wpS_bind (ltAt_w (i := lo + y) (j := lo + y - 1) hc c1' (by lia) (by (clear hs' hxy hy1 d4 c1' d2 d1 hq hxn h1 o hc; omega)) ?_)
    refine wpS_ite (fun hw => wpS_pure ⟨y, rfl, rfl, hxy, by lia, hs'⟩) (fun hw => wpS_pure ⟨rfl, rfl, by lia, ?_⟩)
    exact hs'.grow (e := lo + y) o c1' (by lia) (by lia) (fun m hm hm' => d2 m (by lia) hm') (by simpa using hw)
  · rintro c st' ⟨rfl, rfl, hxy, hs'⟩
    exact ⟨max x nrem, rfl, rfl, hxy, by lia, hs'⟩
  · rintro c st' ⟨y, rfl, rfl, hxy, hyn, hs'⟩
    exact wpS_pure (hq y p' (by lia) hyn ⟨c1', hs', fun m hm hm' => d2 m (by lia) hm', d4⟩)
theorem cntDesc_w (hc : Asks prog w A s κ it N lt) (o : Ord lt) {p0 p1 : Array Nat} {pend : Array (Nat × Nat × Nat)} {g nrem n : Nat} {Q : Option Nat → SortSt → Prop} (hn : lo + nrem = N) (hn1 : 1 ≤ n) (hlt : n < nrem)
    (hp1 : In N p1) (hF1 : FLw (lx lt) p1 lo (lo + n)) (hx1 : Fx2 N p1 (lo + n)) (hlow1 : ∀ m, m < lo → gP p1 m = gP p0 m) (hc1 : lt (gP p1 (lo + n)) (gP p1 (lo + n - 1)) = true)
    (hq : ∀ n p, 1 ≤ n → n ≤ nrem → Run lt N lo p0 p n → Q (some n) (sst κ it p pend g)) : wpS (model prog w) A E s (cntDesc lo nrem n) Q (sst κ it p1 pend g) := by
  unfold cntDesc
  refine wpS_bind (wpS_lift (wpAny_rule ⟨rfl, ?_⟩))
  have hDA := DA.one o hF1 hx1 (by lia) hc1
  clear hF1 hx1 hc1
  refine wpS_bind (wpS_mono (wpS_forRange
    (I := fun x c st' => ∃ p q, c = (none, x, q) ∧ st' = sst κ it p pend g ∧ x ≤ nrem ∧ In N p ∧ DA lt N lo p (lo + x) q ∧ (∀ m, m < lo → gP p m = gP p0 m))
    (Q := fun c st' => ∃ p x q, c = (none, x, q) ∧ st' = sst κ it p pend g ∧ n + 1 ≤ x ∧ x ≤ nrem ∧ In N p ∧ DA lt N lo p (lo + x) q ∧ (∀ m, m < lo → gP p m = gP p0 m)) ?_ ?_ ⟨p1, 0, rfl, rfl, hlt, hp1, hDA, hlow1⟩) ?_)
  · rintro x c st' hx1 hx ⟨p, q, rfl, rfl, hxn, b1, b2, b3⟩
    clear hDA hlow1 hp1
    refine wpS_bind (ltAt_w (i := lo + x) (j := lo + x - 1) hc b1 (by lia) (by (clear b3 b2 b1 hxn hx1 hq hlt hn1 o hc; omega)) ?_)
    refine wpS_ite (fun hw => ?_) (fun hw => ?_)
    · refine wpS_ite (fun hq0 => ?_) (fun hq0 => ?_)
      · obtain ⟨r1, r2, r3⟩ := b2.rev o b1 (by lia)
        have hqe := b2.qe
        have hwr : lt (gP (kas_rev p (lo + x - (q + 1)) (lo + x)) (lo + x)) (gP (kas_rev p (lo + x - (q + 1)) (lo + x)) (lo + x - 1)) = true := by
          have hget := rev_get (p := p) (i := lo + x - (q + 1)) (j := lo + x) (by rw [b1.size]; lia)
          rw [hget, hget, if_neg (by lia), if_pos ⟨by (clear hget r3 r2 r1 hq0 hw b3 b2 b1 hxn hx hx1 hq hlt hn1 hn o hc; omega), by (clear hget hqe r3 r2 r1 hq0 hw b3 b2 b1 hxn hx hq hlt hn o hc; omega)⟩]
          have a := b2.eq (lo + x - (q + 1) + (lo + x) - 1 - (lo + x - 1)) (by (clear hget hqe r3 r2 r1 hq0 hw b3 b2 b1 hxn hx hq hlt hn1 o hc; omega)) (by (clear hget r3 r2 r1 hq0 hw b3 b2 b1 hxn hx hx1 hq hlt hn1 hn o hc; omega))
          cases h3 : lt (gP p (lo + x)) (gP p (lo + x - (q + 1) + (lo + x) - 1 - (lo + x - 1))) with
          | true => rfl
          | false =>
            have := o.trans _ _ _ a.2 h3
            have hc' : lt (gP p (lo + x)) (gP p (lo + x - 1)) = true := hw
            rw [hc'] at this; cases this
        refine wpS_bind (rev_w (wpS_pure ⟨_, 0, rfl, rfl, hx, b1.rev _ _, DA.one (e := lo + x) o r1 r2 (by (clear hwr r3 r2 r1 hq0 hw b3 b2 b1 hxn hx hx1 hq hlt hn1 hn o hc; lia)) hwr, fun m hm => (r3 m hm).trans (b3 m hm)⟩))
      · have hq00 : q = 0 := Nat.eq_zero_of_not_pos hq0
        subst hq00
        exact wpS_pure ⟨p, 0, rfl, rfl, hx, b1, DA.one (e := lo + x) o (fun i j hi hij hj => b2.dn i j hi hij hj (by (clear hi hq0 b2 hw b3 b1 hxn hx hx1 hq hlt hn1 hn o hc; omega))) (fun m hm hm' => b2.fx m (by (clear hm' hq0 b2 hw b3 b1 hxn hx hx1 hq hlt hn1 hn o hc; omega)) hm') (by lia) hw, b3⟩
    · refine wpS_bind (ltAt_w (i := lo + x - 1) (j := lo + x) hc b1 (by (clear hw b3 b2 b1 hxn hx1 hq hlt hn1 o hc; omega)) (by lia) ?_)
      refine wpS_ite (fun hw2 => wpS_pure ⟨p, x, q, rfl, rfl, hx1, hxn, b1, b2, b3⟩) (fun hw2 => wpS_pure ⟨p, q + 1, rfl, rfl, hx, b1, DA.more (e := lo + x) o b1 (by lia) b2 (by simpa using hw) (by simpa using hw2), b3⟩)
  · rintro c st' ⟨p, q, rfl, rfl, hxn, b1, b2, b3⟩
    exact ⟨p, _, q, rfl, rfl, by lia, hxn, b1, b2, b3⟩
  · rintro c st' ⟨p, x, q, rfl, rfl, hx1, hxn, b1, b2, b3⟩
    clear hDA hlow1 hp1
    refine wpS_ite (fun hq0 => wpS_bind (rev_w ?_)) (fun hq0 => ?_)
    · obtain ⟨r1, r2, r3⟩ := b2.rev o b1 (by lia)
      exact cntEnd_w (x := x) hc o hn (by lia) hxn (b1.rev _ _) r1 r2 (fun m hm => (r3 m hm).trans (b3 m hm)) hq
    · have hq00 : q = 0 := Nat.eq_zero_of_not_pos hq0
      subst hq00
      exact cntEnd_w (x := x) hc o hn (by lia) hxn b1 (fun i j hi hij hj => b2.dn i j hi hij hj (by (clear hi hq0 b2 b3 b1 hxn hx1 hq hlt hn1 hn o hc; omega))) (fun m hm hm' => b2.fx m (by (clear hm' hq0 b2 b3 b1 hxn hx1 hq hlt hn1 hn o hc; omega)) hm') b3 hq
theorem count_w (hc : Asks prog w A s κ it N lt) (o : Ord lt) {p0 : Array Nat} {pend : Array (Nat × Nat × Nat)} {g nrem : Nat} {Q : Option Nat → SortSt → Prop} (hp : In N p0) (hf : Fx2 N p0 lo) (hn : lo + nrem = N) (h1 : 1 ≤ nrem)
    (hq : ∀ n p, 1 ≤ n → n ≤ nrem → Run lt N lo p0 p n → Q (some n) (sst κ it p pend g)) : wpS (model prog w) A E s (countRun' lo nrem) Q (sst κ it p0 pend g) := by
  have ox := o.lx
  rw [countRun'_eq]
  refine wpS_bind (wpS_mono (wpS_forRange
    (I := fun x c st' => c = (none, x) ∧ st' = sst κ it p0 pend g ∧ SPw (lx lt) p0 lo (lo + x))
    (Q := fun c st' => ∃ n, c = (none, n) ∧ st' = sst κ it p0 pend g ∧ 1 ≤ n ∧ n ≤ nrem ∧ SPw (lx lt) p0 lo (lo + n) ∧ (n < nrem → lt (gP p0 (lo + n)) (gP p0 (lo + n - 1)) = true)) ?step1 ?fin1 ⟨rfl, rfl, ?init1⟩) ?post1)
  case init1 =>
    intro i j hi hij hj
    have : i = j := by lia
    subst this; exact ox.refl _
  case fin1 =>
    rintro c st' ⟨rfl, rfl, hs⟩
    exact ⟨_, rfl, rfl, by lia, by lia, hs, fun h => by lia⟩
  case step1 =>
    rintro x c st' hx1 hx ⟨rfl, rfl, hs⟩
    refine wpS_bind (ltAt_w (i := lo + x) (j := lo + x - 1) hc hp (by lia) (by (clear hs hx1 ox hq h1 hf hp o hc; omega)) ?_)
    refine wpS_ite (fun hw => wpS_pure ⟨x, rfl, rfl, hx1, by lia, hs, fun _ => hw⟩) (fun hw => wpS_pure ⟨rfl, rfl, ?_⟩)
    exact hs.grow (e := lo + x) o hp (by lia) (by lia) (fun m hm hm' => hf m (by lia) hm') (by simpa using hw)
  case post1 =>
    rintro c st' ⟨n, rfl, rfl, hn1, hn2, hs, hst⟩
    have hfn : Fx2 N p0 (lo + n) := fun m hm hm' => hf m (by lia) hm'
    refine wpS_ite (fun e => wpS_pure (hq n p0 hn1 hn2 ⟨hp, hs, hfn, fun m _ => rfl⟩)) (fun e => ?_)
    have hlt : n < nrem := by simp at e; lia
    have hst := hst hlt
    have hge : lo + n < N := by omega
    refine wpS_ite (fun h2 => wpS_bind (ltAt_w (i := lo) (j := lo + n - 1) hc hp (by omega) (by omega) (wpS_ite (fun hr => wpS_pure (hq n p0 hn1 hn2 ⟨hp, hs, hfn, fun m _ => rfl⟩)) (fun hr => wpS_bind (rev_w ?_))))) (fun h2 => ?_)
    · have hr' : lt (gP p0 lo) (gP p0 (lo + n - 1)) = false := by simpa using hr
      have hget := rev_get (p := p0) (i := lo) (j := lo + n) (by rw [hp.size]; omega)
      have hsp : ∀ i j, lo ≤ i → i ≤ j → j < lo + n → lt (gP p0 j) (gP p0 i) = false := fun i j a b c => (lx_false.mp (hs i j a b c)).1
      have hall : ∀ i j, lo ≤ i → i < lo + n → lo ≤ j → j < lo + n → lt (gP p0 i) (gP p0 j) = false := fun i j hi hi' hj hj' => by
        exact o.trans _ _ _ (o.trans _ _ _ (hsp j (lo + n - 1) hj (by omega) (by omega)) hr') (hsp lo i (Nat.le_refl _) hi hi')
      refine cntDesc_w hc o hn hn1 hlt (hp.rev _ _) (fun i j hi hij hj => ?_) (fun m hm hm' => by rw [hget, if_neg (by omega)]; exact hf m (by omega) hm') (fun m hm => by rw [hget, if_neg (by omega)]) ?_ hq
      · rw [hget, hget, if_pos ⟨by lia, by lia⟩, if_pos ⟨by lia, by lia⟩]
        refine lx_alike (hall _ _ (by omega) (by omega) (by omega) (by omega)) ?_
        rw [hf _ (by omega) (by omega), hf _ (by omega) (by omega)]; omega
      · rw [hget, hget, if_neg (by omega), if_pos ⟨by omega, by omega⟩, show lo + (lo + n) - 1 - (lo + n - 1) = lo by omega]
        cases h3 : lt (gP p0 (lo + n)) (gP p0 lo) with
        | true => rfl
        | false =>
          have := o.trans _ _ _ hr' h3
          rw [hst] at this; cases this
    · have h2' : ¬ n > 1 := h2
      exact cntDesc_w hc o hn hn1 hlt hp (fun i j hi hij hj => by omega) hfn (fun m hm => rfl) hst hq
theorem bin_w (hc : Asks prog w A s κ it N lt) (o : Ord lt) {p0 : Array Nat} {pend : Array (Nat × Nat × Nat)} {g n ok : Nat} {Q : Bool → SortSt → Prop} (h1 : 1 ≤ ok) (hok : ok ≤ n) (hn : lo + n ≤ N) (hr : Run lt N lo p0 p0 ok)
    (hq : ∀ p, Run lt N lo p0 p n → Q true (sst κ it p pend g)) : wpS (model prog w) A E s (binarySort' lo n ok) Q (sst κ it p0 pend g) := by
  have ox := o.lx
  rw [binarySort'_eq]
  refine wpS_bind (wpS_mono (wpS_forRange
    (I := fun k c st' => c = (none, ()) ∧ ∃ p, st' = sst κ it p pend g ∧ Run lt N lo p0 p k)
    (Q := fun c st' => c = (none, ()) ∧ ∃ p, st' = sst κ it p pend g ∧ Run lt N lo p0 p n) ?step ?fin ⟨rfl, p0, rfl, by rw [show max ok 1 = ok by lia]; exact hr⟩) ?post)
  case post =>
    rintro c st' ⟨rfl, p, rfl, h⟩
    exact wpS_pure (hq p h)
  case fin =>
    rintro c st' ⟨rfl, p, rfl, h⟩
    exact ⟨rfl, p, rfl, by rwa [show max (max ok 1) n = n by lia] at h⟩
  case step =>
    rintro k c st' hk1 hk ⟨rfl, p, rfl, R⟩
    have hp := R.in_
    refine wpS_bind (wpS_mono (wpS_forRange
      (I := fun x c st' => st' = sst κ it p pend g ∧ ∃ l r, c = (none, l, r) ∧ l ≤ r ∧ r ≤ k ∧ r - l ≤ k - x ∧ (∀ i, i < l → lx lt (gP p (lo + k)) (gP p (lo + i)) = false) ∧ (∀ i, r ≤ i → i < k → lx lt (gP p (lo + k)) (gP p (lo + i)) = true))
      (Q := fun c st' => st' = sst κ it p pend g ∧ ∃ l r, c = (none, l, r) ∧ l ≤ k ∧ (∀ i, i < l → lx lt (gP p (lo + k)) (gP p (lo + i)) = false) ∧ (∀ i, l ≤ i → i < k → lx lt (gP p (lo + k)) (gP p (lo + i)) = true)) ?istep ?ifin ⟨rfl, 0, k, rfl, by lia, by lia, by lia, fun i hi => by lia, fun i h1 h2 => by (clear hp R hk hk1 ox hq hr hn hok o hc; omega)⟩) ?ipost)
    case ifin =>
      rintro c st' ⟨rfl, l, r, rfl, a1, a2, a3, a4, a5⟩
      have : l = r := by lia
      subst this
      exact ⟨rfl, l, l, rfl, a2, a4, a5⟩
    case istep =>
      rintro x c st' _ hx ⟨rfl, l, r, rfl, a1, a2, a3, a4, a5⟩
      refine wpS_ite (fun hge => ?_) (fun hge => ?_)
      · have hge' : l ≥ r := hge
        have : l = r := by lia
        subst this
        exact wpS_pure ⟨rfl, l, l, rfl, a2, a4, a5⟩
      · have hge' : ¬ l ≥ r := hge
        refine wpS_bind (ltAt_w (i := lo + k) (j := lo + (l + r) / 2) hc hp (by lia) (by (clear hge' hge a5 a4 a3 hx hp R hk1 ox hq hr hok h1 o hc; lia)) ?_)
        have hlx : lx lt (gP p (lo + k)) (gP p (lo + (l + r) / 2)) = lt (gP p (lo + k)) (gP p (lo + (l + r) / 2)) := lx_gt (by rw [R.fx (lo + k) (Nat.le_refl _) (by lia)]; exact Nat.le_of_lt (R.fx.lo hp (by (clear hge a5 a4 a3 a1 hx hp R hk hk1 ox hq hr hn hok h1 o hc; lia)) (by lia)))
        refine wpS_ite (fun hw => wpS_pure ⟨rfl, l, (l + r) / 2, rfl, by (clear hw hlx hge' hge a5 a4 a3 a2 hx hp R hk hk1 ox hq hr hn hok h1 o hc; lia), by (clear hw hlx hge' hge a5 a4 a3 hx hp R hk hk1 ox hq hr hn hok h1 o hc; lia), by (clear hw hlx hge' hge a5 a4 a2 a1 hp R hk ox hq hr hok h1 o hc; omega), a4, fun i h1 h2 => ?_⟩) (fun hw => wpS_pure ⟨rfl, (l + r) / 2 + 1, r, rfl, by (clear hw hlx hge a5 a4 a3 a2 a1 hx hp R hk hk1 ox hq hr hn hok h1 o hc; lia), by lia, by (clear hw hlx hge' hge a5 a4 a2 a1 hp R hk ox hq hr hok h1 o hc; omega), fun i h1 => ?_, a5⟩)
        · have hw' : lt (gP p (lo + k)) (gP p (lo + (l + r) / 2)) = true := hw
          cases q : lx lt (gP p (lo + k)) (gP p (lo + i)) with
          | true => rfl
          | false =>
            have h6 := R.sp (lo + (l + r) / 2) (lo + i) (by lia) (by lia) (by lia)
            have := ox.trans _ _ _ h6 q
            rw [hlx, hw'] at this; cases this
        · have hw' : lt (gP p (lo + k)) (gP p (lo + (l + r) / 2)) = false := by simpa using hw
          exact ox.trans _ _ _ (R.sp (lo + i) (lo + (l + r) / 2) (by omega) (by omega) (by omega)) (hlx.trans hw')
    case ipost =>
      rintro c st' ⟨rfl, l, r, rfl, a1, a2, a3⟩
      refine wpS_bind (move_w (k := lo + k) (l := lo + l) (wpS_pure ⟨rfl, _, rfl, ?_⟩))
      have hget : ∀ i, gP (bubble p (lo + k) (lo + k - (lo + l))) i = if i = lo + l then gP p (lo + k) else if lo + l < i ∧ i ≤ lo + k then gP p (i - 1) else gP p i := fun i => by
        have := getElem?_bubble (xs := p) (src := lo + k) (by rw [hp.size]; lia) (lo + k - (lo + l)) (by (clear a3 a2 a1 hp R hk hk1 ox hq hr hn hok h1 o hc; omega)) i
        rw [show lo + k - (lo + k - (lo + l)) = lo + l by (clear this a3 a2 hp R hk hk1 ox hq hr hok h1 o hc; omega)] at this
        split
        · rename_i h; rw [if_pos h] at this; exact gP_of this
        · rename_i h
          rw [if_neg h] at this
          split
          · rename_i h'; rw [if_pos h'] at this; exact gP_of this
          · rename_i h'; rw [if_neg h'] at this; exact gP_of this
      have a2' : ∀ j, lo ≤ j → j < lo + l → lx lt (gP p (lo + k)) (gP p j) = false := fun j h1 h2 => by
        have := a2 (j - lo) (by (clear hget a3 a2 a1 hp R hk hk1 ox hq hr hok o hc; lia))
        rwa [show lo + (j - lo) = j by lia] at this
      have a3' : ∀ j, lo + l ≤ j → j < lo + k → lx lt (gP p (lo + k)) (gP p j) = true := fun j h1 h2 => by
        have := a3 (j - lo) (by lia) (by omega)
        rwa [show lo + (j - lo) = j by lia] at this
      refine ⟨⟨by rw [bubble_size, hp.size], (Array.perm_iff_toList_perm.mp (bubble_perm p _ _)).trans hp.perm⟩, fun i j hi hij hj => ?_, fun m hm hm' => by rw [hget, if_neg (by lia), if_neg (by lia)]; exact R.fx m (by lia) hm', fun m hm => by rw [hget, if_neg (by lia), if_neg (by lia)]; exact R.low m hm⟩
      rw [hget, hget]
      by_cases j1 : j = lo + l
      · rw [if_pos j1]
        by_cases i1 : i = lo + l
        · rw [if_pos i1]; exact ox.refl _
        · rw [if_neg i1, if_neg (by (clear i1 hj hi a3' a2' hget a3 a2 hp R hk hk1 ox hq hr hn hok h1 o hc; lia))]; exact a2' i hi (by lia)
      · rw [if_neg j1]
        by_cases j2 : lo + l < j ∧ j ≤ lo + k
        · rw [if_pos j2]
          by_cases i1 : i = lo + l
          · rw [if_pos i1]; exact ox.asym _ _ (a3' (j - 1) (by (clear i1 j1 hj hij hi a3' a2' hget a3 a2 a1 hp R hk hk1 ox hq hr hn hok h1 o hc; omega)) (by (clear i1 j1 hj hij hi a3' a2' hget a3 a2 a1 hp R hk hk1 ox hq hr hn hok h1 o hc; omega)))
          · rw [if_neg i1]
            by_cases i2 : lo + l < i ∧ i ≤ lo + k
            · rw [if_pos i2]; exact R.sp _ _ (by (clear i1 j2 j1 hj hij hi a3' a2' hget a3 a2 a1 hp R hk hk1 ox hq hr hn hok h1 o hc; omega)) (by (clear i2 i1 j2 j1 hj a3' a2' hget a3 a2 a1 hp R hk hk1 ox hq hr hn hok h1 o hc; omega)) (by (clear i2 i1 j1 hj hij hi a3' a2' hget a3 a2 a1 hp R hk hk1 ox hq hr hn hok h1 o hc; omega))
            · rw [if_neg i2]; exact R.sp _ _ (by lia) (by (clear i1 j1 hj hi a3' a2' hget a3 a2 a1 hp R hk hk1 ox hq hr hn hok h1 o hc; lia)) (by (clear i2 i1 j1 hj hij hi a3' a2' hget a3 a2 a1 hp R hk hk1 ox hq hr hn hok h1 o hc; omega))
        · rw [if_neg j2, if_neg (by lia), if_neg (by (clear j1 hi a3' a2' hget a3 a2 hp R hk hk1 ox hq hr hok h1 o hc; lia))]; exact R.sp i j hi hij (by lia)
end
end Mine

set_option maxHeartbeats 1000000
namespace Mine
open PySem PySem.W PyProof.Rows

theorem mergeAt'_eq (i : Nat) : mergeAt' i = (do
  let s ← get
  let (some (sa, na, power), some (sb, nb, _)) := ((pendingOf s)[i]?, (pendingOf s)[i + 1]?) | unsupported "internal:list.sort.pending"
  set (setPending s (((pendingOf s).setIfInBounds i (sa, na + nb, power)).eraseIdxIfInBounds (i + 1)))
  let some k ← gallop' false (← elem' (arrOf s) sb) (arrOf s) sa na 0 | return false
  let (sa, na) := (sa + k, na - k)
  if na == 0 then return true
  let some nb ← gallop' true (← elem' (arrOf s) (sa + na - 1)) (arrOf s) sb nb (nb - 1) | return false
  if nb == 0 then return true
  let x := (arrOf s).extract sa sb
  let y := (arrOf s).extract sb (sb + nb)
  let merged ← if na ≤ nb then mergeLo' x y else mergeHi' x y
  modify fun s => setArr s (merged.toList.zipIdx.foldl (fun a (p, j) => a.setIfInBounds (sa + j) p) (arrOf s))
  return (failedOf (← get)).isNone) := rfl

theorem laid_get {α : Type} (c : Nat) : ∀ (l : List α) (n : Nat) (arr : Array α), c + n + l.length ≤ arr.size → ∀ i, ((l.zipIdx n).foldl (fun (a : Array α) (x : α × Nat) => a.setIfInBounds (c + x.2) x.1) arr)[i]? = if c + n ≤ i ∧ i < c + n + l.length then l[i - (c + n)]? else arr[i]?
  | [], n, arr, h, i => by
    rw [if_neg (by simp)]; rfl
  | x :: l, n, arr, h, i => by
    simp only [List.length_cons] at h ⊢
    rw [List.zipIdx_cons, List.foldl_cons, laid_get c l (n + 1) _ (by rw [Array.size_setIfInBounds]; lia) i]
    by_cases h1 : c + (n + 1) ≤ i ∧ i < c + (n + 1) + l.length
    · rw [if_pos h1, if_pos (by lia), show i - (c + n) = (i - (c + (n + 1))) + 1 by lia, List.getElem?_cons_succ]
    · rw [if_neg h1, Array.getElem?_setIfInBounds]
      by_cases h2 : c + n = i
      · subst h2
        rw [if_pos rfl, if_pos (by lia), if_pos (by lia)]
        simp
      · rw [if_neg h2, if_neg (by lia)]
theorem laid_eq {it : Array Keyed} {L m : List Nat} {c : Nat} (h : c + m.length ≤ L.length) : (arrIt it m).toList.zipIdx.foldl (fun (a : Array Keyed) (x : Keyed × Nat) => a.setIfInBounds (c + x.2) x.1) (arrIt it L) = arrIt it (L.take c ++ m ++ L.drop (c + m.length)) := by
  apply Array.ext_getElem?
  intro i
  rw [laid_get c _ 0 _ (by simpa using h)]
  simp only [Nat.add_zero, List.toList_toArray, List.length_map, List.getElem?_toArray, List.getElem?_map]
  by_cases h1 : c ≤ i ∧ i < c + m.length
  · rw [if_pos h1, List.append_assoc, List.getElem?_append_right (by simp; lia), List.getElem?_append_left (by simp; omega)]
    congr 2
    simp; omega
  · rw [if_neg h1]
    congr 1
    by_cases h2 : i < c
    · rw [List.append_assoc, List.getElem?_append_left (by simp; lia), List.getElem?_take_of_lt h2]
    · rw [List.getElem?_append_right (by simp; lia), List.getElem?_drop]
      congr 1
      simp; lia

section
variable {prog : Program} {w : World} {A : Around} {E : Value → Shared → Prop} {s : Shared} {κ : SortKind} {it : Array Keyed} {N : Nat} {lt : Nat → Nat → Bool}
theorem map_arrIt (p : Array Nat) : p.map (kas_item it) = arrIt it p.toList := by
  apply Array.toList_inj.mp; simp [arrIt]
theorem gL_toList (p : Array Nat) (i : Nat) : gL p.toList i = gP p i := by
  simp [gL, gP, Array.getD_eq_getD_getElem?]
/-- two runs, side by side -/
structure Runs2 (lt : Nat → Nat → Bool) (N n1 : Nat) (p : Array Nat) : Prop where
  in_ : In N p
  le : n1 < N
  pos : 0 < n1
  s1 : SPw (lx lt) p 0 n1
  s2 : SPw (lx lt) p n1 N
  lo : ∀ i, i < n1 → gP p i < n1
  hi : ∀ i, n1 ≤ i → i < N → n1 ≤ gP p i
theorem gL_seg {p : Array Nat} {c n i : Nat} (h : c + i < p.size) (hi : i < n) : gL ((p.toList.drop c).take n) i = gP p (c + i) := by
  rw [← gL_toList]
  simp [gL, hi]
theorem wpS_set {M : Model} {σ : Type} {st st' : σ} {Q : PUnit → σ → Prop} (h : Q ⟨⟩ st') : wpS M A E s (set st' : StateT σ Sem PUnit) Q st := by
  unfold wpS; rw [StateT.run_set]; exact wpAny_pure ⟨rfl, h⟩
theorem pend_two (a b c : Nat × Nat × Nat) : ((#[a, b] : Array (Nat × Nat × Nat)).setIfInBounds 0 c).eraseIdxIfInBounds (0 + 1) = #[c] := by
  simp [Array.eraseIdxIfInBounds]
theorem SPw.of_pairwise {L : List Nat} (h : L.Pairwise fun x y => lx lt y x = false) (o : Ord lt) : SPw (lx lt) L.toArray 0 L.length := fun i j _ hij hj => by
  by_cases q : i = j
  · subst q; exact (o.lx).refl _
  · have := List.pairwise_iff_getElem.mp h i j (by lia) hj (by lia)
    simpa [gP, hj, (by lia : i < L.length)] using this
theorem SPw.pairwise {p : Array Nat} {c n : Nat} (h : SPw (lx lt) p c (c + n)) (hp : c + n ≤ p.size) : ((p.toList.drop c).take n).Pairwise fun x y => lx lt y x = false := by
  rw [List.pairwise_iff_getElem]
  intro i j hi hj hij
  have hi' : i < n := by simp at hi; (clear hij hj hp h; lia)
  have hj' : j < n := by simp at hj; (clear hi' hij hi hp h; lia)
  have := h (c + i) (c + j) (by lia) (by lia) (by lia)
  simpa [gP, (by lia : c + i < p.size), (by lia : c + j < p.size)] using this
theorem mem_seg {p : Array Nat} {c n x : Nat} (h : x ∈ (p.toList.drop c).take n) : ∃ j, c ≤ j ∧ j < c + n ∧ j < p.size ∧ x = gP p j := by
  obtain ⟨j, h1, h2, h3, h4⟩ := gL_drop _ _ _ x h
  exact ⟨j, h1, h2, by simpa using h3, by rw [h4, gL_toList]⟩
theorem mergeAt_w (hc : Asks prog w A s κ it N lt) (o : Ord lt) {p : Array Nat} {n1 pw pw2 g : Nat} {Q : Bool → SortSt → Prop} (R : Runs2 lt N n1 p)
    (hq : ∀ p' g', In N p' → SPw (lx lt) p' 0 N → Q true (sst κ it p' #[(0, N, pw)] g')) : wpS (model prog w) A E s (mergeAt' 0) Q (sst κ it p #[(0, n1, pw), (n1, N - n1, pw2)] g) := by
  have ox := o.lx
  have hp := R.in_
  have hsz := hp.size
  have hle := R.le
  have hpos := R.pos
  have hask : ∀ i j, i < n1 → n1 ≤ j → j < N → lx lt (gP p j) (gP p i) = lt (gP p j) (gP p i) := fun i j h1 h2 h3 => lx_gt (by have := R.lo i h1; have := R.hi j h2 h3; (clear h3 h2 h1 hpos hle hsz hp ox hq R o hc; omega))
  have hgL : ∀ i, gL p.toList i = gP p i := gL_toList p
  have hL : p.toList.length = N := by simp [hsz]
  -- whole in order
  have whole : (∀ i, i < n1 → lx lt (gP p n1) (gP p i) = false) → SPw (lx lt) p 0 N := fun h i j _ hij hj => by
    by_cases q1 : j < n1
    · exact R.s1 i j (Nat.zero_le _) hij q1
    · by_cases q2 : i < n1
      · exact ox.trans _ _ _ (h i q2) (R.s2 n1 j (Nat.le_refl _) (by lia) hj)
      · exact R.s2 i j (by lia) hij hj
  rw [mergeAt'_eq]
  unfold sst
  rw [map_arrIt]
  refine wpS_bind (wpS_get ?_)
  refine wpS_bind (wpS_set ?_)
  rw [pend_two]
  show wpS _ _ _ _ _ Q (SortSt.mk' κ (arrIt it p.toList) #[(0, n1 + (N - n1), pw)] g none)
  rw [show n1 + (N - n1) = N by lia]
  refine wpS_bind (elem_w (l := p.toList) (i := n1) (by lia) ?_)
  refine wpS_bind (gallop_w (n := n1) (hint := 0) (bd := fun i => !lt (gP p n1) (gP p i)) (fun i hi Q' hQ' => beyond_w (x := gL p.toList n1) (base := 0) (i := i) hc rfl (by rw [hgL]; exact hp.bd (by lia)) (by lia) (by rw [hgL]; exact hp.bd (by lia)) (by rw [hgL, hgL, Nat.zero_add]; simpa using hQ')) (fun i j hij hj h => ?_) (by lia) fun k hk hk1 hk2 => ?_)
  · have h' : lt (gP p n1) (gP p j) = false := by simpa using h
    rw [← hask j n1 (by lia) (by lia) (by lia)] at h'
    have := ox.trans _ _ _ (R.s1 i j (Nat.zero_le _) hij hj) h'
    rw [hask i n1 (by lia) (by lia) (by lia)] at this
    simpa using this
  have hk1' : ∀ i, i < k → lx lt (gP p n1) (gP p i) = false := fun i hi => by
    rw [hask i n1 (by lia) (by lia) (by lia)]; simpa using hk1 i hi
  have hk2' : ∀ i, k ≤ i → i < n1 → lt (gP p n1) (gP p i) = true := fun i h1 h2 => by simpa using hk2 i h1 h2
  refine wpS_ite (fun e => wpS_pure ?_) (fun e => ?_)
  · rw [← map_arrIt]
    refine hq p g hp (whole fun i hi => hk1' i ?_)
    have : n1 - k = 0 := by simpa using e
    (clear e hk2' hk1' hk2 hk1 hk whole hL hgL hask hpos hle hsz hp ox hq R o hc; omega)
  have hkn : k < n1 := by
    have : ¬ (n1 - k = 0) := by simpa using e
    (clear e hk2' hk1' hk2 hk1 hk whole hL hgL hask hpos hle hsz hp ox hq R o hc; omega)
  have hla : 0 + k + (n1 - k) - 1 = n1 - 1 := by (clear hkn e hk2' hk1' hk2 hk1 whole hL hgL hask hle hsz hp ox hq R o hc; lia)
  rw [hla]
  clear hla
  refine wpS_bind (elem_w (l := p.toList) (i := n1 - 1) (by omega) ?_)
  refine wpS_bind (gallop_w (n := N - n1) (hint := N - n1 - 1) (bd := fun i => lt (gP p (n1 + i)) (gP p (n1 - 1))) (fun i hi Q' hQ' => beyond_w (x := gL p.toList (n1 - 1)) (base := n1) (i := i) hc rfl (by rw [hgL]; exact hp.bd (by (clear hQ' hi hkn e hk2' hk1' hk2 hk1 hk whole hL hgL hask hsz hp ox hq R o hc; omega))) (by lia) (by rw [hgL]; exact hp.bd (by (clear hQ' hkn e hk2' hk1' hk2 hk1 hk whole hL hgL hask hpos hle hsz hp ox hq R o hc; omega))) (by rw [hgL, hgL]; simpa using hQ')) (fun i j hij hj h => ?_) (by (clear hkn e hk2' hk1' hk2 hk1 hk whole hL hgL hask hpos hsz hp ox hq R o hc; omega)) fun m hm hm1 hm2 => ?_)
  · cases h6 : lt (gP p (n1 + i)) (gP p (n1 - 1)) with
    | true => rfl
    | false =>
      rw [← hask (n1 - 1) (n1 + i) (by (clear h6 h hj hij hkn e hk2' hk1' hk2 hk1 hk whole hL hgL hask hle hsz hp ox hq R o hc; omega)) (by lia) (by (clear h6 h hkn e hk2' hk1' hk2 hk1 hk whole hL hgL hask hpos hle hsz hp ox hq R o hc; omega))] at h6
      have := ox.trans _ _ _ h6 (R.s2 (n1 + i) (n1 + j) (by lia) (by lia) (by (clear h6 h hij hkn e hk2' hk1' hk2 hk1 hk whole hL hgL hask hpos hle hsz hp ox hq R o hc; omega)))
      rw [hask (n1 - 1) (n1 + j) (by (clear this h6 h hj hij hkn e hk2' hk1' hk2 hk1 hk whole hL hgL hask hle hsz hp ox hq R o hc; omega)) (by lia) (by (clear this h6 h hij hkn e hk2' hk1' hk2 hk1 hk whole hL hgL hask hpos hle hsz hp ox hq R o hc; omega))] at this
      rw [this] at h; cases h
  have hm2' : ∀ i, n1 + m ≤ i → i < N → lx lt (gP p i) (gP p (n1 - 1)) = false := fun i h1 h2 => by
    rw [hask (n1 - 1) i (by (clear h2 h1 hm2 hm1 hm hkn e hk2' hk1' hk2 hk1 hk whole hL hgL hask hle hsz hp ox hq R o hc; omega)) (by lia) h2]
    have := hm2 (i - n1) (by lia) (by (clear h1 hm2 hm1 hm hkn e hk2' hk1' hk2 hk1 hk whole hL hgL hask hpos hsz hp ox hq R o hc; omega))
    rwa [show n1 + (i - n1) = i by lia] at this
  refine wpS_ite (fun e2 => wpS_pure ?_) (fun e2 => ?_)
  · rw [← map_arrIt]
    refine hq p g hp (whole fun i hi => ?_)
    have hm0 : m = 0 := by simpa using e2
    exact ox.trans _ _ _ (R.s1 i (n1 - 1) (Nat.zero_le _) (by (clear hm0 e2 hm2' hm2 hm1 hm hkn e hk2' hk1' hk2 hk1 hk whole hL hgL hask hle hsz hp ox hq R o hc; omega)) (by (clear hm0 hi e2 hm2' hm2 hm1 hm hkn e hk2' hk1' hk2 hk1 hk whole hL hgL hask hle hsz hp ox hq R o hc; omega))) (hm2' n1 (by (clear hi e2 hm2' hm2 hm1 hm hkn e hk2' hk1' hk2 hk1 hk whole hL hgL hask hpos hle hsz hp ox hq R o hc; lia)) (by lia))
  have hm0 : 0 < m := by
    have : ¬ (m = 0) := by simpa using e2
    (clear e2 hm2' hm2 hm1 hm hkn e hk2' hk1' hk2 hk1 hk whole hL hgL hask hpos hle hsz hp ox hq R o hc; lia)
  have ex : (arrIt it p.toList).extract (0 + k) n1 = arrIt it ((p.toList.drop k).take (n1 - k)) := by rw [Nat.zero_add, arrIt_ext]
  have ey : (arrIt it p.toList).extract n1 (n1 + m) = arrIt it ((p.toList.drop n1).take m) := by rw [arrIt_ext, show n1 + m - n1 = m by lia]
  have lla : ((p.toList.drop k).take (n1 - k)).length = n1 - k := by simp; (clear ey ex hm0 e2 hm2' hm2 hm1 hm hkn e hk2' hk1' hk2 hk1 whole hL hgL hask hpos hp ox hq R o hc; lia)
  have llb : ((p.toList.drop n1).take m).length = m := by simp; lia
  have ga : ∀ i, i < n1 - k → gL ((p.toList.drop k).take (n1 - k)) i = gP p (k + i) := fun i hi => gL_seg (by (clear llb lla ey ex hm0 e2 hm2' hm2 hm1 hm hkn e hk2' hk1' hk2 hk1 hk whole hL hgL hask hpos hp ox hq R o hc; omega)) hi
  have gb : ∀ i, i < m → gL ((p.toList.drop n1).take m) i = gP p (n1 + i) := fun i hi => gL_seg (by (clear ga llb lla ey ex hm0 e2 hm2' hm2 hm1 hkn e hk2' hk1' hk2 hk1 hk whole hL hgL hask hpos hle hp ox hq R o hc; omega)) hi
  have T : Two N lt ((p.toList.drop k).take (n1 - k)) ((p.toList.drop n1).take m) := by
    constructor
    · exact o
    · intro i hi; rw [lla] at hi; rw [ga i hi]; exact hp.bd (by (clear gb ga llb lla ey ex hm0 e2 hm2' hm2 hm1 hm hkn e hk2' hk1' hk2 hk1 hk whole hL hgL hask hpos hsz hp ox hq R o hc; omega))
    · intro i hi; rw [llb] at hi; rw [gb i hi]; exact hp.bd (by (clear gb ga llb lla ey ex hm0 e2 hm2' hm2 hm1 hkn e hk2' hk1' hk2 hk1 hk whole hL hgL hask hpos hle hsz hp ox hq R o hc; omega))
    · intro i j hij hj; rw [lla] at hj; rw [ga i (by lia), ga j hj]; exact R.s1 _ _ (Nat.zero_le _) (by lia) (by (clear hij gb ga llb lla ey ex hm0 e2 hm2' hm2 hm1 hm hkn e hk2' hk1' hk2 hk1 hk whole hL hgL hask hpos hle hsz hp ox hq R o hc; omega))
    · intro i j hij hj; rw [llb] at hj; rw [gb i (by lia), gb j hj]; exact R.s2 _ _ (by lia) (by lia) (by (clear hij gb ga llb lla ey ex hm0 e2 hm2' hm2 hm1 hkn e hk2' hk1' hk2 hk1 hk whole hL hgL hask hpos hle hsz hp ox hq R o hc; omega))
    · intro i j hi hj
      rw [lla] at hi; rw [llb] at hj; rw [ga i hi, gb j hj]
      have := R.lo (k + i) (by (clear hj gb ga llb lla ey ex hm0 e2 hm2' hm2 hm1 hm hkn e hk2' hk1' hk2 hk1 hk whole hL hgL hask hpos hle hsz hp ox hq R o hc; omega)); have := R.hi (n1 + j) (by lia) (by (clear this hi gb ga llb lla ey ex hm0 e2 hm2' hm2 hm1 hkn e hk2' hk1' hk2 hk1 hk whole hL hgL hask hpos hle hsz hp ox hq R o hc; omega)); (clear hj hi gb ga llb lla ey ex hm0 e2 hm2' hm2 hm1 hm hkn e hk2' hk1' hk2 hk1 hk whole hL hgL hask hpos hle hsz hp ox hq R o hc; omega)
    · rw [lla]; lia
    · rw [llb]; (clear gb ga llb lla ey ex e2 hm2' hm2 hm1 hm hkn e hk2' hk1' hk2 hk1 hk whole hL hgL hask hpos hle hsz hp ox hq R o hc; lia)
    · rw [ga 0 (by lia), gb 0 hm0]; exact hk2' k (Nat.le_refl _) hkn
    · intro j hj
      rw [llb] at hj
      rw [lla, ga _ (by (clear hj gb ga llb lla ey ex hm0 e2 hm2' hm2 hm1 hm e hk2' hk1' hk2 hk1 hk whole hL hgL hask hpos hle hsz hp ox hq R o hc; omega)), gb j hj, show k + (n1 - k - 1) = n1 - 1 by lia]
      exact hm1 j hj
  have fin : ∀ res g', MgF it lt ((p.toList.drop k).take (n1 - k)) ((p.toList.drop n1).take m) res → Q true (SortSt.mk' κ (List.foldl (fun (a : Array Keyed) (x : Keyed × Nat) => a.setIfInBounds (0 + k + x.2) x.1) (arrIt it p.toList) res.toList.zipIdx) #[(0, N, pw)] g' none) := by
    rintro res g' ⟨out, rfl, hperm, hsrt⟩
    have hlen : out.length = n1 - k + m := by rw [hperm.length_eq, List.length_append, lla, llb]
    clear lla llb ga gb ex ey T
    rw [Nat.zero_add, laid_eq (by rw [hlen]; (clear hlen hsrt hperm hm0 e2 hm2' hm2 hm1 hkn e hk2' hk1' hk2 hk1 whole hgL hask hpos hsz hp ox hq R o hc; lia))]
    have hmem : ∀ x ∈ out, (∃ j, k ≤ j ∧ j < n1 ∧ x = gP p j) ∨ (∃ j, n1 ≤ j ∧ j < n1 + m ∧ x = gP p j) := fun x hx => by
      rcases List.mem_append.mp (hperm.mem_iff.mp hx) with q | q
      · obtain ⟨j, h1, h2, h3, h4⟩ := mem_seg q
        exact .inl ⟨j, h1, by (clear h4 h3 h1 q hx hlen hsrt hperm hm0 e2 hm2' hm2 hm1 hm hkn e hk2' hk1' hk2 hk1 whole hL hgL hask hpos hle hsz hp ox hq R o hc; lia), h4⟩
      · obtain ⟨j, h1, h2, h3, h4⟩ := mem_seg q
        exact .inr ⟨j, h1, h2, h4⟩
    have epre : p.toList.take k = (p.toList.drop 0).take k := by simp
    have hkl : k + out.length = n1 + m := by rw [hlen]; (clear epre hmem hlen hsrt hperm hm0 e2 hm2' hm2 hm1 hkn e hk2' hk1' hk2 hk1 whole hL hgL hask hpos hle hsz hp ox hq R o hc; lia)
    have esuf : p.toList.drop (k + out.length) = (p.toList.drop (n1 + m)).take (N - (n1 + m)) := by
      rw [hkl, List.take_of_length_le (by simp; (clear hkl epre hmem hlen hsrt hperm hm0 e2 hm2' hm2 hm1 hm hkn e hk2' hk1' hk2 hk1 hk whole hL hgL hask hpos hle hp ox hq R o hc; omega))]
    have hfull : (p.toList.take k ++ out ++ p.toList.drop (k + out.length)).Perm p.toList := by
      have h1 : p.toList = p.toList.take k ++ ((p.toList.drop k).take (n1 - k) ++ ((p.toList.drop n1).take m ++ p.toList.drop (n1 + m))) := by
        have e1 := (List.take_append_drop k p.toList).symm
        have e2 := drop_seg p.toList k n1 (by lia)
        have e3 := drop_seg p.toList n1 (n1 + m) (by lia)
        rw [show n1 + m - n1 = m by lia] at e3
        rw [← e3, ← e2]; exact e1
      rw [hkl]
      conv => rhs; rw [h1]
      rw [List.append_assoc, ← List.append_assoc ((p.toList.drop k).take (n1 - k))]
      exact List.Perm.append_left _ (List.Perm.append_right _ hperm)
    have hk' := hkl
    clear hlen hkl
    have hpw : (p.toList.take k ++ out ++ p.toList.drop (k + out.length)).Pairwise fun x y => lx lt y x = false := by
      rw [List.pairwise_append, List.pairwise_append]
      refine ⟨⟨?_, hsrt, ?_⟩, ?_, ?_⟩
      · rw [epre]
        exact SPw.pairwise (fun i j a b c => R.s1 i j (Nat.zero_le _) b (by lia)) (by lia)
      · intro x hx y hy
        rw [epre] at hx
        obtain ⟨i, i1, i2, i3, rfl⟩ := mem_seg hx
        rcases hmem y hy with ⟨j, j1, j2, rfl⟩ | ⟨j, j1, j2, rfl⟩
        · exact R.s1 i j (Nat.zero_le _) (by lia) j2
        · exact ox.trans _ _ _ (hk1' i (by lia)) (R.s2 n1 j (Nat.le_refl _) j1 (by (clear hy j1 hx i3 i2 i1 hk' hfull esuf epre hmem hsrt hperm hm0 e2 hm2' hm2 hm1 hkn e hk2' hk1' hk2 hk1 hk whole hL hgL hask hpos hsz hp ox hq R o hc; lia)))
      · rw [esuf]
        exact SPw.pairwise (fun i j a b c => R.s2 i j (by (clear c b hk' hfull esuf epre hmem hsrt hperm hm0 e2 hm2' hm2 hm1 hm hkn e hk2' hk1' hk2 hk1 hk whole hL hgL hask hpos hle hsz hp ox hq R o hc; lia)) b (by (clear hk' hfull esuf epre hmem hsrt hperm hm0 e2 hm2' hm2 hm1 hm hkn e hk2' hk1' hk2 hk1 hk whole hL hgL hask hpos hle hsz hp ox hq R o hc; omega))) (by (clear hk' hfull esuf epre hmem hsrt hperm hm0 e2 hm2' hm2 hm1 hkn e hk2' hk1' hk2 hk1 hk whole hL hgL hask hpos hp ox hq R o hc; lia))
      · intro x hx y hy
        rw [esuf] at hy
        obtain ⟨j, j1, j2, j3, rfl⟩ := mem_seg hy
        rcases List.mem_append.mp hx with q | q
        · rw [epre] at q
          obtain ⟨i, i1, i2, i3, rfl⟩ := mem_seg q
          exact ox.trans _ _ _ (hk1' i (by lia)) (R.s2 n1 j (Nat.le_refl _) (by (clear q hx i3 i2 i1 hy j3 j2 hk' hfull esuf epre hmem hsrt hperm hm0 e2 hm2' hm2 hm1 hm hkn e hk2' hk1' hk2 hk1 hk whole hL hgL hask hpos hle hsz hp ox hq R o hc; lia)) (by lia))
        · rcases hmem x q with ⟨i, i1, i2, rfl⟩ | ⟨i, i1, i2, rfl⟩
          · exact ox.trans _ _ _ (R.s1 i (n1 - 1) (Nat.zero_le _) (by (clear q hx i1 hy j3 j2 j1 hk' hfull esuf epre hmem hsrt hperm hm0 e2 hm2' hm2 hm1 hm hkn e hk2' hk1' hk2 hk1 hk whole hL hgL hask hle hsz hp ox hq R o hc; omega)) (by (clear q hx i2 i1 hy j3 j2 j1 hk' hfull esuf epre hmem hsrt hperm hm0 e2 hm2' hm2 hm1 hm hkn e hk2' hk1' hk2 hk1 hk whole hL hgL hask hle hsz hp ox hq R o hc; omega))) (hm2' j (by lia) (by lia))
          · exact R.s2 i j i1 (by lia) (by lia)
    generalize p.toList.take k ++ out ++ p.toList.drop (k + out.length) = F at hfull hpw ⊢
    have hF : F.length = N := by rw [hfull.length_eq, hL]
    have := hq F.toArray g' ⟨by simpa using hF, by simpa using hfull.trans hp.perm⟩ (by rw [← hF]; exact SPw.of_pairwise hpw o)
    rw [show arrIt it F = (F.toArray).map (kas_item it) by simp [arrIt]]
    exact this
  rw [ex, ey]
  refine wpS_ite (fun _ => ?_) (fun _ => ?_)
  · exact wpS_bind (mergeLo_w hc T fun res g' hf => wpS_bind (wpS_modify (wpS_bind (wpS_get (wpS_pure (fin res g' hf))))))
  · exact wpS_bind (mergeHi_w hc T fun res g' hf => wpS_bind (wpS_modify (wpS_bind (wpS_get (wpS_pure (fin res g' hf))))))
end
end Mine

set_option maxHeartbeats 1000000
namespace Mine
open PySem PySem.W PyProof.Rows

section
variable {prog : Program} {w : World} {A : Around} {E : Value → Shared → Prop} {s : Shared} {κ : SortKind} {it : Array Keyed} {N : Nat} {lt : Nat → Nat → Bool}
theorem minRun_mid (h1 : 2 ≤ N) (h2 : N < 128) : ∃ mr, minRun' N N 0 = mr ∧ mr ≤ N ∧ N ≤ 2 * mr := by
  obtain ⟨f, hf⟩ : ∃ f, N = f + 1 + 1 := ⟨N - 2, by (clear h2; omega)⟩
  by_cases h : N < 64
  · refine ⟨N, ?_, Nat.le_refl _, by lia⟩
    have : minRun' (f + 1 + 1) N 0 = N := by rw [minRun'_succ, if_pos h]; rfl
    rwa [← hf] at this
  · refine ⟨N / 2 + N % 2, ?_, by (clear h hf h2 h1; lia), by lia⟩
    have : minRun' (f + 1 + 1) N 0 = N / 2 + N % 2 := by
      rw [minRun'_succ, if_neg (by lia), minRun'_succ, if_pos (by lia), Nat.zero_max]
    rwa [← hf] at this
theorem Run.trans {lo : Nat} {p0 p1 p2 : Array Nat} {n m : Nat} (x : Run lt N lo p0 p1 n) (y : Run lt N lo p1 p2 m) : Run lt N lo p0 p2 m := ⟨y.in_, y.sp, y.fx, fun k hk => (y.low k hk).trans (x.low k hk)⟩
theorem Run.self {lo : Nat} {p0 p1 : Array Nat} {n : Nat} (x : Run lt N lo p0 p1 n) : Run lt N lo p1 p1 n := ⟨x.in_, x.sp, x.fx, fun _ _ => rfl⟩
theorem In.at {p : Array Nat} (hp : In N p) {v : Nat} (hv : v < N) : ∃ j, j < N ∧ gP p j = v := by
  have hm : v ∈ p.toList := hp.perm.mem_iff.mpr (by simpa using hv)
  obtain ⟨j, hj, e⟩ := List.getElem_of_mem hm
  have hj' : j < N := by simpa [hp.size] using hj
  refine ⟨j, hj', ?_⟩
  rw [← gL_toList]; simp [gL, ← e, hp.size, hj']
theorem Runs2.of {p1 p2 : Array Nat} {n1 : Nat} (h0 : 0 < n1) (hn : n1 < N) {p0 : Array Nat} (R1 : Run lt N 0 p0 p1 n1) (R2 : Run lt N n1 p1 p2 (N - n1)) : Runs2 lt N n1 p2 := by
  have f1 : Fx2 N p1 n1 := fun m hm hm' => R1.fx m (by lia) hm'
  refine ⟨R2.in_, hn, h0, fun i j hi hij hj => ?_, fun i j hi hij hj => R2.sp i j hi hij (by lia), fun i hi => ?_, fun i hi hi' => ?_⟩
  · rw [R2.low i (by lia), R2.low j hj]; exact R1.sp i j hi hij (by lia)
  · rw [R2.low i hi]; exact f1.lo R1.in_ hi (by lia)
  · rcases Nat.lt_or_ge (gP p2 i) n1 with q | q
    · obtain ⟨j, hj, e⟩ := R1.in_.at (v := gP p2 i) (by (clear hi' hi f1 R2 R1 h0; omega))
      have hj1 : j < n1 := by
        rcases Nat.lt_or_ge j n1 with q' | q'
        · exact q'
        · rw [f1 j q' hj] at e; omega
      rw [← R2.low j hj1] at e
      have := R2.in_.inj hj hi' e
      lia
    · exact q
theorem runs_mid_w (hc : Asks prog w A s κ it N lt) (o : Ord lt) (h1 : 2 ≤ N) (h2 : N < 128) {Q : Unit → SortSt → Prop}
    (hq : ∀ p pend g, In N p → SPw (lx lt) p 0 N → Q () (sst κ it p pend g)) : wpS (model prog w) A E s sortRuns' Q (sst κ it (List.toArray (List.range N)) #[] 7) := by
  have ox := o.lx
  rw [sortRuns'_eq]
  refine wpS_bind (wpS_get ?_)
  have hsz : (arrOf (sst κ it (List.toArray (List.range N)) #[] 7)).size = N := by
    show (Array.map (kas_item it) (List.toArray (List.range N))).size = N
    simp
  dsimp only
  obtain ⟨mr, hmr, hm1, hm2⟩ := minRun_mid h1 h2
  rw [hsz, hmr]
  have hp0 : In N (List.toArray (List.range N)) := ⟨by simp, by simp⟩
  have hf0 : Fx2 N (List.toArray (List.range N)) 0 := fun m _ hm => gP_range hm
  clear hsz
  generalize List.toArray (List.range N) = p0 at hp0 hf0 ⊢
  refine wpS_bind (wpS_mono (wpS_forRange
    (I := fun x c st' => (x = 0 ∧ c = (none, 0) ∧ st' = sst κ it p0 #[] 7) ∨ (x = 1 ∧ ∃ p n1, c = (none, n1) ∧ st' = sst κ it p #[(0, n1, 0)] 7 ∧ Run lt N 0 p0 p n1 ∧ mr ≤ n1 ∧ n1 ≤ N)
      ∨ (2 ≤ x ∧ ∃ p n1 pw, c = (none, N) ∧ st' = sst κ it p #[(0, n1, pw), (n1, N - n1, 0)] 7 ∧ Runs2 lt N n1 p))
    (Q := fun c st' => (∃ p, c = (none, N) ∧ st' = sst κ it p #[(0, N, 0)] 7 ∧ In N p ∧ SPw (lx lt) p 0 N) ∨ (∃ p n1 pw, c = (none, N) ∧ st' = sst κ it p #[(0, n1, pw), (n1, N - n1, 0)] 7 ∧ Runs2 lt N n1 p)) ?step ?fin (.inl ⟨rfl, rfl, rfl⟩)) ?post)
  case fin =>
    rintro c st' (⟨hx, _, _⟩ | ⟨hx, _⟩ | ⟨hx, h⟩)
    · (clear hf0 hp0 hm2 hm1 hmr ox hq h2 o hc; omega)
    · (clear hf0 hp0 hm2 hm1 hmr ox hq h2 o hc; omega)
    · exact .inr h
  case step =>
    rintro x c st' _ hx (⟨rfl, rfl, rfl⟩ | ⟨hx1, p, n1, rfl, rfl, R, hn1, hn2⟩ | ⟨hx2, p, n1, pw, rfl, rfl, R⟩)
    · refine wpS_ite (fun e => ?_) (fun _ => ?_)
      · have : 0 ≥ N := e
        lia
      refine wpS_bind (count_w (lo := 0) (nrem := N - 0) hc o hp0 hf0 (by lia) (by lia) fun n p n1 n2 R => ?_)
      refine wpS_ite (fun hlt => ?_) (fun hlt => ?_)
      · have hlt' : n < mr := hlt
        refine wpS_bind (wpS_lift (wpAny_rule ⟨rfl, ?_⟩))
        refine wpS_bind (bin_w (lo := 0) (n := min (N - 0) (mr)) (ok := n) hc o n1 (by (clear hlt' R n1 hx hf0 hp0 hm2 hm1 hmr ox hq h2 h1 o hc; lia)) (by lia) R.self fun p' R' => ?_)
        simp only [Bool.not_true, Bool.false_eq_true, if_false]
        refine wpS_bind (wpS_get ?_)
        exact wpS_bind (wpS_modify (wpS_pure (.inr (.inl ⟨trivial, p', 0 + min (N - 0) (mr), rfl, by rw [Nat.zero_add]; rfl, by rw [Nat.zero_add]; exact R.trans R', by lia, by lia⟩))))
      · have hlt' : ¬ n < mr := hlt
        refine wpS_bind (wpS_get ?_)
        exact wpS_bind (wpS_modify (wpS_pure (.inr (.inl ⟨rfl, p, 0 + n, rfl, by rw [Nat.zero_add]; rfl, by rw [Nat.zero_add]; exact R, by lia, by lia⟩))))
    · refine wpS_ite (fun e => wpS_pure (.inl ?_)) (fun e => ?_)
      · have e' : n1 ≥ N := e
        have : n1 = N := by lia
        subst this
        exact ⟨p, rfl, rfl, R.in_, fun i j hi hij hj => R.sp i j hi hij (by lia)⟩
      have e' : ¬ n1 ≥ N := e
      refine wpS_bind (count_w (lo := n1) (nrem := N - n1) hc o R.in_ (fun m hm hm' => R.fx m (by lia) hm') (by lia) (by lia) fun n p' m1 m2 R' => ?_)
      refine wpS_ite (fun hlt => ?_) (fun hlt => ?_)
      · refine wpS_bind (wpS_lift (wpAny_rule ⟨rfl, ?_⟩))
        refine wpS_bind (bin_w (lo := n1) (n := min (N - n1) (mr)) (ok := n) hc o m1 (by (clear R' m1 e' e hn2 hn1 R hx1 hx hf0 hp0 hm2 hm1 hmr ox hq h2 h1 o hc; lia)) (by (clear hlt R' m2 m1 e' e hn1 R hx1 hx hf0 hp0 hm2 hm1 ox hq h2 h1 o hc; omega)) R'.self fun p2 R2 => ?_)
        have hmin : min (N - n1) (mr) = N - n1 := by (clear R2 hlt R' m1 e' e R hx1 hx hf0 hp0 hm1 hmr ox hq h2 h1 o hc; lia)
        rw [hmin] at R2 ⊢
        simp only [Bool.not_true, Bool.false_eq_true, if_false]
        refine wpS_bind (wpS_get ?_)
        refine wpS_bind (wpS_mono (wpS_forRange (I := fun y c st' => c = (none, ()) ∧ st' = sst κ it p2 #[(0, n1, 0)] 7) (Q := fun c st' => c = (none, ()) ∧ st' = sst κ it p2 #[(0, n1, 0)] 7) ?_ (fun c st' h => h) ⟨rfl, rfl⟩) ?_)
        · rintro y c st' _ _ ⟨rfl, rfl⟩
          exact wpS_bind (wpS_get (wpS_pure ⟨rfl, rfl⟩))
        · rintro c st' ⟨rfl, rfl⟩
          exact wpS_bind (wpS_modify (wpS_bind (wpS_modify (wpS_pure (.inr (.inr ⟨by lia, p2, n1, _, by rw [show n1 + (N - n1) = N by lia], rfl, Runs2.of (by lia) (by lia) R (R'.trans R2)⟩))))))
      · have hlt' : ¬ n < mr := hlt
        have hnn : n = N - n1 := by lia
        subst hnn
        refine wpS_bind (wpS_get ?_)
        refine wpS_bind (wpS_mono (wpS_forRange (I := fun y c st' => c = (none, ()) ∧ st' = sst κ it p' #[(0, n1, 0)] 7) (Q := fun c st' => c = (none, ()) ∧ st' = sst κ it p' #[(0, n1, 0)] 7) ?_ (fun c st' h => h) ⟨rfl, rfl⟩) ?_)
        · rintro y c st' _ _ ⟨rfl, rfl⟩
          exact wpS_bind (wpS_get (wpS_pure ⟨rfl, rfl⟩))
        · rintro c st' ⟨rfl, rfl⟩
          exact wpS_bind (wpS_modify (wpS_bind (wpS_modify (wpS_pure (.inr (.inr ⟨by lia, p', n1, _, by rw [show n1 + (N - n1) = N by lia], rfl, Runs2.of (by lia) (by lia) R R'⟩))))))
    · refine wpS_ite (fun e => wpS_pure (.inr ⟨p, n1, pw, rfl, rfl, R⟩)) (fun e => absurd (show N ≥ N from Nat.le_refl _) e)
  case post =>
    intro c st' hcs
    have hc0 : c = (none, N) := by
      rcases hcs with ⟨p, rfl, _⟩ | ⟨p, n1, pw, rfl, _⟩ <;> rfl
    subst hc0
    refine wpS_bind (wpS_mono (wpS_forRange
      (I := fun x c st' => c = (none, ()) ∧ ((∃ p pw g, st' = sst κ it p #[(0, N, pw)] g ∧ In N p ∧ SPw (lx lt) p 0 N) ∨ (x = 0 ∧ ∃ p n1 pw, st' = sst κ it p #[(0, n1, pw), (n1, N - n1, 0)] 7 ∧ Runs2 lt N n1 p)))
      (Q := fun c st' => c = (none, ()) ∧ (∃ p pw g, st' = sst κ it p #[(0, N, pw)] g ∧ In N p ∧ SPw (lx lt) p 0 N)) ?stepF ?finF ⟨rfl, ?initF⟩) ?postF)
    case initF =>
      rcases hcs with ⟨p, _, h, h3, h4⟩ | ⟨p, n1, pw, _, h, h3⟩
      · exact .inl ⟨p, 0, 7, h, h3, h4⟩
      · exact .inr ⟨rfl, p, n1, pw, h, h3⟩
    case finF =>
      rintro c st' ⟨rfl, h | ⟨hx, _⟩⟩
      · exact ⟨rfl, h⟩
      · (clear hcs hf0 hp0 hm2 hm1 hmr ox hq h2 o hc; omega)
    case postF =>
      rintro c st' ⟨rfl, p, pw, g, rfl, h3, h4⟩
      exact wpS_pure (hq p _ g h3 h4)
    case stepF =>
      rintro x c st' _ hx ⟨rfl, ⟨p, pw, g, rfl, h3, h4⟩ | ⟨rfl, p, n1, pw, rfl, R⟩⟩
      · refine wpS_bind (wpS_get ?_)
        refine wpS_ite (fun _ => wpS_pure ⟨rfl, p, pw, g, rfl, h3, h4⟩) (fun e => absurd (show (1 : Nat) ≤ 1 from Nat.le_refl _) e)
      · refine wpS_bind (wpS_get ?_)
        refine wpS_ite (fun e => absurd (show ¬ (2 : Nat) ≤ 1 by lia) (not_not_intro e)) (fun e => ?_)
        refine wpS_bind (mergeAt_w hc o R fun p' g' h3 h4 => ?_)
        refine wpS_ite (fun e => by cases e) (fun e => wpS_pure ⟨rfl, .inl ⟨p', pw, g', rfl, h3, h4⟩⟩)
theorem runs_mid (hc : Asks prog w A s κ it N lt) (o : Ord lt) (h1 : 2 ≤ N) (h2 : N < 128) (hit : it.size = N) {Q : PUnit × SortSt → Shared → Prop}
    (h : ∀ p st', In N p → SP (lx lt) p N → arrOf st' = p.map (kas_item it) → failedOf st' = none → Q ((), st') s) :
    wpAny (model prog w) A ((sortRuns').run (SortSt.mk' κ it #[] 7 none)) Q E s := by
  have est : SortSt.mk' κ it #[] 7 none = sst κ it (List.toArray (List.range N)) #[] 7 := by
    have e := kas_range it
    rw [hit] at e
    show _ = SortSt.mk' κ ((List.toArray (List.range N)).map (kas_item it)) #[] 7 none
    rw [e]
  rw [est]
  refine wpAny_mono (runs_mid_w (E := E) hc o h1 h2 (Q := fun _ st' => ∃ p, In N p ∧ SP (lx lt) p N ∧ arrOf st' = p.map (kas_item it) ∧ failedOf st' = none) fun p pend g h3 h4 => ⟨p, h3, fun i j hij hj => h4 i j (Nat.zero_le _) hij hj, rfl, rfl⟩) ?_ fun _ _ e => e
  rintro ⟨⟨⟩, st'⟩ s' ⟨rfl, p, b1, b2, b3, b4⟩
  exact h p st' b1 b2 b3 b4
end
end Mine

set_option maxHeartbeats 1000000
namespace Mine
open PySem PySem.W PyProof.Rows

section
variable {prog : Program} {w : World} {A : Around} {E : Value → Shared → Prop} {s : Shared}
theorem runs_small {κ : SortKind} {it : Array Keyed} {N : Nat} {lt : Nat → Nat → Bool} (h2 : 2 ≤ N) (h128 : N < 128) (hit : it.size = N) (o : Ord lt)
    (hc : ∀ i j (Q : Bool → Shared → Prop), i < N → j < N → Q (lt i j) s → wpAny (model prog w) A (keyLt' κ (kas_item it i).1 (kas_item it j).1) Q (fun _ _ => False) s) {Q : PUnit × SortSt → Shared → Prop}
    (h : ∀ p st', In N p → SP (lx lt) p N → arrOf st' = p.map (kas_item it) → failedOf st' = none → Q ((), st') s) :
    wpAny (model prog w) A ((sortRuns').run (SortSt.mk' κ it #[] 7 none)) Q E s := by
  exact runs_mid hc o h2 h128 hit h
theorem in_range (N : Nat) : In N (List.toArray (List.range N)) := ⟨by simp, by simp⟩
theorem sp_small {lt : Nat → Nat → Bool} {N : Nat} {p : Array Nat} (o : Ord lt) (h : N < 2) : SP (lx lt) p N := fun i j hij hj => by
  have : i = j := by lia
  subst this
  exact (o.lx).refl _
/-- a.sort() -/
theorem sort_plain {a : Addr} {n : Nat} {vs : List Value} {κ : SortKind} {lt : Nat → Nat → Bool} {P : PySem.Fin → Shared → Prop} (ho : s.heap.get? a = some (seqObj "list" vs.toArray n)) (h64 : vs.length < 128) (o : Ord lt)
    (hk : 2 ≤ vs.length → ∀ h', Heap.ExtBut a s.heap h' → ∀ Q : SortKind → Shared → Prop, Q κ { s with heap := h' } → wpAny (model prog w) A (keyKind' vs.toArray) Q E { s with heap := h' })
    (hc : 2 ≤ vs.length → ∀ h', Heap.ExtBut a s.heap h' → ∀ i j (Q : Bool → Shared → Prop), i < vs.length → j < vs.length → Q (lt i j) { s with heap := h' } → wpAny (model prog w) A (keyLt' κ (vs.getD i Value.none) (vs.getD j Value.none)) Q (fun _ _ => False) { s with heap := h' })
    (h : ∀ p h' c, In vs.length p → SP (lx lt) p vs.length → Heap.ExtBut a s.heap h' → h'.get? a = some (seqObj "list" (p.toList.map fun i => vs.getD i Value.none).toArray c) → P (.done (.ret .none)) { s with heap := h' }) :
    wpAny (model prog w) A (Builtin.«list.sort» ⟨[.ref a], []⟩) P E s := by
  have ha : a < s.heap.objs.size := Heap.lt_size ho
  have s1 := Heap.SameBut.update s.heap a (Obj.mapSeq fun _ => (#[] : Array Value))
  obtain ⟨e1, ho1⟩ : ∃ e1, (s.heap.update a (Obj.mapSeq fun _ => (#[] : Array Value))).get? a = some (seqObj "list" #[] e1) := ⟨_, get?_update_seq ho fun _ => #[]⟩
  rw [list_sort_plain]
  refine wpAny_bind (listItems_at ho rfl ?_)
  refine wpAny_bind (listUpdate_at ho rfl ?_ (by rw [List.size_toArray, sizeLine_eq]; lia) (Nat.zero_le _))
  refine wpAny_bind (seqEpoch_at ho1 rfl ?_)
  refine wpAny_bind (wpAny_newTuple ?_ (by show vs.length ≤ _; rw [sizeLine_eq]; lia))
  refine wpAny_bind (wpAny_newList ?_ (Nat.zero_le _))
  refine wpAny_holding ?_
  show wpAny (model prog w) A _ P E { s with heap := ((s.heap.update a (Obj.mapSeq fun _ => (#[] : Array Value))).push (seqObj "tuple" vs.toArray 0)).push (seqObj "list" #[] 0) }
  have hx : Heap.ExtBut a s.heap (((s.heap.update a (Obj.mapSeq fun _ => (#[] : Array Value))).push (seqObj "tuple" vs.toArray 0)).push (seqObj "list" #[] 0)) := fun b o hb e => Heap.get?_push_of_some _ (Heap.get?_push_of_some _ (s1.extBut b o hb e))
  have ho6 : (((s.heap.update a (Obj.mapSeq fun _ => (#[] : Array Value))).push (seqObj "tuple" vs.toArray 0)).push (seqObj "list" #[] 0)).get? a = some (seqObj "list" #[] e1) := Heap.get?_push_of_some _ (Heap.get?_push_of_some _ ho1)
  generalize ((s.heap.update a (Obj.mapSeq fun _ => (#[] : Array Value))).push (seqObj "tuple" vs.toArray 0)).push (seqObj "list" #[] 0) = h6 at *
  dsimp only
  have fin : ∀ (p : Array Nat) (st' : SortSt), In vs.length p → SP (lx lt) p vs.length → arrOf st' = p.map (kas_item (pairsOf vs)) → failedOf st' = none →
      wpAny (model prog w) A (do
        let touched := (← seqEpoch a) != e1
        Builtin.List.listUpdate (.ref a) fun _ => (arrOf st').map (·.2)
        if let some e := failedOf st' then rule "list.sort.comparison-raised"; throw e
        if touched then rule "list.sort.modified"; raiseError "ValueError" "list modified during sort"
        ret .none) P E { s with heap := h6 } := by
    intro p st' hp hsp har hf
    have hout : (arrOf st').map (·.2) = List.toArray (p.toList.map fun i => vs.getD i Value.none) := by
      apply Array.toList_inj.mp
      rw [har, Array.map_map, Array.toList_map]
      exact List.map_congr_left fun i _ => by show (kas_item (pairsOf vs) i).2 = _; rw [kas_item_eq]
    have hsz : (List.toArray (p.toList.map fun i => vs.getD i Value.none)).size = vs.length := by rw [List.size_toArray, List.length_map, Array.length_toList, hp.size]
    rw [hout]
    have s2 := Heap.SameBut.update h6 a (Obj.mapSeq fun _ => List.toArray (p.toList.map fun i => vs.getD i Value.none))
    refine wpAny_bind (seqEpoch_at ho6 rfl ?_)
    refine wpAny_bind (listUpdate_at ho6 rfl ?_ (Nat.zero_le _) (Nat.le_trans (Nat.le_of_eq hsz) (by rw [sizeLine_eq]; lia)))
    rw [hf]
    simp only [bne_self_eq_false, Bool.false_eq_true, if_false]
    exact wpAny_pure (h p _ _ hp hsp (fun b o hb e => s2.extBut b o hb (hx b o hb e)) (get?_update_seq ho6 fun _ => List.toArray (p.toList.map fun i => vs.getD i Value.none)))
  by_cases h2 : vs.toArray.size < 2
  · rw [if_pos h2, if_pos h2]
    refine wpAny_bind (wpAny_pure ?_)
    rw [StateT.run_pure]
    refine wpAny_bind (wpAny_pure ?_)
    rw [List.size_toArray] at h2
    refine fin (List.toArray (List.range vs.length)) (SortSt.mk' general' (vs.toArray.zip vs.toArray) #[] 7 none) (in_range _) (sp_small o h2) ?_ rfl
    have e := kas_range (pairsOf vs)
    rw [pairsOf_size] at e
    exact e.symm
  · rw [if_neg h2, if_neg h2]
    rw [List.size_toArray] at h2
    refine wpAny_bind (hk (by lia) h6 hx _ ?_)
    refine wpAny_bind (runs_small (N := vs.length) (by lia) h64 (pairsOf_size vs) o (fun i j Q hi hj hq => ?_) fun p st' b1 b2 b3 b4 => fin p st' b1 b2 b3 b4)
    rw [kas_item_eq, kas_item_eq]
    exact hc (by lia) h6 hx i j Q hi hj hq
end

section
variable {C : Cx} {A : Around} {ρ : Lo} {H : AH} {L : Addr} {s : Shared} {E : Value → Shared → Prop}
theorem St.track {h : Heap} {D : Addr} {o : O} {c : Obj} (x : St C L ρ H h) (hD : H D = none) (hB : C.base.get? D = none) (hL : D ≠ L) (hc : h.get? D = some c) (hr : Rep o c) : St C L ρ (H.set D o) h :=
  St.alloc_fr.St.alloc' x hD hB hL hc hr
noncomputable def zlt (kz : List Int) (i j : Nat) : Bool := decide (kz.getD i 0 < kz.getD j 0)
theorem zlt_ord (kz : List Int) : Ord (zlt kz) := ⟨fun a b h => by unfold zlt at *; simp at *; lia, fun a b c h1 h2 => by unfold zlt at *; simp at *; lia⟩
end
end Mine

set_option maxHeartbeats 1000000
namespace Mine
open PySem PySem.W PyProof.Rows PySem.Calls

/-- the same frame, some units deeper -/
noncomputable def Nr (A A' : Around) : Prop := A'.depth = A.depth ∧ A'.handled = A.handled ∧ A.units ≤ A'.units ∧ A'.units ≤ A.units + 8
theorem Nr.one (A : Around) : Nr A A.in1 := ⟨rfl, rfl, Nat.le_succ _, by show A.units + 1 ≤ _; lia⟩

/-- what list(v) holds -/
noncomputable def Coll (C : Cx) (A : Around) (H : AH) (x : V) (R : List V → Prop) : Prop :=
  ∀ L ρ (v : Value) (s : Shared) (E : Value → Shared → Prop) (Q : List Value → Shared → Prop), ab v = x → St C L ρ H s.heap →
    (∀ us s', R (us.map ab) → us.length ≤ sizeLine → St C L ρ H s'.heap → Step L H H s s' → Q us s') → wpAny C.M A (collect v) Q E s
section
variable {C : Cx} {A : Around} {env : Env} {ρ : Lo} {H : AH}
theorem Coll.list {l : Addr} {ob : O} {vs : List V} (hH : H l = some ob) (hl : lst ob = some vs) : Coll C A H (.ref l) (fun us => us = vs) := fun L ρ v s E Q ev hs hq => by
  cases ab_ref ev
  obtain ⟨xs, x1, x2, x3⟩ := hs.list hH hl
  have hlen : xs.toList.length = vs.length := by have := congrArg List.length x2; simpa using this
  refine collect_list (vs := xs.toList) (by rw [Array.toArray_toList]; exact x1) ?_ (by lia)
  have k : ∀ b o, s.heap.get? b = some o → ((s.heap.push (seqObj "list" #[] 0)).update s.heap.objs.size (Obj.mapSeq (· ++ xs.toList.toArray))).get? b = some o := fun b o e => by
    have hlt : b < s.heap.objs.size := Heap.lt_size e
    rw [Heap.get?_update_ne _ _ _ _ (Nat.ne_of_lt hlt)]
    exact Heap.get?_push_of_some _ e
  exact hq xs.toList _ x2 (by lia) (hs.ext k) (Step.ext (tk := s.toks) k)

theorem map_getD {us : List Value} {p : Array Nat} {n : Nat} (hp : In n p) (hn : us.length = n) : ((p.toList.map fun i => us.getD i Value.none).map ab) = p.toList.map fun i => (us.map ab).getD i V.none := by
  rw [List.map_map]
  apply List.map_congr_left
  intro i hi
  have hi' : i < us.length := by rw [hn]; simpa using hp.perm.mem_iff.mp hi
  show ab (us.getD i Value.none) = _
  rw [List.getD_eq_getElem?_getD, List.getD_eq_getElem?_getD, List.getElem?_map, List.getElem?_eq_getElem hi']; rfl
/-- sorted(v) of numbers -/
theorem WCall.sortedIntsC {x : V} {R : List Int → Prop} {Q : V → AH → Prop} (hcol : ∀ A', Nr A A' → Coll C A' H x (fun us => ∃ ns, us = vints ns ∧ R ns)) (h64 : ∀ ns, R ns → ns.length < 128)
    (h : ∀ ns D ns', R ns → H D = none → ns'.Perm ns → ns'.Pairwise (fun a b => a ≤ b) → Q (.ref D) (H.set D (.list (vints ns')))) : WCall C A (.bi "sorted") [x] [] H Q := by
  intro L ρ fv vals kvs e1 e2 e3
  cases ab_bi e1
  obtain ⟨xv, rfl, ex⟩ := vals1 e2
  cases ab_nil e3
  intro s hs
  refine Calls.call_function_entry kind_sorted plain_sorted entry_sorted (args_sorted1 _) ?_
  unfold Builtin.«sorted»
  refine wpAny_bind (m := checkCount "sorted" 1 1 _) (wpAny_pure ?_)
  refine wpAny_bind (hcol _ (Nr.one A) L ρ xv s _ _ ex hs fun us s1 hR hsz hs1 st1 => ?_)
  obtain ⟨ns, hus, hR⟩ := hR
  have hul : us.length = ns.length := by have := congrArg List.length hus; simpa using this
  have hl64 := h64 _ hR
  refine wpAny_bind (wpAny_newList ?_ (by rw [sizeLine_eq]; lia))
  have k2 : ∀ b o, s1.heap.get? b = some o → (s1.heap.push (seqObj "list" us.toArray 0)).get? b = some o := fun b o e => Heap.get?_push_of_some _ e
  have hn := get?_size_none s1.heap
  have hf := hs1.fresh hn
  have hs2 : St C L ρ H (s1.heap.push (seqObj "list" us.toArray 0)) := hs1.ext k2
  have hoL : (s1.heap.push (seqObj "list" us.toArray 0)).get? s1.heap.objs.size = some (seqObj "list" us.toArray 0) := Heap.get?_push_size _ rfl
  have hnS : s.heap.get? s1.heap.objs.size = none := by
    cases q : s.heap.get? s1.heap.objs.size with
    | none => rfl
    | some o => obtain ⟨o', e'⟩ := st1.live _ o q; rw [hn] at e'; cases e'
  have hints : IntsAre us ns := intsAre_of hus
  show wpAny C.M _ _ _ _ { s1 with heap := s1.heap.push (seqObj "list" us.toArray 0) }
  refine wpAny_bind (wpAny_holding (wpAny_call_entry slot_list_sort ⟨_, hoL, rfl⟩ entry_list_sort ?body (args_list_sort _)))
  case body =>
    show wpAny C.M A.in1.in1 (Builtin.«list.sort» ⟨[.ref s1.heap.objs.size], []⟩) _ _ _
    refine sort_plain (prog := C.prog) (w := C.w) (κ := oneType') (lt := zlt ns) (vs := us) (s := { s1 with heap := s1.heap.push (seqObj "list" us.toArray 0) }) hoL (by lia) (zlt_ord ns) (fun h2 h' hx Q hq => ?_) (fun h2 h' hx i j Q hi hj hq => ?_) fun p h' c hp hsp hx hD => ⟨.none, rfl, wpAny_pure ⟨.ref s1.heap.objs.size, rfl, ?_⟩⟩
    · rw [ksk_kind (keys := us.toArray) (kz := ns) (by simpa using hints) (by rw [List.size_toArray]; lia)]
      exact wpAny_pure hq
    · have gi : ∀ i, i < us.length → ∃ t, us.getD i Value.none = .int (ns.getD i 0) t := fun i hi => by
        obtain ⟨t, ht⟩ := hints.get i (ns.getD i 0) (by rw [List.getD_eq_getElem?_getD, List.getElem?_eq_getElem (by lia : i < ns.length)]; rfl)
        exact ⟨t, by rw [List.getD_eq_getElem?_getD, ht]; rfl⟩
      obtain ⟨t, ht⟩ := gi i hi
      obtain ⟨u, hu⟩ := gi j hj
      rw [ht, hu, keyLt'_oneType]
      exact oneLt_int hq
    · have hb : ∀ b o, b ≠ s1.heap.objs.size → (s1.heap.push (seqObj "list" us.toArray 0)).get? b = some o → h'.get? b = some o := fun b o hb e => hx b o hb e
      have hs3 : St C L ρ H h' := hs2.off hf.1 hf.2.1 hf.2.2 hb
      have hvs : ((p.toList.map fun i => us.getD i Value.none).map ab) = vints (p.toList.map fun i => ns.getD i 0) := by
        rw [map_getD hp rfl, hus]
        unfold vints
        rw [List.map_map]
        apply List.map_congr_left
        intro i hi
        have hi' : i < ns.length := by rw [← hul]; simpa using hp.perm.mem_iff.mp hi
        show (ns.map V.int).getD i V.none = V.int (ns.getD i 0)
        rw [List.getD_eq_getElem?_getD, List.getD_eq_getElem?_getD, List.getElem?_map, List.getElem?_eq_getElem hi']; rfl
      refine ⟨ρ, H.set s1.heap.objs.size (.list (vints (p.toList.map fun i => ns.getD i 0))), hs3.track hf.1 hf.2.1 hf.2.2 hD ⟨_, _, rfl, by rw [List.toList_toArray]; exact hvs, by rw [ints_length, List.length_map, Array.length_toList, hp.size]; exact hsz⟩, ?_, rfl, h ns _ _ hR hf.1 ?_ ?_⟩
      · have t1 : StepX [s1.heap.objs.size] L H H s { s1 with heap := h' } := ((st1.trans (Step.ext (tk := s1.toks) k2) (fun _ _ => hs1.nl)).toX).trans (StepX.off (fun b o hbm e => hb b o (fun q => hbm (by simp [q])) e))
        have ne : ∀ b o, s.heap.get? b = some o → b ∉ [s1.heap.objs.size] := fun b o e q => by rw [List.mem_singleton.mp q, hnS] at e; cases e
        refine ⟨t1.same, fun b o e eb eL => t1.kept b o (ne b o e) e eb eL, fun b o e eb => ?_, fun b o e => t1.live b o (ne b o e) e⟩
        rw [AH.set_ne _ _ (fun q => ne b o e (by simp [q]))]; exact t1.new b o (ne b o e) e eb
      · refine (hp.perm.map _).trans ?_
        rw [hul]
        have : (List.range ns.length).map (fun i => ns.getD i 0) = ns := by
          apply List.ext_getElem?
          intro i
          by_cases hi : i < ns.length
          · rw [List.getElem?_map, List.getElem?_range hi, Option.map_some, List.getD_eq_getElem?_getD, List.getElem?_eq_getElem hi]; rfl
          · rw [List.getElem?_eq_none (by simp; (clear hvs hs3 hb hD hx hsp hp hints hnS hoL hs2 hf hn k2 hl64 hul hR hus st1 hs1 hsz hs e3 e2 ex e1 h h64 hcol; lia)), List.getElem?_eq_none (by (clear hvs hs3 hb hD hx hsp hp hints hnS hoL hs2 hf hn k2 hl64 hul hR hus st1 hs1 hsz hs e3 e2 ex e1 h h64 hcol; lia))]
        rw [this]
      · rw [List.pairwise_map, List.pairwise_iff_getElem]
        intro i j hi hj hij
        have hj' : j < us.length := by rw [← hp.size]; simpa using hj
        have := (lx_false.mp (hsp i j (Nat.le_of_lt hij) hj')).1
        have gi : gP p i = p.toList[i] := by simp [gP, Array.getD, show i < p.size by simpa using hi]
        have gj : gP p j = p.toList[j] := by simp [gP, Array.getD, show j < p.size by simpa using hj]
        rw [gi, gj] at this
        unfold zlt at this
        simpa using this
end
end Mine

set_option maxHeartbeats 1000000
namespace Mine
open PySem PySem.W PyProof.Rows PySem.Calls

section
variable {C : Cx} {A : Around} {env : Env} {ρ : Lo} {H : AH}
/-! ## and, or as values (of truth) -/
theorem Ev.and2 {e1 e2 : Expr} {pos : Pos} {a b : Bool} (h1 : Ev C A env ρ H e1 (.bool a)) (h2 : a = true → Ev C A env ρ H e2 (.bool b)) : Ev C A env ρ H (.BoolOp .And [e1, e2] pos) (.bool (a && b)) := fun s hs => by
  refine BoolOp_and (wpAny_mono (h1 s hs) (fun v s1 ⟨ρ1, H1, a1, b1, c1, c2, c3⟩ => ?_) fun _ _ e => e)
  subst c1 c2
  cases ab_bool c3
  refine wpAny_truthy_bool ?_
  cases a with
  | false => exact ⟨_, _, a1, b1, rfl, rfl, rfl⟩
  | true => exact BoolOp_one ((h2 rfl).at a1 b1)
/-! ## type(x) is not int -/
/-! ## a range, as a thing; what list(range) holds -/
end
end Mine

set_option maxHeartbeats 4000000
namespace Mine
open PySem PySem.W PyProof.Rows

/-! ## two lists, item by item -/
noncomputable def Zip {α β : Type} (R : α → β → Prop) : List α → List β → Prop
  | [], [] => True
  | a :: as, b :: bs => R a b ∧ Zip R as bs
  | _, _ => False
section
variable {α β : Type} {R R' : α → β → Prop}
theorem Zip.length : ∀ {as : List α} {bs : List β}, Zip R as bs → as.length = bs.length
  | [], [], _ => rfl
  | _ :: _, _ :: _, h => by rw [List.length_cons, List.length_cons, Zip.length h.2]
  | [], _ :: _, h => h.elim
  | _ :: _, [], h => h.elim
theorem Zip.append : ∀ {as : List α} {bs : List β} {cs : List α} {ds : List β}, Zip R as bs → Zip R cs ds → Zip R (as ++ cs) (bs ++ ds)
  | [], [], _, _, _, h => h
  | _ :: _, _ :: _, _, _, h, k => ⟨h.1, Zip.append h.2 k⟩
  | [], _ :: _, _, _, h, _ => h.elim
  | _ :: _, [], _, _, h, _ => h.elim
theorem Zip.take : ∀ {as : List α} {bs : List β} (n : Nat), Zip R as bs → Zip R (as.take n) (bs.take n)
  | _, _, 0, _ => by rw [List.take_zero, List.take_zero]; trivial
  | [], [], _ + 1, _ => trivial
  | _ :: _, _ :: _, n + 1, h => ⟨h.1, Zip.take n h.2⟩
  | [], _ :: _, _ + 1, h => h.elim
  | _ :: _, [], _ + 1, h => h.elim
theorem Zip.drop : ∀ {as : List α} {bs : List β} (n : Nat), Zip R as bs → Zip R (as.drop n) (bs.drop n)
  | _, _, 0, h => h
  | [], [], _ + 1, _ => trivial
  | _ :: _, _ :: _, n + 1, h => Zip.drop n h.2
  | [], _ :: _, _ + 1, h => h.elim
  | _ :: _, [], _ + 1, h => h.elim
theorem Zip.mono : ∀ {as : List α} {bs : List β}, Zip R as bs → (∀ a ∈ as, ∀ b, R a b → R' a b) → Zip R' as bs
  | [], [], _, _ => trivial
  | a :: _, b :: _, h, k => ⟨k a (List.mem_cons_self ..) b h.1, Zip.mono h.2 fun x hx => k x (List.mem_cons_of_mem _ hx)⟩
  | [], _ :: _, h, _ => h.elim
  | _ :: _, [], h, _ => h.elim
theorem Zip.get : ∀ {as : List α} {bs : List β} (j : Nat) (a : α) (b : β), Zip R as bs → as[j]? = some a → bs[j]? = some b → R a b
  | [], _, _, _, _, _, e, _ => by simp at e
  | _ :: _, [], _, _, _, h, _, _ => h.elim
  | x :: _, y :: _, 0, a, b, h, e, e' => by simp at e e'; subst e e'; exact h.1
  | _ :: _, _ :: _, j + 1, a, b, h, e, e' => by
    rw [List.getElem?_cons_succ] at e e'
    exact Zip.get j a b h.2 e e'
theorem Zip.rd {H : AH} {as : List Addr} {bs : List β} {e : β → PyData} : ∀ {as : List Addr} {bs : List β}, Zip (fun a b => Rd H (.ref a) (e b)) as bs → RdL H (as.map .ref) (bs.map e)
  | [], [], _ => by rw [List.map_nil, List.map_nil, RdL]
  | a :: as, b :: bs, h => by
    rw [List.map_cons, List.map_cons, RdL]
    exact ⟨.ref a, as.map .ref, rfl, h.1, Zip.rd h.2 (H := H) (as := as) (bs := bs)⟩
  | [], _ :: _, h => h.elim
  | _ :: _, [], h => h.elim
end

/-! ## rows on the heap -/
structure RowsAt (R0 : Addr) (ra : List Addr) (rows : List (List Int)) (H : AH) : Prop where
  hR : H R0 = some (.list (ra.map .ref))
  hX : Zip (fun a row => H a = some (.list (vints row))) ra rows
  ne : R0 ∉ ra
  nd : ra.Nodup
theorem RowsAt.keep {R0 : Addr} {ra : List Addr} {rows : List (List Int)} {H H' : AH} (h : RowsAt R0 ra rows H) (k : ∀ a, a = R0 ∨ a ∈ ra → ∀ o, H a = some o → H' a = some o) : RowsAt R0 ra rows H' :=
  ⟨k _ (.inl rfl) _ h.hR, h.hX.mono fun a ha row e => k _ (.inr ha) _ e, h.ne, h.nd⟩
theorem RowsAt.mem {R0 : Addr} {ra : List Addr} {rows : List (List Int)} {H : AH} (h : RowsAt R0 ra rows H) {a : Addr} (ha : a ∈ ra) : ∃ row, H a = some (.list (vints row)) := by
  obtain ⟨j, hj⟩ := List.getElem?_of_mem ha
  have hjl : j < ra.length := (List.getElem?_eq_some_iff.mp hj).1
  have := Zip.get j _ _ h.hX hj (List.getElem?_eq_getElem (by rw [← h.hX.length]; exact hjl))
  exact ⟨_, this⟩
/-- one row changed -/
theorem RowsAt.upd {R0 a : Addr} {ra : List Addr} {rows : List (List Int)} {H : AH} {k : Nat} {row : List Int} (h : RowsAt R0 ra rows H) (hk : ra[k]? = some a) : RowsAt R0 ra (rows.set k row) (H.set a (.list (vints row))) := by
  have ha := List.mem_of_getElem? hk
  have hkl : k < ra.length := (List.getElem?_eq_some_iff.mp hk).1
  refine ⟨by rw [AH.set_ne _ _ (fun q : R0 = a => h.ne (q ▸ ha))]; exact h.hR, ?_, h.ne, h.nd⟩
  have hkr : k < rows.length := by rw [← h.hX.length]; exact hkl
  have hra : ra = ra.take k ++ a :: ra.drop (k + 1) := by
    have := List.take_append_drop k ra
    rw [List.drop_eq_getElem_cons hkl, (List.getElem?_eq_some_iff.mp hk).2] at this
    exact this.symm
  have hrows : rows.set k row = rows.take k ++ row :: rows.drop (k + 1) := List.set_eq_take_append_cons_drop.trans (if_pos hkr)
  have hnd := h.nd
  rw [hra, List.nodup_append] at hnd
  obtain ⟨n1, n2, n3⟩ := hnd
  obtain ⟨n4, n5⟩ := List.nodup_cons.mp n2
  rw [hrows]
  conv => arg 2; rw [hra]
  refine Zip.append ((h.hX.take k).mono fun b hb r e => ?_) ⟨AH.set_same .., (h.hX.drop (k + 1)).mono fun b hb r e => ?_⟩
  · rw [AH.set_ne _ _ (fun q => n3 b hb a (List.mem_cons_self ..) q)]; exact e
  · rw [AH.set_ne _ _ (fun q : b = a => n4 (q ▸ hb))]; exact e
/-- one row more -/
theorem RowsAt.add {R0 a : Addr} {ra : List Addr} {rows : List (List Int)} {H : AH} {row : List Int} (h : RowsAt R0 ra rows H) (ha : H a = none) : RowsAt R0 (ra ++ [a]) (rows ++ [row]) ((H.set a (.list (vints row))).set R0 (.list ((ra ++ [a]).map .ref))) := by
  have haR : a ≠ R0 := fun q => by rw [q, h.hR] at ha; cases ha
  have hara : a ∉ ra := fun q => by obtain ⟨r, e⟩ := h.mem q; rw [ha] at e; cases e
  refine ⟨AH.set_same .., Zip.append (h.hX.mono fun b hb r e => ?_) ⟨?_, trivial⟩, ?_, ?_⟩
  · rw [AH.set_ne _ _ (fun q : b = R0 => h.ne (q ▸ hb))]; exact AH.get_of_set e ha
  · show ((H.set a _).set R0 _) a = _
    rw [AH.set_ne _ _ haR]; exact AH.set_same ..
  · intro q
    rcases List.mem_append.mp q with q | q
    · exact h.ne q
    · exact haR (List.mem_singleton.mp q).symm
  · rw [List.nodup_append]
    exact ⟨h.nd, by simp, fun b hb c hc q => by rw [List.mem_singleton.mp hc] at q; exact hara (q ▸ hb)⟩

end Mine

namespace Mine
open PySem PySem.W PyProof.Rows

theorem zipApart {n l1 l2 : Nat} (h1 : l1 < n) (h2 : l2 < n) : ZipApart (n + 4) (n + 2) (n + 3) n (n + 1) l1 l2 := by
  constructor <;> (intro q; have q' : (_ : Nat) = _ := q; omega)
section
variable {C : Cx} {A : Around} {env : Env} {ρ : Lo} {H : AH}
/-! ## zip of two lists -/
theorem Itr.zip {z TI TO i1 i2 l1 l2 : Addr} {elts : List Expr} {kk : Nat} {pos : Pos} {ob1 ob2 : O} {vs ws : List V} (hh : A.handled = none) (D : ZipApart z TI TO i1 i2 l1 l2) (hl1 : lst ob1 = some vs) (hl2 : lst ob2 = some ws) :
    Itr C A z [z, TI, TO, i1, i2] (.Tuple elts kk pos) (min vs.length ws.length)
      (fun i h => IsZip h z TI TO .none ∧ IsPair h TI (.ref i1) (.ref i2) ∧ (∃ a b, IsPair h TO a b) ∧ h.IsListIter i1 l1 i ∧ h.IsListIter i2 l2 i)
      (fun _ H => H l1 = some ob1 ∧ H l2 = some ob2) (fun i H d => ∃ v w, vs[i]? = some v ∧ ws[i]? = some w ∧ d = .tup [v, w]) where
  live := fun i h ⟨hz, hTI, ⟨a, b, hTO⟩, ⟨o1, h1, _⟩, ⟨o2, h2, _⟩⟩ c hc => by
    simp only [List.mem_cons, List.not_mem_nil, or_false] at hc
    rcases hc with rfl | rfl | rfl | rfl | rfl
    · exact ⟨_, hz⟩
    · exact ⟨_, hTI⟩
    · exact ⟨_, hTO⟩
    · exact ⟨_, h1⟩
    · exact ⟨_, h2⟩
  frame := fun i h h' ⟨hz, hTI, ⟨a, b, hTO⟩, h1, h2⟩ k => ⟨k z (by simp) _ hz, k TI (by simp) _ hTI, ⟨a, b, k TO (by simp) _ hTO⟩, h1.at fun o x => k i1 (by simp) o x, h2.at fun o x => k i2 (by simp) o x⟩
  item := fun i s L ρ H Q hi hr hs hw hok hq => by
    obtain ⟨hz, hTI, ⟨a, b, hTO⟩, h1, h2⟩ := hr
    have hi1 : i < vs.length := Nat.lt_of_lt_of_le hi (Nat.min_le_left ..)
    have hi2 : i < ws.length := Nat.lt_of_lt_of_le hi (Nat.min_le_right ..)
    obtain ⟨xs, p1, p2, p3⟩ := hs.list hok.1 hl1
    obtain ⟨ys, q1, q2, q3⟩ := hs.list hok.2 hl2
    obtain ⟨x, x1, x2⟩ := arr_get (i := i) (v := vs[i]) p2 (by simp [hi1])
    obtain ⟨y, y1, y2⟩ := arr_get (i := i) (v := ws[i]) q2 (by simp [hi2])
    refine wpAny_pyNext_zip_item D hz hTI hTO h1 h2 p1 q1 x1 y1 fun h' a1 a2 a3 a4 a5 a6 hk => ?_
    refine wpAny_letOwnedTupleGo_zip a1 fun h'' hz'' hs'' => ?_
    have zlt : z < s.heap.objs.size := Heap.lt_size hz
    have k : ∀ b o, b ∉ [z, TI, TO, i1, i2] → s.heap.get? b = some o → h''.get? b = some o := fun b o hb eb =>
      (hs''.2 b fun q => hb (by simp [q])).trans (hk b o (fun q => hb (by simp [q])) (fun q => hb (by simp [q])) (fun q => hb (by simp [q])) (fun q => hb (by simp [q])) eb)
    refine hq (.ref s.heap.objs.size) (.tup [vs[i], ws[i]]) h'' s.toks ⟨_, _, by simp [hi1], by simp [hi2], rfl⟩ ⟨_, #[x, y], rfl, ⟨_, (hs''.2 _ (Nat.ne_of_gt zlt)).trans a5, rfl, _, rfl⟩, by show [ab x, ab y] = _; rw [x2, y2]⟩ (hs.offL hw k) ⟨hz'', ?_, ⟨x, y, ?_⟩, ?_, ?_⟩ k
    · exact (hs''.2 _ D.TIz).trans (hk TI _ D.TIz D.TITO D.TIi1 D.TIi2 hTI)
    · exact (hs''.2 _ D.TOz).trans a2
    · exact a3.at fun o e => (hs''.2 i1 D.i1z).trans e
    · exact a4.at fun o e => (hs''.2 i2 D.i2z).trans e
  done := fun s L ρ H Q hr hs hw hok hq => by
    obtain ⟨hz, hTI, ⟨a, b, hTO⟩, h1, h2⟩ := hr
    obtain ⟨xs, p1, p2, p3⟩ := hs.list hok.1 hl1
    obtain ⟨ys, q1, q2, q3⟩ := hs.list hok.2 hl2
    have e1 := arr_size p2
    have e2 := arr_size q2
    refine wpAny_pyNext_zip_end hh D hz hTI hTO h1 h2 p1 q1 ?_ fun h' hx => ?_
    · rcases Nat.le_total vs.length ws.length with q | q
      · exact .inl (by rw [Nat.min_eq_left q, ← e1]; exact Array.getElem?_eq_none (Nat.le_refl _))
      · exact .inr (by rw [Nat.min_eq_right q, ← e2]; exact Array.getElem?_eq_none (Nat.le_refl _))
    have k : ∀ b o, b ∉ [z, TI, TO, i1, i2] → s.heap.get? b = some o → h'.get? b = some o := fun b o hb eb => hx b o (fun q => hb (by simp [q])) (fun q => hb (by simp [q])) (fun q => hb (by simp [q])) (fun q => hb (by simp [q])) eb
    exact hq h' s.toks (hs.offL hw k) k
  self := fun i s Q hr hq => wpAny_pyIter_zip hr.1 hq

theorem WIt.zip {e1 e2 : Expr} {elts : List Expr} {kk : Nat} {tpos : Pos} {id : Str} {p pos : Pos} {K : AH → Nat → (Nat → AH → Prop) → (Nat → AH → Dv → Prop) → Prop} (F : Fx C A env) (hf : Ev C A env ρ H (.Name id p) (.ty "zip"))
    (h : WE C A env e1 ρ H (fun v H1 => WE C A env e2 ρ H1 (fun w H2 => ∃ l1 l2 ob1 ob2 vs ws, v = .ref l1 ∧ w = .ref l2 ∧ H2 l1 = some ob1 ∧ H2 l2 = some ob2 ∧ lst ob1 = some vs ∧ lst ob2 = some ws ∧
      K H2 (min vs.length ws.length) (fun _ H3 => H3 l1 = some ob1 ∧ H3 l2 = some ob2) (fun i _ d => ∃ v w, vs[i]? = some v ∧ ws[i]? = some w ∧ d = .tup [v, w])))) (hn : noStar [e1, e2] = true := by rfl) :
    WIt C A env (.Call (.Name id p) [e1, e2] [] pos) (.Tuple elts kk tpos) ρ H K := fun s hs Q hq => by
  refine wpAny_Call_Name_kw (wpAny_mono (hf s hs) (fun f s1 ⟨ρ1, H1, a1, b1, c1, c2, c3⟩ => ?_) fun _ _ e => e)
  subst c1 c2
  cases ab_ty c3
  refine PySem.callWith_type (backTo_any hn) (wpAny_mono (evalArgs_run (ks := []) (Q := fun xs kv H2 => ∃ v w, xs = [v, w] ∧ kv = [] ∧ ∃ l1 l2 ob1 ob2 vs ws, v = .ref l1 ∧ w = .ref l2 ∧ H2 l1 = some ob1 ∧ H2 l2 = some ob2 ∧ lst ob1 = some vs ∧ lst ob2 = some ws ∧
      K H2 (min vs.length ws.length) (fun _ H3 => H3 l1 = some ob1 ∧ H3 l2 = some ob2) (fun i _ d => ∃ v w, vs[i]? = some v ∧ ws[i]? = some w ∧ d = .tup [v, w])) hn rfl (WEs.cons (WE.mono h fun v H1 q => WEs.cons (WE.mono q fun w H2 r => WEs.nil (WKs.nil ⟨v, w, rfl, rfl, r⟩)))) s1 a1) (fun x s2 ⟨ρ2, H2, a2, b2, c2, v, w, d1, d2, l1, l2, ob1, ob2, vs, ws, d3, d4, d5, d6, d7, d8, d9⟩ => ?_) fun _ _ e => e)
  subst c2
  have hkw : x.kw = [] := by simpa using d2
  obtain ⟨y1, y2, ey, ey1, ey2⟩ := vals2 d1
  subst d3 d4
  cases ab_ref ey1
  cases ab_ref ey2
  rw [hkw, ey]
  obtain ⟨xs, p1, p2, p3⟩ := a2.list d5 d7
  obtain ⟨ys, q1, q2, q3⟩ := a2.list d6 d8
  have hlt1 : l1 < s2.heap.objs.size := by obtain ⟨o, ho, _⟩ := p1; exact Heap.lt_size ho
  have hlt2 : l2 < s2.heap.objs.size := by obtain ⟨o, ho, _⟩ := q1; exact Heap.lt_size ho
  have b12 := b1.trans b2 (fun _ _ => a2.nl)
  have back : ∀ b, s2.heap.get? b = none → s.heap.get? b = none := fun b e => by
    cases q : s.heap.get? b with
    | none => rfl
    | some o => obtain ⟨o', e'⟩ := b12.live _ o q; rw [e] at e'; cases e'
  refine call_zip_2 p1 q1 fun h' hz hTI hTO hi1 hi2 hsz k => ?_
  refine wpAny_pyIter_zip hz ?_
  have D : ZipApart (s2.heap.objs.size + 4) (s2.heap.objs.size + 2) (s2.heap.objs.size + 3) s2.heap.objs.size (s2.heap.objs.size + 1) l1 l2 := zipApart hlt1 hlt2
  have hnn : ∀ d, s2.heap.get? (s2.heap.objs.size + d) = none := fun d => Heap.get?_none_of_le (by lia)
  refine hq H2 _ _ _ (s2.heap.objs.size + 4) [s2.heap.objs.size + 4, s2.heap.objs.size + 2, s2.heap.objs.size + 3, s2.heap.objs.size, s2.heap.objs.size + 1] _ _ d9 (Itr.zip F.hh D d7 d8) ⟨hz, hTI, ⟨_, _, hTO⟩, hi1, hi2⟩ (a2.ext k) (b12.trans (Step.ext (tk := s2.toks) k) (fun _ _ => a2.nl)) fun b hb => ?_
  have hb' : s2.heap.get? b = none := by
    simp only [List.mem_cons, List.not_mem_nil, or_false] at hb
    rcases hb with rfl | rfl | rfl | rfl | rfl
    · exact hnn 4
    · exact hnn 2
    · exact hnn 3
    · exact hnn 0
    · exact hnn 1
  exact ⟨back _ hb', (a2.fresh hb').1⟩
end
end Mine

set_option maxHeartbeats 4000000
namespace Mine
open PySem PySem.W PyProof.Rows
open_top hd for PySem.Challenge.rw_dm0010_03
end Mine

set_option maxHeartbeats 4000000
namespace Mine
open PySem PySem.W PyProof.Rows

/-- bisect_right, all shapes of call -/
theorem br_core {C : Cx} {A : Around} {H : AH} {P : Params} (hK : (hd.heap_39 P).In C.base) (hlen : C.gl "len" = some (.builtin "len")) (hh : A.handled = none) (hdep : A.depth < recursionLimit)
    {args : List V} {kw : List (Str × V)} {a : Addr} {ob : O} {vs : List V} {x hiV keyV : V} {lo hi : Nat} (f : Nat → Bool)
    (hbind : ∀ vals kvs, vals.map ab = args → kvs.map (fun p => (p.1, ab p.2)) = kw → ∃ binds, (∀ s, Keep C s → BindsTo s (fdOf (hd.heap_39 P) 23) ⟨vals, kvs⟩ binds) ∧ binds.map (fun p => (p.1, ab p.2)) = ([("a", .ref a), ("x", x), ("lo", .int lo), ("hi", hiV), ("key", keyV)] : List (Str × V)))
    (ha : H a = some ob) (hl : lst ob = some vs) (hhi : (hiV = .none ∧ hi = vs.length) ∨ (hiV = .int hi ∧ hi ≤ vs.length))
    (hkey : ∀ A', Nx A A' → (keyV = .none ∧ ∀ i v, lo ≤ i → i < hi → vs[i]? = some v → LtOk C A' H x v (f i)) ∨ (∃ g o fd, keyV = .ref g ∧ FnAt C H g o fd ∧ ∀ i v, lo ≤ i → i < hi → vs[i]? = some v → ∃ kv, KeyOk C A' H g v kv ∧ LtOk C A' H x kv (f i)))
    {Q : V → AH → Prop} (hQ : Q (.int (bis f lo hi)) H) : WCall C A (.ref 23) args kw H Q := by
  refine WCall.def (fn_in hK 23 rfl) hdep rfl (noCell rfl) (fun h k => codeRec_of (hK.keeps k) rfl) (bs := [("a", .ref a), ("x", x), ("lo", .int lo), ("hi", hiV), ("key", keyV)]) hbind (allLocal rfl) ?_
  intro L hL
  have hNx := Nx.of A (callEnv (fdOf (hd.heap_39 P) 23) L 23)
  generalize hA' : A.deeper (callEnv (fdOf (hd.heap_39 P) 23) L 23) = A' at *
  have F : Fx C A' (callEnv (fdOf (hd.heap_39 P) 23) L 23) := ⟨rfl, rfl, rfl, hNx.2.2.trans hh⟩
  generalize hρ : (fun y => List.lookup y (([("a", .ref a), ("x", x), ("lo", .int lo), ("hi", hiV), ("key", keyV)] : List (Str × V)).reverse)) = ρ
  have ra : ρ "a" = some (.ref a) := by rw [← hρ]; rfl
  have rx : ρ "x" = some x := by rw [← hρ]; rfl
  have rlo : ρ "lo" = some (.int lo) := by rw [← hρ]; rfl
  have rhi : ρ "hi" = some hiV := by rw [← hρ]; rfl
  have rk : ρ "key" = some keyV := by rw [← hρ]; rfl
  have hhl : hi ≤ vs.length := by rcases hhi with ⟨_, q⟩ | ⟨_, q⟩ <;> omega
  refine WS.seq (W1.if (WT.of (b := false) (EvT.icmp (Ev.local F rfl rlo) Ev.int (by simp [icmp])) ⟨fun e => by simp at e, fun _ => WS.nil ⟨rfl, ?_⟩⟩))
  refine WS.seq (W1.if (WT.of (EvT.isNone (Ev.local F rfl rhi)) ?_))
  suffices goal : ∀ ρ : Lo, ρ "a" = some (.ref a) → ρ "x" = some x → ρ "lo" = some (.int lo) → ρ "hi" = some (.int hi) → ρ "key" = some keyV → WS C A' (callEnv (fdOf (hd.heap_39 P) 23) L 23) ((bodyOf (fdOf (hd.heap_39 P) 23)).drop 2) ρ H (fun f _ H' => Q (retv f) H') by
    refine ⟨fun e => ?_, fun e => ?_⟩
    · have hn : hiV = .none := by simpa using e
      rcases hhi with ⟨_, q⟩ | ⟨q, _⟩
      · refine WS.seq (W1.asgLocal F rfl (WE.of (Ev.len (Ev.glob F rfl hlen) (Ev.local F rfl ra) ha hl) ⟨rfl, WS.nil ⟨rfl, ?_⟩⟩))
        rw [← q]
        exact goal _ ra rx rlo rfl rk
      · rw [hn] at q; cases q
    · rcases hhi with ⟨q, _⟩ | ⟨q, _⟩
      · rw [q] at e; simp at e
      · refine WS.nil ⟨rfl, ?_⟩
        exact goal _ ra rx rlo (by rw [rhi, q]) rk
  clear rlo rhi ra rx rk hρ
  intro ρ ra rx rlo rhi rk
  have hkey' := hkey A' hNx
  refine WS.seq (W1.if (WT.of (EvT.isNone (Ev.local F rfl rk)) ⟨fun e => ?_, fun e => ?_⟩))
  · have hn : keyV = .none := by simpa using e
    obtain ⟨_, hlt⟩ : keyV = .none ∧ ∀ i v, lo ≤ i → i < hi → vs[i]? = some v → LtOk C A' H x v (f i) := by
      rcases hkey' with q | ⟨g, o, fd, q, _⟩
      · exact q
      · rw [hn] at q; cases q
    refine WS.seq (W1.while F (fun n ρ1 H1 => ∃ l h : Nat, n = h - l ∧ lo ≤ l ∧ h ≤ hi ∧ H1 = H ∧ ρ1 "a" = some (.ref a) ∧ ρ1 "x" = some x ∧ ρ1 "lo" = some (.int l) ∧ ρ1 "hi" = some (.int h) ∧ bis f l h = bis f lo hi) _ ⟨lo, hi, rfl, Nat.le_refl _, Nat.le_refl _, rfl, ra, rx, rlo, rhi, rfl⟩ ?_)
    rintro n ρ1 H1 ⟨l, h, rfl, hle, hhi', rfl, ra, rx, rlo, rhi, hb⟩
    refine WT.of (EvT.icmp (Ev.local F rfl rlo) (Ev.local F rfl rhi) rfl) ⟨fun e => ?_, fun e => ?_⟩
    · have hlt' : l < h := by simpa using e
      have hmid : ((l : Int) + (h : Int)).fdiv 2 = ((l + h) / 2 : Nat) := by
        rw [Int.fdiv_eq_ediv_of_nonneg _ (by decide)]; omega
      refine WS.seq (W1.asgLocal F rfl (WE.of (Ev.fdiv (Ev.add (Ev.local F rfl rlo) (Ev.local F rfl rhi)) Ev.int (by decide) (by decide)) ?_))
      rw [hmid]
      refine ⟨rfl, ?_⟩
      have hm : (l + h) / 2 < vs.length := by omega
      refine WS.seq (W1.if (WT.of (EvT.ltOk (Ev.local F rfl rx) (Ev.item (v := vs[(l + h) / 2]) (Ev.local F rfl ra) (Ev.local F rfl rfl) ha hl (by omega) (by rw [Int.toNat_natCast]; exact List.getElem?_eq_getElem hm)) (hlt _ _ (by omega) (by omega) (List.getElem?_eq_getElem hm))) ⟨fun e2 => ?_, fun e2 => ?_⟩))
      · refine WS.seq (W1.asgLocal F rfl (WE.of (Ev.local F rfl rfl) ⟨rfl, WS.nil ⟨rfl, WS.nil ⟨(l + h) / 2 - l, by omega, l, (l + h) / 2, rfl, by omega, by omega, rfl, ra, rx, rlo, rfl, ?_⟩⟩⟩))
        rw [← hb, bis_true hlt' e2]
      · refine WS.seq (W1.asgLocal F rfl (WE.of (Ev.add (Ev.local F rfl rfl) Ev.int) ⟨rfl, WS.nil ⟨rfl, WS.nil ⟨h - ((l + h) / 2 + 1), by omega, (l + h) / 2 + 1, h, rfl, by omega, by omega, rfl, ra, rx, rfl, rhi, ?_⟩⟩⟩))
        rw [← hb, bis_false hlt' e2]
    · have hge : ¬ l < h := by simpa using e
      rw [← hb, bis_cross (by omega)] at hQ
      exact ⟨rfl, WS.nil ⟨rfl, WS.cons (W1.ret (WE.of (Ev.local F rfl rlo) hQ))⟩⟩
  · have hn : keyV ≠ .none := by simpa using e
    obtain ⟨g, o, fd, rfl, hfn, hlt⟩ : ∃ g o fd, keyV = .ref g ∧ FnAt C H g o fd ∧ ∀ i v, lo ≤ i → i < hi → vs[i]? = some v → ∃ kv, KeyOk C A' H g v kv ∧ LtOk C A' H x kv (f i) := by
      rcases hkey' with ⟨q, _⟩ | q
      · exact absurd q hn
      · exact q
    refine WS.seq (W1.while F (fun n ρ1 H1 => ∃ l h : Nat, n = h - l ∧ lo ≤ l ∧ h ≤ hi ∧ H1 = H ∧ ρ1 "a" = some (.ref a) ∧ ρ1 "x" = some x ∧ ρ1 "key" = some (.ref g) ∧ ρ1 "lo" = some (.int l) ∧ ρ1 "hi" = some (.int h) ∧ bis f l h = bis f lo hi) _ ⟨lo, hi, rfl, Nat.le_refl _, Nat.le_refl _, rfl, ra, rx, rk, rlo, rhi, rfl⟩ ?_)
    rintro n ρ1 H1 ⟨l, h, rfl, hle, hhi', rfl, ra, rx, rk, rlo, rhi, hb⟩
    refine WT.of (EvT.icmp (Ev.local F rfl rlo) (Ev.local F rfl rhi) rfl) ⟨fun e => ?_, fun e => ?_⟩
    · have hlt' : l < h := by simpa using e
      have hmid : ((l : Int) + (h : Int)).fdiv 2 = ((l + h) / 2 : Nat) := by
        rw [Int.fdiv_eq_ediv_of_nonneg _ (by decide)]; omega
      refine WS.seq (W1.asgLocal F rfl (WE.of (Ev.fdiv (Ev.add (Ev.local F rfl rlo) (Ev.local F rfl rhi)) Ev.int (by decide) (by decide)) ?_))
      rw [hmid]
      refine ⟨rfl, ?_⟩
      have hm : (l + h) / 2 < vs.length := by omega
      obtain ⟨kv, hkv, hlk⟩ := hlt _ _ (by omega) (by omega) (List.getElem?_eq_getElem hm)
      refine WS.seq (W1.if (WT.of (EvT.ltOk (Ev.local F rfl rx) (Ev.key (Ev.local F rfl rk) hfn (Ev.item (v := vs[(l + h) / 2]) (Ev.local F rfl ra) (Ev.local F rfl rfl) ha hl (by omega) (by rw [Int.toNat_natCast]; exact List.getElem?_eq_getElem hm)) hkv) hlk) ⟨fun e2 => ?_, fun e2 => ?_⟩))
      · refine WS.seq (W1.asgLocal F rfl (WE.of (Ev.local F rfl rfl) ⟨rfl, WS.nil ⟨rfl, WS.nil ⟨(l + h) / 2 - l, by omega, l, (l + h) / 2, rfl, by omega, by omega, rfl, ra, rx, rk, rlo, rfl, ?_⟩⟩⟩))
        rw [← hb, bis_true hlt' e2]
      · refine WS.seq (W1.asgLocal F rfl (WE.of (Ev.add (Ev.local F rfl rfl) Ev.int) ⟨rfl, WS.nil ⟨rfl, WS.nil ⟨h - ((l + h) / 2 + 1), by omega, (l + h) / 2 + 1, h, rfl, by omega, by omega, rfl, ra, rx, rk, rfl, rhi, ?_⟩⟩⟩))
        rw [← hb, bis_false hlt' e2]
    · have hge : ¬ l < h := by simpa using e
      rw [← hb, bis_cross (by omega)] at hQ
      exact ⟨rfl, WS.nil ⟨rfl, WS.cons (W1.ret (WE.of (Ev.local F rfl rlo) hQ))⟩⟩

end Mine

set_option maxHeartbeats 1000000
namespace Mine

/-! ## tables: rows in order, columns rising -/
noncomputable def Col (R S : List Int) : Prop := S.length ≤ R.length ∧ ∀ j, j < S.length → R.getD j 0 < S.getD j 0
noncomputable def RowS (R : List Int) : Prop := R.Pairwise (fun a b => a ≤ b)
noncomputable def Tb : List (List Int) → Prop
  | [] => True
  | R :: rows => RowS R ∧ (match rows with | [] => True | S :: _ => Col R S) ∧ Tb rows
theorem RowS.at {R : List Int} (h : RowS R) {i j : Nat} (hij : i ≤ j) (hj : j < R.length) : R.getD i 0 ≤ R.getD j 0 := by
  rw [List.getD_eq_getElem?_getD, List.getD_eq_getElem?_getD, List.getElem?_eq_getElem (by omega : i < R.length), List.getElem?_eq_getElem hj]
  show R[i] ≤ R[j]
  rcases Nat.lt_or_ge i j with q | q
  · exact List.pairwise_iff_getElem.mp h i j (by omega) hj q
  · have : i = j := by omega
    subst this; omega
/-- the place: what lies ahead is not greater, what lies behind is -/
theorem plc_iff {R : List Int} (h : RowS R) (b : Int) {j : Nat} (hj : j < R.length) : R.getD j 0 ≤ b ↔ j < plc R b := by
  obtain ⟨h1, h2⟩ := plc_split h b
  have e : R.getD j 0 = R[j] := by rw [List.getD_eq_getElem?_getD, List.getElem?_eq_getElem hj]; rfl
  rw [e]
  constructor
  · intro q
    rcases Nat.lt_or_ge j (plc R b) with w | w
    · exact w
    · have := h2 R[j] (by rw [List.mem_drop_iff_getElem]; exact ⟨j - plc R b, by omega, by congr 1; omega⟩)
      omega
  · intro q
    exact h1 R[j] (by rw [List.mem_take_iff_getElem]; exact ⟨j, by omega, rfl⟩)
theorem getD_set {R : List Int} {p j : Nat} {b : Int} (hp : p < R.length) : (R.set p b).getD j 0 = if j = p then b else R.getD j 0 := by
  rw [List.getD_eq_getElem?_getD, List.getElem?_set, List.getD_eq_getElem?_getD]
  by_cases q : p = j
  · subst q; simp [hp]
  · rw [if_neg q, if_neg (fun w => q w.symm)]
theorem RowS.of {R : List Int} (h : ∀ i j, i < j → j < R.length → R.getD i 0 ≤ R.getD j 0) : RowS R := by
  unfold RowS
  rw [List.pairwise_iff_getElem]
  intro i j hi hj hij
  have := h i j hij hj
  rwa [List.getD_eq_getElem?_getD, List.getD_eq_getElem?_getD, List.getElem?_eq_getElem hi, List.getElem?_eq_getElem hj] at this
theorem RowS.set {R : List Int} (h : RowS R) {b : Int} (hp : plc R b < R.length) : RowS (R.set (plc R b) b) := by
  refine RowS.of fun i j hij hj => ?_
  rw [List.length_set] at hj
  rw [getD_set hp, getD_set hp]
  split
  · next q =>
    rw [if_neg (by omega)]
    have := mt (plc_iff h b hj).mp (by omega); omega
  · split
    · next q => exact (plc_iff h b (by omega)).mpr (by omega)
    · exact h.at (by omega) hj
theorem RowS.app {R : List Int} (h : RowS R) {b : Int} (hp : plc R b = R.length) : RowS (R ++ [b]) := by
  unfold RowS
  rw [List.pairwise_append]
  refine ⟨h, by simp, fun a ha c hc => ?_⟩
  obtain ⟨h1, _⟩ := plc_split h b
  rw [hp, List.take_length] at h1
  rw [List.mem_singleton.mp hc]; exact h1 a ha
/-- a row whose number is pushed out, above the next row -/
theorem Col.bump {R S : List Int} {b : Int} (hR : RowS R) (hS : RowS S) (hc : Col R S) (hp : plc R b < R.length) :
    (plc S (R.getD (plc R b) 0) = S.length → Col (R.set (plc R b) b) (S ++ [R.getD (plc R b) 0])) ∧ (plc S (R.getD (plc R b) 0) < S.length → Col (R.set (plc R b) b) (S.set (plc S (R.getD (plc R b) 0)) (R.getD (plc R b) 0))) := by
  have hy : b < R.getD (plc R b) 0 := by have := mt (plc_iff hR b hp).mp (by omega); omega
  have hlt : ∀ j, j ≤ plc R b → (R.set (plc R b) b).getD j 0 < R.getD (plc R b) 0 := fun j hj => by
    rw [getD_set hp]
    split
    · exact hy
    · have := (plc_iff hR b (j := j) (by omega)).mpr (by omega); omega
  have hle : ∀ j, (R.set (plc R b) b).getD j 0 ≤ R.getD j 0 := fun j => by
    rw [getD_set hp]
    split
    · next q => subst q; omega
    · omega
  generalize hpp : plc R b = p at *
  generalize hyy : R.getD p 0 = y at *
  have hq : plc S y ≤ p := by
    rcases Nat.lt_or_ge p (plc S y) with w | w
    · have hps : p < S.length := by have := plc_le S y; omega
      have h1 := (plc_iff hS y hps).mpr w
      have h2 := hc.2 p hps
      omega
    · exact w
  constructor
  · intro e
    refine ⟨by rw [List.length_append, List.length_set]; simp; omega, fun j hj => ?_⟩
    rw [List.length_append] at hj
    by_cases q : j < S.length
    · have h1 := hc.2 j q
      have h2 := hle j
      have : (S ++ [y]).getD j 0 = S.getD j 0 := by rw [List.getD_eq_getElem?_getD, List.getD_eq_getElem?_getD, List.getElem?_append_left q]
      omega
    · have hj' : j = S.length := by simp at hj; omega
      have : (S ++ [y]).getD j 0 = y := by rw [hj', List.getD_eq_getElem?_getD]; simp
      have := hlt j (by omega)
      omega
  · intro e
    refine ⟨by rw [List.length_set, List.length_set]; exact hc.1, fun j hj => ?_⟩
    rw [List.length_set] at hj
    rw [getD_set e]
    split
    · next q => exact hlt j (by omega)
    · have h1 := hc.2 j hj
      have h2 := hle j
      omega
theorem putR_head (S : List Int) (rows : List (List Int)) (y : Int) : ∃ rows', (putR (S :: rows) y).1 = (if plc S y = S.length then S ++ [y] else S.set (plc S y) y) :: rows' := by
  unfold putR
  split
  · exact ⟨_, rfl⟩
  · exact ⟨_, rfl⟩
theorem Tb.put : ∀ {rows : List (List Int)} (b : Int), Tb rows → Tb (putR rows b).1
  | [], b, _ => ⟨by unfold RowS; simp, trivial, trivial⟩
  | R :: rows, b, ⟨h1, h2, h3⟩ => by
    unfold putR
    split
    · next q =>
      refine ⟨h1.app q, ?_, h3⟩
      cases rows with
      | nil => trivial
      | cons S r =>
        obtain ⟨a1, a2⟩ := h2
        refine ⟨by rw [List.length_append]; omega, fun j hj => ?_⟩
        have := a2 j hj
        rw [List.getD_eq_getElem?_getD, List.getElem?_append_left (by omega)]
        rw [List.getD_eq_getElem?_getD] at this
        exact this
    · next q =>
      have hp : plc R b < R.length := by have := plc_le R b; omega
      refine ⟨h1.set hp, ?_, Tb.put _ h3⟩
      have hy : b < R.getD (plc R b) 0 := by have := mt (plc_iff h1 b hp).mp (by omega); omega
      cases rows with
      | nil =>
        refine ⟨by rw [List.length_set]; show 1 ≤ _; omega, fun j hj => ?_⟩
        have : j = 0 := by have : j < 1 := hj; omega
        subst this
        rw [getD_set hp]
        show _ < R.getD (plc R b) 0
        split
        · exact hy
        · have := (plc_iff h1 b (j := 0) (by omega)).mpr (by omega); omega
      | cons S r =>
        obtain ⟨r', hr'⟩ := putR_head S r (R.getD (plc R b) 0)
        show (match (putR (S :: r) (R.getD (plc R b) 0)).1 with | [] => True | S' :: _ => Col (R.set (plc R b) b) S')
        rw [hr']
        have hb := Col.bump h1 h3.1 h2 hp
        show Col (R.set (plc R b) b) (if plc S (R.getD (plc R b) 0) = S.length then S ++ [R.getD (plc R b) 0] else S.set (plc S (R.getD (plc R b) 0)) (R.getD (plc R b) 0))
        split
        · next e => exact hb.1 e
        · next e => exact hb.2 (by have := plc_le S (R.getD (plc R b) 0); omega)
end Mine

set_option maxHeartbeats 1000000
namespace Mine

/-! ## Knuth's relations -/
inductive K1 : List Int → List Int → Prop
  | a (x y z : Int) (h1 : x < y) (h2 : y ≤ z) (A B : List Int) : K1 (A ++ [y, x, z] ++ B) (A ++ [y, z, x] ++ B)
  | b (x y z : Int) (h1 : x ≤ y) (h2 : y < z) (A B : List Int) : K1 (A ++ [x, z, y] ++ B) (A ++ [z, x, y] ++ B)
inductive Kn : List Int → List Int → Prop
  | refl (u) : Kn u u
  | fwd {u v w} : Kn u v → K1 v w → Kn u w
  | bwd {u v w} : Kn u v → K1 w v → Kn u w
theorem Kn.of {u v : List Int} (h : K1 u v) : Kn u v := .fwd (.refl u) h
theorem Kn.trans {u v w : List Int} (h : Kn u v) (k : Kn v w) : Kn u w := by
  induction k with
  | refl => exact h
  | fwd _ s ih => exact .fwd ih s
  | bwd _ s ih => exact .bwd ih s
theorem Kn.symm {u v : List Int} (h : Kn u v) : Kn v u := by
  induction h with
  | refl => exact .refl _
  | fwd _ s ih => exact (Kn.bwd (.refl _) s).trans ih
  | bwd _ s ih => exact (Kn.fwd (.refl _) s).trans ih
theorem K1.ctx {u v : List Int} (h : K1 u v) (C D : List Int) : K1 (C ++ u ++ D) (C ++ v ++ D) := by
  cases h with
  | a x y z h1 h2 A B =>
    have e : ∀ m : List Int, C ++ (A ++ m ++ B) ++ D = (C ++ A) ++ m ++ (B ++ D) := fun m => by simp
    rw [e, e]; exact .a x y z h1 h2 _ _
  | b x y z h1 h2 A B =>
    have e : ∀ m : List Int, C ++ (A ++ m ++ B) ++ D = (C ++ A) ++ m ++ (B ++ D) := fun m => by simp
    rw [e, e]; exact .b x y z h1 h2 _ _
theorem Kn.ctx {u v : List Int} (h : Kn u v) (C D : List Int) : Kn (C ++ u ++ D) (C ++ v ++ D) := by
  induction h with
  | refl => exact .refl _
  | fwd _ s ih => exact .fwd ih (s.ctx C D)
  | bwd _ s ih => exact .bwd ih (s.ctx C D)
theorem Kn.left {u v : List Int} (h : Kn u v) (C : List Int) : Kn (C ++ u) (C ++ v) := by have := h.ctx C []; simpa using this
theorem Kn.right {u v : List Int} (h : Kn u v) (D : List Int) : Kn (u ++ D) (v ++ D) := by have := h.ctx [] D; simpa using this
theorem Kn.perm {u v : List Int} (h : Kn u v) : u.Perm v := by
  have k1 : ∀ {u v : List Int}, K1 u v → u.Perm v := fun s => by
    cases s with
    | a x y z h1 h2 A B =>
      refine List.Perm.append_right B (List.Perm.append_left A ?_)
      exact List.Perm.cons y (List.Perm.swap z x [])
    | b x y z h1 h2 A B =>
      refine List.Perm.append_right B (List.Perm.append_left A ?_)
      exact List.Perm.swap z x [y]
  induction h with
  | refl => exact .refl _
  | fwd _ s ih => exact ih.trans (k1 s)
  | bwd _ s ih => exact ih.trans (k1 s).symm

/-! ## a letter put into a row -/
/-- x moves left past the letters behind b -/
theorem kn_left (b x : Int) (hx : x < b) : ∀ V : List Int, (∀ v ∈ V, b ≤ v) → V.Pairwise (· ≤ ·) → Kn (b :: (V ++ [x])) (b :: x :: V) := by
  intro V
  induction h : V.length generalizing V with
  | zero => intro _ _; rw [List.eq_nil_of_length_eq_zero h]; exact .refl _
  | succ n ih =>
    intro h1 h2
    obtain ⟨W, v, rfl⟩ : ∃ W v, V = W ++ [v] := ⟨V.dropLast, V.getLast (by intro q; subst q; simp at h), (List.dropLast_concat_getLast _).symm⟩
    have hW : W.length = n := by simpa using h
    have hv := h1 v (by simp)
    have ihW := ih W hW (fun w hw => h1 w (by simp [hw])) (List.pairwise_append.mp h2).1
    -- b W v x ~ b W x v ~ b x W v
    have s1 : Kn (b :: (W ++ [v] ++ [x])) (b :: (W ++ [x]) ++ [v]) := by
      rcases List.eq_nil_or_concat W with rfl | ⟨Y, y, rfl⟩
      · have := (K1.a x b v hx hv [] [])
        exact (Kn.of (by simpa using this)).symm
      · have hy : y ≤ v := (List.pairwise_append.mp h2).2.2 y (by simp) v (by simp)
        have hby : b ≤ y := h1 y (by simp)
        have := K1.a x y v (by omega) hy (b :: Y) []
        exact (Kn.of (by simpa using this)).symm
    have s2 : Kn (b :: (W ++ [x]) ++ [v]) (b :: x :: W ++ [v]) := ihW.right [v]
    exact s1.trans (by simpa using s2)
/-- b moves left past the letters not greater than x -/
theorem kn_bump (b x : Int) (hx : x < b) : ∀ U : List Int, (∀ u ∈ U, u ≤ x) → U.Pairwise (· ≤ ·) → Kn (U ++ [b, x]) (b :: (U ++ [x])) := by
  intro U
  induction h : U.length generalizing U x with
  | zero => intro _ _; rw [List.eq_nil_of_length_eq_zero h]; exact .refl _
  | succ n ih =>
    intro h1 h2
    obtain ⟨W, u, rfl⟩ : ∃ W v, U = W ++ [v] := ⟨U.dropLast, U.getLast (by intro q; subst q; simp at h), (List.dropLast_concat_getLast _).symm⟩
    have hW : W.length = n := by simpa using h
    have hu := h1 u (by simp)
    -- W u b x ~ W b u x ~ b W u x
    have s1 : Kn (W ++ [u] ++ [b, x]) (W ++ [b, u] ++ [x]) := by
      have := K1.b u x b hu hx W []
      exact Kn.of (by simpa using this)
    have s2 := (ih u (by omega) W hW (fun w hw => (List.pairwise_append.mp h2).2.2 w hw u (by simp)) (List.pairwise_append.mp h2).1).right [x]
    exact s1.trans (by simpa using s2)
theorem kn_row (U V : List Int) (b x : Int) (hx : x < b) (hU : ∀ u ∈ U, u ≤ x) (hV : ∀ v ∈ V, b ≤ v) (sU : U.Pairwise (· ≤ ·)) (sV : V.Pairwise (· ≤ ·)) : Kn (U ++ b :: V ++ [x]) (b :: (U ++ x :: V)) := by
  have s1 := (kn_left b x hx V hV sV).left U
  have s2 := (kn_bump b x hx U hU sU).right V
  refine Kn.trans (v := U ++ b :: x :: V) (by simpa using s1) (by simpa using s2)
noncomputable def rw_ : List (List Int) → List Int
  | [] => []
  | R :: rows => rw_ rows ++ R
theorem kn_put : ∀ (rows : List (List Int)) (x : Int), (∀ R ∈ rows, RowS R) → Kn (rw_ rows ++ [x]) (rw_ (putR rows x).1)
  | [], x, _ => .refl _
  | R :: rows, x, h => by
    have hR := h R (by simp)
    unfold putR
    split
    · show Kn (rw_ rows ++ R ++ [x]) (rw_ rows ++ (R ++ [x]))
      rw [List.append_assoc]; exact .refl _
    · next hp =>
      have hlt : plc R x < R.length := by have := plc_le R x; omega
      obtain ⟨h1, h2⟩ := plc_split hR x
      have hb : R.getD (plc R x) 0 = R[plc R x] := by rw [List.getD_eq_getElem?_getD, List.getElem?_eq_getElem hlt]; rfl
      have hd : R.drop (plc R x) = R[plc R x] :: R.drop (plc R x + 1) := List.drop_eq_getElem_cons hlt
      have hspl : R = R.take (plc R x) ++ R[plc R x] :: R.drop (plc R x + 1) := by rw [← hd, List.take_append_drop]
      have sR : (R.take (plc R x) ++ R[plc R x] :: R.drop (plc R x + 1)).Pairwise (· ≤ ·) := by rw [← hspl]; exact hR
      obtain ⟨p1, p2, p3⟩ := List.pairwise_append.mp sR
      have hk := kn_row (R.take (plc R x)) (R.drop (plc R x + 1)) R[plc R x] x (h2 _ (hd ▸ List.mem_cons_self ..)) h1 (fun v hv => (List.pairwise_cons.mp p2).1 v hv) p1 (List.pairwise_cons.mp p2).2
      rw [← hspl] at hk
      have ih := kn_put rows (R.getD (plc R x) 0) fun S hS => h S (by simp [hS])
      show Kn (rw_ rows ++ R ++ [x]) (rw_ (putR rows (R.getD (plc R x) 0)).1 ++ R.set (plc R x) x)
      rw [set_split hlt]
      have s1 := hk.left (rw_ rows)
      have s2 := ih.right (R.take (plc R x) ++ x :: R.drop (plc R x + 1))
      refine Kn.trans (v := rw_ rows ++ [R.getD (plc R x) 0] ++ (R.take (plc R x) ++ x :: R.drop (plc R x + 1))) ?_ s2
      rw [hb]
      simpa using s1

/-! ## the least letter taken out -/
theorem k1_erase {u v : List Int} (h : K1 u v) {m : Int} (hm : ∀ c ∈ u, m ≤ c) : Kn (u.erase m) (v.erase m) := by
  cases h with
  | a x y z h1 h2 A B =>
    by_cases hA : m ∈ A
    · rw [List.append_assoc, List.append_assoc, List.erase_append_left _ hA, List.erase_append_left _ hA, ← List.append_assoc, ← List.append_assoc]
      exact .of (.a x y z h1 h2 _ _)
    · rw [List.append_assoc, List.append_assoc, List.erase_append_right _ hA, List.erase_append_right _ hA]
      have hy : m ≤ x := hm x (by simp)
      by_cases hx : m = x
      · subst hx
        have e1 : ([y, m, z] ++ B).erase m = [y, z] ++ B := by
          show (y :: m :: z :: B).erase m = _
          rw [List.erase_cons_tail (by simp; omega), List.erase_cons_head]; rfl
        have e2 : ([y, z, m] ++ B).erase m = [y, z] ++ B := by
          show (y :: z :: m :: B).erase m = _
          rw [List.erase_cons_tail (by simp; omega), List.erase_cons_tail (by simp; omega), List.erase_cons_head]; rfl
        rw [e1, e2]; exact .refl _
      · have n1 : m ∉ [y, x, z] := by simp; omega
        have n2 : m ∉ [y, z, x] := by simp; omega
        rw [List.erase_append_right _ n1, List.erase_append_right _ n2, ← List.append_assoc, ← List.append_assoc]
        exact .of (.a x y z h1 h2 _ _)
  | b x y z h1 h2 A B =>
    by_cases hA : m ∈ A
    · rw [List.append_assoc, List.append_assoc, List.erase_append_left _ hA, List.erase_append_left _ hA, ← List.append_assoc, ← List.append_assoc]
      exact .of (.b x y z h1 h2 _ _)
    · rw [List.append_assoc, List.append_assoc, List.erase_append_right _ hA, List.erase_append_right _ hA]
      have hy : m ≤ x := hm x (by simp)
      by_cases hx : m = x
      · subst hx
        have e1 : ([m, z, y] ++ B).erase m = [z, y] ++ B := by
          show (m :: z :: y :: B).erase m = _
          rw [List.erase_cons_head]; rfl
        have e2 : ([z, m, y] ++ B).erase m = [z, y] ++ B := by
          show (z :: m :: y :: B).erase m = _
          rw [List.erase_cons_tail (by simp; omega), List.erase_cons_head]; rfl
        rw [e1, e2]; exact .refl _
      · have n1 : m ∉ [x, z, y] := by simp; omega
        have n2 : m ∉ [z, x, y] := by simp; omega
        rw [List.erase_append_right _ n1, List.erase_append_right _ n2, ← List.append_assoc, ← List.append_assoc]
        exact .of (.b x y z h1 h2 _ _)
theorem Kn.erase {u v : List Int} (h : Kn u v) {m : Int} (hm : ∀ c ∈ u, m ≤ c) : Kn (u.erase m) (v.erase m) := by
  induction h with
  | refl => exact .refl _
  | fwd k s ih => exact ih.trans (k1_erase s fun c hc => hm c (k.perm.mem_iff.mpr hc))
  | bwd k s ih => exact ih.trans (k1_erase s fun c hc => hm c ((k.perm.trans (Kn.of s).perm.symm).mem_iff.mpr hc)).symm
end Mine

set_option maxHeartbeats 1000000
namespace Mine

/-! ## colours: each one weakly rising -/
noncomputable abbrev CP := Int × Nat
noncomputable def Rk (k : Nat) (p q : CP) : Prop := p.2 = q.2 → p.2 < k → p.1 ≤ q.1
noncomputable def cnt (k : Nat) (cw : List CP) : Nat := cw.countP fun p => decide (p.2 < k)
noncomputable def Clr (k : Nat) (u : List Int) (n : Nat) : Prop := ∃ cw : List CP, cw.map (·.1) = u ∧ cw.Pairwise (Rk k) ∧ cnt k cw = n
theorem pw3 {k : Nat} {a b c : CP} : [a, b, c].Pairwise (Rk k) ↔ Rk k a b ∧ Rk k a c ∧ Rk k b c := by
  simp [List.pairwise_cons]; constructor
  · rintro ⟨⟨h1, h2⟩, h3⟩; exact ⟨h1, h2, h3⟩
  · rintro ⟨h1, h2, h3⟩; exact ⟨⟨h1, h2⟩, h3⟩
theorem clr_step {k : Nat} {cA M M' cB : List CP} (f : Nat → Nat) (hf1 : ∀ c, f c < k ↔ c < k) (hf2 : ∀ c d, f c = f d → c = d) (h : (cA ++ M ++ cB).Pairwise (Rk k)) (hM : M'.Pairwise (Rk k))
    (hAM : ∀ p ∈ cA, ∀ q ∈ M', Rk k p q) (hMB : ∀ p ∈ M', ∀ q ∈ cB, Rk k p (q.1, f q.2)) (hAB : ∀ p ∈ cA, ∀ q ∈ cB, Rk k p (q.1, f q.2)) (hc : cnt k M' = cnt k M) :
    (cA ++ M' ++ cB.map fun q => (q.1, f q.2)).Pairwise (Rk k) ∧ cnt k (cA ++ M' ++ cB.map fun q => (q.1, f q.2)) = cnt k (cA ++ M ++ cB) := by
  obtain ⟨h1, h2, h3⟩ := List.pairwise_append.mp h
  obtain ⟨h4, h5, h6⟩ := List.pairwise_append.mp h1
  refine ⟨?_, ?_⟩
  · rw [List.pairwise_append, List.pairwise_append]
    refine ⟨⟨h4, hM, hAM⟩, ?_, ?_⟩
    · rw [List.pairwise_map]
      exact List.Pairwise.imp (fun {a b} e q1 q2 => e (hf2 _ _ q1) ((hf1 _).mp q2)) h2
    · intro p hp q' hq'
      obtain ⟨q, hq, rfl⟩ := List.mem_map.mp hq'
      rcases List.mem_append.mp hp with hp | hp
      · exact hAB p hp q hq
      · exact hMB p hp q hq
  · unfold cnt at *
    simp only [List.countP_append, List.countP_map]
    rw [hc]
    congr 1
    apply List.countP_congr
    intro p _
    simp [hf1]
noncomputable def sw (i j c : Nat) : Nat := if c = i then j else if c = j then i else c
theorem sw_lt {i j k : Nat} (hi : i < k) (hj : j < k) (c : Nat) : sw i j c < k ↔ c < k := by unfold sw; split <;> (try split) <;> omega
theorem sw_inj {i j c d : Nat} (h : sw i j c = sw i j d) : c = d := by
  unfold sw at h
  by_cases h1 : c = i <;> by_cases h2 : d = i <;> by_cases h3 : c = j <;> by_cases h4 : d = j <;> simp_all
theorem split3 {cw : List CP} {A B : List Int} {x y z : Int} (h : cw.map (·.1) = A ++ [x, y, z] ++ B) : ∃ cA a b c cB, cw = cA ++ [(x, a), (y, b), (z, c)] ++ cB ∧ cA.map (·.1) = A ∧ cB.map (·.1) = B := by
  obtain ⟨l, cB, rfl, h1, h2⟩ := List.map_eq_append_iff.mp h
  obtain ⟨cA, m, rfl, h3, h4⟩ := List.map_eq_append_iff.mp h1
  match m, h4 with
  | [p, q, r], h4 =>
    simp only [List.map_cons, List.map_nil, List.cons.injEq] at h4
    obtain ⟨e1, e2, e3, _⟩ := h4
    refine ⟨cA, p.2, q.2, r.2, cB, ?_, h3, h2⟩
    rw [← e1, ← e2, ← e3]
theorem map_sw (f : Nat → Nat) (cB : List CP) : (cB.map fun q => ((q.1, f q.2) : CP)).map (·.1) = cB.map (·.1) := by rw [List.map_map]; rfl
theorem fin_step {k : Nat} {A B : List Int} {M' : List CP} {N : List Int} {cA M cB : List CP} {n : Nat} (f : Nat → Nat) (hf1 : ∀ c, f c < k ↔ c < k) (hf2 : ∀ c d, f c = f d → c = d) (h : (cA ++ M ++ cB).Pairwise (Rk k)) (hn : cnt k (cA ++ M ++ cB) = n) (eA : cA.map (·.1) = A) (eB : cB.map (·.1) = B) (eN : M'.map (·.1) = N) (hM : M'.Pairwise (Rk k))
    (hAM : ∀ p ∈ cA, ∀ q ∈ M', Rk k p q) (hMB : ∀ p ∈ M', ∀ q ∈ cB, Rk k p (q.1, f q.2)) (hAB : ∀ p ∈ cA, ∀ q ∈ cB, Rk k p (q.1, f q.2)) (hc : cnt k M' = cnt k M) : Clr k (A ++ N ++ B) n := by
  obtain ⟨r1, r2⟩ := clr_step f hf1 hf2 h hM hAM hMB hAB hc
  exact ⟨_, by rw [List.map_append, List.map_append, map_sw, eA, eB, eN], r1, r2.trans hn⟩
theorem clr_k1 {u v : List Int} (h : K1 u v) {k n : Nat} : Clr k u n ↔ Clr k v n := by
  cases h with
  | a x y z h1 h2 A B =>
    constructor
    · rintro ⟨cw, e, hp, hn⟩
      obtain ⟨cA, a, b, c, cB, rfl, eA, eB⟩ := split3 e
      obtain ⟨p1, p2, p3⟩ := List.pairwise_append.mp hp
      obtain ⟨p4, p5, p6⟩ := List.pairwise_append.mp p1
      obtain ⟨q1, q2, q3⟩ := pw3.mp p5
      have mA : ∀ p ∈ cA, Rk k p (y, a) ∧ Rk k p (x, b) ∧ Rk k p (z, c) := fun p hp => ⟨p6 p hp _ (by simp), p6 p hp _ (by simp), p6 p hp _ (by simp)⟩
      have mB : ∀ q ∈ cB, Rk k (y, a) q ∧ Rk k (x, b) q ∧ Rk k (z, c) q := fun q hq => ⟨p3 _ (by simp) q hq, p3 _ (by simp) q hq, p3 _ (by simp) q hq⟩
      have mAB : ∀ p ∈ cA, ∀ q ∈ cB, Rk k p q := fun p hp q hq => p3 p (by simp [hp]) q hq
      by_cases hbc : b = c ∧ b < k
      · obtain ⟨rfl, hb⟩ := hbc
        have hab : a ≠ b := fun e => by have := q1 e (by rw [show ((y, a) : CP).2 = a from rfl, e]; exact hb); simp at this; omega
        by_cases ha : a < k
        · refine fin_step (M' := [(y, a), (z, a), (x, b)]) (sw a b) (sw_lt ha hb) (fun _ _ => sw_inj) hp hn eA eB rfl (pw3.mpr ⟨fun _ _ => h2, fun e _ => absurd e hab, fun e _ => absurd e hab⟩) (fun p hp q hq => ?_) (fun p hp q hq => ?_) (fun p hp q hq => ?_) (by simp [cnt, ha, hb])
          · obtain ⟨m1, m2, m3⟩ := mA p hp
            simp only [List.mem_cons, List.not_mem_nil, or_false] at hq
            rcases hq with rfl | rfl | rfl
            · exact m1
            · intro e1 e2; have := m1 e1 e2; simp at this ⊢; omega
            · exact m2
          · obtain ⟨m1, m2, m3⟩ := mB q hq
            simp only [List.mem_cons, List.not_mem_nil, or_false] at hp
            have key : ∀ w : Int, w ≤ z → Rk k (w, a) (q.1, sw a b q.2) := fun w hw e1 e2 => by
              have e1' : a = sw a b q.2 := e1
              unfold sw at e1'
              split at e1'
              · exact absurd e1' hab
              · split at e1'
                · next e3 => have := m3 e3.symm hb; simp at this ⊢; omega
                · next e3 e4 => exact absurd e1'.symm e3
            rcases hp with rfl | rfl | rfl
            · exact key y h2
            · exact key z (Int.le_refl _)
            · intro e1 e2
              have e1' : b = sw a b q.2 := e1
              unfold sw at e1'
              split at e1'
              · next e3 => have := m1 e3.symm ha; simp at this ⊢; omega
              · split at e1'
                · exact absurd e1'.symm hab
                · next e3 e4 => exact absurd e1'.symm e4
          · obtain ⟨m1, m2, m3⟩ := mA p hp
            obtain ⟨l1, l2, l3⟩ := mB q hq
            intro e1 e2
            have e1' : p.2 = sw a b q.2 := e1
            unfold sw at e1'
            split at e1'
            · next e3 => have := m2 e1' e2; have := l1 e3.symm ha; simp at *; omega
            · split at e1'
              · next e3 => have := m1 e1' e2; have := l3 e3.symm hb; simp at *; omega
              · exact mAB p hp q hq e1' e2
        · refine fin_step (M' := [(y, b), (z, b), (x, k)]) id (fun _ => Iff.rfl) (fun _ _ e => e) hp hn eA eB rfl (pw3.mpr ⟨fun _ _ => h2, fun e _ => by simp at e; omega, fun e _ => by simp at e; omega⟩) (fun p hp q hq => ?_) (fun p hp q hq => ?_) mAB (by simp [cnt, ha, hb])
          · obtain ⟨m1, m2, m3⟩ := mA p hp
            simp only [List.mem_cons, List.not_mem_nil, or_false] at hq
            rcases hq with rfl | rfl | rfl
            · intro e1 e2; have := m2 e1 e2; simp at this ⊢; omega
            · exact m3
            · intro e1 e2; simp at e1; omega
          · obtain ⟨m1, m2, m3⟩ := mB q hq
            simp only [List.mem_cons, List.not_mem_nil, or_false] at hp
            rcases hp with rfl | rfl | rfl
            · intro e1 e2; have := m3 e1 e2; simp at this ⊢; omega
            · exact m3
            · intro e1 e2; simp at e2
      · refine fin_step (M' := [(y, a), (z, c), (x, b)]) id (fun _ => Iff.rfl) (fun _ _ e => e) hp hn eA eB rfl (pw3.mpr ⟨q2, q1, fun e1 e2 => absurd ⟨e1.symm, by rw [← show c = b from e1]; exact e2⟩ hbc⟩) (fun p hp q hq => ?_) (fun p hp q hq => ?_) mAB (by simp only [cnt, List.countP_cons, List.countP_nil]; omega)
        · obtain ⟨m1, m2, m3⟩ := mA p hp
          simp only [List.mem_cons, List.not_mem_nil, or_false] at hq
          rcases hq with rfl | rfl | rfl <;> assumption
        · obtain ⟨m1, m2, m3⟩ := mB q hq
          simp only [List.mem_cons, List.not_mem_nil, or_false] at hp
          rcases hp with rfl | rfl | rfl <;> assumption
    · rintro ⟨cw, e, hp, hn⟩
      obtain ⟨cA, a, c, b, cB, rfl, eA, eB⟩ := split3 e
      obtain ⟨p1, p2, p3⟩ := List.pairwise_append.mp hp
      obtain ⟨p4, p5, p6⟩ := List.pairwise_append.mp p1
      obtain ⟨q1, q2, q3⟩ := pw3.mp p5
      refine fin_step (M' := [(y, a), (x, b), (z, c)]) id (fun _ => Iff.rfl) (fun _ _ e => e) hp hn eA eB rfl (pw3.mpr ⟨q2, q1, fun e1 e2 => by have := q3 e1.symm (by rw [show ((z, c) : CP).2 = c from rfl, ← show b = c from e1]; exact e2); simp at this; omega⟩) (fun p hp q hq => p6 p hp q (by simp at hq ⊢; rcases hq with h | h | h <;> simp [h])) (fun p hp q hq => p3 p (by simp at hp ⊢; rcases hp with h | h | h <;> simp [h]) q hq) (fun p hp q hq => p3 p (by simp [hp]) q hq) (by simp only [cnt, List.countP_cons, List.countP_nil]; omega)
  | b x y z h1 h2 A B =>
    constructor
    · rintro ⟨cw, e, hp, hn⟩
      obtain ⟨cA, b, c, a, cB, rfl, eA, eB⟩ := split3 e
      obtain ⟨p1, p2, p3⟩ := List.pairwise_append.mp hp
      obtain ⟨p4, p5, p6⟩ := List.pairwise_append.mp p1
      obtain ⟨q1, q2, q3⟩ := pw3.mp p5
      have mA : ∀ p ∈ cA, Rk k p (x, b) ∧ Rk k p (z, c) ∧ Rk k p (y, a) := fun p hp => ⟨p6 p hp _ (by simp), p6 p hp _ (by simp), p6 p hp _ (by simp)⟩
      have mB : ∀ q ∈ cB, Rk k (x, b) q ∧ Rk k (z, c) q ∧ Rk k (y, a) q := fun q hq => ⟨p3 _ (by simp) q hq, p3 _ (by simp) q hq, p3 _ (by simp) q hq⟩
      have mAB : ∀ p ∈ cA, ∀ q ∈ cB, Rk k p q := fun p hp q hq => p3 p (by simp [hp]) q hq
      by_cases hbc : b = c ∧ b < k
      · obtain ⟨rfl, hb⟩ := hbc
        have hab : a ≠ b := fun e => by have := q3 e.symm hb; simp at this; omega
        by_cases ha : a < k
        · refine fin_step (M' := [(z, a), (x, b), (y, b)]) (sw a b) (sw_lt ha hb) (fun _ _ => sw_inj) hp hn eA eB rfl (pw3.mpr ⟨fun e _ => absurd e hab, fun e _ => absurd e hab, fun _ _ => h1⟩) (fun p hp q hq => ?_) (fun p hp q hq => ?_) (fun p hp q hq => ?_) (by simp [cnt, ha, hb])
          · obtain ⟨m1, m2, m3⟩ := mA p hp
            simp only [List.mem_cons, List.not_mem_nil, or_false] at hq
            rcases hq with rfl | rfl | rfl
            · intro e1 e2; have := m3 e1 e2; simp at this ⊢; omega
            · exact m1
            · intro e1 e2; have := m1 e1 e2; simp at this ⊢; omega
          · obtain ⟨m1, m2, m3⟩ := mB q hq
            simp only [List.mem_cons, List.not_mem_nil, or_false] at hp
            have key : ∀ w : Int, w ≤ y → Rk k (w, b) (q.1, sw a b q.2) := fun w hw e1 e2 => by
              have e1' : b = sw a b q.2 := e1
              unfold sw at e1'
              split at e1'
              · next e3 => have := m3 e3.symm ha; simp at this ⊢; omega
              · split at e1'
                · exact absurd e1'.symm hab
                · next e3 e4 => exact absurd e1'.symm e4
            rcases hp with rfl | rfl | rfl
            · intro e1 e2
              have e1' : a = sw a b q.2 := e1
              unfold sw at e1'
              split at e1'
              · exact absurd e1' hab
              · split at e1'
                · next e3 => have := m2 e3.symm hb; simp at this ⊢; omega
                · next e3 e4 => exact absurd e1'.symm e3
            · exact key x h1
            · exact key y (Int.le_refl _)
          · obtain ⟨m1, m2, m3⟩ := mA p hp
            obtain ⟨l1, l2, l3⟩ := mB q hq
            intro e1 e2
            have e1' : p.2 = sw a b q.2 := e1
            unfold sw at e1'
            split at e1'
            · next e3 => have := m1 e1' e2; have := l3 e3.symm ha; simp at *; omega
            · split at e1'
              · next e3 => have := m3 e1' e2; have := l2 e3.symm hb; simp at *; omega
              · exact mAB p hp q hq e1' e2
        · refine fin_step (M' := [(z, k), (x, b), (y, b)]) id (fun _ => Iff.rfl) (fun _ _ e => e) hp hn eA eB rfl (pw3.mpr ⟨fun _ e => by simp at e, fun _ e => by simp at e, fun _ _ => h1⟩) (fun p hp q hq => ?_) (fun p hp q hq => ?_) mAB (by simp [cnt, ha, hb])
          · obtain ⟨m1, m2, m3⟩ := mA p hp
            simp only [List.mem_cons, List.not_mem_nil, or_false] at hq
            rcases hq with rfl | rfl | rfl
            · intro e1 e2; simp at e1; omega
            · exact m1
            · intro e1 e2; have := m1 e1 e2; simp at this ⊢; omega
          · obtain ⟨m1, m2, m3⟩ := mB q hq
            simp only [List.mem_cons, List.not_mem_nil, or_false] at hp
            rcases hp with rfl | rfl | rfl
            · intro e1 e2; simp at e2
            · exact m1
            · intro e1 e2; have := m2 e1 e2; simp at this ⊢; omega
      · refine fin_step (M' := [(z, c), (x, b), (y, a)]) id (fun _ => Iff.rfl) (fun _ _ e => e) hp hn eA eB rfl (pw3.mpr ⟨fun e1 e2 => absurd ⟨e1.symm, by rw [← show c = b from e1]; exact e2⟩ hbc, q3, q2⟩) (fun p hp q hq => ?_) (fun p hp q hq => ?_) mAB (by simp only [cnt, List.countP_cons, List.countP_nil]; omega)
        · obtain ⟨m1, m2, m3⟩ := mA p hp
          simp only [List.mem_cons, List.not_mem_nil, or_false] at hq
          rcases hq with rfl | rfl | rfl <;> assumption
        · obtain ⟨m1, m2, m3⟩ := mB q hq
          simp only [List.mem_cons, List.not_mem_nil, or_false] at hp
          rcases hp with rfl | rfl | rfl <;> assumption
    · rintro ⟨cw, e, hp, hn⟩
      obtain ⟨cA, c, b, a, cB, rfl, eA, eB⟩ := split3 e
      obtain ⟨p1, p2, p3⟩ := List.pairwise_append.mp hp
      obtain ⟨p4, p5, p6⟩ := List.pairwise_append.mp p1
      obtain ⟨q1, q2, q3⟩ := pw3.mp p5
      refine fin_step (M' := [(x, b), (z, c), (y, a)]) id (fun _ => Iff.rfl) (fun _ _ e => e) hp hn eA eB rfl (pw3.mpr ⟨fun e1 e2 => by have := q1 e1.symm (by rw [show ((z, c) : CP).2 = c from rfl, ← show b = c from e1]; exact e2); simp at this; omega, q3, q2⟩) (fun p hp q hq => p6 p hp q (by simp at hq ⊢; rcases hq with h | h | h <;> simp [h])) (fun p hp q hq => p3 p (by simp at hp ⊢; rcases hp with h | h | h <;> simp [h]) q hq) (fun p hp q hq => p3 p (by simp [hp]) q hq) (by simp only [cnt, List.countP_cons, List.countP_nil]; omega)
theorem clr_kn {u v : List Int} (h : Kn u v) {k n : Nat} : Clr k u n ↔ Clr k v n := by
  induction h with
  | refl => exact Iff.rfl
  | fwd _ s ih => exact ih.trans (clr_k1 s)
  | bwd _ s ih => exact ih.trans (clr_k1 s).symm
noncomputable def star (u : List Int) : List Int := (u.map fun x => -x).reverse
theorem star_star (u : List Int) : star (star u) = u := by
  unfold star
  rw [List.map_reverse, List.reverse_reverse, List.map_map, show ((fun x : Int => -x) ∘ fun x => -x) = id from by funext x; simp, List.map_id]
theorem clr_star1 {u : List Int} {k n : Nat} (h : Clr k u n) : Clr k (star u) n := by
  obtain ⟨cw, rfl, hp, hn⟩ := h
  refine ⟨(cw.map fun p => ((-p.1, p.2) : CP)).reverse, ?_, ?_, ?_⟩
  · unfold star; simp
  · rw [List.pairwise_reverse, List.pairwise_map]
    exact List.Pairwise.imp (fun {a b} e q1 q2 => by have := e q1.symm (by rw [← show b.2 = a.2 from q1]; exact q2); simp; omega) hp
  · unfold cnt at *
    rw [List.countP_reverse, List.countP_map, ← hn]; rfl
theorem clr_star {u : List Int} {k n : Nat} : Clr k (star u) n ↔ Clr k u n := ⟨fun h => by have := clr_star1 h; rwa [star_star] at this, clr_star1⟩
end Mine

set_option maxHeartbeats 1000000
namespace Mine

/-! ## a table's first k rows -/
noncomputable def rwg {α : Type} : List (List α) → List α
  | [] => []
  | R :: rows => rwg rows ++ R
theorem rw_rwg : ∀ T : List (List Int), rw_ T = rwg T
  | [] => rfl
  | R :: rows => by show rw_ rows ++ R = rwg rows ++ R; rw [rw_rwg rows]
noncomputable def hdg {α : Type} : List (List α) → List α
  | [] => []
  | R :: rows => hdg rows ++ R.head?.toList
noncomputable def L_ (k : Nat) (T : List (List Int)) : Nat := ((T.take k).map List.length).sum
theorem rwg_map {α β : Type} (f : α → β) : ∀ T : List (List α), (rwg T).map f = rwg (T.map (List.map f))
  | [] => rfl
  | R :: rows => by simp only [rwg, List.map_append, List.map_cons, rwg_map f rows]
theorem hdg_map {α β : Type} (f : α → β) : ∀ T : List (List α), (hdg T).map f = hdg (T.map (List.map f))
  | [] => rfl
  | R :: rows => by
    simp only [hdg, List.map_append, List.map_cons, hdg_map f rows]
    congr 1
    cases R <;> rfl
theorem hdg_sub {α : Type} : ∀ T : List (List α), (hdg T).Sublist (rwg T)
  | [] => List.Sublist.refl _
  | R :: rows => List.Sublist.append (hdg_sub rows) (by cases R <;> simp)
theorem tl_sub {α : Type} : ∀ T : List (List α), (rwg (T.map List.tail)).Sublist (rwg T)
  | [] => List.Sublist.refl _
  | R :: rows => List.Sublist.append (tl_sub rows) (List.tail_sublist R)
theorem rwg_cnt {α : Type} (p : α → Bool) : ∀ T : List (List α), (rwg T).countP p = (hdg T).countP p + (rwg (T.map List.tail)).countP p
  | [] => rfl
  | R :: rows => by
    simp only [rwg, hdg, List.map_cons, List.countP_append, rwg_cnt p rows]
    cases R with
    | nil => simp
    | cons a r => simp only [List.head?_cons, Option.toList_some, List.tail_cons, List.countP_cons, List.countP_nil]; omega
/-- a word over a table's reading is a table of such words -/
theorem split_rwg {β : Type} (f : β → Int) : ∀ (T : List (List Int)) (cw : List β), cw.map f = rwg T → ∃ cT : List (List β), cT.map (List.map f) = T ∧ cw = rwg cT
  | [], cw, h => ⟨[], rfl, by simpa [rwg] using h⟩
  | R :: rows, cw, h => by
    obtain ⟨a, b, rfl, h1, h2⟩ := List.map_eq_append_iff.mp h
    obtain ⟨cT, e1, e2⟩ := split_rwg f rows a h1
    exact ⟨b :: cT, by rw [List.map_cons, e1, h2], by rw [e2]; rfl⟩
theorem Tb.tail {T : List (List Int)} (h : Tb T) : Tb (T.map List.tail) := by
  induction T with
  | nil => trivial
  | cons R rows ih =>
    obtain ⟨h1, h2, h3⟩ := h
    refine ⟨List.Pairwise.sublist (List.tail_sublist R) h1, ?_, ih h3⟩
    cases rows with
    | nil => trivial
    | cons S rest =>
      obtain ⟨c1, c2⟩ := h2
      refine ⟨by simp; omega, fun j hj => ?_⟩
      have hj' : j + 1 < S.length := by simp at hj; omega
      have := c2 (j + 1) hj'
      simpa [List.getD_eq_getElem?_getD] using this
/-- the heads fall from the last row to the first -/
theorem heads_fall : ∀ T : List (List Int), Tb T → (hdg T).Pairwise (· > ·) ∧ ∀ R rest, T = R :: rest → ∀ a ∈ hdg rest, ∃ b r, R = b :: r ∧ b < a
  | [], _ => ⟨List.Pairwise.nil, fun _ _ e => by cases e⟩
  | R :: rows, h => by
    obtain ⟨h1, h2, h3⟩ := h
    obtain ⟨i1, i2⟩ := heads_fall rows h3
    have key : ∀ a ∈ hdg rows, ∃ b r, R = b :: r ∧ b < a := by
      cases rows with
      | nil => intro a ha; simp [hdg] at ha
      | cons S rest =>
        intro a ha
        obtain ⟨c1, c2⟩ := h2
        have hS : ∃ c s, S = c :: s ∧ c ≤ a := by
          rcases List.mem_append.mp ha with q | q
          · obtain ⟨c, s, e1, e2⟩ := i2 S rest rfl a q
            exact ⟨c, s, e1, by omega⟩
          · cases S with
            | nil => simp at q
            | cons c s => exact ⟨c, s, rfl, by simp at q; omega⟩
        obtain ⟨c, s, rfl, hc⟩ := hS
        cases R with
        | nil => simp at c1
        | cons b r =>
          have := c2 0 (by simp)
          simp at this
          exact ⟨b, r, rfl, by omega⟩
    refine ⟨?_, fun R' rest e a ha => by cases e; exact key a ha⟩
    show (hdg rows ++ R.head?.toList).Pairwise _
    rw [List.pairwise_append]
    refine ⟨i1, by cases R <;> simp, fun a ha b hb => ?_⟩
    obtain ⟨c, r, rfl, hc⟩ := key a ha
    simp at hb; omega
theorem hdg_len {α : Type} : ∀ T : List (List α), (hdg T).length = T.countP fun R => !R.isEmpty
  | [] => rfl
  | R :: rows => by
    simp only [hdg, List.length_append, hdg_len rows, List.countP_cons]
    cases R <;> simp
theorem nonempty_pre : ∀ (T : List (List Int)), Tb T → ∀ k, min k (T.countP fun R => !R.isEmpty) ≤ (T.take k).countP fun R => !R.isEmpty
  | [], _, k => by simp
  | R :: rows, h, k => by
    obtain ⟨h1, h2, h3⟩ := h
    cases k with
    | zero => simp
    | succ k =>
      have ih := nonempty_pre rows h3 k
      rw [List.take_succ_cons, List.countP_cons, List.countP_cons]
      cases R with
      | nil =>
        have : rows.countP (fun R => !R.isEmpty) = 0 := by
          clear ih
          induction rows with
          | nil => rfl
          | cons S rest ihr =>
            obtain ⟨c1, c2⟩ := h2
            have hS : S = [] := List.eq_nil_of_length_eq_zero (by simpa using c1)
            subst hS
            rw [List.countP_cons, ihr h3.2.2 h3.2.1]; rfl
        rw [this]; simp
      | cons b r => simp; omega
theorem L_tail (k : Nat) : ∀ T : List (List Int), L_ k T = L_ k (T.map List.tail) + (T.take k).countP fun R => !R.isEmpty := by
  induction k with
  | zero => intro T; simp [L_]
  | succ k ih =>
    intro T
    cases T with
    | nil => simp [L_]
    | cons R rows =>
      have := ih rows
      unfold L_ at *
      simp only [List.map_cons, List.take_succ_cons, List.sum_cons, List.countP_cons]
      rw [this]
      cases R with
      | nil => simp
      | cons b r => simp; omega
/-- of a falling word each colour has one letter -/
theorem fall_cnt {k : Nat} : ∀ cw : List CP, cw.Pairwise (Rk k) → (cw.map (·.1)).Pairwise (· > ·) → cnt k cw ≤ k := by
  intro cw h1 h2
  have hnd : ((cw.filter fun p => decide (p.2 < k)).map (·.2)).Nodup := by
    rw [List.pairwise_map] at h2
    unfold List.Nodup
    rw [List.pairwise_map]
    have h3 := (List.Pairwise.and h1 h2).filter (fun p => decide (p.2 < k))
    refine List.Pairwise.imp_of_mem (fun {a b} ha hb e q => ?_) h3
    have hk : a.2 < k := by simpa using (List.mem_filter.mp ha).2
    have := e.1 q hk
    have := e.2
    omega
  have hsub : ((cw.filter fun p => decide (p.2 < k)).map (·.2)).length ≤ (List.range k).length := by
    have hs : ∀ {a b : List Nat}, a.Nodup → (∀ x ∈ a, x ∈ b) → a.length ≤ b.length := by
      intro a
      induction a with
      | nil => intro b _ _; exact Nat.zero_le _
      | cons x a ih =>
        intro b hn hs
        have hx := hs x (List.mem_cons_self ..)
        have := ih (b := b.erase x) (List.nodup_cons.mp hn).2 fun y hy => by
          have hne : y ≠ x := fun e => (List.nodup_cons.mp hn).1 (by rw [← e]; exact hy)
          exact (List.mem_erase_of_ne hne).mpr (hs y (List.mem_cons_of_mem _ hy))
        rw [List.length_erase_of_mem hx] at this
        have := List.length_pos_of_mem hx
        simp; omega
    refine hs hnd fun x hx => ?_
    obtain ⟨p, hp, rfl⟩ := List.mem_map.mp hx
    simpa using (List.mem_filter.mp hp).2
  rw [List.length_map, List.length_range, ← List.countP_eq_length_filter] at hsub
  exact hsub
/-- not more than the first k rows hold -/
theorem clr_le : ∀ (n : Nat) (T : List (List Int)), (∀ R ∈ T, R.length ≤ n) → Tb T → ∀ k m, Clr k (rw_ T) m → m ≤ L_ k T := by
  intro n
  induction n with
  | zero =>
    intro T h _ k m ⟨cw, e1, _, e2⟩
    have : ∀ T : List (List Int), (∀ R ∈ T, R.length ≤ 0) → rw_ T = [] := by
      intro T
      induction T with
      | nil => intro _; rfl
      | cons R rows ih =>
        intro h
        show rw_ rows ++ R = []
        rw [ih fun S hS => h S (by simp [hS]), List.eq_nil_of_length_eq_zero (Nat.le_zero.mp (h R (by simp)))]; rfl
    rw [this T h] at e1
    rw [List.map_eq_nil_iff.mp e1] at e2
    rw [← e2]; exact Nat.zero_le _
  | succ n ih =>
    intro T h hT k m ⟨cw, e1, hp, e2⟩
    rw [rw_rwg] at e1
    obtain ⟨cT, f1, rfl⟩ := split_rwg _ T cw e1
    have ht := ih (T.map List.tail) (fun R hR => by
      obtain ⟨S, hS, rfl⟩ := List.mem_map.mp hR
      have := h S hS; simp; omega) hT.tail k (cnt k (rwg (cT.map List.tail))) ⟨_, by rw [rwg_map, rw_rwg, ← f1]; simp [Function.comp_def], List.Pairwise.sublist (tl_sub cT) hp, rfl⟩
    have hh : cnt k (hdg cT) ≤ min k ((hdg T).length) := by
      have hl : (hdg cT).length = (hdg T).length := by rw [← f1, ← hdg_map, List.length_map]
      refine Nat.le_min.mpr ⟨fall_cnt _ (List.Pairwise.sublist (hdg_sub cT) hp) ?_, by rw [← hl]; exact List.countP_le_length⟩
      rw [hdg_map, f1]; exact (heads_fall T hT).1
    rw [hdg_len] at hh
    have hn := nonempty_pre T hT k
    rw [L_tail]
    have : m = cnt k (hdg cT) + cnt k (rwg (cT.map List.tail)) := by rw [← e2]; exact rwg_cnt _ cT
    omega
/-- and that many can be coloured -/
noncomputable def colr : Nat → List (List Int) → List CP
  | _, [] => []
  | i, R :: rows => colr (i + 1) rows ++ R.map fun x => (x, i)
theorem colr_ge : ∀ (i : Nat) (T : List (List Int)), ∀ p ∈ colr i T, i ≤ p.2
  | i, [], p, hp => by simp [colr] at hp
  | i, R :: rows, p, hp => by
    rcases List.mem_append.mp hp with q | q
    · have := colr_ge (i + 1) rows p q; omega
    · obtain ⟨x, _, rfl⟩ := List.mem_map.mp q
      exact Nat.le_refl _
theorem colr_map : ∀ (i : Nat) (T : List (List Int)), (colr i T).map (·.1) = rw_ T
  | _, [] => rfl
  | i, R :: rows => by
    show (colr (i + 1) rows ++ R.map fun x => ((x, i) : CP)).map (·.1) = rw_ rows ++ R
    rw [List.map_append, colr_map (i + 1) rows, List.map_map]
    congr 1
    exact List.map_id R
theorem colr_pw (k : Nat) : ∀ (i : Nat) (T : List (List Int)), (∀ R ∈ T, RowS R) → (colr i T).Pairwise (Rk k)
  | _, [], _ => List.Pairwise.nil
  | i, R :: rows, h => by
    show (colr (i + 1) rows ++ R.map fun x => ((x, i) : CP)).Pairwise (Rk k)
    rw [List.pairwise_append, List.pairwise_map]
    refine ⟨colr_pw k (i + 1) rows fun S hS => h S (by simp [hS]), List.Pairwise.imp (fun {a b} e _ _ => e) (h R (by simp)), fun p hp q hq e1 e2 => ?_⟩
    obtain ⟨x, _, rfl⟩ := List.mem_map.mp hq
    have := colr_ge (i + 1) rows p hp
    have e1' : p.2 = i := e1
    omega
theorem colr_cnt (k : Nat) : ∀ (i : Nat) (T : List (List Int)), cnt k (colr i T) = L_ (k - i) T
  | i, [] => by simp [cnt, colr, L_]
  | i, R :: rows => by
    have ih := colr_cnt k (i + 1) rows
    show cnt k (colr (i + 1) rows ++ R.map fun x => ((x, i) : CP)) = _
    unfold cnt at *
    rw [List.countP_append, ih, List.countP_map]
    by_cases hi : i < k
    · obtain ⟨d, hd⟩ : ∃ d, k - i = d + 1 := ⟨k - i - 1, by omega⟩
      rw [show k - (i + 1) = d by omega, hd]
      unfold L_
      rw [List.take_succ_cons, List.map_cons, List.sum_cons]
      have : R.countP ((fun p : CP => decide (p.2 < k)) ∘ fun x => ((x, i) : CP)) = R.length := by
        rw [List.countP_eq_length]; intro x _; simpa using hi
      rw [this]; omega
    · rw [show k - (i + 1) = 0 by omega, show k - i = 0 by omega]
      have : R.countP ((fun p : CP => decide (p.2 < k)) ∘ fun x => ((x, i) : CP)) = 0 := by
        rw [List.countP_eq_zero]; intro x _; simp; omega
      rw [this]; simp [L_]
theorem Tb.rows : ∀ {T : List (List Int)}, Tb T → ∀ R ∈ T, RowS R
  | [], _, R, h => by simp at h
  | S :: rows, h, R, hR => by
    rcases List.mem_cons.mp hR with rfl | hR
    · exact h.1
    · exact Tb.rows h.2.2 R hR
theorem L_le_of {T S : List (List Int)} (hT : Tb T) (hS : Tb S) (h : ∀ k n, Clr k (rw_ T) n → Clr k (rw_ S) n) (k : Nat) : L_ k T ≤ L_ k S := by
  obtain ⟨m, hm⟩ : ∃ m, ∀ R ∈ S, R.length ≤ m := by
    clear h hS
    induction S with
    | nil => exact ⟨0, by simp⟩
    | cons R rows ih =>
      obtain ⟨m, hm⟩ := ih
      exact ⟨m + R.length, fun Q hQ => by
        rcases List.mem_cons.mp hQ with rfl | hQ
        · omega
        · have := hm Q hQ; omega⟩
  refine clr_le m S hm hS k _ (h k _ ⟨colr 0 T, colr_map 0 T, colr_pw k 0 T hT.rows, ?_⟩)
  rw [colr_cnt]; rfl
/-- tables with alike readings have one shape -/
theorem shape_eq {T S : List (List Int)} (hT : Tb T) (hS : Tb S) (h : ∀ k n, Clr k (rw_ T) n ↔ Clr k (rw_ S) n) (k : Nat) : (T.getD k []).length = (S.getD k []).length := by
  have hL : ∀ k, L_ k T = L_ k S := fun k => Nat.le_antisymm (L_le_of hT hS (fun k n => (h k n).mp) k) (L_le_of hS hT (fun k n => (h k n).mpr) k)
  have step : ∀ (k : Nat) (T : List (List Int)), L_ (k + 1) T = L_ k T + (T.getD k []).length := by
    intro k
    induction k with
    | zero => intro T; cases T <;> simp [L_]
    | succ k ih =>
      intro T
      cases T with
      | nil => simp [L_]
      | cons R rows =>
        have := ih rows
        unfold L_ at *
        simp only [List.take_succ_cons, List.map_cons, List.sum_cons] at *
        rw [this]
        simp; omega
  have h1 := step k T
  have h2 := step k S
  have h3 := hL k
  have h4 := hL (k + 1)
  omega
end Mine

set_option maxHeartbeats 1000000
namespace Mine

/-! ## lists, place by place -/
noncomputable abbrev gI (R : List Int) (i : Nat) : Int := R.getD i 0
theorem gI_at {R : List Int} {i : Nat} (h : i < R.length) : gI R i = R[i] := by
  rw [gI, List.getD_eq_getElem?_getD, List.getElem?_eq_getElem h]; rfl
theorem ext_gI {A B : List Int} (hl : A.length = B.length) (h : ∀ i, i < A.length → gI A i = gI B i) : A = B := by
  apply List.ext_getElem hl
  intro i h1 h2
  have := h i h1
  rwa [gI_at h1, gI_at h2] at this
theorem gI_erase {B : List Int} {k i : Nat} : gI (B.eraseIdx k) i = if i < k then gI B i else gI B (i + 1) := by
  unfold gI
  rw [List.getD_eq_getElem?_getD, List.getElem?_eraseIdx]
  split <;> rw [List.getD_eq_getElem?_getD]
theorem len_erase {B : List Int} {k : Nat} (hk : k < B.length) : (B.eraseIdx k).length = B.length - 1 := List.length_eraseIdx_of_lt hk
theorem gI_set {R : List Int} {p j : Nat} {b : Int} (hp : p < R.length) : gI (R.set p b) j = if j = p then b else gI R j := getD_set hp
theorem gI_app {R : List Int} {b : Int} {j : Nat} : gI (R ++ [b]) j = if j < R.length then gI R j else if j = R.length then b else 0 := by
  unfold gI
  rw [List.getD_eq_getElem?_getD, List.getElem?_append]
  split
  · rw [List.getD_eq_getElem?_getD]
  · split
    · next h => rw [h, Nat.sub_self]; rfl
    · next h1 h2 => rw [List.getElem?_eq_none (by simp; omega)]; rfl

/-! ## the hole moves -/
end Mine

set_option maxHeartbeats 1000000
namespace Mine

/-! ## a row of letters put into a row -/
theorem kn_many : ∀ (V Y R0 Z : List Int), V.length = Y.length → (∀ t, t < V.length → gI V t < gI Y t) → (R0 ++ Y ++ Z).Pairwise (· ≤ ·) → (R0 ++ V).Pairwise (· ≤ ·) → Kn (R0 ++ Y ++ Z ++ V) (Y ++ (R0 ++ V ++ Z))
  | [], [], R0, Z, _, _, _, _ => by simpa using Kn.refl (R0 ++ Z)
  | [], _ :: _, _, _, h, _, _, _ => by simp at h
  | _ :: _, [], _, _, h, _, _, _ => by simp at h
  | v :: V, y :: Y, R0, Z, hl, hlt, s1, s2 => by
    have hvy : v < y := by have := hlt 0 (by simp); simpa [gI] using this
    have e1 : R0 ++ y :: Y ++ Z = R0 ++ y :: (Y ++ Z) := by simp
    rw [e1] at s1 ⊢
    obtain ⟨a1, a2, a3⟩ := List.pairwise_append.mp s1
    obtain ⟨b1, b2⟩ := List.pairwise_cons.mp a2
    obtain ⟨c1, c2, c3⟩ := List.pairwise_append.mp s2
    have k := kn_row R0 (Y ++ Z) y v hvy (fun u hu => c3 u hu v (by simp)) b1 a1 b2
    have ih := kn_many V Y (R0 ++ [v]) Z (by simpa using hl) (fun t ht => by
      have := hlt (t + 1) (by simpa using ht)
      simpa [gI, List.getD_eq_getElem?_getD] using this) (by
        rw [List.append_assoc, List.pairwise_append]
        refine ⟨by rw [List.pairwise_append]; exact ⟨a1, by simp, fun u hu w hw => by rw [List.mem_singleton.mp hw]; exact c3 u hu v (by simp)⟩, b2, fun u hu w hw => ?_⟩
        rcases List.mem_append.mp hu with q | q
        · exact a3 u q w (by simp [List.mem_append.mp hw])
        · rw [List.mem_singleton.mp q]
          have := b1 w hw
          omega) (by simpa using s2)
    have k2 := k.right V
    have ih2 := ih.left [y]
    refine Kn.trans (v := y :: (R0 ++ v :: (Y ++ Z)) ++ V) (by simpa using k2) ?_
    simpa using ih2
/-- the step down -/
theorem kn_down (X Y U V : List Int) (b : Int) (h1 : U.length = X.length) (h2 : ∀ t, t < U.length → gI U t < gI X t) (h3 : Y.length ≤ V.length) (h4 : ∀ t, t < Y.length → gI V t < gI Y t)
    (s1 : (X ++ b :: Y).Pairwise (· ≤ ·)) (s2 : (U ++ b :: V).Pairwise (· ≤ ·)) : Kn (X ++ b :: Y ++ (U ++ V)) (X ++ Y ++ (U ++ b :: V)) := by
  obtain ⟨a1, a2, a3⟩ := List.pairwise_append.mp s1
  obtain ⟨b1, b2⟩ := List.pairwise_cons.mp a2
  obtain ⟨c1, c2, c3⟩ := List.pairwise_append.mp s2
  obtain ⟨d1, d2⟩ := List.pairwise_cons.mp c2
  have k1 := (kn_many U X [] (b :: Y) h1 h2 (by simpa using s1) (by simpa using c1)).right V
  have k2 := (kn_many (V.take Y.length) Y [b] [] (by simp; omega) (fun t ht => by
    have h : t < Y.length := by simp at ht; omega
    have := h4 t h
    unfold gI at this ⊢
    rw [List.getD_eq_getElem?_getD, List.getElem?_take_of_lt h, ← List.getD_eq_getElem?_getD]; exact this) (by simpa using a2) (by
      refine List.Pairwise.sublist ?_ c2
      exact List.Sublist.cons_cons b (List.take_sublist ..))).right (V.drop Y.length)
  have k3 := ((kn_many U X [] Y h1 h2 (by simpa using List.Pairwise.sublist (List.Sublist.append_left (List.sublist_cons_self b Y) X) s1) (by simpa using c1)).right (b :: V)).symm
  have e : V.take Y.length ++ V.drop Y.length = V := List.take_append_drop ..
  have k2' : Kn (b :: Y ++ V) (Y ++ b :: V) := by
    have q := k2
    simp only [List.append_nil, List.append_assoc, List.cons_append, List.nil_append, e] at q
    simpa using q
  refine Kn.trans (v := X ++ (U ++ (b :: Y)) ++ V) (by simpa using k1) ?_
  refine Kn.trans (v := X ++ (U ++ (Y ++ b :: V))) ?_ (by simpa using k3)
  have := k2'.left (X ++ U)
  simpa using this

/-! ## tables, cell by cell -/
noncomputable def tl (T : List (List Int)) (r : Nat) : Nat := (T.getD r []).length
noncomputable def tv (T : List (List Int)) (r a : Nat) : Int := gI (T.getD r []) a
theorem row_set {T : List (List Int)} {i r : Nat} {R : List Int} (hi : i < T.length) : (T.set i R).getD r [] = if r = i then R else T.getD r [] := by
  rw [List.getD_eq_getElem?_getD, List.getElem?_set]
  by_cases h : i = r
  · rw [if_pos h, if_pos h.symm, if_pos (by omega)]; rfl
  · rw [if_neg h, if_neg (fun e => h e.symm), List.getD_eq_getElem?_getD]
theorem tl_lt {T : List (List Int)} {r : Nat} (h : 0 < tl T r) : r < T.length := by
  rcases Nat.lt_or_ge r T.length with q | q
  · exact q
  · rw [tl, List.getD_eq_getElem?_getD, List.getElem?_eq_none q] at h; simp at h
theorem tb_iff : ∀ T : List (List Int), Tb T ↔ (∀ r, tl T (r + 1) ≤ tl T r) ∧ (∀ r a b, a < b → b < tl T r → tv T r a ≤ tv T r b) ∧ (∀ r a, a < tl T (r + 1) → tv T r a < tv T (r + 1) a)
  | [] => ⟨fun _ => ⟨fun r => by simp [tl], fun r a b _ h => by simp [tl] at h, fun r a h => by simp [tl] at h⟩, fun _ => trivial⟩
  | R :: rows => by
    have ih := tb_iff rows
    constructor
    · rintro ⟨h1, h2, h3⟩
      obtain ⟨i1, i2, i3⟩ := ih.mp h3
      have hc : tl (R :: rows) 1 ≤ R.length ∧ ∀ a, a < tl (R :: rows) 1 → gI R a < tv (R :: rows) 1 a := by
        cases rows with
        | nil => exact ⟨by simp [tl], fun a h => by simp [tl] at h⟩
        | cons S r => exact h2
      refine ⟨fun r => ?_, fun r a b => ?_, fun r a => ?_⟩
      · cases r with
        | zero => exact hc.1
        | succ r => exact i1 r
      · cases r with
        | zero => intro p q; exact h1.at (Nat.le_of_lt p) q
        | succ r => exact i2 r a b
      · cases r with
        | zero => exact hc.2 a
        | succ r => exact i3 r a
    · rintro ⟨h1, h2, h3⟩
      refine ⟨RowS.of fun a b p q => h2 0 a b p q, ?_, ih.mpr ⟨fun r => h1 (r + 1), fun r => h2 (r + 1), fun r => h3 (r + 1)⟩⟩
      cases rows with
      | nil => trivial
      | cons S r => exact ⟨h1 0, h3 0⟩
/-- two rows of a reading -/
theorem rw_two : ∀ (i : Nat) (T : List (List Int)), i + 1 < T.length → ∃ C D, ∀ R S, rw_ ((T.set i R).set (i + 1) S) = C ++ S ++ R ++ D
  | 0, R0 :: S0 :: rest, _ => ⟨rw_ rest, [], fun R S => by simp [rw_]⟩
  | 0, [_], h => by simp at h
  | 0, [], h => by simp at h
  | i + 1, [], h => by simp at h
  | i + 1, Q :: T, h => by
    obtain ⟨C, D, e⟩ := rw_two i T (by simpa using h)
    refine ⟨C, D ++ Q, fun R S => ?_⟩
    show rw_ (Q :: (T.set i R).set (i + 1) S) = _
    show rw_ ((T.set i R).set (i + 1) S) ++ Q = _
    rw [e]; simp

/-! ## a table with a hole -/
structure Hole (T : List (List Int)) (i j : Nat) : Prop where
  jlt : j < tl T i
  sh : ∀ r, tl T (r + 1) ≤ tl T r
  ro : ∀ r a b, a < b → b < tl T r → ¬ (r = i ∧ a = j) → ¬ (r = i ∧ b = j) → tv T r a ≤ tv T r b
  co : ∀ r s a, r < s → a < tl T s → ¬ (r = i ∧ a = j) → ¬ (s = i ∧ a = j) → tv T r a < tv T s a
theorem sh_le {T : List (List Int)} (h : ∀ r, tl T (r + 1) ≤ tl T r) {r s : Nat} (hrs : r ≤ s) : tl T s ≤ tl T r := by
  induction hrs with
  | refl => exact Nat.le_refl _
  | step _ ih => exact Nat.le_trans (h _) ih
theorem Hole.ilt {T : List (List Int)} {i j : Nat} (h : Hole T i j) : i < T.length := tl_lt (by have := h.jlt; omega)
theorem Hole.start {T : List (List Int)} (h : Tb T) (h0 : 0 < tl T 0) : Hole T 0 0 := by
  obtain ⟨h1, h2, h3⟩ := (tb_iff T).mp h
  refine ⟨h0, h1, fun r a b p q _ _ => h2 r a b p q, fun r s a p q n1 n2 => ?_⟩
  obtain ⟨d, rfl⟩ : ∃ d, s = r + 1 + d := ⟨s - r - 1, by omega⟩
  clear p n1 n2
  induction d with
  | zero => exact h3 r a q
  | succ d ih =>
    have k1 := h3 (r + 1 + d) a q
    have k2 := ih (Nat.lt_of_lt_of_le q (h1 _))
    exact Int.lt_trans k2 k1
/-- what a table with a hole reads -/
noncomputable def wh (T : List (List Int)) (i j : Nat) : List Int := rw_ (T.set i ((T.getD i []).eraseIdx j))
theorem tl_set {T : List (List Int)} {i r : Nat} {R : List Int} (hi : i < T.length) (hl : R.length = tl T i) : tl (T.set i R) r = tl T r := by
  unfold tl at *
  rw [row_set hi]; split
  · next e => rw [e]; exact hl
  · rfl
theorem tv_set {T : List (List Int)} {i j r a : Nat} {b : Int} (hi : i < T.length) (hj : j < tl T i) : tv (T.set i ((T.getD i []).set j b)) r a = if r = i ∧ a = j then b else tv T r a := by
  unfold tv
  rw [row_set hi]
  by_cases h : r = i
  · subst h
    rw [if_pos rfl, gI_set hj]
    by_cases q : a = j
    · rw [if_pos q, if_pos ⟨rfl, q⟩]
    · rw [if_neg q, if_neg (fun e => q e.2)]
  · rw [if_neg h, if_neg (fun e => h e.1)]
theorem Hole.right {T : List (List Int)} {i j : Nat} (h : Hole T i j) (hr : j + 1 < tl T i) (hb : j < tl T (i + 1) → tv T i (j + 1) < tv T (i + 1) j) :
    Hole (T.set i ((T.getD i []).set j (tv T i (j + 1)))) i (j + 1) ∧ wh (T.set i ((T.getD i []).set j (tv T i (j + 1)))) i (j + 1) = wh T i j := by
  have hi := h.ilt
  have hl : ∀ r, tl (T.set i ((T.getD i []).set j (tv T i (j + 1)))) r = tl T r := fun r => tl_set hi (by rw [List.length_set]; rfl)
  have hv : ∀ r a, tv (T.set i ((T.getD i []).set j (tv T i (j + 1)))) r a = if r = i ∧ a = j then tv T i (j + 1) else tv T r a := fun r a => tv_set hi h.jlt
  refine ⟨⟨by rw [hl]; exact hr, fun r => by rw [hl, hl]; exact h.sh r, fun r a b p q n1 n2 => ?_, fun r s a p q n1 n2 => ?_⟩, ?_⟩
  · rw [hl] at q
    rw [hv, hv]
    by_cases e1 : r = i ∧ a = j
    · obtain ⟨rfl, rfl⟩ := e1
      rw [if_pos ⟨rfl, rfl⟩, if_neg (by omega)]
      exact h.ro r (a + 1) b (by omega) q (by omega) (by omega)
    · rw [if_neg e1]
      by_cases e2 : r = i ∧ b = j
      · obtain ⟨rfl, rfl⟩ := e2
        rw [if_pos ⟨rfl, rfl⟩]
        exact h.ro r a (b + 1) (by omega) hr e1 (by omega)
      · rw [if_neg e2]; exact h.ro r a b p q e1 e2
  · rw [hl] at q
    rw [hv, hv]
    by_cases e1 : r = i ∧ a = j
    · obtain ⟨rfl, rfl⟩ := e1
      rw [if_pos ⟨rfl, rfl⟩, if_neg (by omega)]
      have k := hb (Nat.lt_of_lt_of_le q (sh_le h.sh p))
      by_cases e3 : s = r + 1
      · subst e3; exact k
      · exact Int.lt_trans k (h.co (r + 1) s a (by omega) q (by omega) (by omega))
    · rw [if_neg e1]
      by_cases e2 : s = i ∧ a = j
      · obtain ⟨rfl, rfl⟩ := e2
        rw [if_pos ⟨rfl, rfl⟩]
        have k1 := h.ro r a (a + 1) (by omega) (Nat.lt_of_lt_of_le hr (sh_le h.sh (Nat.le_of_lt p))) (by omega) (by omega)
        have k2 := h.co r s (a + 1) p hr (by omega) (by omega)
        omega
      · rw [if_neg e2]; exact h.co r s a p q e1 e2
  · unfold wh
    rw [row_set hi, if_pos rfl, List.set_set]
    congr 1
    congr 1
    have hj := h.jlt
    unfold tl at hj hr
    refine ext_gI ?_ fun t ht => ?_
    · rw [len_erase (by rw [List.length_set]; exact hr), List.length_set, len_erase hj]
    · rw [gI_erase, gI_erase]
      rw [gI_set hj, gI_set hj]
      by_cases q1 : t < j
      · rw [if_pos (by omega), if_neg (by omega), if_pos q1]
      · by_cases q2 : t = j
        · subst q2
          rw [if_pos (by omega), if_pos rfl, if_neg (by omega)]; rfl
        · rw [if_neg (by omega), if_neg (by omega), if_neg q1]
theorem Hole.down {T : List (List Int)} {i j : Nat} (h : Hole T i j) (hb : j < tl T (i + 1)) (hr : j + 1 < tl T i → tv T (i + 1) j ≤ tv T i (j + 1)) :
    Hole (T.set i ((T.getD i []).set j (tv T (i + 1) j))) (i + 1) j ∧ Kn (wh T i j) (wh (T.set i ((T.getD i []).set j (tv T (i + 1) j))) (i + 1) j) := by
  have hi := h.ilt
  have hi1 : i + 1 < T.length := tl_lt (by omega)
  have hl : ∀ r, tl (T.set i ((T.getD i []).set j (tv T (i + 1) j))) r = tl T r := fun r => tl_set hi (by rw [List.length_set]; rfl)
  have hv : ∀ r a, tv (T.set i ((T.getD i []).set j (tv T (i + 1) j))) r a = if r = i ∧ a = j then tv T (i + 1) j else tv T r a := fun r a => tv_set hi h.jlt
  have hjl := h.jlt
  have row_lo : ∀ a, a < j → tv T i a ≤ tv T (i + 1) j := fun a q => by
    have k1 := h.co i (i + 1) a (by omega) (by omega) (by omega) (by omega)
    have k2 := h.ro (i + 1) a j q hb (by omega) (by omega)
    omega
  have row_hi : ∀ a, j < a → a < tl T i → tv T (i + 1) j ≤ tv T i a := fun a q q2 => by
    have k := hr (by omega)
    by_cases e : a = j + 1
    · rw [e]; exact k
    · exact Int.le_trans k (h.ro i (j + 1) a (by omega) q2 (by omega) (by omega))
  refine ⟨⟨by rw [hl]; exact hb, fun r => by rw [hl, hl]; exact h.sh r, fun r a b p q n1 n2 => ?_, fun r s a p q n1 n2 => ?_⟩, ?_⟩
  · rw [hl] at q
    rw [hv, hv]
    by_cases e1 : r = i ∧ a = j
    · obtain ⟨rfl, rfl⟩ := e1
      rw [if_pos ⟨rfl, rfl⟩, if_neg (by omega)]
      exact row_hi b p q
    · rw [if_neg e1]
      by_cases e2 : r = i ∧ b = j
      · obtain ⟨rfl, rfl⟩ := e2
        rw [if_pos ⟨rfl, rfl⟩]
        exact row_lo a p
      · rw [if_neg e2]; exact h.ro r a b p q e1 e2
  · rw [hl] at q
    rw [hv, hv]
    by_cases e1 : r = i ∧ a = j
    · obtain ⟨rfl, rfl⟩ := e1
      rw [if_pos ⟨rfl, rfl⟩, if_neg (by omega)]
      exact h.co (r + 1) s a (by omega) q (by omega) (by omega)
    · rw [if_neg e1]
      by_cases e2 : s = i ∧ a = j
      · obtain ⟨rfl, rfl⟩ := e2
        rw [if_pos ⟨rfl, rfl⟩]
        exact h.co r (s + 1) a (by omega) hb (by omega) (by omega)
      · rw [if_neg e2]; exact h.co r s a p q e1 e2
  · obtain ⟨C, D, e⟩ := rw_two i T hi1
    have e1 : wh T i j = C ++ T.getD (i + 1) [] ++ (T.getD i []).eraseIdx j ++ D := by
      rw [← e]
      unfold wh
      congr 1
      have : T.getD (i + 1) [] = (T.set i ((T.getD i []).eraseIdx j))[i + 1]'(by simpa using hi1) := by
        rw [List.getElem_set_ne (by omega), List.getD_eq_getElem?_getD, List.getElem?_eq_getElem hi1]; rfl
      rw [this, List.set_getElem_self]
    have e2 : wh (T.set i ((T.getD i []).set j (tv T (i + 1) j))) (i + 1) j = C ++ (T.getD (i + 1) []).eraseIdx j ++ (T.getD i []).set j (tv T (i + 1) j) ++ D := by
      rw [← e]
      unfold wh
      rw [row_set hi, if_neg (by omega)]
    rw [e1, e2]
    have hb' : j < (T.getD (i + 1) []).length := hb
    have hj' : j < (T.getD i []).length := hjl
    have eb : tv T (i + 1) j = (T.getD (i + 1) [])[j] := gI_at hb'
    have sS : (T.getD (i + 1) []) = (T.getD (i + 1) []).take j ++ tv T (i + 1) j :: (T.getD (i + 1) []).drop (j + 1) := by
      rw [eb, ← List.drop_eq_getElem_cons hb', List.take_append_drop]
    have rS : RowS (T.getD (i + 1) []) := RowS.of fun a b p q => h.ro (i + 1) a b p q (by omega) (by omega)
    have rR : RowS ((T.getD i []).set j (tv T (i + 1) j)) := RowS.of fun a b p q => by
      rw [List.length_set] at q
      show gI _ a ≤ gI _ b
      rw [gI_set hj', gI_set hj']
      by_cases e1 : a = j
      · rw [if_pos e1, if_neg (by omega)]
        exact row_hi b (by omega) q
      · rw [if_neg e1]
        by_cases e2 : b = j
        · rw [if_pos e2]; exact row_lo a (by omega)
        · rw [if_neg e2]; exact h.ro i a b p q (by omega) (by omega)
    rw [set_split hj'] at rR ⊢
    have hsh := h.sh i
    unfold tl at hsh
    have gt : ∀ (A : List Int) (t n : Nat), t < n → gI (A.take n) t = gI A t := fun A t n q => by
      unfold gI; rw [List.getD_eq_getElem?_getD, List.getElem?_take_of_lt q, ← List.getD_eq_getElem?_getD]
    have gd : ∀ (A : List Int) (t n : Nat), gI (A.drop n) t = gI A (n + t) := fun A t n => by
      unfold gI; rw [List.getD_eq_getElem?_getD, List.getElem?_drop, ← List.getD_eq_getElem?_getD]
    have k := kn_down ((T.getD (i + 1) []).take j) ((T.getD (i + 1) []).drop (j + 1)) ((T.getD i []).take j) ((T.getD i []).drop (j + 1)) (tv T (i + 1) j)
      (by rw [List.length_take, List.length_take]; omega)
      (fun t ht => by
        rw [List.length_take] at ht
        rw [gt _ _ _ (by omega), gt _ _ _ (by omega)]
        exact h.co i (i + 1) t (by omega) (by unfold tl; omega) (by omega) (by omega))
      (by rw [List.length_drop, List.length_drop]; omega)
      (fun t ht => by
        rw [List.length_drop] at ht
        rw [gd, gd]
        exact h.co i (i + 1) (j + 1 + t) (by omega) (by unfold tl; omega) (by omega) (by omega))
      (sS ▸ rS) rR
    rw [List.eraseIdx_eq_take_drop_succ, List.eraseIdx_eq_take_drop_succ]
    have kk := k.ctx C D
    rw [← sS] at kk
    have f1 : ∀ A B : List Int, C ++ A ++ B ++ D = C ++ (A ++ B) ++ D := fun A B => by simp
    rw [f1, f1]
    exact kk
/-- the end: a corner goes -/
theorem Hole.stop {T : List (List Int)} {i j : Nat} (h : Hole T i j) (hr : ¬ j + 1 < tl T i) (hb : ¬ j < tl T (i + 1)) :
    Tb (T.set i (T.getD i []).dropLast) ∧ wh T i j = rw_ (T.set i (T.getD i []).dropLast) ∧ j + 1 = tl T i := by
  have hi := h.ilt
  have hj := h.jlt
  have hj1 : j + 1 = tl T i := by omega
  have hdl : (T.getD i []).eraseIdx j = (T.getD i []).dropLast := by
    unfold tl at hj1 hj
    rw [List.eraseIdx_eq_take_drop_succ, List.drop_of_length_le (by omega), List.append_nil, List.dropLast_eq_take]
    congr 1; omega
  have hl : ∀ r, tl (T.set i (T.getD i []).dropLast) r = if r = i then j else tl T r := fun r => by
    unfold tl
    rw [row_set hi]
    split
    · rw [List.length_dropLast]; unfold tl at hj1; omega
    · rfl
  have hv : ∀ r a, a < tl (T.set i (T.getD i []).dropLast) r → tv (T.set i (T.getD i []).dropLast) r a = tv T r a := fun r a q => by
    rw [hl] at q
    unfold tv
    rw [row_set hi]
    by_cases e : r = i
    · rw [if_pos e] at q ⊢
      rw [e, ← hdl, gI_erase, if_pos q]
    · rw [if_neg e]
  refine ⟨(tb_iff _).mpr ⟨fun r => ?_, fun r a b p q => ?_, fun r a q => ?_⟩, ?_, hj1⟩
  · rw [hl, hl]
    have := h.sh r
    by_cases e1 : r = i
    · subst e1; rw [if_neg (by omega), if_pos rfl]; omega
    · by_cases e2 : r + 1 = i
      · rw [if_pos e2, if_neg e1]; rw [e2] at this; omega
      · rw [if_neg e1, if_neg e2]; exact this
  · rw [hv r a (by omega), hv r b q]
    rw [hl] at q
    by_cases e : r = i
    · rw [if_pos e] at q
      exact h.ro r a b p (by rw [e]; omega) (by omega) (by omega)
    · rw [if_neg e] at q
      exact h.ro r a b p q (by omega) (by omega)
  · have hq := q
    rw [hl] at hq
    have q2 : a < tl (T.set i (T.getD i []).dropLast) r := by
      rw [hl]
      have := h.sh r
      by_cases e1 : r = i
      · subst e1; rw [if_neg (by omega)] at hq; rw [if_pos rfl]; omega
      · rw [if_neg e1]
        by_cases e2 : r + 1 = i
        · rw [if_pos e2] at hq; rw [e2] at this; omega
        · rw [if_neg e2] at hq; omega
    rw [hv r a q2, hv (r + 1) a q]
    rw [hl] at q2
    by_cases e1 : r = i
    · subst e1
      rw [if_pos rfl] at q2; rw [if_neg (by omega)] at hq
      exact h.co r (r + 1) a (by omega) hq (by omega) (by omega)
    · by_cases e2 : r + 1 = i
      · rw [if_pos e2] at hq
        exact h.co r (r + 1) a (by omega) (by rw [e2]; omega) (by omega) (by omega)
      · rw [if_neg e2] at hq
        exact h.co r (r + 1) a (by omega) hq (by omega) (by omega)
  · unfold wh; rw [hdl]
end Mine

set_option maxHeartbeats 1000000
namespace Mine

/-! ## all put in -/
noncomputable def pT (w : List Int) : List (List Int) := w.foldl (fun T x => (putR T x).1) []
theorem pT_snoc (w : List Int) (x : Int) : pT (w ++ [x]) = (putR (pT w) x).1 := by unfold pT; rw [List.foldl_append]; rfl
theorem snoc_ind {P : List Int → Prop} (h0 : P []) (h1 : ∀ w x, P w → P (w ++ [x])) (w : List Int) : P w := by
  induction h : w.length generalizing w with
  | zero => rw [List.eq_nil_of_length_eq_zero h]; exact h0
  | succ n ih =>
    obtain ⟨W, u, rfl⟩ : ∃ W v, w = W ++ [v] := ⟨w.dropLast, w.getLast (by intro q; subst q; simp at h), (List.dropLast_concat_getLast _).symm⟩
    exact h1 W u (ih W (by simpa using h))
theorem pT_tb (w : List Int) : Tb (pT w) := snoc_ind (P := fun w => Tb (pT w)) trivial (fun w x h => by rw [pT_snoc]; exact h.put x) w
theorem pT_kn (w : List Int) : Kn w (rw_ (pT w)) := snoc_ind (P := fun w => Kn w (rw_ (pT w))) (Kn.refl _) (fun w x h => by
  rw [pT_snoc]; exact (h.right [x]).trans (kn_put _ x (pT_tb w).rows)) w
theorem putR_ne : ∀ (T : List (List Int)) (x : Int), (∀ R ∈ T, R ≠ []) → ∀ R ∈ (putR T x).1, R ≠ []
  | [], x, _, R, hR => by rw [List.mem_singleton.mp hR]; simp
  | Q :: T, x, h, R, hR => by
    unfold putR at hR
    split at hR
    · rcases List.mem_cons.mp hR with rfl | q
      · simp
      · exact h R (List.mem_cons_of_mem _ q)
    · rcases List.mem_cons.mp hR with rfl | q
      · intro e
        have := congrArg List.length e
        rw [List.length_set] at this
        exact h Q (List.mem_cons_self ..) (List.eq_nil_of_length_eq_zero this)
      · exact putR_ne T _ (fun S hS => h S (List.mem_cons_of_mem _ hS)) R q
theorem pT_ne (w : List Int) : ∀ R ∈ pT w, R ≠ [] := snoc_ind (P := fun w => ∀ R ∈ pT w, R ≠ []) (fun R h => by simp [pT] at h) (fun w x h => by rw [pT_snoc]; exact putR_ne _ x h) w
theorem mem_rw : ∀ (T : List (List Int)) (x : Int), x ∈ rw_ T ↔ ∃ R ∈ T, x ∈ R
  | [], x => by simp [rw_]
  | R :: rows, x => by simp [rw_, mem_rw rows x, or_comm]

/-! ## the greatest letter more -/
inductive Grow (M : Int) : List (List Int) → List (List Int) → Prop
  | nil : Grow M [] [[M]]
  | here (R rows) : Grow M (R :: rows) ((R ++ [M]) :: rows)
  | there (R) {rows rows'} : Grow M rows rows' → Grow M (R :: rows) (R :: rows')
theorem plc_all {R : List Int} {M : Int} (h : ∀ x ∈ R, x ≤ M) : plc R M = R.length := by
  unfold plc; rw [List.countP_eq_length]; intro x hx; simpa using h x hx
theorem grow_put : ∀ (T : List (List Int)) (M : Int), (∀ R ∈ T, ∀ x ∈ R, x ≤ M) → Grow M T (putR T M).1
  | [], M, _ => .nil
  | R :: rows, M, h => by
    unfold putR
    rw [if_pos (plc_all (h R (by simp)))]
    exact .here R rows
theorem plc_snoc (R : List Int) (M b : Int) : plc (R ++ [M]) b = plc R b + if M ≤ b then 1 else 0 := by
  unfold plc; rw [List.countP_append]; simp [List.countP_cons]
theorem Grow.put {M b : Int} (hb : b ≤ M) : ∀ {T T' : List (List Int)}, Grow M T T' → (∀ R ∈ T, ∀ x ∈ R, x ≤ M) → Grow M (putR T b).1 (putR T' b).1 := by
  intro T T' g
  induction g generalizing b with
  | nil =>
    intro _
    by_cases q : M ≤ b
    · have : b = M := by omega
      subst this
      have e : (putR [[b]] b).1 = [[b] ++ [b]] := by unfold putR; rw [if_pos (plc_all (by simp))]
      rw [e]
      exact .here [b] []
    · have e : (putR [[M]] b).1 = [b] :: [[M]] := by
        have hp : plc [M] b = 0 := by unfold plc; simp; omega
        unfold putR; rw [hp, if_neg (by simp)]; rfl
      rw [e]
      exact .there [b] .nil
  | here R rows =>
    intro h
    have hR := h R (by simp)
    have hle := plc_le R b
    by_cases q : plc R b = R.length
    · have e1 : (putR (R :: rows) b).1 = (R ++ [b]) :: rows := by rw [putR, if_pos q]
      rw [e1]
      by_cases q2 : M ≤ b
      · have : b = M := by omega
        subst this
        have e2 : (putR ((R ++ [b]) :: rows) b).1 = ((R ++ [b]) ++ [b]) :: rows := by
          rw [putR, if_pos (plc_all (by intro x hx; rcases List.mem_append.mp hx with w | w; exact hR x w; simp at w; omega))]
        rw [e2]
        exact .here (R ++ [b]) rows
      · have hp : plc (R ++ [M]) b = R.length := by rw [plc_snoc, if_neg q2, q]; rfl
        have e2 : (putR ((R ++ [M]) :: rows) b).1 = (R ++ [b]) :: (putR rows M).1 := by
          rw [putR, hp, if_neg (by simp)]
          have s : (R ++ [M]).set R.length b = R ++ [b] := by rw [List.set_append_right _ _ (Nat.le_refl _), Nat.sub_self]; rfl
          have g : (R ++ [M]).getD R.length 0 = M := by rw [List.getD_eq_getElem?_getD, List.getElem?_append_right (Nat.le_refl _), Nat.sub_self]; rfl
          rw [s, g]
        rw [e2]
        exact .there _ (grow_put rows M fun S hS => h S (by simp [hS]))
    · have hp : plc (R ++ [M]) b = plc R b := by
        rw [plc_snoc, if_neg]; rfl
        intro w
        have : b = M := by omega
        rw [this] at q
        exact q (plc_all hR)
      have e1 : (putR (R :: rows) b).1 = R.set (plc R b) b :: (putR rows (R.getD (plc R b) 0)).1 := by rw [putR, if_neg q]
      have e2 : (putR ((R ++ [M]) :: rows) b).1 = (R.set (plc R b) b ++ [M]) :: (putR rows (R.getD (plc R b) 0)).1 := by
        rw [putR, hp, if_neg (by simp; omega)]
        rw [List.set_append_left _ _ (by omega)]
        have g : (R ++ [M]).getD (plc R b) 0 = R.getD (plc R b) 0 := by
          rw [List.getD_eq_getElem?_getD, List.getElem?_append_left (by omega), ← List.getD_eq_getElem?_getD]
        rw [g]
      rw [e1, e2]
      exact .here _ _
  | there R g ih =>
    rename_i rows rows'
    intro h
    have hle := plc_le R b
    by_cases q : plc R b = R.length
    · rw [putR, putR, if_pos q, if_pos q]
      exact .there _ g
    · rw [putR, putR, if_neg q, if_neg q]
      refine .there _ (ih ?_ fun S hS => h S (by simp [hS]))
      have hlt : plc R b < R.length := by omega
      refine h R (by simp) _ ?_
      rw [List.getD_eq_getElem?_getD, List.getElem?_eq_getElem hlt]
      exact List.getElem_mem hlt
theorem pT_le {w : List Int} {M : Int} (h : ∀ x ∈ w, x ≤ M) : ∀ R ∈ pT w, ∀ x ∈ R, x ≤ M := fun R hR x hx =>
  h x ((pT_kn w).perm.mem_iff.mpr ((mem_rw _ _).mpr ⟨R, hR, hx⟩))
theorem grow_pT (A : List Int) (M : Int) (B : List Int) : (∀ x ∈ A ++ B, x ≤ M) → Grow M (pT (A ++ B)) (pT (A ++ M :: B)) :=
  snoc_ind (P := fun B => (∀ x ∈ A ++ B, x ≤ M) → Grow M (pT (A ++ B)) (pT (A ++ M :: B)))
    (fun h => by rw [pT_snoc, List.append_nil]; exact grow_put _ M (pT_le (by simpa using h)))
    (fun B x ih h => by
      have e1 : A ++ (B ++ [x]) = (A ++ B) ++ [x] := by simp
      have e2 : A ++ M :: (B ++ [x]) = (A ++ M :: B) ++ [x] := by simp
      have h' : ∀ y ∈ A ++ B, y ≤ M := fun y hy => h y (by rw [e1]; exact List.mem_append_left _ hy)
      rw [e1, e2, pT_snoc, pT_snoc]
      exact (ih h').put (h x (by simp)) (pT_le h')) B
theorem Grow.cells {M : Int} {T T' : List (List Int)} (g : Grow M T T') : ∃ r, tl T' r = tl T r + 1 ∧ tv T' r (tl T r) = M ∧ (∀ s, s ≠ r → tl T' s = tl T s) ∧ ∀ s a, a < tl T s → tv T' s a = tv T s a := by
  induction g with
  | nil => exact ⟨0, rfl, rfl, fun s hs => by cases s with | zero => exact absurd rfl hs | succ s => simp [tl], fun s a h => by simp [tl] at h⟩
  | here R rows =>
    refine ⟨0, by simp [tl], ?_, fun s hs => ?_, fun s a h => ?_⟩
    · show gI (R ++ [M]) R.length = M
      rw [gI_app, if_neg (by omega), if_pos rfl]
    · cases s with
      | zero => exact absurd rfl hs
      | succ s => rfl
    · cases s with
      | zero =>
        have h' : a < R.length := h
        show gI (R ++ [M]) a = gI R a
        rw [gI_app, if_pos h']
      | succ s => rfl
  | there R g ih =>
    obtain ⟨r, h1, h2, h3, h4⟩ := ih
    refine ⟨r + 1, h1, h2, fun s hs => ?_, fun s a h => ?_⟩
    · cases s with
      | zero => rfl
      | succ s => exact h3 s (by omega)
    · cases s with
      | zero => rfl
      | succ s => exact h4 s a h

/-! ## shapes -/
theorem shape_star {T : List (List Int)} {v : List Int} (hT : Tb T) (hk : Kn (rw_ T) v) (r : Nat) : tl (pT (star v)) r = tl T r :=
  shape_eq (pT_tb _) hT (fun k n => ((clr_kn (pT_kn (star v)) (k := k) (n := n)).symm.trans clr_star).trans (clr_kn hk).symm) r
theorem len_of_tl {T S : List (List Int)} (hT : ∀ R ∈ T, R ≠ []) (hS : ∀ R ∈ S, R ≠ []) (h : ∀ r, tl T r = tl S r) : T.length = S.length := by
  have key : ∀ {T S : List (List Int)}, (∀ R ∈ S, R ≠ []) → (∀ r, tl T r = tl S r) → ¬ T.length < S.length := by
    intro T S hS h q
    have h1 := h T.length
    unfold tl at h1
    rw [List.getD_eq_getElem?_getD, List.getElem?_eq_none (Nat.le_refl _), List.getD_eq_getElem?_getD, List.getElem?_eq_getElem q] at h1
    exact hS _ (List.getElem_mem q) (List.eq_nil_of_length_eq_zero h1.symm)
  have a := key hS h
  have b := key hT fun r => (h r).symm
  omega
theorem ext_cells {A B : List (List Int)} (hl : A.length = B.length) (h : ∀ r, tl A r = tl B r) (hv : ∀ r a, a < tl A r → tv A r a = tv B r a) : A = B := by
  apply List.ext_getElem hl
  intro i h1 h2
  have e1 : A.getD i [] = A[i] := by rw [List.getD_eq_getElem?_getD, List.getElem?_eq_getElem h1]; rfl
  have e2 : B.getD i [] = B[i] := by rw [List.getD_eq_getElem?_getD, List.getElem?_eq_getElem h2]; rfl
  rw [← e1, ← e2]
  exact ext_gI (h i) fun a ha => hv i a ha
theorem tl_filter : ∀ (T : List (List Int)), (∀ r, tl T (r + 1) ≤ tl T r) → ∀ r, (T.filter fun R => !R.isEmpty).getD r [] = T.getD r []
  | [], _, r => rfl
  | R :: rows, h, r => by
    have ih := tl_filter rows fun r => h (r + 1)
    cases R with
    | nil =>
      rw [List.filter_cons_of_neg (by simp), ih]
      have h0 : ∀ r, tl ([] :: rows) r = 0 := fun r => Nat.le_zero.mp (sh_le (T := [] :: rows) h (Nat.zero_le r))
      have a := List.eq_nil_of_length_eq_zero (h0 r)
      have b := List.eq_nil_of_length_eq_zero (h0 (r + 1))
      rw [a]; exact b
    | cons x R =>
      rw [List.filter_cons_of_pos (by simp)]
      cases r with
      | zero => rfl
      | succ r => exact ih r
theorem rw_filter : ∀ (T : List (List Int)), rw_ (T.filter fun R => !R.isEmpty) = rw_ T
  | [] => rfl
  | R :: rows => by
    cases R with
    | nil => rw [List.filter_cons_of_neg (by simp), rw_filter rows]; simp [rw_]
    | cons x R => rw [List.filter_cons_of_pos (by simp)]; show rw_ _ ++ _ = rw_ _ ++ _; rw [rw_filter rows]

/-! ## one turn -/
theorem least_head {T : List (List Int)} (hT : Tb T) (h0 : 0 < tl T 0) : (∀ x ∈ rw_ T, tv T 0 0 ≤ x) ∧ wh T 0 0 = (rw_ T).erase (tv T 0 0) := by
  have hol := Hole.start hT h0
  obtain ⟨h1, h2, h3⟩ := (tb_iff T).mp hT
  have lt : ∀ r a, 0 < r → a < tl T r → tv T 0 0 < tv T r a := fun r a hr ha => by
    have hsh := sh_le h1 (Nat.zero_le r)
    by_cases e : a = 0
    · subst e
      clear hol hsh
      obtain ⟨d, rfl⟩ : ∃ d, r = d + 1 := ⟨r - 1, by omega⟩
      clear hr
      induction d with
      | zero => exact h3 0 0 ha
      | succ d ih => exact Int.lt_trans (ih (Nat.lt_of_lt_of_le ha (h1 _))) (h3 (d + 1) 0 ha)
    · have k1 := hol.co 0 r a hr ha (by omega) (by omega)
      have k2 := h2 0 0 a (by omega) (by omega)
      omega
  cases T with
  | nil => simp [tl] at h0
  | cons R rows =>
    cases R with
    | nil => simp [tl] at h0
    | cons m R =>
      have hm : tv ((m :: R) :: rows) 0 0 = m := rfl
      rw [hm] at lt ⊢
      have hrow : ∀ x ∈ rw_ rows, m < x := fun x hx => by
        obtain ⟨S, hS, hxS⟩ := (mem_rw _ _).mp hx
        obtain ⟨r, hr, rfl⟩ := List.getElem_of_mem hS
        obtain ⟨a, ha, rfl⟩ := List.getElem_of_mem hxS
        have er : rows.getD r [] = rows[r] := by rw [List.getD_eq_getElem?_getD, List.getElem?_eq_getElem hr]; rfl
        have ht : tl ((m :: R) :: rows) (r + 1) = rows[r].length := by show (rows.getD r []).length = _; rw [er]
        have := lt (r + 1) a (by omega) (by rw [ht]; exact ha)
        have e : tv ((m :: R) :: rows) (r + 1) a = rows[r][a] := by show gI (rows.getD r []) a = _; rw [er]; exact gI_at ha
        rw [← e]; exact this
      refine ⟨fun x hx => ?_, ?_⟩
      · rcases List.mem_append.mp hx with q | q
        · exact Int.le_of_lt (hrow x q)
        · have := (List.pairwise_cons.mp hT.1).1
          rcases List.mem_cons.mp q with rfl | q
          · exact Int.le_refl _
          · exact this x q
      · show rw_ rows ++ R = (rw_ rows ++ m :: R).erase m
        rw [List.erase_append_right _ (fun q => by have := hrow m q; omega), List.erase_cons_head]
/-- the slide's state: the rows left, what is told -/
structure Slid (F D T : List (List Int)) (v : List Int) : Prop where
  tb : Tb T
  ne : ∀ R ∈ T, R ≠ []
  kn : Kn (rw_ T) v
  len : D.length = F.length
  sh : ∀ r, tl D r = tl F r
  sub : ∀ r, tl T r ≤ tl F r
  inn : ∀ r a, a < tl T r → tv (pT (star v)) r a = tv F r a
  out : ∀ r a, tl T r ≤ a → a < tl F r → tv D r a = tv F r a
theorem Slid.start (w : List Int) : Slid (pT (star w)) ((pT w).map fun R => List.replicate R.length 0) (pT w) w := by
  have hs := fun r => shape_star (pT_tb w) (pT_kn w).symm r
  refine ⟨pT_tb w, pT_ne w, (pT_kn w).symm, ?_, fun r => ?_, fun r => Nat.le_of_eq (hs r).symm, fun r a _ => rfl, fun r a h1 h2 => by rw [hs] at h2; omega⟩
  · rw [List.length_map]; exact len_of_tl (pT_ne _) (pT_ne _) fun r => (hs r).symm
  · rw [hs]
    unfold tl
    rw [List.getD_eq_getElem?_getD, List.getElem?_map, List.getD_eq_getElem?_getD]
    cases (pT w)[r]? with
    | none => rfl
    | some R => simp
theorem Slid.head {F D T : List (List Int)} {v : List Int} (s : Slid F D T v) (hv : v ≠ []) : T ≠ [] ∧ 0 < tl T 0 ∧ Hole T 0 0 ∧ Kn (wh T 0 0) (v.erase (tv T 0 0)) := by
  have hT : T ≠ [] := fun e => by
    have := s.kn.perm
    rw [e] at this
    exact hv (List.Perm.eq_nil this.symm)
  have h0 : 0 < tl T 0 := by
    cases T with
    | nil => exact absurd rfl hT
    | cons R rows =>
      have := s.ne R (by simp)
      show 0 < R.length
      exact List.length_pos_iff.mpr this
  obtain ⟨a, b⟩ := least_head s.tb h0
  exact ⟨hT, h0, Hole.start s.tb h0, by rw [b]; exact s.kn.erase a⟩
theorem Slid.turn {F D T T' : List (List Int)} {v : List Int} {i j : Nat} (s : Slid F D T v) (hv : v ≠ []) (h : Hole T' i j) (hl : ∀ r, tl T' r = tl T r) (hk : Kn (wh T' i j) (v.erase (tv T 0 0)))
    (hr : ¬ j + 1 < tl T' i) (hb : ¬ j < tl T' (i + 1)) :
    Slid F (D.set i ((D.getD i []).set j (-tv T 0 0))) ((T'.set i (T'.getD i []).dropLast).filter fun R => !R.isEmpty) (v.erase (tv T 0 0)) ∧ i < D.length ∧ j < tl D i := by
  obtain ⟨hT0, h0, _, _⟩ := s.head hv
  obtain ⟨e1, e2, e3⟩ := h.stop hr hb
  obtain ⟨m1, _⟩ := least_head s.tb h0
  have hi := h.ilt
  have hm : tv T 0 0 ∈ v := by
    refine s.kn.perm.mem_iff.mp ((mem_rw _ _).mpr ⟨T.getD 0 [], ?_, ?_⟩)
    · rw [List.getD_eq_getElem?_getD, List.getElem?_eq_getElem (tl_lt h0)]; exact List.getElem_mem _
    · have h0' : 0 < (T.getD 0 []).length := h0
      have : tv T 0 0 = (T.getD 0 [])[0] := gI_at h0'
      rw [this]; exact List.getElem_mem _
  have hmle : ∀ x ∈ v, tv T 0 0 ≤ x := fun x hx => m1 x (s.kn.perm.mem_iff.mpr hx)
  have hshT' := fun r => h.sh r
  have hshc : ∀ r, tl (T'.set i (T'.getD i []).dropLast) (r + 1) ≤ tl (T'.set i (T'.getD i []).dropLast) r := ((tb_iff _).mp e1).1
  have hfl := fun r => tl_filter _ hshc r
  have hlc : ∀ r, tl ((T'.set i (T'.getD i []).dropLast).filter fun R => !R.isEmpty) r = if r = i then j else tl T r := fun r => by
    unfold tl
    rw [hfl, row_set hi]
    split
    · rw [List.length_dropLast]; unfold tl at e3; omega
    · exact hl r
  have htb : Tb ((T'.set i (T'.getD i []).dropLast).filter fun R => !R.isEmpty) := by
    rw [tb_iff] at e1 ⊢
    unfold tl tv at *
    simp only [hfl]
    exact e1
  have hij : j + 1 = tl T i := by rw [← hl]; exact e3
  have hDi : j < tl D i := by have := s.sub i; rw [s.sh]; omega
  have hDl : i < D.length := tl_lt (by omega)
  have hkn : Kn (rw_ ((T'.set i (T'.getD i []).dropLast).filter fun R => !R.isEmpty)) (v.erase (tv T 0 0)) := by rw [rw_filter, ← e2]; exact hk
  -- the turned word's table
  obtain ⟨X, Y, _, f1, f2⟩ := List.exists_erase_eq hm
  have g1 : star v = star Y ++ -tv T 0 0 :: star X := by rw [f1]; simp [star]
  have g2 : star (v.erase (tv T 0 0)) = star Y ++ star X := by rw [f2]; simp [star]
  have g := grow_pT (star Y) (-tv T 0 0) (star X) (fun x hx => by
    rw [← g2] at hx
    obtain ⟨y, hy, rfl⟩ := List.mem_map.mp (List.mem_reverse.mp hx)
    have := hmle y (List.mem_of_mem_erase hy)
    omega)
  rw [← g1, ← g2] at g
  obtain ⟨r, c1, c2, c3, c4⟩ := g.cells
  have sh1 := fun r => shape_star s.tb s.kn r
  have sh2 := fun r => shape_star htb hkn r
  have hri : r = i := by
    rcases Classical.em (r = i) with q | q
    · exact q
    · have := c1
      rw [sh1, sh2, hlc, if_neg q] at this
      omega
  subst hri
  have c2' : tv (pT (star v)) r j = -tv T 0 0 := by
    have : tl (pT (star (v.erase (tv T 0 0)))) r = j := by rw [sh2, hlc, if_pos rfl]
    rw [← this]; exact c2
  have hFv : tv F r j = -tv T 0 0 := by rw [← s.inn r j (by omega)]; exact c2'
  have hlD : ∀ k, tl (D.set r ((D.getD r []).set j (-tv T 0 0))) k = tl D k := fun k => tl_set hDl (by rw [List.length_set]; rfl)
  refine ⟨⟨htb, fun R hR => ?_, hkn, by rw [List.length_set]; exact s.len, fun k => by rw [hlD]; exact s.sh k, fun k => ?_, fun k a ha => ?_, fun k a h1 h2 => ?_⟩, hDl, hDi⟩
  · have := (List.mem_filter.mp hR).2
    intro e; rw [e] at this; simp at this
  · rw [hlc]
    have := s.sub k
    split
    · next e => subst e; omega
    · exact this
  · have ha' := ha
    rw [← sh2] at ha
    rw [← c4 k a ha]
    refine s.inn k a ?_
    rw [hlc] at ha'
    split at ha'
    · next e => subst e; omega
    · exact ha'
  · rw [tv_set hDl hDi]
    rw [hlc] at h1
    by_cases e : k = r ∧ a = j
    · rw [if_pos e, e.1, e.2, hFv]
    · rw [if_neg e]
      refine s.out k a ?_ h2
      split at h1
      · next e2 => subst e2; omega
      · exact h1
theorem Slid.done {F D T : List (List Int)} (s : Slid F D T []) : D = F := by
  have hT : T = [] := by
    have := List.Perm.eq_nil s.kn.perm
    cases T with
    | nil => rfl
    | cons R rows =>
      have h1 := s.ne R (by simp)
      have : rw_ rows ++ R = [] := this
      exact absurd (List.append_eq_nil_iff.mp this).2 h1
  subst hT
  exact ext_cells s.len s.sh fun r a h => s.out r a (Nat.zero_le _) (by rw [← s.sh]; exact h)
end Mine

set_option maxHeartbeats 4000000
namespace Mine
open PySem PySem.W PyProof.Rows

noncomputable abbrev put03 (P : Params) : FuncData := fdOf (hd.heap_39 P) 30
noncomputable abbrev ord03 (P : Params) : FuncData := fdOf (hd.heap_39 P) 35
noncomputable abbrev slid03 (P : Params) : FuncData := fdOf (hd.heap_39 P) 40
noncomputable abbrev law03 (P : Params) : FuncData := fdOf (hd.heap_39 P) 47
structure Gl03 (C : Cx) : Prop where
  len : C.gl "len" = some (.builtin "len")
  range : C.gl "range" = some (.type "range")
  sorted : C.gl "sorted" = some (.builtin "sorted")
  br : C.gl "bisect_right" = some (.ref 23)
  zip : C.gl "zip" = some (.type "zip")
  put : C.gl "_law_put" = some (.ref 30)
  ord : C.gl "_law_in_order" = some (.ref 35)
  slid : C.gl "_law_slid" = some (.ref 40)
section
variable {C : Cx} {A : Around} {ρ : Lo} {H : AH} {P : Params}
theorem br_ints (hK : (hd.heap_39 P).In C.base) (hlen : C.gl "len" = some (.builtin "len")) (hh : A.handled = none) (hdep : A.depth < recursionLimit) {a : Addr} {ns : List Int} {x : Int} (ha : H a = some (.list (vints ns))) (hs : ns.Pairwise fun p q => p ≤ q) :
    WCall C A (.ref 23) [.ref a, .int x] [] H (fun r H' => r = .int (plc ns x : Nat) ∧ H' = H) := by
  have hb : bis (fun i => !decide (ns.getD i 0 ≤ x)) 0 ns.length = plc ns x := by
    have := bis_part (f := fun i => !decide (ns.getD i 0 ≤ x)) (lo := 0) (hi := ns.length) ((srt_ints hs).le x) (by simp) (fun j y hj => by show (!decide (ns.getD (0 + j) 0 ≤ x)) = _; rw [List.getD_eq_getElem?_getD, Nat.zero_add, hj]; rfl)
    rw [this, Nat.zero_add]; rfl
  have hbind : ∀ (vals : List Value) (kvs : List (Str × Value)), vals.map ab = [.ref a, .int x] → kvs.map (fun p => (p.1, ab p.2)) = ([] : List (Str × V)) → ∃ binds, (∀ s, Keep C s → BindsTo s (fdOf (hd.heap_39 P) 23) ⟨vals, kvs⟩ binds) ∧ binds.map (fun p => (p.1, ab p.2)) = ([("a", .ref a), ("x", .int x), ("lo", .int (0 : Nat)), ("hi", .none), ("key", .none)] : List (Str × V)) := by
    intro vals kvs e1 e2
    obtain ⟨x1, x2, rfl, y1, y2⟩ := vals2 e1
    cases ab_nil e2
    refine ⟨[("a", x1), ("x", x2), ("lo", .int 0 189), ("hi", .none), ("key", .none)], fun s hs => kp_binds (hK.keeps hs) (fun S => by kernel_rfl), ?_⟩
    show [(_, ab x1), (_, ab x2), _, _, _] = _
    rw [y1, y2]; rfl
  refine br_core hK hlen hh hdep (fun i => !decide (ns.getD i 0 ≤ x)) hbind (hi := ns.length) ha rfl (.inl ⟨rfl, by rw [ints_length]⟩) (fun A' hA' => .inl ⟨rfl, fun i v _ _ hv => ?_⟩) ⟨by rw [hb], rfl⟩
  obtain ⟨rfl, hi⟩ := vints_at hv
  show LtOk C A' H _ _ (!decide (ns.getD i 0 ≤ x))
  rw [show (!decide (ns.getD i 0 ≤ x)) = decide (x < ns.getD i 0) by rw [← decide_not]; congr 1; apply propext; omega]
  exact LtOk.int
theorem put_spec {R0 : Addr} {ra : List Addr} {rows : List (List Int)} {b : Int} (hK : (hd.heap_39 P).In C.base) (G : Gl03 C) (hh : A.handled = none) (hdep : A.depth + 4 < recursionLimit) (h : RowsAt R0 ra rows H) (hs : ∀ R ∈ rows, R.Pairwise fun p q => p ≤ q) (hz : rows.length ≤ 900 ∧ ∀ R ∈ rows, R.length ≤ 900)
    {Q : V → AH → Prop} (hQ : ∀ H' ra', RowsAt R0 ra' (putR rows b).1 H' → (∀ a o, H a = some o → a ≠ R0 → a ∉ ra → H' a = some o) → (∀ a ∈ ra', a ∈ ra ∨ H a = none) → (∀ a, H' a = none → H a = none) → Q (.int (putR rows b).2) H') :
    WCall C A (.ref 30) [.ref R0, .int b] [] H Q := by
  have hsz : 1000 ≤ sizeLine := by decide
  refine WCall.def (fn_in hK 30 rfl) (by omega) rfl (noCell rfl) (fun h k => codeRec_of (hK.keeps k) rfl) (bs := [("rows", .ref R0), ("x", .int b)]) ?_ (allLocal rfl) ?_
  · intro vals kvs e1 e2
    obtain ⟨x1, x2, rfl, y1, y2⟩ := vals2 e1
    cases ab_nil e2
    refine ⟨[("rows", x1), ("x", x2)], fun s hs => kp_binds (hK.keeps hs) (fun S => by kernel_rfl), ?_⟩
    show [(_, ab x1), (_, ab x2)] = _
    rw [y1, y2]
  intro L hL
  have hNx := Nx.of A (callEnv (put03 P) L 30)
  generalize hA' : A.deeper (callEnv (put03 P) L 30) = A' at *
  have F : Fx C A' (callEnv (put03 P) L 30) := ⟨rfl, rfl, rfl, hNx.2.2.trans hh⟩
  have hd1 := hNx.1
  generalize hρ : (fun y => List.lookup y (([("rows", .ref R0), ("x", .int b)] : List (Str × V)).reverse)) = ρ
  have rr : ρ "rows" = some (.ref R0) := by rw [← hρ]; rfl
  have rx : ρ "x" = some (.int b) := by rw [← hρ]; rfl
  clear hρ
  have hlr := h.hX.length
  refine WS.cons (W1.for (WIt.range1 F (Ev.glob F rfl G.range) (Ev.len (Ev.glob F rfl G.len) (Ev.local F rfl rr) h.hR rfl) (by omega) (by simp; omega) ?_))
  refine ⟨fun i ρ1 H1 => ∃ done x, done.length = i ∧ i ≤ rows.length ∧ RowsAt R0 ra (done ++ rows.drop i) H1 ∧ putR rows b = (done ++ (putR (rows.drop i) x).1, i + (putR (rows.drop i) x).2) ∧ (∀ a o, H a = some o → a ≠ R0 → a ∉ ra → H1 a = some o) ∧ (∀ a, H1 a = none → H a = none) ∧ ρ1 "rows" = some (.ref R0) ∧ ρ1 "x" = some (.int x), ⟨[], b, rfl, Nat.zero_le _, h, by simp, fun a o e _ _ => e, fun a e => e, rr, rx⟩, ?_, ?_⟩
  · rintro i ρ1 H1 hi ⟨done, x, hdl, hil, h1, hput, hfr, hnn, r1, r2⟩
    refine ⟨trivial, ?_⟩
    rintro d rfl
    refine Asg.local F rfl ?_
    have hi' : i < rows.length := by rw [← hlr]; simpa using hi
    obtain ⟨R, hRi⟩ : ∃ R, rows[i]? = some R := ⟨_, List.getElem?_eq_getElem hi'⟩
    obtain ⟨a, hai⟩ : ∃ a, ra[i]? = some a := ⟨_, List.getElem?_eq_getElem (by omega)⟩
    have hdr : rows.drop i = R :: rows.drop (i + 1) := by rw [List.drop_eq_getElem_cons hi', (List.getElem?_eq_some_iff.mp hRi).2]
    have hdi : (done ++ rows.drop i)[i]? = some R := by rw [List.getElem?_append_right (by omega), hdl, Nat.sub_self, hdr]; rfl
    have haH := Zip.get i _ _ h1.hX hai hdi
    have hRs := hs R (List.mem_of_getElem? hRi)
    have hRl := hz.2 R (List.mem_of_getElem? hRi)
    have rowE : ∀ {ρ' : Lo} {H' : AH} {p1 p2 p3 : Pos}, ρ' "rows" = some (.ref R0) → ρ' "k" = some (.int i) → H' R0 = some (.list (ra.map .ref)) → Ev C A' (callEnv (put03 P) L 30) ρ' H' (.Subscript (.Name "rows" p1) (.Name "k" p2) p3) (.ref a) := fun q1 q2 q3 =>
      Ev.item (Ev.local F rfl q1) (Ev.local F rfl q2) q3 rfl (by omega) (by rw [Int.toNat_natCast, List.getElem?_map, hai]; rfl)
    refine WS.seq (W1.asgLocal F rfl (WE.callB (fun _ => fn_in hK 23 rfl) (Ev.glob F rfl G.br) (WEs.of (.cons (rowE (by exact r1) rfl h1.hR) (.cons (Ev.local F rfl (by exact r2)) .nil)) (WKs.nil (WCall.mono (br_ints hK G.len F.hh (by omega) haH hRs) ?_)))))
    rintro v H2 ⟨rfl, rfl⟩
    refine ⟨rfl, ?_⟩
    have hpl := plc_le R x
    have hsets : ∀ row, (done ++ rows.drop i).set i row = done ++ row :: rows.drop (i + 1) := fun row => by
      rw [hdr, List.set_append_right _ _ (by omega), hdl, Nat.sub_self]; rfl
    refine WS.cons (W1.if (WT.of (EvT.icmp (op := .Eq) (Ev.local F rfl rfl) (Ev.len (Ev.glob F rfl G.len) (rowE (by exact r1) rfl h1.hR) haH rfl) rfl) ⟨fun e => ?_, fun e => WS.nil ?_⟩))
    · have hk : plc R x = R.length := by
        have : (plc R x : Int) = ((vints R).length : Int) := by simpa using e
        rw [ints_length] at this; omega
      have hp : putR (R :: rows.drop (i + 1)) x = ((R ++ [x]) :: rows.drop (i + 1), 0) := by rw [putR, if_pos hk]
      refine WS.seq (W1.expr F (WE.listMeth PySem.F.slot_list_append rfl (WE.of (rowE (by exact r1) rfl h1.hR) ⟨a, _, rfl, haH, WEs.of (.cons (Ev.local F rfl (by exact r2)) .nil) (WCall.append haH (by rw [ints_length]; omega) ⟨(by intro a e; cases e), rfl, ?_⟩)⟩)))
      rw [show vints R ++ [V.int x] = vints (R ++ [x]) by simp [vints]]
      have hu := h1.upd (row := R ++ [x]) hai
      rw [hsets] at hu
      refine WS.cons (W1.ret (WE.of (Ev.local F rfl rfl) ?_))
      have e2 : (putR rows b).2 = i := by rw [hput, hdr, hp]; rfl
      have e1 : (putR rows b).1 = done ++ (R ++ [x]) :: rows.drop (i + 1) := by rw [hput, hdr, hp]
      rw [← e1] at hu
      have := hQ _ ra hu (fun b' o e n1 n2 => ?_) (fun a' ha' => .inl ha') (fun b' e => hnn b' (AH.none_of_set e).1)
      · rw [e2] at this; exact this
      · rw [AH.set_ne _ _ (fun q : b' = a => n2 (q ▸ List.mem_of_getElem? hai))]; exact hfr b' o e n1 n2
    · have hk : ¬ plc R x = R.length := by
        have : ¬ (plc R x : Int) = ((vints R).length : Int) := by simpa using e
        rw [ints_length] at this; omega
      have hkl : plc R x < R.length := by omega
      have hp : putR (R :: rows.drop (i + 1)) x = (R.set (plc R x) x :: (putR (rows.drop (i + 1)) (R.getD (plc R x) 0)).1, (putR (rows.drop (i + 1)) (R.getD (plc R x) 0)).2 + 1) := by rw [putR, if_neg hk]
      have hgv : (vints R)[plc R x]? = some (.int (R.getD (plc R x) 0)) := by rw [List.getD_eq_getElem?_getD]; simp [vints, hkl]
      refine WS.cons (W1.asgTup F (WEs.of (.cons (Ev.item (rowE (by exact r1) rfl h1.hR) (Ev.local F rfl rfl) haH rfl (by omega) (by rw [Int.toNat_natCast]; exact hgv)) (.cons (Ev.local F rfl (by exact r2)) .nil)) (Asg.local F rfl (Asg.item (k := plc R x) (rowE (by exact r1) rfl h1.hR) (Ev.local F rfl rfl) haH (by rw [ints_length]; exact hkl) ?_))))
      simp only [AsgL]
      rw [show (vints R).set (plc R x) (V.int x) = vints (R.set (plc R x) x) by simp [vints]]
      have hu := h1.upd (row := R.set (plc R x) x) hai
      rw [hsets] at hu
      refine WS.nil ⟨done ++ [R.set (plc R x) x], R.getD (plc R x) 0, by simp [hdl], by omega, by simpa using hu, ?_, fun b' o e n1 n2 => ?_, fun b' e => hnn b' (AH.none_of_set e).1, r1, rfl⟩
      · rw [hput, hdr, hp]; simp; omega
      · rw [AH.set_ne _ _ (fun q : b' = a => n2 (q ▸ List.mem_of_getElem? hai))]; exact hfr b' o e n1 n2
  · rintro ρ1 H1 ⟨done, x, hdl, hil, h1, hput, hfr, hnn, r1, r2⟩
    refine ⟨trivial, ?_⟩
    have hn : ((List.map V.ref ra).length : Int).toNat = rows.length := by simp [hlr]
    rw [hn] at h1 hput hdl
    rw [List.drop_length, List.append_nil] at h1
    rw [List.drop_length] at hput
    have hp : putR [] x = ([[x]], 0) := rfl
    rw [hp] at hput
    refine WS.seq (W1.expr F (WE.listMeth PySem.F.slot_list_append rfl (WE.of (Ev.local F rfl r1) ⟨R0, _, rfl, h1.hR, WEs.cons (WE.list rfl (by decide) (WEs.of (.cons (Ev.local F rfl r2) .nil) fun a ha => WEs.nil (WCall.append (AH.get_of_set h1.hR ha) (by simp; omega) ⟨(by intro a e; cases e), rfl, ?_⟩)))⟩)))
    have hadd := h1.add (row := [x]) ha
    rw [show (ra.map V.ref) ++ [V.ref a] = (ra ++ [a]).map V.ref by simp]
    have hl2 := hadd.hR
    refine WS.cons (W1.ret (WE.of (Ev.sub (Ev.len (Ev.glob F rfl G.len) (Ev.local F rfl r1) hl2 rfl) Ev.int) ?_))
    have e1 : (putR rows b).1 = done ++ [[x]] := by rw [hput]
    have e2 : (putR rows b).2 = rows.length := by rw [hput]; simp
    rw [← e1] at hadd
    have := hQ _ _ hadd (fun b' o e n1 n2 => ?_) (fun a' ha' => ?_) (fun b' e => hnn b' (AH.none_of_set (AH.none_of_set e).1).1)
    · rw [e2] at this
      show Q (.int _) _
      rw [show (((ra ++ [a]).map V.ref).length : Int) - 1 = (rows.length : Int) by simp [hlr]]
      exact this
    · rw [AH.set_ne _ _ n1]; exact AH.get_of_set (hfr b' o e n1 n2) ha
    · rcases List.mem_append.mp ha' with q | q
      · exact .inl q
      · rw [List.mem_singleton.mp q]; exact .inr (hnn _ ha)
end
end Mine

set_option maxHeartbeats 4000000
namespace Mine
open PySem PySem.W PyProof.Rows
open PySem.SeqAt (shaped)

theorem perm_sorted_eq : ∀ {a b : List Int}, a.Perm b → a.Pairwise (· ≤ ·) → b.Pairwise (· ≤ ·) → a = b
  | [], b, h, _, _ => (List.Perm.eq_nil h.symm).symm
  | x :: a, [], h, _, _ => absurd (List.Perm.eq_nil h) (by simp)
  | x :: a, y :: b, h, h1, h2 => by
    obtain ⟨a1, a2⟩ := List.pairwise_cons.mp h1
    obtain ⟨b1, b2⟩ := List.pairwise_cons.mp h2
    have e1 : x ≤ y := by
      rcases List.mem_cons.mp (h.mem_iff.mpr (List.mem_cons_self ..) : y ∈ x :: a) with q | q
      · omega
      · exact a1 y q
    have e2 : y ≤ x := by
      rcases List.mem_cons.mp (h.mem_iff.mp (List.mem_cons_self ..) : x ∈ y :: b) with q | q
      · omega
      · exact b1 x q
    have e : x = y := by omega
    subst e
    rw [perm_sorted_eq (List.Perm.cons_inv h) a2 b2]
section
variable {C : Cx} {A : Around} {ρ : Lo} {H : AH} {P : Params}
theorem ord_spec {R0 : Addr} {ra : List Addr} {rows : List (List Int)} (hK : (hd.heap_39 P).In C.base) (G : Gl03 C) (hh : A.handled = none) (hdep : A.depth + 4 < recursionLimit) (hu : A.units + 200 < cLine) (h : RowsAt R0 ra rows H) (hT : Tb rows) (hz : rows.length ≤ 100 ∧ ∀ R ∈ rows, R.length ≤ 100)
    {Q : V → AH → Prop} (hQ : Q (.bool true) H) : WCall C A (.ref 35) [.ref R0] [] H Q := by
  have hsz : 1000 ≤ sizeLine := by decide
  refine WCall.def (fn_in hK 35 rfl) (by omega) rfl (noCell rfl) (fun h k => codeRec_of (hK.keeps k) rfl) (bs := [("rows", .ref R0)]) ?_ (allLocal rfl) ?_
  · intro vals kvs e1 e2
    obtain ⟨x1, rfl, y1⟩ := vals1 e1
    cases ab_nil e2
    refine ⟨[("rows", x1)], fun s hs => kp_binds (hK.keeps hs) (fun S => by kernel_rfl), ?_⟩
    show [(_, ab x1)] = _
    rw [y1]
  intro L hL
  have hNx := Nx.of A (callEnv (ord03 P) L 35)
  generalize hA' : A.deeper (callEnv (ord03 P) L 35) = A' at *
  have F : Fx C A' (callEnv (ord03 P) L 35) := ⟨rfl, rfl, rfl, hNx.2.2.trans hh⟩
  have hd1 := hNx.1
  have hu1 := hNx.2.1
  generalize hρ : (fun y => List.lookup y (([("rows", .ref R0)] : List (Str × V)).reverse)) = ρ
  have rr : ρ "rows" = some (.ref R0) := by rw [← hρ]; rfl
  clear hρ
  have hlr := h.hX.length
  have rowAt : ∀ {i : Nat} {v : V}, (ra.map V.ref)[i]? = some v → ∃ a R, ra[i]? = some a ∧ rows[i]? = some R ∧ v = .ref a ∧ H a = some (.list (vints R)) := fun {i v} hv => by
    rw [List.getElem?_map] at hv
    cases hai : ra[i]? with
    | none => rw [hai] at hv; cases hv
    | some a =>
      rw [hai] at hv
      have hi : i < ra.length := (List.getElem?_eq_some_iff.mp hai).1
      have hri : rows[i]? = some rows[i] := List.getElem?_eq_getElem (by omega)
      have q := Zip.get i _ _ h.hX hai hri
      exact ⟨a, _, rfl, hri, (Option.some.inj hv).symm, q⟩
  obtain ⟨t1, t2, t3⟩ := (tb_iff rows).mp hT
  refine WS.drop ?_
  refine WS.seq (W1.if (WT.of (b := false) (WT.ev (WT.drop (WT.neD (by omega) (WE.listComp (cl := []) rfl (WIt.list F (WE.of (Ev.local F rfl rr) ⟨R0, _, _, rfl, h.hR, rfl, fun Cn hCn => ?_⟩)))))) ⟨fun e => (by cases e), fun _ => WS.nil ⟨rfl, ?_⟩⟩))
  · refine comp_none (g := fun i => .ref (ra.getD i 0)) (F.comp rfl) rfl (fun _ => h.hR) (fun i d hd => ?_) (fun i ρ1 hi hk => ?_) ?_
    · obtain ⟨v, hv, rfl⟩ := hd
      obtain ⟨a, R, q1, q2, rfl, q3⟩ := rowAt hv
      rw [List.getD_eq_getElem?_getD, q1]; rfl
    · have hi' : i < ra.length := by simpa using hi
      obtain ⟨a, R, q1, q2, q4, q3⟩ := rowAt (i := i) (v := .ref ra[i]) (by rw [List.getElem?_map, List.getElem?_eq_getElem hi']; rfl)
      have hg : ra.getD i 0 = a := by rw [List.getD_eq_getElem?_getD, q1]; rfl
      rw [hg] at hk
      have hR := hT.rows R (List.mem_of_getElem? q2)
      have hRl := hz.2 R (List.mem_of_getElem? q2)
      refine WT.ev (WT.drop (WT.neD (by omega) (WE.of (Ev.local (F.comp rfl) rfl hk) (WE.callBi (Ev.glob (F.comp rfl) rfl G.sorted) (WEs.of (.cons (Ev.local (F.comp rfl) rfl hk) .nil) (WKs.nil (WCall.sortedIntsC (R := fun ns => ns = R) (fun A' hA' => fun L ρ v s E Q ev hs hq => Coll.list q3 rfl L ρ v s E Q ev hs fun us s' e => hq us s' ⟨R, e, rfl⟩) (fun ns e => by rw [e]; omega) fun ns D ns' e hD hp hs => ?_)))))))
      subst e
      have e : ns' = ns := perm_sorted_eq hp hs hR
      subst e
      exact ⟨dints ns', dints ns', Rd_ints (AH.get_of_set q3 hD) rfl, Rd_ints (AH.set_same ..) rfl, shaped_ints _, shaped_ints _, H, AH.le_set (AH.le_refl _) hD, by rw [eqv_ints]; simp, rfl⟩
    · exact fun D hD => WE.list rfl (by decide) (WEs.nil fun b hb => ⟨dints [], dints [], Rd_ints (AH.get_of_set (AH.set_same ..) hb) rfl, Rd_ints (AH.set_same ..) rfl, shaped_ints _, shaped_ints _, H, AH.le_trans (AH.le_set (AH.le_refl _) hD) (AH.le_set (AH.le_refl _) hb), by rw [eqv_ints]; rfl, rfl⟩)
  refine WS.cons (W1.ret (WE.eqD (by omega) (WE.listComp (cl := []) rfl (WIt.zip F (Ev.glob F rfl G.zip) (WE.of (Ev.local F rfl rr) (WE.slice (lo := some 1) (hi := none) (WE.of (Ev.local F rfl rr) ⟨R0, _, _, rfl, h.hR, rfl, .some Ev.int, .none, fun c hc => ⟨R0, c, _, _, _, _, rfl, rfl, AH.get_of_set h.hR hc, AH.set_same .., rfl, rfl, fun Cn hCn => ?_⟩⟩)))) (hgs := fun g hg => by rw [List.mem_singleton.mp hg]; exact ⟨rfl, fun _ _ => rfl⟩))))
  have hle : H.le (H.set c (.list (slc (some 1) none (ra.map V.ref)))) := AH.le_set (AH.le_refl _) hc
  have hcH : (H.set c (.list (slc (some 1) none (ra.map V.ref)))) c = some (.list (slc (some 1) none (ra.map V.ref))) := AH.set_same ..
  have hsl : slc (some 1) none (ra.map V.ref) = (ra.drop 1).map V.ref := by rw [show (1 : Int) = ((1 : Nat) : Int) from rfl, slc_drop, List.map_drop]
  rw [hsl] at hle hcH ⊢
  generalize H.set c (.list ((ra.drop 1).map V.ref)) = H1 at *
  refine ⟨fun i ρ1 H2 zs => H2 = H1 ∧ zs = [], ⟨rfl, rfl⟩, ?_, ?_⟩
  · rintro i ρ1 H2 zs hi ⟨rfl, rfl⟩
    refine ⟨⟨hle _ _ h.hR, hcH⟩, ?_⟩
    rintro d ⟨v, w, hv, hw, rfl⟩
    obtain ⟨a, R, q1, q2, rfl, q3⟩ := rowAt hv
    have hw' : (ra.map V.ref)[i + 1]? = some w := by
      rw [← hw, List.getElem?_map, List.getElem?_map, List.getElem?_drop, Nat.add_comm 1 i]
    obtain ⟨b, S, s1, s2, rfl, s3⟩ := rowAt hw'
    have g1 : rows.getD i [] = R := by rw [List.getD_eq_getElem?_getD, q2]; rfl
    have g2 : rows.getD (i + 1) [] = S := by rw [List.getD_eq_getElem?_getD, s2]; rfl
    refine Asg.tuple (F.comp rfl) rfl rfl (Asg.local (F.comp rfl) rfl (Asg.local (F.comp rfl) rfl ?_))
    refine ⟨fun _ => ?_, fun e => by cases e⟩
    refine WIt.zip (F.comp rfl) (Ev.glob (F.comp rfl) rfl G.zip) (WE.of (Ev.local (F.comp rfl) rfl rfl) (WE.of (Ev.local (F.comp rfl) rfl rfl) ⟨a, b, _, _, _, _, rfl, rfl, hle _ _ q3, hle _ _ s3, rfl, rfl, ?_⟩))
    refine ⟨fun j ρ2 H3 us => H3 = H2 ∧ us = [], ⟨rfl, rfl⟩, ?_, ?_⟩
    · rintro j ρ2 H3 us hj ⟨rfl, rfl⟩
      refine ⟨⟨hle _ _ q3, hle _ _ s3⟩, ?_⟩
      rintro d ⟨v, w, hv, hw, rfl⟩
      obtain ⟨rfl, _⟩ := vints_at hv
      obtain ⟨rfl, hjS⟩ := vints_at hw
      have hlt := t3 i j (by unfold tl; rw [g2]; exact hjS)
      unfold tv gI at hlt
      rw [g1, g2] at hlt
      refine Asg.tuple (F.comp rfl) rfl rfl (Asg.local (F.comp rfl) rfl (Asg.local (F.comp rfl) rfl ?_))
      refine WT.of (b := false) (EvT.icmp (op := .GtE) (Ev.local (F.comp rfl) rfl rfl) (Ev.local (F.comp rfl) rfl rfl) (by simp only [icmp]; congr 1; exact decide_eq_false (by omega))) ⟨fun e => (by cases e), fun _ => ⟨fun e => (by cases e), fun _ => ⟨rfl, rfl⟩⟩⟩
    · rintro ρ2 H3 us ⟨rfl, rfl⟩
      exact ⟨⟨hle _ _ q3, hle _ _ s3⟩, rfl, rfl⟩
  · rintro ρ1 H2 zs ⟨rfl, rfl⟩
    refine ⟨⟨hle _ _ h.hR, hcH⟩, ?_⟩
    exact fun D hD => WE.list rfl (by decide) (WEs.nil fun b hb => ⟨dints [], dints [], Rd_ints (AH.get_of_set (AH.set_same ..) hb) rfl, Rd_ints (AH.set_same ..) rfl, shaped_ints _, shaped_ints _, H, AH.le_trans hle (AH.le_trans (AH.le_set (AH.le_refl _) hD) (AH.le_set (AH.le_refl _) hb)), by rw [eqv_ints]; exact hQ⟩)
end
end Mine

set_option maxHeartbeats 4000000
namespace Mine
open PySem PySem.W PyProof.Rows

/-! ## the rows and what is told, both made here -/
structure SlAt (B : AH) (R0 TO : Addr) (ra ta : List Addr) (T D : List (List Int)) (H : AH) : Prop where
  le : B.le H
  r : RowsAt R0 ra T H
  t : RowsAt TO ta D H
  d : ∀ a ∈ ra, a ≠ TO ∧ a ∉ ta
  q : R0 ∉ ta
  fr : ∀ a ∈ ra, B a = none
  ft : ∀ a ∈ ta, B a = none
theorem SlAt.updR {B : AH} {R0 TO a : Addr} {ra ta : List Addr} {T D : List (List Int)} {H : AH} {k : Nat} {row : List Int} (h : SlAt B R0 TO ra ta T D H) (hk : ra[k]? = some a) : SlAt B R0 TO ra ta (T.set k row) D (H.set a (.list (vints row))) := by
  have ha := List.mem_of_getElem? hk
  refine ⟨AH.le_set h.le (h.fr a ha), h.r.upd hk, h.t.keep fun b hb o e => ?_, h.d, h.q, h.fr, h.ft⟩
  rw [AH.set_ne _ _ (fun q => ?_)]; exact e
  have := h.d a ha
  rw [← q] at this
  rcases hb with w | w
  · exact this.1 w
  · exact this.2 w
theorem SlAt.updT {B : AH} {R0 TO a : Addr} {ra ta : List Addr} {T D : List (List Int)} {H : AH} {k : Nat} {row : List Int} (h : SlAt B R0 TO ra ta T D H) (hk : ta[k]? = some a) : SlAt B R0 TO ra ta T (D.set k row) (H.set a (.list (vints row))) := by
  have ha := List.mem_of_getElem? hk
  refine ⟨AH.le_set h.le (h.ft a ha), h.r.keep fun b hb o e => ?_, h.t.upd hk, h.d, h.q, h.fr, h.ft⟩
  rw [AH.set_ne _ _ (fun q => ?_)]; exact e
  rcases hb with w | w
  · rw [q] at w; rw [← w] at h; exact h.q ha
  · rw [q] at w; exact (h.d a w).2 ha
/-- which rows are not empty -/
noncomputable def nonE (H : AH) : V → Bool
  | .ref a => match H a with
    | some (.list vs) => !decide (vs = [])
    | _ => false
  | _ => false
theorem zip_filter {H : AH} : ∀ (ra : List Addr) (T : List (List Int)), Zip (fun a row => H a = some (.list (vints row))) ra T →
    ∃ rb : List Addr, (ra.map V.ref).filter (nonE H) = rb.map V.ref ∧ Zip (fun a row => H a = some (.list (vints row))) rb (T.filter fun R => !R.isEmpty) ∧ rb.Sublist ra
  | [], [], _ => ⟨[], rfl, trivial, List.Sublist.refl _⟩
  | [], _ :: _, h => h.elim
  | _ :: _, [], h => h.elim
  | a :: ra, R :: T, h => by
    obtain ⟨rb, e1, e2, e3⟩ := zip_filter ra T h.2
    have hn : nonE H (.ref a) = !R.isEmpty := by
      have h1 : H a = some (.list (vints R)) := h.1
      cases R <;> simp [nonE, h1, vints]
    cases R with
    | nil =>
      refine ⟨rb, ?_, ?_, e3.cons a⟩
      · rw [List.map_cons, List.filter_cons_of_neg (by rw [hn]; simp)]; exact e1
      · rw [List.filter_cons_of_neg (by simp)]; exact e2
    | cons x R =>
      refine ⟨a :: rb, ?_, ?_, e3.cons_cons a⟩
      · rw [List.map_cons, List.filter_cons_of_pos (by rw [hn]; simp), e1]; rfl
      · rw [List.filter_cons_of_pos (by simp)]; exact ⟨h.1, e2⟩
/-- the empty rows left out -/
theorem SlAt.left {B : AH} {R0 TO N : Addr} {ra rb ta : List Addr} {T D : List (List Int)} {H : AH} (h : SlAt B R0 TO ra ta T D H) (hN : H N = none) (hz : Zip (fun a row => H a = some (.list (vints row))) rb (T.filter fun R => !R.isEmpty)) (hs : rb.Sublist ra) :
    SlAt B N TO rb ta (T.filter fun R => !R.isEmpty) D (H.set N (.list (rb.map .ref))) := by
  have hNra : N ∉ ra := fun q => by obtain ⟨r, e⟩ := h.r.mem q; rw [hN] at e; cases e
  have hNta : N ∉ ta := fun q => by obtain ⟨r, e⟩ := h.t.mem q; rw [hN] at e; cases e
  refine ⟨AH.le_trans h.le (AH.le_set (AH.le_refl _) hN), ⟨AH.set_same .., hz.mono fun a _ row e => AH.get_of_set e hN, fun q => hNra (hs.subset q), List.Pairwise.sublist hs h.r.nd⟩, h.t.keep fun b _ o e => AH.get_of_set e hN, fun a ha => h.d a (hs.subset ha), hNta, fun a ha => h.fr a (hs.subset ha), h.ft⟩

section
variable {C : Cx} {A : Around} {env : Env} {ρ : Lo} {H : AH}
/-- a new row for each row -/
theorem comp_rows {f : List Int → List Int} {elt : Expr} {x : Str} {pos : Pos} {R0 : Addr} {ra : List Addr} {T : List (List Int)} {Q : AH → List V → Prop} (F : Fx C A env) (hx : env.kindOf x = some .local) (h : RowsAt R0 ra T H) (hn : T.length ≤ sizeLine)
    (he : ∀ (ρ1 : Lo) H1 a row, H.le H1 → H1 a = some (.list (vints row)) → row ∈ T → ρ1 x = some (.ref a) → ∀ Q : V → AH → Prop, (∀ c, H1 c = none → Q (.ref c) (H1.set c (.list (vints (f row))))) → WE C A env elt ρ1 H1 Q)
    (hQ : ∀ (ca : List Addr) H2, H.le H2 → Zip (fun a row => H2 a = some (.list (vints row))) ca (T.map f) → ca.Nodup → (∀ a ∈ ca, H a = none) → Q H2 (ca.map .ref)) :
    LoopOk C A env elt (.Name x pos) [] [] H (ra.map V.ref).length (fun _ H2 => H2 R0 = some (.list (ra.map .ref))) (fun i _ d => ∃ v, (ra.map V.ref)[i]? = some v ∧ d = .one v) (fun _ => none) [] (fun _ H2 zs => Q H2 zs) := by
  have hlr := h.hX.length
  refine ⟨fun i ρ1 H1 zs => ∃ ca : List Addr, zs = ca.map .ref ∧ ca.length = i ∧ ca.Nodup ∧ H.le H1 ∧ (∀ a ∈ ca, H a = none) ∧ Zip (fun a row => H1 a = some (.list (vints row))) ca ((T.take i).map f), ⟨[], rfl, rfl, List.nodup_nil, AH.le_refl _, by simp, trivial⟩, ?_, ?_⟩
  · rintro i ρ1 H1 zs hi ⟨ca, rfl, hl, hnd, hle, hca, hz⟩
    refine ⟨hle _ _ h.hR, ?_⟩
    rintro d ⟨v, hv, rfl⟩
    have hi' : i < T.length := by rw [← hlr]; simpa using hi
    obtain ⟨a, hai, rfl⟩ : ∃ a, ra[i]? = some a ∧ v = .ref a := by
      rw [List.getElem?_map] at hv
      cases q : ra[i]? with
      | none => rw [q] at hv; cases hv
      | some a => rw [q] at hv; exact ⟨a, rfl, (Option.some.inj hv).symm⟩
    have hTi : T[i]? = some T[i] := List.getElem?_eq_getElem hi'
    have hHa := Zip.get i _ _ h.hX hai hTi
    refine Asg.local F hx ⟨fun _ => ?_, fun e => by cases e⟩
    refine he _ H1 a T[i] hle (hle _ _ hHa) (List.getElem_mem hi') (Lo.set_same ..) _ fun c hc => ?_
    have hcca : c ∉ ca := fun q => by
      obtain ⟨j, hj⟩ := List.getElem?_of_mem q
      have hjl : j < ca.length := (List.getElem?_eq_some_iff.mp hj).1
      have := Zip.get j _ _ hz hj (List.getElem?_eq_getElem (by rw [← hz.length]; exact hjl))
      rw [hc] at this; cases this
    refine ⟨by simp; lia, ca ++ [c], by simp, by simp [hl], ?_, AH.le_trans hle (AH.le_set (AH.le_refl _) hc), fun b hb => ?_, ?_⟩
    · rw [List.nodup_append]
      exact ⟨hnd, by simp, fun b hb d hd q => by rw [List.mem_singleton.mp hd] at q; exact hcca (q ▸ hb)⟩
    · rcases List.mem_append.mp hb with q | q
      · exact hca b q
      · rw [List.mem_singleton.mp q]; exact AH.none_of_le hle hc
    · rw [List.take_add_one, hTi, List.map_append]
      exact Zip.append (hz.mono fun b hb row e => AH.get_of_set e hc) ⟨AH.set_same .., trivial⟩
  · rintro ρ1 H1 zs ⟨ca, rfl, hl, hnd, hle, hca, hz⟩
    refine ⟨hle _ _ h.hR, hQ ca H1 hle ?_ hnd hca⟩
    rw [List.length_map, hlr, List.take_length] at hz
    exact hz
end
end Mine

set_option maxHeartbeats 4000000
namespace Mine
open PySem PySem.W PyProof.Rows

theorem RowsAt.row {R0 : Addr} {ra : List Addr} {T : List (List Int)} {H : AH} {k : Nat} (h : RowsAt R0 ra T H) (hk : k < T.length) : ∃ a, ra[k]? = some a ∧ H a = some (.list (vints (T.getD k []))) := by
  have hl := h.hX.length
  have h1 : ra[k]? = some ra[k] := List.getElem?_eq_getElem (by omega)
  have h2 : T[k]? = some T[k] := List.getElem?_eq_getElem hk
  have h3 := Zip.get k _ _ h.hX h1 h2
  refine ⟨_, h1, ?_⟩
  rw [List.getD_eq_getElem?_getD, h2]; exact h3
theorem vints_get {R : List Int} {j : Nat} (h : j < R.length) : (vints R)[j]? = some (.int (gI R j)) := by
  unfold gI; rw [List.getD_eq_getElem?_getD]; simp [vints, h]
section
variable {C : Cx} {A : Around} {ρ : Lo} {H : AH} {P : Params}
theorem slid_while {L : Addr} (F : Fx C A (callEnv (slid03 P) L 40)) (G : Gl03 C) {B : AH} {R1 TO : Addr} {rb ta : List Addr} {T1 D : List (List Int)} {u : List Int} {m : Int}
    (hs : SlAt B R1 TO rb ta T1 D H) (hH : Hole T1 0 0) (hk : Kn (wh T1 0 0) u)
    (r1 : ρ "rows" = some (.ref R1)) (r2 : ρ "told" = some (.ref TO)) (r3 : ρ "least" = some (.int m)) (r4 : ρ "i" = some (.int (0 : Nat))) (r5 : ρ "j" = some (.int (0 : Nat))) (r6 : ρ "right" = some (.bool true)) (r7 : ρ "below" = some (.bool true))
    {Q : Fl → Lo → AH → Prop} (hQ : ∀ ρ2 H2 T2 i j, SlAt B R1 TO rb ta T2 D H2 → Hole T2 i j → (∀ k, tl T2 k = tl T1 k) → T2.length = T1.length → Kn (wh T2 i j) u → ¬ j + 1 < tl T2 i → ¬ j < tl T2 (i + 1) →
      ρ2 "rows" = some (.ref R1) → ρ2 "told" = some (.ref TO) → ρ2 "least" = some (.int m) → ρ2 "i" = some (.int (i : Nat)) → ρ2 "j" = some (.int (j : Nat)) → Q .next ρ2 H2) :
    W1 C A (callEnv (slid03 P) L 40) (stAt (forBody (stAt (bodyOf (slid03 P)) 2)) 3) ρ H Q := by
  refine W1.while F (fun n ρ2 H2 => ∃ T2 i j r b, SlAt B R1 TO rb ta T2 D H2 ∧ Hole T2 i j ∧ (∀ k, tl T2 k = tl T1 k) ∧ T2.length = T1.length ∧ Kn (wh T2 i j) u ∧ ((r || b) = true ∨ (¬ j + 1 < tl T2 i ∧ ¬ j < tl T2 (i + 1))) ∧ n = 2 * (T1.length + tl T1 0 - (i + j)) + (if (r || b) then 1 else 0) ∧
      ρ2 "rows" = some (.ref R1) ∧ ρ2 "told" = some (.ref TO) ∧ ρ2 "least" = some (.int m) ∧ ρ2 "i" = some (.int (i : Nat)) ∧ ρ2 "j" = some (.int (j : Nat)) ∧ ρ2 "right" = some (.bool r) ∧ ρ2 "below" = some (.bool b)) _ ⟨T1, 0, 0, true, true, hs, hH, fun _ => rfl, rfl, hk, .inl rfl, rfl, r1, r2, r3, r4, r5, r6, r7⟩ ?_
  clear r1 r2 r3 r4 r5 r6 r7 hs hH hk
  rintro n ρ2 H2 ⟨T2, i, j, r, b, hs, hH, htl, hlen, hk, hrb, rfl, r1, r2, r3, r4, r5, r6, r7⟩
  refine WT.of (b := r || (b || false)) (EvT.boolop (AllT.or_cons (EvT.of (Ev.local F rfl r6) rfl (by intro x e; cases e)) fun _ => AllT.or_cons (EvT.of (Ev.local F rfl r7) rfl (by intro x e; cases e)) fun _ => AllT.or_nil)) ⟨fun e => ?_, fun e => ?_⟩
  · have e' : (r || b) = true := by simpa using e
    have hi := hH.ilt
    have hj := hH.jlt
    have hM : i + j + 2 ≤ T1.length + tl T1 0 := by
      have h1 := sh_le hH.sh (Nat.zero_le i)
      have h2 := htl 0
      omega
    obtain ⟨a, hai, haH⟩ := hs.r.row hi
    have rowI : ∀ {ρ' : Lo} {H' : AH} {p1 p2 p3 : Pos}, ρ' "rows" = some (.ref R1) → ρ' "i" = some (.int (i : Nat)) → H' R1 = some (.list (rb.map .ref)) → Ev C A (callEnv (slid03 P) L 40) ρ' H' (.Subscript (.Name "rows" p1) (.Name "i" p2) p3) (.ref a) := fun q1 q2 q3 =>
      Ev.item (Ev.local F rfl q1) (Ev.local F rfl q2) q3 rfl (by omega) (by rw [Int.toNat_natCast, List.getElem?_map, hai]; rfl)
    have rowB : ∀ {ρ' : Lo} {H' : AH} {p1 p2 p3 p4 p5 : Pos} {k : Nat} {c : Addr}, rb[i + 1]? = some c → ρ' "rows" = some (.ref R1) → ρ' "i" = some (.int (i : Nat)) → H' R1 = some (.list (rb.map .ref)) → Ev C A (callEnv (slid03 P) L 40) ρ' H' (.Subscript (.Name "rows" p1) (.BinOp (.Name "i" p2) .Add (.Constant (.int 1) k p4) p5) p3) (.ref c) := fun {ρ' H' p1 p2 p3 p4 p5 k c} hc q1 q2 q3 =>
      Ev.item (k := (i : Int) + 1) (Ev.local F rfl q1) (Ev.add (Ev.local F rfl q2) Ev.int) q3 rfl (by omega) (by rw [show ((i : Int) + 1).toNat = i + 1 by omega, List.getElem?_map, hc]; rfl)
    refine WS.seq (W1.asgLocal F rfl (WE.of (Ev.icmp (op := .Lt) (c := decide (j + 1 < tl T2 i)) (Ev.add (Ev.local F rfl (by exact r5)) Ev.int) (Ev.len (Ev.glob F rfl G.len) (rowI (by exact r1) (by exact r4) hs.r.hR) haH rfl) (by simp only [icmp, ints_length]; congr 1; exact decide_eq_decide.mpr (by unfold tl; omega))) ⟨rfl, ?_⟩))
    have hrl : rb.length = T2.length := hs.r.hX.length
    have hbl : i + 1 < T2.length → ∃ c, rb[i + 1]? = some c ∧ H2 c = some (.list (vints (T2.getD (i + 1) []))) := fun q => hs.r.row q
    have hbelow : (decide (i + 1 < T2.length) && decide (j < tl T2 (i + 1))) = decide (j < tl T2 (i + 1)) := by
      by_cases q : j < tl T2 (i + 1)
      · have := tl_lt (T := T2) (r := i + 1) (by omega)
        simp [q, this]
      · simp [q]
    refine WS.seq (W1.asgLocal F rfl (WE.of (v := .bool (decide (j < tl T2 (i + 1)))) (hbelow ▸ Ev.and2 (a := decide (i + 1 < T2.length)) (b := decide (j < tl T2 (i + 1))) (Ev.icmp (op := .Lt) (Ev.add (Ev.local F rfl (by exact r4)) Ev.int) (Ev.len (Ev.glob F rfl G.len) (Ev.local F rfl (by exact r1)) hs.r.hR rfl) (by simp only [icmp, List.length_map, hrl]; congr 1; exact decide_eq_decide.mpr (by omega))) (fun e => ?_)) ⟨rfl, ?_⟩))
    · obtain ⟨c, hc1, hc2⟩ := hbl (by simpa using e)
      exact Ev.icmp (op := .Lt) (Ev.local F rfl (by exact r5)) (Ev.len (Ev.glob F rfl G.len) (rowB hc1 (by exact r1) (by exact r4) hs.r.hR) hc2 rfl) (by simp only [icmp, ints_length]; congr 1; exact decide_eq_decide.mpr (by unfold tl; omega))
    have hset : ∀ (R : List Int) (x : Int), (vints R).set j (V.int x) = vints (R.set j x) := fun R x => by simp [vints]
    refine WS.cons (W1.if (WT.of (b := decide (j < tl T2 (i + 1)) && (!(decide (j + 1 < tl T2 i) && (decide (tv T2 i (j + 1) < tv T2 (i + 1) j) && true)) && true)) (EvT.boolop (AllT.and_cons (EvT.of (Ev.local F rfl rfl) rfl (by intro x e; cases e)) fun e1 => AllT.and_cons (EvT.not (EvT.boolop (AllT.and_cons (EvT.of (Ev.local F rfl rfl) rfl (by intro x e; cases e)) fun e2 => AllT.and_cons ?_ fun _ => AllT.and_nil))) fun _ => AllT.and_nil)) ⟨fun e => ?_, fun e => ?_⟩))
    · have e1' : j < tl T2 (i + 1) := by simpa using e1
      have e2' : j + 1 < tl T2 i := by simpa using e2
      obtain ⟨c, hc1, hc2⟩ := hbl (tl_lt (by omega))
      exact EvT.icmp (op := .Lt) (a := tv T2 i (j + 1)) (b := tv T2 (i + 1) j) (Ev.item (k := (j : Int) + 1) (rowI (by exact r1) (by exact r4) hs.r.hR) (Ev.add (Ev.local F rfl (by exact r5)) Ev.int) haH rfl (by omega) (by rw [show ((j : Int) + 1).toNat = j + 1 by omega]; exact vints_get e2')) (Ev.item (k := (j : Int)) (rowB hc1 (by exact r1) (by exact r4) hs.r.hR) (Ev.local F rfl (by exact r5)) hc2 rfl (by omega) (by rw [Int.toNat_natCast]; exact vints_get e1')) rfl
    · have e1' : j < tl T2 (i + 1) := by simp at e; exact e.1
      have e2' : j + 1 < tl T2 i → tv T2 (i + 1) j ≤ tv T2 i (j + 1) := fun q => by simp at e; have := e.2; omega
      obtain ⟨c, hc1, hc2⟩ := hbl (tl_lt (by omega))
      refine WS.seq (W1.asg (WE.of (Ev.item (k := (j : Int)) (rowB hc1 (by exact r1) (by exact r4) hs.r.hR) (Ev.local F rfl (by exact r5)) hc2 rfl (by omega) (by rw [Int.toNat_natCast]; exact vints_get e1')) (Asg.item (k := j) (rowI (by exact r1) (by exact r4) hs.r.hR) (Ev.local F rfl (by exact r5)) haH (by rw [ints_length]; exact hj) ⟨rfl, ?_⟩)))
      rw [hset]
      obtain ⟨d1, d2⟩ := hH.down e1' e2'
      refine WS.seq (W1.augAdd F rfl (by exact r4) Ev.int ⟨rfl, WS.nil (WS.nil ⟨2 * (T1.length + tl T1 0 - (i + 1 + j)) + (if (decide (j + 1 < tl T2 i) || decide (j < tl T2 (i + 1))) then 1 else 0), ?_, _, i + 1, j, decide (j + 1 < tl T2 i), decide (j < tl T2 (i + 1)), hs.updR hai, d1, fun k => ?_, by rw [List.length_set]; exact hlen, d2.symm.trans hk, .inl (by simp [e1']), rfl, r1, r2, r3, rfl, r5, rfl, rfl⟩)⟩)
      · rw [e']; simp [e1']; omega
      · rw [← htl, tl_set hi (by rw [List.length_set]; rfl)]
    · refine WS.cons (W1.if (WT.of (b := decide (j + 1 < tl T2 i)) (EvT.of (Ev.local F rfl rfl) rfl (by intro x e; cases e)) ⟨fun e2 => ?_, fun e2 => WS.nil (WS.nil (WS.nil ?_))⟩))
      · have e2' : j + 1 < tl T2 i := by simpa using e2
        have e3' : j < tl T2 (i + 1) → tv T2 i (j + 1) < tv T2 (i + 1) j := fun q => by simp [q, e2'] at e; exact e
        refine WS.seq (W1.asg (WE.of (Ev.item (k := (j : Int) + 1) (rowI (by exact r1) (by exact r4) hs.r.hR) (Ev.add (Ev.local F rfl (by exact r5)) Ev.int) haH rfl (by omega) (by rw [show ((j : Int) + 1).toNat = j + 1 by omega]; exact vints_get e2')) (Asg.item (k := j) (rowI (by exact r1) (by exact r4) hs.r.hR) (Ev.local F rfl (by exact r5)) haH (by rw [ints_length]; exact hj) ⟨rfl, ?_⟩)))
        rw [hset]
        obtain ⟨d1, d2⟩ := hH.right e2' e3'
        refine WS.seq (W1.augAdd F rfl (by exact r5) Ev.int ⟨rfl, WS.nil (WS.nil (WS.nil ⟨2 * (T1.length + tl T1 0 - (i + (j + 1))) + (if (decide (j + 1 < tl T2 i) || decide (j < tl T2 (i + 1))) then 1 else 0), ?_, _, i, j + 1, decide (j + 1 < tl T2 i), decide (j < tl T2 (i + 1)), hs.updR hai, d1, fun k => ?_, by rw [List.length_set]; exact hlen, ?_, .inl (by simp [e2']), rfl, r1, r2, r3, r4, rfl, rfl, rfl⟩))⟩)
        · rw [e']; simp [e2']; omega
        · rw [← htl, tl_set hi (by rw [List.length_set]; rfl)]
        · have : wh T2 i j = _ := d2.symm
          show Kn (wh (T2.set i ((T2.getD i []).set j (tv T2 i (j + 1)))) i (j + 1)) u
          rw [← this]; exact hk
      · have e2' : ¬ j + 1 < tl T2 i := by simpa using e2
        have e3' : ¬ j < tl T2 (i + 1) := fun q => by simp [q, e2'] at e
        refine ⟨2 * (T1.length + tl T1 0 - (i + j)) + (if (decide (j + 1 < tl T2 i) || decide (j < tl T2 (i + 1))) then 1 else 0), ?_, T2, i, j, decide (j + 1 < tl T2 i), decide (j < tl T2 (i + 1)), hs, hH, htl, hlen, hk, .inr ⟨e2', e3'⟩, rfl, r1, r2, r3, r4, r5, rfl, rfl⟩
        rw [e']; simp [e2', e3']
  · have e' : (r || b) = false := by simpa using e
    rcases hrb with q | ⟨q1, q2⟩
    · rw [e'] at q; cases q
    · exact hQ ρ2 H2 T2 i j hs hH htl hlen hk q1 q2 r1 r2 r3 r4 r5
end
end Mine

set_option maxHeartbeats 4000000
namespace Mine
open PySem PySem.W PyProof.Rows

theorem slc_all (vs : List V) : slc none none vs = vs := by
  unfold slc; simp
theorem rw_row_len : ∀ (T : List (List Int)) (R : List Int), R ∈ T → R.length ≤ (rw_ T).length
  | [], R, h => by simp at h
  | S :: rows, R, h => by
    show R.length ≤ (rw_ rows ++ S).length
    rw [List.length_append]
    rcases List.mem_cons.mp h with rfl | h
    · omega
    · have := rw_row_len rows R h; omega
theorem rw_rows_len : ∀ (T : List (List Int)), (∀ R ∈ T, R ≠ []) → T.length ≤ (rw_ T).length
  | [], h => Nat.le_refl _
  | S :: rows, h => by
    show rows.length + 1 ≤ (rw_ rows ++ S).length
    rw [List.length_append]
    have := rw_rows_len rows fun R hR => h R (List.mem_cons_of_mem _ hR)
    have := List.length_pos_iff.mpr (h S (List.mem_cons_self ..))
    omega
theorem rw_flat_len : ∀ (T : List (List Int)), ((T.map vints).flatten).length = (rw_ T).length
  | [] => rfl
  | S :: rows => by
    show (vints S ++ (rows.map vints).flatten).length = (rw_ rows ++ S).length
    rw [List.length_append, List.length_append, rw_flat_len rows, ints_length]; omega
section
variable {C : Cx} {A : Around} {ρ : Lo} {H : AH} {P : Params}
/-- one turn -/
theorem slid_turn {L : Addr} (F : Fx C A (callEnv (slid03 P) L 40)) (G : Gl03 C) (hu : A.units + 200 < cLine) {B : AH} {R1 TO : Addr} {rb ta : List Addr} {T1 D Fn : List (List Int)} {v : List Int}
    (hs : SlAt B R1 TO rb ta T1 D H) (hS : Slid Fn D T1 v) (hv : v ≠ []) (hz : v.length ≤ 900)
    (r1 : ρ "rows" = some (.ref R1)) (r2 : ρ "told" = some (.ref TO))
    {Q : Fl → Lo → AH → Prop} (hQ : ∀ ρ2 H2 R2 rc T2 D2 v2, SlAt B R2 TO rc ta T2 D2 H2 → Slid Fn D2 T2 v2 → v2.length + 1 = v.length → ρ2 "rows" = some (.ref R2) → ρ2 "told" = some (.ref TO) → Q .next ρ2 H2) :
    WS C A (callEnv (slid03 P) L 40) (forBody (stAt (bodyOf (slid03 P)) 2)) ρ H Q := by
  have hsz : 1000 ≤ sizeLine := by decide
  obtain ⟨hT0, h0, hHole, hkn⟩ := hS.head hv
  have hrv : (rw_ T1).length = v.length := hS.kn.perm.length_eq
  have hTl := rw_rows_len T1 hS.ne
  have hi0 := tl_lt h0
  obtain ⟨a0, ha0, haH0⟩ := hs.r.row hi0
  refine WS.seq (W1.asgLocal F rfl (WE.of (Ev.item (k := 0) (Ev.item (k := 0) (Ev.local F rfl r1) Ev.int hs.r.hR rfl (by decide) (by show (rb.map V.ref)[0]? = _; rw [List.getElem?_map, ha0]; rfl)) Ev.int haH0 rfl (by decide) (vints_get h0)) ⟨rfl, ?_⟩))
  refine WS.seq (W1.asg2 (WE.of Ev.int (Asg.local F rfl (Asg.local F rfl ⟨rfl, ?_⟩))))
  refine WS.seq (W1.asgTup F (WEs.of (.cons Ev.bool (.cons Ev.bool .nil)) (Asg.local F rfl (Asg.local F rfl ?_))))
  refine ⟨rfl, ?_⟩
  refine WS.seq (slid_while F G (m := tv T1 0 0) hs hHole hkn (by exact r1) (by exact r2) rfl rfl rfl rfl rfl fun ρ2 H2 T2 i j hs2 hH2 htl hlen hk2 hr hb q1 q2 q3 q4 q5 => ⟨rfl, ?_⟩)
  obtain ⟨hS2, hiD, hjD⟩ := hS.turn hv hH2 htl hk2 hr hb
  obtain ⟨_, _, hj1⟩ := hH2.stop hr hb
  have hi := hH2.ilt
  have hj := hH2.jlt
  obtain ⟨a, hai, haH⟩ := hs2.r.row hi
  have hne : T2.getD i [] ≠ [] := fun e => by unfold tl at hj; rw [e] at hj; simp at hj
  have hdl : vints (T2.getD i []) = vints (T2.getD i []).dropLast ++ [.int ((T2.getD i []).getLast hne)] := by
    conv => lhs; rw [← List.dropLast_concat_getLast hne]
    simp [vints]
  have rowI : ∀ {ρ' : Lo} {H' : AH} {p1 p2 p3 : Pos}, ρ' "rows" = some (.ref R1) → ρ' "i" = some (.int (i : Nat)) → H' R1 = some (.list (rb.map .ref)) → Ev C A (callEnv (slid03 P) L 40) ρ' H' (.Subscript (.Name "rows" p1) (.Name "i" p2) p3) (.ref a) := fun q1 q2 q3 =>
    Ev.item (Ev.local F rfl q1) (Ev.local F rfl q2) q3 rfl (by omega) (by rw [Int.toNat_natCast, List.getElem?_map, hai]; rfl)
  refine WS.seq (W1.expr F (WE.listMeth PySem.F.slot_list_pop rfl (WE.of (rowI (by exact q1) (by exact q4) hs2.r.hR) ⟨a, _, rfl, haH, WEs.nil (WCall.pop (by rw [haH, hdl]) ⟨(by intro a e; cases e), rfl, ?_⟩)⟩)))
  have hs3 := hs2.updR (row := (T2.getD i []).dropLast) hai
  generalize H2.set a (.list (vints (T2.getD i []).dropLast)) = H3 at *
  obtain ⟨b, hbi, hbH⟩ := hs3.t.row hiD
  refine WS.seq (W1.asg (WE.of (Ev.neg (Ev.local F rfl (by exact q3))) (Asg.item (k := j) (Ev.item (k := (i : Int)) (Ev.local F rfl (by exact q2)) (Ev.local F rfl (by exact q4)) hs3.t.hR rfl (by omega) (by rw [Int.toNat_natCast, List.getElem?_map, hbi]; rfl)) (Ev.local F rfl (by exact q5)) hbH (by rw [ints_length]; exact hjD) ⟨rfl, ?_⟩)))
  rw [show (vints (D.getD i [])).set j (V.int (-tv T1 0 0)) = vints ((D.getD i []).set j (-tv T1 0 0)) by simp [vints]]
  have hs4 := hs3.updT (row := (D.getD i []).set j (-tv T1 0 0)) hbi
  generalize H3.set b (.list (vints ((D.getD i []).set j (-tv T1 0 0)))) = H4 at *
  have hrl : rb.length = T2.length := hs2.r.hX.length
  refine WS.seq (W1.asgComp F rfl (cl := []) rfl (WIt.list F (WE.of (Ev.local F rfl (by exact q1)) ⟨R1, _, _, rfl, hs4.r.hR, rfl, fun Cn hCn => ?_⟩)) rfl)
  have hat : ∀ v ∈ rb.map V.ref, ∃ c vs, v = .ref c ∧ H4 c = some (.list vs) := fun v hv => by
    obtain ⟨c, hc, rfl⟩ := List.mem_map.mp hv
    obtain ⟨row, e⟩ := hs4.r.mem hc
    exact ⟨c, _, rfl, e⟩
  refine comp_filter (p := nonE H4) (g := fun v => v) (F.comp rfl) rfl (by rw [List.length_map]; omega) (fun _ => hs4.r.hR) (fun v ρ' _ hv => Ev.local (F.comp rfl) rfl hv) (fun v ρ' hm hv => ?_) ?_
  · obtain ⟨c, vs, rfl, hc⟩ := hat v hm
    have e : nonE H4 (.ref c) = !decide (vs = []) := by simp [nonE, hc]
    rw [e]
    exact EvT.neNilRaw (by show A.units + 64 < cLine; omega) (Ev.local (F.comp rfl) rfl hv) hc
  intro N hN
  obtain ⟨rc, f1, f2, f3⟩ := zip_filter rb _ hs4.r.hX
  rw [List.map_id', f1]
  have hs5 := hs4.left hN f2 f3
  refine ⟨rfl, WS.nil (hQ _ _ N rc _ _ _ hs5 hS2 ?_ rfl (by exact q2))⟩
  have hm : tv T1 0 0 ∈ v := by
    refine hS.kn.perm.mem_iff.mp ((mem_rw _ _).mpr ⟨T1.getD 0 [], ?_, ?_⟩)
    · rw [List.getD_eq_getElem?_getD, List.getElem?_eq_getElem hi0]; exact List.getElem_mem _
    · have h0' : 0 < (T1.getD 0 []).length := h0
      have : tv T1 0 0 = (T1.getD 0 [])[0] := gI_at h0'
      rw [this]; exact List.getElem_mem _
  rw [List.length_erase_of_mem hm]
  have := List.length_pos_of_mem hm
  omega
end
end Mine

set_option maxHeartbeats 4000000
namespace Mine
open PySem PySem.W PyProof.Rows

section
variable {C : Cx} {A : Around} {ρ : Lo} {H : AH} {P : Params}
theorem slid_spec {R0 : Addr} {ra : List Addr} {w : List Int} (hK : (hd.heap_39 P).In C.base) (G : Gl03 C) (hh : A.handled = none) (hdep : A.depth + 4 < recursionLimit) (hu : A.units + 400 < cLine) (h : RowsAt R0 ra (pT w) H) (hz : w.length ≤ 900)
    {Q : V → AH → Prop} (hQ : ∀ H' TO ta, H.le H' → RowsAt TO ta (pT (star w)) H' → Q (.ref TO) H') : WCall C A (.ref 40) [.ref R0] [] H Q := by
  have hsz : 1000 ≤ sizeLine := by decide
  refine WCall.def (fn_in hK 40 rfl) (by omega) rfl (noCell rfl) (fun h k => codeRec_of (hK.keeps k) rfl) (bs := [("rows", .ref R0)]) ?_ (allLocal rfl) ?_
  · intro vals kvs e1 e2
    obtain ⟨x1, rfl, y1⟩ := vals1 e1
    cases ab_nil e2
    refine ⟨[("rows", x1)], fun s hs => kp_binds (hK.keeps hs) (fun S => by kernel_rfl), ?_⟩
    show [(_, ab x1)] = _
    rw [y1]
  intro L hL
  have hNx := Nx.of A (callEnv (slid03 P) L 40)
  generalize hA' : A.deeper (callEnv (slid03 P) L 40) = A' at *
  have F : Fx C A' (callEnv (slid03 P) L 40) := ⟨rfl, rfl, rfl, hNx.2.2.trans hh⟩
  have hu1 := hNx.2.1
  generalize hρ : (fun y => List.lookup y (([("rows", .ref R0)] : List (Str × V)).reverse)) = ρ
  have rr : ρ "rows" = some (.ref R0) := by rw [← hρ]; rfl
  clear hρ
  have hlen : (rw_ (pT w)).length = w.length := (pT_kn w).perm.symm.length_eq
  have hTl := rw_rows_len (pT w) (pT_ne w)
  have hrows : ∀ R ∈ pT w, R.length ≤ 900 := fun R hR => by have := rw_row_len _ R hR; omega
  -- the rows copied
  refine WS.seq (W1.asgComp F rfl (cl := []) rfl (WIt.list F (WE.of (Ev.local F rfl rr) ⟨R0, _, _, rfl, h.hR, rfl, fun Cn hCn => ?_⟩)) rfl)
  refine comp_rows (f := fun r => r) (F.comp rfl) rfl h (by omega) (fun ρ1 H1 a row hle ha hm hk Q hq => ?_) ?_
  · refine WE.slice (lo := Option.none) (hi := Option.none) (WE.of (Ev.local (F.comp rfl) rfl hk) ⟨a, _, _, rfl, ha, rfl, .none, .none, fun c hc => ?_⟩)
    rw [slc_all]; exact hq c hc
  intro ca H1 hle1 hz1 hnd1 hf1 N1 hN1
  refine ⟨rfl, ?_⟩
  rw [List.map_id'] at hz1
  have hNca : N1 ∉ ca := fun q => by
    obtain ⟨j, hj⟩ := List.getElem?_of_mem q
    have hjl : j < ca.length := (List.getElem?_eq_some_iff.mp hj).1
    have := Zip.get j _ _ hz1 hj (List.getElem?_eq_getElem (by rw [← hz1.length]; exact hjl))
    rw [hN1] at this; cases this
  have hr2 : RowsAt N1 ca (pT w) (H1.set N1 (.list (ca.map .ref))) := ⟨AH.set_same .., hz1.mono fun a _ row e => AH.get_of_set e hN1, hNca, hnd1⟩
  have hle2 : H.le (H1.set N1 (.list (ca.map .ref))) := AH.le_trans hle1 (AH.le_set (AH.le_refl _) hN1)
  generalize H1.set N1 (.list (ca.map .ref)) = H2 at *
  -- what is told
  refine WS.seq (W1.asgComp F rfl (cl := []) rfl (WIt.list F (WE.of (Ev.local F rfl rfl) ⟨N1, _, _, rfl, hr2.hR, rfl, fun Cn hCn => ?_⟩)) rfl)
  refine comp_rows (f := fun r => List.replicate r.length 0) (F.comp rfl) rfl hr2 (by omega) (fun ρ1 H3 a row hle ha hm hk Q hq => ?_) ?_
  · have hrl := hrows row hm
    refine WE.drop (WE.mulList (WE.list rfl (by decide) (WEs.of (.cons Ev.int .nil) fun z hz => WE.of (Ev.len (Ev.glob (F.comp rfl) rfl G.len) (Ev.local (F.comp rfl) rfl hk) (AH.get_of_set ha hz) rfl) ⟨z, _, _, rfl, rfl, AH.set_same .., by omega, by rw [ints_length]; omega, fun c hc => ?_⟩)))
    refine ⟨_, ?_, hq c (AH.none_of_set hc).1⟩
    have e : List.replicate ((vints row).length : Int).toNat (V.int 0) = vints (List.replicate row.length 0) := by simp [vints]
    rw [e]
    exact AH.set_le_set (AH.le_set (AH.le_refl _) hz)
  intro da H3 hle3 hz3 hnd3 hf3 TO hTO
  refine ⟨rfl, ?_⟩
  have hr3 := hr2.keep (H' := H3) fun a _ o e => hle3 a o e
  have hTda : TO ∉ da := fun q => by
    obtain ⟨j, hj⟩ := List.getElem?_of_mem q
    have hjl : j < da.length := (List.getElem?_eq_some_iff.mp hj).1
    have := Zip.get j _ _ hz3 hj (List.getElem?_eq_getElem (by rw [← hz3.length]; exact hjl))
    rw [hTO] at this; cases this
  have hs4 : SlAt H N1 TO ca da (pT w) ((pT w).map fun R => List.replicate R.length 0) (H3.set TO (.list (da.map .ref))) := by
    refine ⟨AH.le_trans hle2 (AH.le_trans hle3 (AH.le_set (AH.le_refl _) hTO)), hr3.keep fun a _ o e => AH.get_of_set e hTO, ⟨AH.set_same .., hz3.mono fun a _ row e => AH.get_of_set e hTO, hTda, hnd3⟩, fun a ha => ⟨fun q => ?_, fun q => ?_⟩, fun q => ?_, hf1, fun a ha => AH.none_of_le hle2 (hf3 a ha)⟩
    · obtain ⟨r, e⟩ := hr3.mem ha
      rw [q, hTO] at e; cases e
    · obtain ⟨r, e⟩ := hr2.mem ha
      rw [hf3 a q] at e; cases e
    · have := hr2.hR
      rw [hf3 _ q] at this; cases this
  generalize H3.set TO (.list (da.map .ref)) = H4 at *
  -- the turns
  refine WS.seq (W1.for (WIt.list F (WE.listComp (cl := []) rfl (WIt.list F (WE.of (Ev.local F rfl rfl) ⟨N1, _, _, rfl, hs4.r.hR, rfl, fun Cn hCn => ?_⟩)) (hgs := fun g hg => by rw [List.mem_singleton.mp hg]; exact ⟨rfl, fun _ _ => rfl⟩))))
  rw [List.length_map]
  refine comp_flat (as := ca) (vss := (pT w).map vints) (F.comp rfl) rfl rfl (by rw [List.length_map]; exact hs4.r.hX.length) (fun i a vs h1 h2 => ?_) (by rw [rw_flat_len, hlen]; omega) (fun _ => hs4.r.hR) ?_
  · rw [List.getElem?_map] at h2
    cases q : (pT w)[i]? with
    | none => rw [q] at h2; cases h2
    | some R =>
      rw [q] at h2
      have := Zip.get i _ _ hs4.r.hX h1 q
      rw [this]; exact congrArg (fun x => some (O.list x)) (Option.some.inj h2)
  intro X hX
  refine ⟨X, _, _, rfl, AH.set_same .., rfl, ?_⟩
  have hHX : H X = none := AH.none_of_le hs4.le hX
  have hs5 : SlAt (H.set X (.list ((pT w).map vints).flatten)) N1 TO ca da (pT w) ((pT w).map fun R => List.replicate R.length 0) (H4.set X (.list ((pT w).map vints).flatten)) := by
    refine ⟨AH.set_le_set hs4.le, hs4.r.keep fun a _ o e => AH.get_of_set e hX, hs4.t.keep fun a _ o e => AH.get_of_set e hX, hs4.d, hs4.q, fun a ha => ?_, fun a ha => ?_⟩
    · rw [AH.set_ne _ _ (fun q => by obtain ⟨r, e⟩ := hs4.r.mem ha; rw [q, hX] at e; cases e)]; exact hs4.fr a ha
    · rw [AH.set_ne _ _ (fun q => by obtain ⟨r, e⟩ := hs4.t.mem ha; rw [q, hX] at e; cases e)]; exact hs4.ft a ha
  have hfl : ((pT w).map vints).flatten.length = w.length := by rw [rw_flat_len, hlen]
  refine ⟨fun i ρ1 H1 => ∃ R1 rb T1 D1 v, SlAt (H.set X (.list ((pT w).map vints).flatten)) R1 TO rb da T1 D1 H1 ∧ Slid (pT (star w)) D1 T1 v ∧ v.length + i = w.length ∧ ρ1 "rows" = some (.ref R1) ∧ ρ1 "told" = some (.ref TO), ⟨N1, ca, _, _, w, hs5, Slid.start w, rfl, rfl, rfl⟩, ?_, ?_⟩
  · rintro i ρ1 H1 hi ⟨R1, rb, T1, D1, v, s1, s2, s3, q1, q2⟩
    refine ⟨s1.le _ _ (AH.set_same ..), ?_⟩
    rintro d ⟨x, hx, rfl⟩
    refine Asg.local F rfl ?_
    rw [hfl] at hi
    refine slid_turn F G (by omega) s1 s2 (fun e => by rw [e] at s3; simp at s3; omega) (by omega) (by exact q1) (by exact q2) fun ρ2 H2 R2 rc T2 D2 v2 t1 t2 t3 t4 t5 => ⟨R2, rc, T2, D2, v2, t1, t2, by omega, t4, t5⟩
  · rintro ρ1 H1 ⟨R1, rb, T1, D1, v, s1, s2, s3, q1, q2⟩
    refine ⟨s1.le _ _ (AH.set_same ..), ?_⟩
    refine ⟨rfl, ?_⟩
    rw [hfl] at s3
    have hv : v = [] := List.eq_nil_of_length_eq_zero (by omega)
    subst hv
    have e := s2.done
    subst e
    exact WS.cons (W1.ret (WE.of (Ev.local F rfl q2) (hQ _ TO da (AH.le_trans (AH.le_set (AH.le_refl _) hHX) s1.le) s1.t)))
end
end Mine

set_option maxHeartbeats 4000000
namespace Mine
open PySem PySem.W PyProof.Rows
open PySem.SeqAt (shaped)

/-! ## two tables -/
structure Both (B : AH) (R0 S0 : Addr) (ra sa : List Addr) (T S : List (List Int)) (H : AH) : Prop where
  r : RowsAt R0 ra T H
  s : RowsAt S0 sa S H
  d : ∀ a, a = R0 ∨ a ∈ ra → a ≠ S0 ∧ a ∉ sa
  k : ∀ a o, B a = some o → H a = some o ∧ (a ≠ R0 ∧ a ∉ ra) ∧ (a ≠ S0 ∧ a ∉ sa)
theorem Both.swap {B : AH} {R0 S0 : Addr} {ra sa : List Addr} {T S : List (List Int)} {H : AH} (h : Both B R0 S0 ra sa T S H) : Both B S0 R0 sa ra S T H := by
  refine ⟨h.s, h.r, fun a ha => ?_, fun a o e => let ⟨x, y, z⟩ := h.k a o e; ⟨x, z, y⟩⟩
  refine ⟨fun q => ?_, fun q => ?_⟩
  · have := h.d a (.inl q)
    rcases ha with w | w
    · exact this.1 w
    · exact this.2 w
  · have := h.d a (.inr q)
    rcases ha with w | w
    · exact this.1 w
    · exact this.2 w
theorem Both.put {B : AH} {R0 S0 : Addr} {ra ra' sa : List Addr} {T T' S : List (List Int)} {H H' : AH} (h : Both B R0 S0 ra sa T S H) (g1 : RowsAt R0 ra' T' H') (g2 : ∀ a o, H a = some o → a ≠ R0 → a ∉ ra → H' a = some o) (g3 : ∀ a ∈ ra', a ∈ ra ∨ H a = none) : Both B R0 S0 ra' sa T' S H' := by
  refine ⟨g1, h.s.keep fun a ha o e => ?_, fun a ha => ?_, fun a o e => ?_⟩
  · have := h.swap.d a ha
    exact g2 a o e this.1 this.2
  · rcases ha with w | w
    · exact h.d a (.inl w)
    · rcases g3 a w with w | w
      · exact h.d a (.inr w)
      · refine ⟨fun q => ?_, fun q => ?_⟩
        · have := h.s.hR; rw [← q, w] at this; cases this
        · obtain ⟨x, e⟩ := h.s.mem q; rw [w] at e; cases e
  · obtain ⟨x, y, z⟩ := h.k a o e
    refine ⟨g2 a o x y.1 y.2, ⟨y.1, fun q => ?_⟩, z⟩
    rcases g3 a q with w | w
    · exact y.2 w
    · rw [x] at w; cases w
theorem Both.more {B : AH} {R0 S0 X : Addr} {ra sa : List Addr} {T S : List (List Int)} {H : AH} {o : O} (h : Both B R0 S0 ra sa T S H) (hX : H X = none) : Both (B.set X o) R0 S0 ra sa T S (H.set X o) := by
  refine ⟨h.r.keep fun a _ o e => AH.get_of_set e hX, h.s.keep fun a _ o e => AH.get_of_set e hX, h.d, fun a o' e => ?_⟩
  by_cases q : a = X
  · subst q
    rw [AH.set_same] at e
    refine ⟨by rw [AH.set_same]; exact e, ⟨fun q => ?_, fun q => ?_⟩, fun q => ?_, fun q => ?_⟩
    · have := h.r.hR; rw [← q, hX] at this; cases this
    · obtain ⟨x, e⟩ := h.r.mem q; rw [hX] at e; cases e
    · have := h.s.hR; rw [← q, hX] at this; cases this
    · obtain ⟨x, e⟩ := h.s.mem q; rw [hX] at e; cases e
  · rw [AH.set_ne _ _ q] at e ⊢
    exact h.k a o' e
noncomputable def dRows (rows : List (List Int)) : PyData := .list (rows.map dints)
theorem RowsAt.rd {R0 : Addr} {ra : List Addr} {rows : List (List Int)} {H : AH} (h : RowsAt R0 ra rows H) : Rd H (.ref R0) (dRows rows) :=
  Rd_list h.hR rfl (Zip.rd (H := H) (as := ra) (bs := rows) (h.hX.mono fun a _ row e => Rd_ints e rfl))
theorem Dp_ints (ns : List Int) : Dp (dints ns) 1 := Dp.list fun d hd => by
  obtain ⟨n, _, rfl⟩ := List.mem_map.mp hd
  exact Dp.int n
theorem Dp_rows (rows : List (List Int)) : Dp (dRows rows) 2 := Dp.list fun d hd => by
  obtain ⟨n, _, rfl⟩ := List.mem_map.mp hd
  exact Dp_ints n
theorem eqv_rows (a b : List (List Int)) : PyData.eqv (dRows a) (dRows b) = decide (a = b) := eqv_list_map eqv_ints a b
theorem pT_len (w : List Int) : (pT w).length ≤ w.length ∧ ∀ R ∈ pT w, R.length ≤ w.length := by
  have h : (rw_ (pT w)).length = w.length := (pT_kn w).perm.symm.length_eq
  have h1 := rw_rows_len (pT w) (pT_ne w)
  exact ⟨by omega, fun R hR => by have := rw_row_len _ R hR; omega⟩

section
variable {C : Cx} {A : Around} {ρ : Lo} {H : AH} {P : Params}
theorem law_body (hK : (hd.heap_39 P).In C.base) (G : Gl03 C) {L : Addr} {env : Env} (henv : env = callEnv (law03 P) L 47) (F : Fx C A env) (hdep : A.depth + 20 < recursionLimit) (hu : A.units + 500 < cLine)
    {sc : Addr} {ns : List Int} {ρ : Lo} (rs : ρ "script" = some (.ref sc)) (hsc : H sc = some (.scr (vints ns))) (hns : ns.length ≤ 63) :
    WS C A env (bodyOf (law03 P)) ρ H (fun f _ _ => retv f = .bool true) := by
  subst henv
  have hsz : 1000 ≤ sizeLine := by decide
  refine WS.seq (W1.asgSwap (names := ["rows", "turned"]) F (WEs.cons (WE.list rfl (by decide) (WEs.nil fun R0 hR0 => WEs.cons (WE.list rfl (by decide) (WEs.nil fun S0 hS0 => WEs.nil ⟨rfl, ?_⟩))))) rfl (by intro n hn; rcases List.mem_cons.mp hn with rfl | hn; rfl; rw [List.mem_singleton.mp hn]; rfl))
  obtain ⟨hS0', hSR⟩ := AH.none_of_set hS0
  have hsc2 : ((H.set R0 (.list [])).set S0 (.list [])) sc = some (.scr (vints ns)) := AH.get_of_set (AH.get_of_set hsc hR0) hS0
  have hb : Both (fun b => if b = sc then some (.scr (vints ns)) else none) R0 S0 [] [] (pT ([] : List Int)) (pT ([] : List Int)) ((H.set R0 (.list [])).set S0 (.list [])) := by
    refine ⟨⟨AH.get_of_set (AH.set_same ..) hS0, trivial, by simp, List.nodup_nil⟩, ⟨AH.set_same .., trivial, by simp, List.nodup_nil⟩, fun a ha => ⟨fun q => ?_, by simp⟩, fun a o e => ?_⟩
    · rcases ha with w | w
      · exact hSR (q ▸ w)
      · simp at w
    · by_cases q : a = sc
      · subst q
        rw [if_pos rfl] at e; cases e
        refine ⟨hsc2, ⟨fun q => ?_, by simp⟩, fun q => ?_, by simp⟩
        · rw [q, hR0] at hsc; cases hsc
        · rw [q, hS0'] at hsc; cases hsc
      · rw [if_neg q] at e; cases e
  generalize (H.set R0 (.list [])).set S0 (.list []) = H1 at *
  have q1 : (StL ["turned", "rows"] [V.ref S0, V.ref R0] ρ) "rows" = some (.ref R0) := rfl
  have q2 : (StL ["turned", "rows"] [V.ref S0, V.ref R0] ρ) "turned" = some (.ref S0) := rfl
  have q3 : (StL ["turned", "rows"] [V.ref S0, V.ref R0] ρ) "script" = some (.ref sc) := rs
  show WS C A (callEnv (law03 P) L 47) ((bodyOf (law03 P)).drop 1) (StL ["turned", "rows"] [V.ref S0, V.ref R0] ρ) H1 _
  generalize StL ["turned", "rows"] [V.ref S0, V.ref R0] ρ = ρ1 at *
  have htake : ∀ (l : List Int) (i : Nat) (v : V), (vints l)[i]? = some v → v = .int (l.getD i 0) ∧ l.take (i + 1) = l.take i ++ [l.getD i 0] := fun l i v hv => by
    obtain ⟨rfl, hi⟩ := vints_at hv
    refine ⟨rfl, ?_⟩
    rw [List.take_add_one, List.getElem?_eq_getElem hi, List.getD_eq_getElem?_getD, List.getElem?_eq_getElem hi]; rfl
  -- the numbers put in
  refine WS.seq (W1.for (WIt.list F (WE.of (Ev.local F rfl q3) ⟨sc, _, _, rfl, hsc2, rfl, fun i ρ2 H2 => ∃ ra, Both (fun b => if b = sc then some (.scr (vints ns)) else none) R0 S0 ra [] (pT (ns.take i)) (pT ([] : List Int)) H2 ∧ ρ2 "rows" = some (.ref R0) ∧ ρ2 "turned" = some (.ref S0) ∧ ρ2 "script" = some (.ref sc), ⟨[], hb, q1, q2, q3⟩, ?_, ?_⟩)))
  · rintro i ρ2 H2 hi ⟨ra, b1, p1, p2, p3⟩
    refine ⟨(b1.k sc _ (if_pos rfl)).1, ?_⟩
    rintro d ⟨v, hv, rfl⟩
    obtain ⟨rfl, ht⟩ := htake ns i v hv
    have hl := pT_len (ns.take i)
    rw [List.length_take] at hl
    refine Asg.local F rfl (WS.cons (W1.expr F (WE.callB (fun _ => fn_in hK 30 rfl) (Ev.glob F rfl G.put) (WEs.of (.cons (Ev.local F rfl (by exact p1)) (.cons (Ev.local F rfl rfl) .nil)) (WKs.nil (put_spec hK G F.hh (by omega) b1.r (fun R hR => (pT_tb _).rows R hR) ⟨by omega, fun R hR => by have := hl.2 R hR; omega⟩ fun H3 ra' g1 g2 g3 g4 => ⟨(by intro a e; cases e), WS.nil ⟨ra', ?_, p1, p2, p3⟩⟩))))))
    rw [ht, pT_snoc]
    exact b1.put g1 g2 g3
  rintro ρ2 H2 ⟨ra, b1, p1, p2, p3⟩
  have hsc3 := (b1.k sc _ (if_pos rfl)).1
  refine ⟨hsc3, rfl, ?_⟩
  rw [ints_length, List.take_length] at b1
  -- and the turned ones
  refine WS.seq (W1.for (WIt.list F (WE.rev (WE.of (Ev.local F rfl p3) ⟨sc, _, _, rfl, hsc3, rfl, Ev.neg Ev.int, fun X hX => ⟨X, _, _, rfl, AH.set_same .., rfl, fun i ρ3 H3 => ∃ sa, Both (AH.set (fun b => if b = sc then some (.scr (vints ns)) else none) X (.list (vints ns).reverse)) R0 S0 ra sa (pT ns) (pT ((ns.reverse.take i).map (- ·))) H3 ∧ ρ3 "rows" = some (.ref R0) ∧ ρ3 "turned" = some (.ref S0), ⟨[], b1.more hX, p1, p2⟩, ?_, ?_⟩⟩))))
  · rintro i ρ3 H3 hi ⟨sa, b2, p4, p5⟩
    refine ⟨(b2.k X _ (AH.set_same ..)).1, ?_⟩
    rintro d ⟨v, hv, rfl⟩
    obtain ⟨rfl, ht⟩ := htake ns.reverse i v (by rw [← hv]; simp [vints])
    have hl := pT_len ((ns.reverse.take i).map (- ·))
    rw [List.length_map, List.length_take, List.length_reverse] at hl
    refine Asg.local F rfl (WS.cons (W1.expr F (WE.callB (fun _ => fn_in hK 30 rfl) (Ev.glob F rfl G.put) (WEs.of (.cons (Ev.local F rfl (by exact p5)) (.cons (Ev.neg (Ev.local F rfl rfl)) .nil)) (WKs.nil (put_spec hK G F.hh (by omega) b2.s (fun R hR => (pT_tb _).rows R hR) ⟨by omega, fun R hR => by have := hl.2 R hR; omega⟩ fun H4 sa' g1 g2 g3 g4 => ⟨(by intro a e; cases e), WS.nil ⟨sa', ?_, p4, p5⟩⟩))))))
    rw [ht, List.map_append, List.map_cons, List.map_nil, pT_snoc]
    exact (b2.swap.put g1 g2 g3).swap
  rintro ρ3 H3 ⟨sa, b2, p4, p5⟩
  refine ⟨(b2.k X _ (AH.set_same ..)).1, rfl, ?_⟩
  have hstar : (ns.reverse.take ((vints ns).reverse).length).map (- ·) = star ns := by
    rw [List.length_reverse, ints_length, ← List.length_reverse, List.take_length]
    show _ = (ns.map (- ·)).reverse
    rw [List.map_reverse]
  rw [hstar] at b2
  have hl := pT_len ns
  refine WS.cons (W1.ret (WE.of (v := .bool (true && true)) (Ev.and2 (WE.ev (WE.callB (fun _ => fn_in hK 35 rfl) (Ev.glob F rfl G.ord) (WEs.of (.cons (Ev.local F rfl p4) .nil) (WKs.nil (ord_spec hK G F.hh (by omega) (by omega) b2.r (pT_tb ns) ⟨by omega, fun R hR => by have := hl.2 R hR; omega⟩ ⟨rfl, rfl⟩))))) fun _ => WE.ev (WE.drop (WE.eqD (by omega) (WE.of (Ev.local F rfl p5) (WE.callB (fun _ => fn_in hK 40 rfl) (Ev.glob F rfl G.slid) (WEs.of (.cons (Ev.local F rfl p4) .nil) (WKs.nil (slid_spec hK G F.hh (by omega) (by omega) b2.r (by omega) fun H4 TO ta hle hr => ⟨dRows (pT (star ns)), dRows (pT (star ns)), (b2.s.keep fun a _ o e => hle a o e).rd, hr.rd, (Dp_rows _).shaped (by decide), (Dp_rows _).shaped (by decide), H3, hle, by rw [eqv_rows]; simp, rfl⟩)))))))) rfl))
end
end Mine

open PySem PySem.W PyProof.Rows Mine in
set_option maxRecDepth 100000 in
set_option maxHeartbeats 8000000 in
theorem PySem.Challenge.cw_dm0010_03_holds : PySem.Challenge.rw_dm0010_03.Holds :=
  Mine.hd (by
  w_strict (
  k_fill
  intro w s₀ s₁ mg mb G Y fa o pm cd doc dV kV ho hd hcd hD hmg hg args vals as hpre hlay hrd hwl hlo
  have KX := kIn_of Y
  refine Ground.open G ?_
  intro T B D TE TW
  clear ho hd hcd hD
  wrow_args hpre hlay hrd hwl hlo
  rename_i ns _ _ _ _ _ _ _ sc vs _ hL _ _ _ hI _ hlen _
  have hfa : fa = 47 := by
    have h1 : mg "law" = some (.ref 47) := mg_of KX T.g rfl
    have h2 : mg "law" = some (.ref fa) := hmg
    rw [h1] at h2; cases h2; rfl
  subst hfa
  let C : Cx := { prog := Challenge.rw_dm0010_03.row.prog, w := w, base := s₁.heap, mg := mg, mb := mb, hg := T.g, hb := T.b, lim := T.nolimit }
  have bt : ∀ x : Str, x ≠ "__name__" → C.mb x = bootBuiltins x := T.builtins
  have hns : ns.length ≤ 63 := by omega
  have hmap : vs.map ab = vints ns := ints_of hI
  have key := top_fn (C := C) (A := callerA) (H := fun b => if b = sc then some (.scr (vints ns)) else none) (Q := fun v _ => v = .bool true) (s := s₁) (a := 47) (fd := fdOf (Mine.hd.heap_39 w.params) 47) (vals := [.ref sc]) (bs := [("script", .ref sc)]) rfl ?_ ?_ (KX 47 ⟨.type "function", none, .func (fdOf (Mine.hd.heap_39 w.params) 47), #[]⟩ rfl) rfl (by decide) rfl rfl (codeRec_of KX rfl) (binds := [("script", .ref sc)]) rfl rfl rfl (show ([] : List Str).Nodup by decide) ?_
  · refine wpAny_mono key (fun v s' ⟨⟨_, hv⟩, hk, hgn, hos⟩ => ?_) fun _ _ e => e.elim
    cases ab_bool hv
    exact law_end rfl (by wrow_post) hk (hgn.trans hg) hos
  · intro b ob hb
    by_cases q : b = sc
    · subst q
      rw [if_pos rfl] at hb; cases hb
      obtain ⟨o, ho, hc, n, hd⟩ := hL
      exact ⟨o, ho, hc, _, n, hd, hmap, by rw [ints_length]; exact Nat.le_trans hns (by decide)⟩
    · rw [if_neg q] at hb; cases hb
  · intro b ob hb
    by_cases q : b = sc
    · subst q
      rw [if_pos rfl] at hb; cases hb; rfl
    · rw [if_neg q] at hb; cases hb
  · intro L hL0 hcs
    refine law_body (C := C) (sc := sc) (ns := ns) KX ⟨(gl_boot KX rfl ((bt _ (by decide)).trans (by decide +kernel))), (gl_boot KX rfl ((bt _ (by decide)).trans (by decide +kernel))), (gl_boot KX rfl ((bt _ (by decide)).trans (by decide +kernel))), (gl_own KX rfl), (gl_boot KX rfl ((bt _ (by decide)).trans (by decide +kernel))), (gl_own KX rfl), (gl_own KX rfl), (gl_own KX rfl)⟩ rfl ⟨rfl, rfl, rfl, rfl⟩ (show callerA.depth + 1 + 20 < recursionLimit by decide) (show callerA.units + 3 + 500 < cLine by decide) rfl ?_ hns
    · exact if_pos rfl))

