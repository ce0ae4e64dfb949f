import PyProof.Rows.All
import Wide.All
import OpenK.AllK
import Wide.FinOn
import PySem.Challenge.RW_dm0010_01
set_option Elab.async false
set_option linter.unusedVariables false
set_option maxRecDepth 100000
namespace Mine
open PySem PySem.W PyProof.Rows

/-! ## abstract values, objects, heaps -/
inductive V where
  | none | bool (b : Bool) | int (i : Int) | str (x : Str) | ref (a : Addr) | bi (id : String) | ty (n : String) | oth
  deriving DecidableEq

noncomputable def ab : Value → V
  | .none => .none
  | .bool b => .bool b
  | .int i _ => .int i
  | .str x _ => .str x
  | .ref a => .ref a
  | .builtin i => .bi i
  | .type n => .ty n
  | _ => .oth

theorem ab_none {v : Value} (h : ab v = .none) : v = .none := by cases v <;> simp_all [ab]
theorem ab_bool {v : Value} {b} (h : ab v = .bool b) : v = .bool b := by cases v <;> simp_all [ab]
theorem ab_int {v : Value} {i} (h : ab v = .int i) : ∃ t, v = .int i t := by cases v <;> simp_all [ab]
theorem ab_str {v : Value} {x} (h : ab v = .str x) : ∃ t, v = .str x t := by cases v <;> simp_all [ab]
theorem ab_ref {v : Value} {a} (h : ab v = .ref a) : v = .ref a := by cases v <;> simp_all [ab]
theorem ab_bi {v : Value} {a} (h : ab v = .bi a) : v = .builtin a := by cases v <;> simp_all [ab]
theorem ab_ty {v : Value} {a} (h : ab v = .ty a) : v = .type a := by cases v <;> simp_all [ab]

inductive O where
  | list (vs : List V)
  | scr (vs : List V)
  | tup (vs : List V)
  | cell (v : Option V)
  | fn (fd : FuncData)
  | rng (a n c : Int)
  | tab (es : List (Nat × Nat × Addr))
  | code (q : Str)
  | raw (c : Obj)

noncomputable def O.mut : O → Bool
  | .list _ => true
  | .cell _ => true
  | .tab _ => true
  | _ => false

noncomputable def tabItems (es : List (Nat × Nat × Addr)) : List Value := es.flatMap fun e => [rawInt e.1, rawInt e.2.1, .ref e.2.2]

noncomputable def Rep : O → Obj → Prop
  | .list vs, c => ∃ xs n, c = { cls := .type "list", data := .seq xs n } ∧ xs.toList.map ab = vs ∧ vs.length ≤ sizeLine
  | .scr vs, c => c.cls = .type "list" ∧ ∃ xs n, c.data = .seq xs n ∧ xs.toList.map ab = vs ∧ vs.length ≤ sizeLine
  | .tup vs, c => ∃ xs n, c = { cls := .type "tuple", data := .seq xs n } ∧ xs.toList.map ab = vs ∧ vs.length ≤ sizeLine
  | .cell v, c => ∃ u, c.data = .cell u ∧ u.map ab = v
  | .fn fd, c => c = { cls := .type "function", data := .func fd }
  | .rng a n d, c => c.cls = .type "range" ∧ c.data = .fields #[.int a 0, .int (a + n * d) 0, .int d 0]
  | .tab es, c => c = { cls := .none, data := .fields (tabItems es).toArray }
  | .code q, c => ∃ vs t, c.data = .fields vs ∧ vs[1]? = some (.str q t)
  | .raw c', c => c = c'

noncomputable abbrev AH := Addr → Option O
noncomputable abbrev Lo := Str → Option V

noncomputable def AH.set (H : AH) (a : Addr) (o : O) : AH := fun b => if b = a then some o else H b
@[simp] theorem AH.set_same (H : AH) (a : Addr) (o : O) : (H.set a o) a = some o := by simp [AH.set]
theorem AH.set_ne (H : AH) {a b : Addr} (o : O) (h : b ≠ a) : (H.set a o) b = H b := by simp [AH.set, h]
noncomputable def Lo.set (ρ : Lo) (x : Str) (v : V) : Lo := fun y => if y = x then some v else ρ y

structure Cx where
  prog : Program
  w : World
  base : Heap
  mg : Str → Option Value
  mb : Str → Option Value
  hg : base.Ns mainGlobals mg
  hb : base.Ns builtinsNs mb
  lim : base.NoLimit

noncomputable def Cx.gl (C : Cx) (x : Str) : Option Value := match C.mg x with | some v => some v | none => C.mb x
noncomputable abbrev Cx.M (C : Cx) : Model := model C.prog C.w

structure St (C : Cx) (L : Addr) (ρ : Lo) (H : AH) (h : Heap) : Prop where
  keep : ∀ b o, C.base.get? b = some o → h.get? b = some o
  rep : ∀ a o, H a = some o → ∃ c, h.get? a = some c ∧ Rep o c
  own : ∀ a o, H a = some o → o.mut = true → C.base.get? a = none
  loc : ∃ m, h.Ns L m ∧ ∀ x, (m x).map ab = ρ x
  nl : H L = none
  bl : C.base.get? L = none

structure Step (L : Addr) (H H' : AH) (s s' : Shared) : Prop where
  same : s'.gens = s.gens ∧ s'.os = s.os
  kept : ∀ b o, s.heap.get? b = some o → H b = none → b ≠ L → s'.heap.get? b = some o
  new : ∀ b o, s.heap.get? b = some o → H b = none → H' b = none
  live : ∀ b o, s.heap.get? b = some o → ∃ o', s'.heap.get? b = some o'

theorem Step.refl (L : Addr) (H : AH) (s : Shared) : Step L H H s s := ⟨⟨rfl, rfl⟩, fun _ _ e _ _ => e, fun _ _ _ e => e, fun _ o e => ⟨o, e⟩⟩
theorem Step.trans {L : Addr} {H H' H'' : AH} {s s' s'' : Shared} (x : Step L H H' s s') (y : Step L H' H'' s' s'') (hL : H L = none → H' L = none → H'' L = none) : Step L H H'' s s'' := by
  obtain ⟨m1, k1, n1, l1⟩ := x
  obtain ⟨m2, k2, n2, l2⟩ := y
  refine ⟨⟨m2.1.trans m1.1, m2.2.trans m1.2⟩, fun b o e eH eL => k2 b o (k1 b o e eH eL) (n1 b o e eH) eL, fun b o e eH => ?_, fun b o e => let ⟨o', e'⟩ := l1 b o e; l2 b o' e'⟩
  by_cases hb : b = L
  · subst hb; exact hL eH (n1 _ o e eH)
  · exact n2 b o (k1 b o e eH hb) (n1 b o e eH)

noncomputable abbrev False2 : Value → Shared → Prop := fun _ _ => False

noncomputable def Post {α : Type} (C : Cx) (L : Addr) (H : AH) (s : Shared) (Q : α → Lo → AH → Prop) (a : α) (s' : Shared) : Prop := ∃ ρ' H', St C L ρ' H' s'.heap ∧ Step L H H' s s' ∧ Q a ρ' H'

noncomputable def W {α : Type} (C : Cx) (A : Around) (L : Addr) (t : Sem α) (ρ : Lo) (H : AH) (Q : α → Lo → AH → Prop) : Prop :=
  ∀ s : Shared, St C L ρ H s.heap → wpAny C.M A t (Post C L H s Q) False2 s

section
variable {α β : Type} {C : Cx} {A : Around} {L : Addr} {ρ : Lo} {H : AH}

theorem W.pure {a : α} {Q : α → Lo → AH → Prop} (h : Q a ρ H) : W C A L (Pure.pure a) ρ H Q := fun s hs => wpAny_pure ⟨ρ, H, hs, .refl .., h⟩
theorem W.mono {t : Sem α} {Q Q' : α → Lo → AH → Prop} (h : W C A L t ρ H Q) (hq : ∀ a ρ' H', Q a ρ' H' → Q' a ρ' H') : W C A L t ρ H Q' := fun s hs =>
  wpAny_mono (h s hs) (fun a s' ⟨ρ', H', x, y, z⟩ => ⟨ρ', H', x, y, hq _ _ _ z⟩) fun _ _ e => e
theorem W.bind {t : Sem α} {f : α → Sem β} {Q : β → Lo → AH → Prop} (h : W C A L t ρ H (fun a ρ' H' => W C A L (f a) ρ' H' Q)) : W C A L (t >>= f) ρ H Q := fun s hs =>
  wpAny_bind (wpAny_mono (h s hs) (fun a s' ⟨ρ', H', x, y, z⟩ => wpAny_mono (z s' x) (fun b s'' ⟨ρ'', H'', x', y', z'⟩ =>
    ⟨ρ'', H'', x', y.trans y' (fun _ _ => x'.nl), z'⟩) fun _ _ e => e) fun _ _ e => e)
theorem W.holding {vs : List Value} {t : Sem α} {Q : α → Lo → AH → Prop} (h : W C A L t ρ H Q) : W C A L (PySem.holding vs t) ρ H Q := fun s hs => wpAny_holding (h s hs)
theorem W.standAt {p : Pos} {Q : Unit → Lo → AH → Prop} (h : Q () ρ H) : W C A L (PySem.standAt p) ρ H Q := fun s hs => wpAny_standAt ⟨ρ, H, hs, .refl .., h⟩

/-- continue behind a step of a library rule -/
theorem W.at {t : Sem α} {Q : α → Lo → AH → Prop} {s s' : Shared} {ρ' : Lo} {H' : AH} (h : W C A L t ρ' H' Q) (hs : St C L ρ' H' s'.heap) (hst : Step L H H' s s') :
    wpAny C.M A t (Post C L H s Q) False2 s' :=
  wpAny_mono (h s' hs) (fun a s'' ⟨ρ'', H'', x', y', z'⟩ => ⟨ρ'', H'', x', hst.trans y' (fun _ _ => x'.nl), z'⟩) fun _ _ e => e
theorem W.at2 {t : Sem α} {f : α → Sem β} {Q : β → Lo → AH → Prop} {s s' : Shared} {ρ' : Lo} {H' : AH} (h : W C A L t ρ' H' (fun a ρ2 H2 => W C A L (f a) ρ2 H2 Q)) (hs : St C L ρ' H' s'.heap) (hst : Step L H H' s s') :
    wpAny C.M A t (fun a s2 => wpAny C.M A (f a) (Post C L H s Q) False2 s2) False2 s' :=
  wpAny_mono (h s' hs) (fun a s'' ⟨ρ'', H'', x', y', z'⟩ => z'.at x' (hst.trans y' (fun _ _ => x'.nl))) fun _ _ e => e
theorem W.at3 {γ : Type} {t : Sem α} {f : α → Sem β} {g : α → β → Sem γ} {Q : γ → Lo → AH → Prop} {s s' : Shared} {ρ' : Lo} {H' : AH} (h : W C A L t ρ' H' (fun a ρ2 H2 => W C A L (f a) ρ2 H2 (fun b ρ3 H3 => W C A L (g a b) ρ3 H3 Q))) (hs : St C L ρ' H' s'.heap) (hst : Step L H H' s s') :
    wpAny C.M A t (fun a s2 => wpAny C.M A (f a) (fun b s3 => wpAny C.M A (g a b) (Post C L H s Q) False2 s3) False2 s2) False2 s' :=
  wpAny_mono (h s' hs) (fun a s'' ⟨ρ'', H'', x', y', z'⟩ => z'.at2 x' (hst.trans y' (fun _ _ => x'.nl))) fun _ _ e => e

/-- only tokens, or new untracked objects -/
theorem St.ext {h h' : Heap} (x : St C L ρ H h) (k : ∀ b o, h.get? b = some o → h'.get? b = some o) : St C L ρ H h' where
  keep := fun b o e => k _ _ (x.keep b o e)
  rep := fun a o e => let ⟨c, e1, e2⟩ := x.rep a o e; ⟨c, k _ _ e1, e2⟩
  own := x.own
  loc := let ⟨m, e1, e2⟩ := x.loc; ⟨m, e1.keeps k, e2⟩
  nl := x.nl
  bl := x.bl
theorem Step.ext {s : Shared} {h' : Heap} {tk : Nat} (k : ∀ b o, s.heap.get? b = some o → h'.get? b = some o) : Step L H H s { s with heap := h', toks := tk } :=
  ⟨⟨rfl, rfl⟩, fun b o e _ _ => k b o e, fun _ _ _ e => e, fun b o e => ⟨o, k b o e⟩⟩
theorem Step.toks {s : Shared} {tk : Nat} : Step L H H s { s with toks := tk } := ⟨⟨rfl, rfl⟩, fun _ _ e _ _ => e, fun _ _ _ e => e, fun _ o e => ⟨o, e⟩⟩

/-- an address that is not tracked, not the base's and not the locals' may change -/
theorem St.off {h h' : Heap} {I : Addr} (x : St C L ρ H h) (hI : H I = none) (hB : C.base.get? I = none) (hL : I ≠ L) (k : ∀ b o, b ≠ I → h.get? b = some o → h'.get? b = some o) : St C L ρ H h' where
  keep := fun b o e => k _ _ (fun q => by rw [q, hB] at e; cases e) (x.keep b o e)
  rep := fun a o e => let ⟨c, e1, e2⟩ := x.rep a o e; ⟨c, k _ _ (fun q => by rw [q, hI] at e; cases e) e1, e2⟩
  own := x.own
  loc := let ⟨m, e1, e2⟩ := x.loc; ⟨m, e1.extBut (b := I) (fun b o hb e => k b o hb e) (Ne.symm hL), e2⟩
  nl := x.nl
  bl := x.bl

theorem St.fresh {h : Heap} (x : St C L ρ H h) {a : Addr} (ha : h.get? a = none) : H a = none ∧ C.base.get? a = none ∧ a ≠ L := by
  refine ⟨?_, ?_, ?_⟩
  · cases e : H a with
    | none => rfl
    | some o => obtain ⟨c, e1, _⟩ := x.rep a o e; rw [ha] at e1; cases e1
  · cases e : C.base.get? a with
    | none => rfl
    | some o => have := x.keep a o e; rw [ha] at this; cases this
  · rintro rfl
    obtain ⟨m, ⟨o, _, _, ho, _⟩, _⟩ := x.loc
    rw [ha] at ho; cases ho

theorem get?_size_none (h : Heap) : h.get? h.objs.size = none := by
  cases e : h.get? h.objs.size with
  | none => rfl
  | some o => exact absurd (Heap.lt_size e) (Nat.lt_irrefl _)

/-- a new tracked object -/
theorem St.alloc {h h' : Heap} {a : Addr} {c : Obj} {o : O} (x : St C L ρ H h) (ha : h.get? a = none) (hc : h'.get? a = some c) (hr : Rep o c) (k : ∀ b o, h.get? b = some o → h'.get? b = some o) : St C L ρ (H.set a o) h' where
  keep := fun b o e => k _ _ (x.keep b o e)
  rep := fun b o' e => by
    by_cases q : b = a
    · subst q; rw [AH.set_same] at e; cases e; exact ⟨c, hc, hr⟩
    · rw [AH.set_ne _ _ q] at e; obtain ⟨c, e1, e2⟩ := x.rep b o' e; exact ⟨c, k _ _ e1, e2⟩
  own := fun b o' e hm => by
    by_cases q : b = a
    · subst q; exact (x.fresh ha).2.1
    · rw [AH.set_ne _ _ q] at e; exact x.own b o' e hm
  loc := let ⟨m, e1, e2⟩ := x.loc; ⟨m, e1.keeps k, e2⟩
  nl := by rw [AH.set_ne _ _ (Ne.symm (x.fresh ha).2.2)]; exact x.nl
  bl := x.bl
theorem Step.alloc {s : Shared} {h' : Heap} {tk : Nat} {a : Addr} {o : O} (ha : s.heap.get? a = none) (k : ∀ b o, s.heap.get? b = some o → h'.get? b = some o) : Step L H (H.set a o) s { s with heap := h', toks := tk } :=
  ⟨⟨rfl, rfl⟩, fun b o e _ _ => k b o e, fun b o e hb => by rw [AH.set_ne _ _ (fun q => by rw [q, ha] at e; cases e)]; exact hb, fun b o e => ⟨o, k b o e⟩⟩

/-- a tracked object changed -/
theorem St.upd {h h' : Heap} {a : Addr} {c : Obj} {o₀ o : O} (x : St C L ρ H h) (hH : H a = some o₀) (hm : o₀.mut = true) (hc : h'.get? a = some c) (hr : Rep o c) (k : ∀ b o, b ≠ a → h.get? b = some o → h'.get? b = some o) : St C L ρ (H.set a o) h' where
  keep := fun b o e => k _ _ (fun q => by rw [q, x.own a o₀ hH hm] at e; cases e) (x.keep b o e)
  rep := fun b o' e => by
    by_cases q : b = a
    · subst q; rw [AH.set_same] at e; cases e; exact ⟨c, hc, hr⟩
    · rw [AH.set_ne _ _ q] at e; obtain ⟨c, e1, e2⟩ := x.rep b o' e; exact ⟨c, k _ _ q e1, e2⟩
  own := fun b o' e hm' => by
    by_cases q : b = a
    · subst q; exact x.own _ _ hH hm
    · rw [AH.set_ne _ _ q] at e; exact x.own b o' e hm'
  loc := let ⟨m, e1, e2⟩ := x.loc; ⟨m, e1.extBut (b := a) (fun b o hb e => k b o hb e) (fun q => by rw [← q, x.nl] at hH; cases hH), e2⟩
  nl := by rw [AH.set_ne _ _ (fun q => by rw [← q, x.nl] at hH; cases hH)]; exact x.nl
  bl := x.bl
theorem Step.upd {s : Shared} {h' : Heap} {tk : Nat} {a : Addr} {c : Obj} {o₀ o : O} (hH : H a = some o₀) (hc : h'.get? a = some c) (k : ∀ b o, b ≠ a → s.heap.get? b = some o → h'.get? b = some o) : Step L H (H.set a o) s { s with heap := h', toks := tk } :=
  ⟨⟨rfl, rfl⟩, fun b o e hb _ => k b o (fun q => by rw [q, hH] at hb; cases hb) e, fun b o e hb => by rw [AH.set_ne _ _ (fun q => by rw [q, hH] at hb; cases hb)]; exact hb, fun b o e => by
    by_cases q : b = a
    · subst q; exact ⟨c, hc⟩
    · exact ⟨o, k b o q e⟩⟩

/-- a local stored -/
theorem St.store {h h' : Heap} {x : Str} {v : Value} {m : Str → Option Value} (X : St C L ρ H h) (hm : ∀ x, (m x).map ab = ρ x) (hn : h'.Ns L (fun y => if y = x then some v else m y)) (hs : Heap.SameBut L h h') : St C L (ρ.set x (ab v)) H h' where
  keep := fun b o e => hs.extBut b o (fun q => by rw [q, X.bl] at e; cases e) (X.keep b o e)
  rep := fun a o e => let ⟨c, e1, e2⟩ := X.rep a o e; ⟨c, hs.extBut _ _ (fun q => by rw [q, X.nl] at e; cases e) e1, e2⟩
  own := X.own
  loc := ⟨_, hn, fun y => by
    unfold Lo.set
    by_cases q : y = x
    · simp [q]
    · simp [q, hm]⟩
  nl := X.nl
  bl := X.bl
theorem Step.store {s : Shared} {h' : Heap} {tk : Nat} {m : Str → Option Value} (hn : h'.Ns L m) (hs : Heap.SameBut L s.heap h') : Step L H H s { s with heap := h', toks := tk } :=
  ⟨⟨rfl, rfl⟩, fun b o e _ hb => hs.extBut b o hb e, fun _ _ _ e => e, fun b o e => by
    by_cases q : b = L
    · subst q; obtain ⟨o', _, _, ho, _⟩ := hn; exact ⟨o', ho⟩
    · exact ⟨o, hs.extBut b o q e⟩⟩

end
end Mine

namespace Mine
open PySem PySem.W PyProof.Rows

/-! ## facts of tracked objects -/
noncomputable def lst : O → Option (List V)
  | .list vs => some vs
  | .scr vs => some vs
  | _ => none

section
variable {C : Cx} {A : Around} {L : Addr} {ρ : Lo} {H : AH} {h : Heap} {a : Addr} {vs : List V}

theorem St.list (x : St C L ρ H h) {o : O} (e : H a = some o) (hl : lst o = some vs) : ∃ xs : Array Value, h.IsList a xs ∧ xs.toList.map ab = vs ∧ vs.length ≤ sizeLine := by
  obtain ⟨c, hc, r⟩ := x.rep a o e
  cases o <;> simp only [lst] at hl <;> try cases hl
  · obtain ⟨xs, n, rfl, e2, e3⟩ := r; exact ⟨xs, ⟨_, hc, rfl, n, rfl⟩, e2, e3⟩
  · obtain ⟨e1, xs, n, ed, e2, e3⟩ := r; exact ⟨xs, ⟨_, hc, e1, n, ed⟩, e2, e3⟩
theorem St.plist (x : St C L ρ H h) (e : H a = some (.list vs)) : ∃ xs : Array Value, h.PlainList a xs ∧ xs.toList.map ab = vs ∧ vs.length ≤ sizeLine := by
  obtain ⟨c, hc, xs, n, rfl, e2, e3⟩ := x.rep a _ e
  exact ⟨xs, ⟨n, hc⟩, e2, e3⟩
theorem St.tup (x : St C L ρ H h) (e : H a = some (.tup vs)) : ∃ xs : Array Value, IsTup h a xs ∧ xs.toList.map ab = vs ∧ vs.length ≤ sizeLine := by
  obtain ⟨c, hc, xs, n, rfl, e2, e3⟩ := x.rep a _ e
  exact ⟨xs, ⟨_, hc, rfl, n, rfl⟩, e2, e3⟩
theorem St.cell (x : St C L ρ H h) {v : Option V} (e : H a = some (.cell v)) : ∃ u, h.IsCell a u ∧ u.map ab = v := by
  obtain ⟨c, hc, u, e1, e2⟩ := x.rep a _ e
  exact ⟨u, ⟨c, hc, e1⟩, e2⟩
theorem St.func (x : St C L ρ H h) {fd : FuncData} (e : H a = some (.fn fd)) : h.get? a = some { cls := .type "function", data := .func fd } := by
  obtain ⟨c, hc, e1⟩ := x.rep a _ e
  rw [hc, e1]

theorem arr_get {xs : Array Value} {i : Nat} {v : V} (e : xs.toList.map ab = vs) (hi : vs[i]? = some v) : ∃ x, xs[i]? = some x ∧ ab x = v := by
  subst e
  rw [List.getElem?_map] at hi
  cases hx : xs.toList[i]? with
  | none => rw [hx] at hi; cases hi
  | some x => rw [hx] at hi; exact ⟨x, by rw [← Array.getElem?_toList]; exact hx, by simpa using hi⟩
theorem arr_size {xs : Array Value} (e : xs.toList.map ab = vs) : xs.size = vs.length := by subst e; simp
end

structure Fx (C : Cx) (A : Around) (env : Env) : Prop where
  kind : env.scope.kind = .function
  gl : env.globals = mainGlobals
  bu : env.builtins = builtinsNs
  hh : A.handled = none

section
variable {C : Cx} {A : Around} {env : Env} {ρ : Lo} {H : AH}


theorem W.BinOp {l r : Expr} {op : Operator} {pos : Pos} {Q : Value → Lo → AH → Prop} {L : Addr}
    (h : W C A L (eval l env) ρ H (fun a ρ1 H1 => W C A L (eval r env) ρ1 H1 (fun b ρ2 H2 => W C A L (binaryOp op a b) ρ2 H2 Q))) :
    W C A L (eval (.BinOp l op r pos) env) ρ H Q := fun s hs => wpAny_BinOp (h.at3 hs (.refl ..))
theorem W.Compare1 {l r : Expr} {op : CmpOp} {pos : Pos} {Q : Value → Lo → AH → Prop} {L : Addr} (hm : behindInMarks op r = false)
    (h : W C A L (eval l env) ρ H (fun a ρ1 H1 => W C A L (eval r env) ρ1 H1 (fun b ρ2 H2 => W C A L (compareOp op a b) ρ2 H2 Q))) :
    W C A L (eval (.Compare l [op] [r] pos) env) ρ H Q := fun s hs => wpAny_Compare1 (h.at3 hs (.refl ..)) hm
theorem W.Subscript {o i : Expr} {pos : Pos} {Q : Value → Lo → AH → Prop} {L : Addr}
    (h : W C A L (eval o env) ρ H (fun a ρ1 H1 => W C A L (eval i env) ρ1 H1 (fun b ρ2 H2 => W C A L (subscriptTail o i a b) ρ2 H2 Q))) :
    W C A L (eval (.Subscript o i pos) env) ρ H Q := fun s hs => Subscript_ (h.at3 hs (.refl ..))

/-! ## pure evaluation -/
noncomputable def Ev (C : Cx) (A : Around) (env : Env) (ρ : Lo) (H : AH) (e : Expr) (v : V) : Prop :=
  W C A env.locals (eval e env) ρ H (fun x ρ' H' => ρ' = ρ ∧ H' = H ∧ ab x = v)
noncomputable def EvT (C : Cx) (A : Around) (env : Env) (ρ : Lo) (H : AH) (e : Expr) (b : Bool) : Prop :=
  W C A env.locals (isTrue e env (eval e env)) ρ H (fun x ρ' H' => ρ' = ρ ∧ H' = H ∧ x = b)

theorem Ev.then {e : Expr} {v : V} {f : Value → Sem β} {Q : β → Lo → AH → Prop} (h : Ev C A env ρ H e v) (k : ∀ x, ab x = v → W C A env.locals (f x) ρ H Q) :
    W C A env.locals (eval e env) ρ H (fun x ρ1 H1 => W C A env.locals (f x) ρ1 H1 Q) :=
  W.mono h (by rintro x _ _ ⟨rfl, rfl, e⟩; exact k x e)

theorem Ev.local {x : Str} {pos : Pos} {v : V} (F : Fx C A env) (hl : env.kindOf x = some .local) (hv : ρ x = some v) (hd : (x == ("__debug__" : Str)) = false := by decide) : Ev C A env ρ H (.Name x pos) v := fun s hs => by
  obtain ⟨m, hn, hm⟩ := hs.loc
  have := hm x
  rw [hv] at this
  cases hx : m x with
  | none => rw [hx] at this; cases this
  | some y =>
    rw [hx] at this
    exact wpAny_Name (wpAny_loadName_local F.kind hl hn hx ⟨ρ, H, hs, .refl .., rfl, rfl, by simpa using this⟩) hd
theorem Ev.cell {x : Str} {pos : Pos} {v : V} {c : Addr} (F : Fx C A env) (hl : env.kindOf x = some .cell) (hc : env.cells.lookup x = some c) (hv : H c = some (.cell (some v))) (hd : (x == ("__debug__" : Str)) = false := by decide) : Ev C A env ρ H (.Name x pos) v := fun s hs => by
  obtain ⟨u, h1, h2⟩ := hs.cell hv
  cases u with
  | none => cases h2
  | some y => exact wpAny_Name (wpAny_loadName_cell F.kind hl hc h1 ⟨ρ, H, hs, .refl .., rfl, rfl, by simpa using h2⟩) hd
theorem Ev.free {x : Str} {pos : Pos} {v : V} {c : Addr} (F : Fx C A env) (hl : env.kindOf x = some .free) (hc : env.cells.lookup x = some c) (hv : H c = some (.cell (some v))) (hd : (x == ("__debug__" : Str)) = false := by decide) (hn : (x == ("__classdict__" : Str)) = false := by decide) : Ev C A env ρ H (.Name x pos) v := fun s hs => by
  obtain ⟨u, h1, h2⟩ := hs.cell hv
  cases u with
  | none => cases h2
  | some y => exact wpAny_Name (wpAny_loadName_free F.kind hl hc h1 ⟨ρ, H, hs, .refl .., rfl, rfl, by simpa using h2⟩ hn) hd
theorem Ev.glob {x : Str} {pos : Pos} {v : Value} (F : Fx C A env) (hl : env.kindOf x = some .globalImplicit) (hv : C.gl x = some v) (hd : (x == ("__debug__" : Str)) = false := by decide) : Ev C A env ρ H (.Name x pos) (ab v) := fun s hs => by
  refine wpAny_Name ?_ hd
  rw [loadName_read F.kind hl]
  unfold loadGlobal
  unfold Cx.gl at hv
  refine wpAny_bind (wpAny_nsGet (by rw [F.gl]; exact C.hg.keeps hs.keep) ?_)
  cases hm : C.mg x with
  | some y =>
    rw [hm] at hv; cases hv
    exact wpAny_pure ⟨ρ, H, hs, .refl .., rfl, rfl, rfl⟩
  | none =>
    rw [hm] at hv
    dsimp only
    refine wpAny_bind (wpAny_nsGet (by rw [F.bu]; exact C.hb.keeps hs.keep) ?_)
    dsimp only at hv
    rw [hv]
    exact wpAny_pure ⟨ρ, H, hs, .refl .., rfl, rfl, rfl⟩

theorem Ev.int {i : Int} {k : Nat} {pos : Pos} : Ev C A env ρ H (.Constant (.int i) k pos) (.int i) := fun s hs => wpAny_Constant_int ⟨ρ, H, hs, .toks, rfl, rfl, rfl⟩
theorem Ev.none {k : Nat} {pos : Pos} : Ev C A env ρ H (.Constant .none k pos) .none := fun s hs => wpAny_Constant_none ⟨ρ, H, hs, .refl .., rfl, rfl, rfl⟩
theorem Ev.bool {b : Bool} {k : Nat} {pos : Pos} : Ev C A env ρ H (.Constant (.bool b) k pos) (.bool b) := fun s hs => wpAny_Constant_bool ⟨ρ, H, hs, .refl .., rfl, rfl, rfl⟩

theorem Ev.bin {l r : Expr} {op : Operator} {pos : Pos} {a b v : V} (h1 : Ev C A env ρ H l a) (h2 : Ev C A env ρ H r b)
    (h : ∀ x y, ab x = a → ab y = b → W C A env.locals (binaryOp op x y) ρ H (fun z ρ' H' => ρ' = ρ ∧ H' = H ∧ ab z = v)) : Ev C A env ρ H (.BinOp l op r pos) v :=
  W.BinOp (W.mono h1 (by rintro x _ _ ⟨rfl, rfl, e⟩; exact h2.then fun y e' => h x y e e'))
theorem Ev.add {l r : Expr} {pos : Pos} {a b : Int} (h1 : Ev C A env ρ H l (.int a)) (h2 : Ev C A env ρ H r (.int b)) : Ev C A env ρ H (.BinOp l .Add r pos) (.int (a + b)) :=
  Ev.bin h1 h2 fun x y e e' => by
    obtain ⟨t, rfl⟩ := ab_int e; obtain ⟨u, rfl⟩ := ab_int e'
    exact fun s hs => add_int ⟨ρ, H, hs, .toks, rfl, rfl, rfl⟩
theorem Ev.sub {l r : Expr} {pos : Pos} {a b : Int} (h1 : Ev C A env ρ H l (.int a)) (h2 : Ev C A env ρ H r (.int b)) : Ev C A env ρ H (.BinOp l .Sub r pos) (.int (a - b)) :=
  Ev.bin h1 h2 fun x y e e' => by
    obtain ⟨t, rfl⟩ := ab_int e; obtain ⟨u, rfl⟩ := ab_int e'
    exact fun s hs => sub_int' ⟨ρ, H, hs, .toks, rfl, rfl, rfl⟩
theorem Ev.fdiv {l r : Expr} {pos : Pos} {a b : Int} (h1 : Ev C A env ρ H l (.int a)) (h2 : Ev C A env ρ H r (.int b)) (hb : 0 < b) (hb' : b < 1000000) : Ev C A env ρ H (.BinOp l .FloorDiv r pos) (.int (a.fdiv b)) :=
  Ev.bin h1 h2 fun x y e e' => by
    obtain ⟨t, rfl⟩ := ab_int e; obtain ⟨u, rfl⟩ := ab_int e'
    exact fun s hs => floordiv_int (by omega) ⟨ρ, H, hs, .toks, rfl, rfl, rfl⟩ (Or.inl (PyProof.noPylong_small (by omega)))

/-! comparisons of ints -/
noncomputable def icmp : CmpOp → Int → Int → Option Bool
  | .Lt, a, b => some (decide (a < b))
  | .LtE, a, b => some (decide (a ≤ b))
  | .Gt, a, b => some (decide (b < a))
  | .GtE, a, b => some (decide (b ≤ a))
  | .Eq, a, b => some (a == b)
  | .NotEq, a, b => some (a != b)
  | _, _, _ => none

theorem W.icmp {L : Addr} {op : CmpOp} {a b : Int} {c : Bool} {x y : Value} {Q : Value → Lo → AH → Prop} (hx : ab x = .int a) (hy : ab y = .int b) (hc : icmp op a b = some c) (h : Q (.bool c) ρ H) : W C A L (compareOp op x y) ρ H Q := by
  obtain ⟨t, rfl⟩ := ab_int hx; obtain ⟨u, rfl⟩ := ab_int hy
  intro s hs
  have k : Post C L H s Q (Value.bool c) s := ⟨ρ, H, hs, .refl .., h⟩
  cases op <;> simp only [Mine.icmp] at hc <;> cases hc
  · exact eq_int k
  · exact ne_int k
  · exact lt_int k
  · exact le_int k
  · exact gt_int k
  · exact ge_int k
theorem Ev.icmp {l r : Expr} {op : CmpOp} {pos : Pos} {a b : Int} {c : Bool} (h1 : Ev C A env ρ H l (.int a)) (h2 : Ev C A env ρ H r (.int b)) (hc : Mine.icmp op a b = some c) (hm : behindInMarks op r = false := by with_unfolding_all rfl) :
    Ev C A env ρ H (.Compare l [op] [r] pos) (.bool c) :=
  W.Compare1 hm (W.mono h1 (by rintro x _ _ ⟨rfl, rfl, e⟩; exact h2.then fun y e' => W.icmp e e' hc ⟨rfl, rfl, rfl⟩))

theorem W.isTrue_Compare1 {l r : Expr} {op : CmpOp} {pos : Pos} {whole : Sem Value} {Q : Bool → Lo → AH → Prop} {L : Addr} (hm : behindInMarks op r = false)
    (h : W C A L (eval l env) ρ H (fun a ρ1 H1 => W C A L (eval r env) ρ1 H1 (fun b ρ2 H2 => W C A L (compareOp op a b) ρ2 H2 (fun c ρ3 H3 => W C A L (truthy c) ρ3 H3 Q)))) :
    W C A L (isTrue (.Compare l [op] [r] pos) env whole) ρ H Q := fun s hs => by
  refine wpAny_isTrue_Compare1 ?_ hm
  exact wpAny_mono (h s hs) (fun a s1 ⟨ρ1, H1, x1, y1, z1⟩ => z1.at3 x1 y1) fun _ _ e => e
theorem W.truthy_bool {L : Addr} {b : Bool} {Q : Bool → Lo → AH → Prop} (h : Q b ρ H) : W C A L (truthy (.bool b)) ρ H Q := fun s hs => wpAny_truthy_bool ⟨ρ, H, hs, .refl .., h⟩
theorem EvT.icmp {l r : Expr} {op : CmpOp} {pos : Pos} {a b : Int} {c : Bool} (h1 : Ev C A env ρ H l (.int a)) (h2 : Ev C A env ρ H r (.int b)) (hc : Mine.icmp op a b = some c) (hm : behindInMarks op r = false := by with_unfolding_all rfl) :
    EvT C A env ρ H (.Compare l [op] [r] pos) c :=
  W.isTrue_Compare1 hm (W.mono h1 (by rintro x _ _ ⟨rfl, rfl, e⟩; exact h2.then fun y e' => W.icmp e e' hc (W.truthy_bool ⟨rfl, rfl, rfl⟩)))

/-! is None -/
theorem beq_none {x : Value} {a : V} (h : ab x = a) : (x == Value.none) = decide (a = .none) := by
  subst h
  cases x <;> simp [ab]
theorem EvT.isNone {l : Expr} {k : Nat} {p pos : Pos} {a : V} (h1 : Ev C A env ρ H l a) : EvT C A env ρ H (.Compare l [.Is] [.Constant .none k p] pos) (decide (a = .none)) :=
  W.isTrue_Compare1 rfl (W.mono h1 (by
    rintro x _ _ ⟨rfl, rfl, e⟩
    refine Ev.none.then fun y e' => ?_
    rw [ab_none e']
    intro s hs
    refine is_none_gen ⟨_, _, hs, .refl .., ?_⟩
    rw [beq_none e]
    exact W.truthy_bool ⟨rfl, rfl, rfl⟩))

/-! truth -/
noncomputable def truth (H : AH) : V → Option Bool
  | .none => some false
  | .bool b => some b
  | .int i => some (i != 0)
  | .str x => some (decide (x.length ≠ 0))
  | .ref a => match H a with
    | some (.list vs) => some (!vs.isEmpty)
    | some (.scr vs) => some (!vs.isEmpty)
    | some (.tup vs) => some (!vs.isEmpty)
    | _ => none
  | _ => none

theorem W.truthy {L : Addr} {x : Value} {b : Bool} {Q : Bool → Lo → AH → Prop} (hb : truth H (ab x) = some b) (hx : ∀ y t, x = .str y t → y.length ≤ sizeLine) (h : Q b ρ H) : W C A L (PySem.truthy x) ρ H Q := fun s hs => by
  have hsl : (sizeLine : Int) < 2 ^ 63 := by decide
  cases x with
  | none => cases hb; exact truthy_none ⟨ρ, H, hs, .refl .., h⟩
  | bool c => cases hb; exact wpAny_truthy_bool ⟨ρ, H, hs, .refl .., h⟩
  | int i t => cases hb; exact truthy_int ⟨ρ, H, hs, .refl .., h⟩
  | str y t =>
    cases hb
    have := hx y t rfl
    refine P.truthy_str (by omega) ⟨ρ, H, hs, .toks, ?_⟩
    have e : ((y.length : Int) != 0) = decide (y.length ≠ 0) := by
      by_cases q : y.length = 0 <;> simp [q]
    rw [e]; exact h
  | ref a =>
    simp only [ab, truth] at hb
    split at hb
    · rename_i vs e; cases hb
      obtain ⟨xs, h1, h2, h3⟩ := hs.list e (vs := vs) rfl
      refine wpAny_truthy_list h1 (by rw [arr_size h2]; omega) ⟨ρ, H, hs, .toks, ?_⟩
      have e : xs.isEmpty = vs.isEmpty := by subst h2; obtain ⟨l⟩ := xs; cases l <;> simp
      rw [e]; exact h
    · rename_i vs e; cases hb
      obtain ⟨xs, h1, h2, h3⟩ := hs.list e (vs := vs) rfl
      refine wpAny_truthy_list h1 (by rw [arr_size h2]; omega) ⟨ρ, H, hs, .toks, ?_⟩
      have e : xs.isEmpty = vs.isEmpty := by subst h2; obtain ⟨l⟩ := xs; cases l <;> simp
      rw [e]; exact h
    · rename_i vs e; cases hb
      obtain ⟨xs, h1, h2, h3⟩ := hs.tup e
      refine truthy_tuple h1 (by rw [arr_size h2]; omega) ⟨ρ, H, hs, .toks, ?_⟩
      have e : xs.isEmpty = vs.isEmpty := by subst h2; obtain ⟨l⟩ := xs; cases l <;> simp
      rw [e]; exact h
    · cases hb
  | _ => cases hb

theorem EvT.of {e : Expr} {v : V} {b : Bool} (h : Ev C A env ρ H e v) (hb : truth H v = some b) (hs : ∀ x, v = .str x → x.length ≤ sizeLine)
    (he : isTrue e env (eval e env) = (do let v ← eval e env; standAt e.pos; holding [v] (PySem.truthy v)) := by rfl) : EvT C A env ρ H e b := by
  unfold EvT
  rw [he]
  exact W.bind (h.then fun x ex => W.bind (W.standAt (W.holding (W.truthy (by rw [ex]; exact hb) (fun y t ey => hs y (by rw [← ex, ey]; rfl)) ⟨rfl, rfl, rfl⟩))))
theorem EvT.not {x : Expr} {pos : Pos} {b : Bool} (h : EvT C A env ρ H x b) : EvT C A env ρ H (.UnaryOp .Not x pos) (!b) := fun s hs =>
  wpAny_isTrue_Not (wpAny_mono (h s hs) (fun c s' ⟨ρ', H', x', y', e1, e2, e3⟩ => ⟨ρ', H', x', y', e1, e2, by rw [e3]⟩) fun _ _ e => e)

noncomputable def AllT (C : Cx) (A : Around) (env : Env) (ρ : Lo) (H : AH) (op : BoolOp) (es : List Expr) (b : Bool) : Prop :=
  W C A env.locals (allTrue op es env) ρ H (fun x ρ' H' => ρ' = ρ ∧ H' = H ∧ x = b)
theorem EvT.boolop {op : BoolOp} {es : List Expr} {pos : Pos} {b : Bool} (h : AllT C A env ρ H op es b) : EvT C A env ρ H (.BoolOp op es pos) b := fun s hs => wpAny_isTrue_BoolOp (h s hs)
theorem AllT.or_nil : AllT C A env ρ H .Or [] false := fun s hs => wpAny_allTrue_Or_nil ⟨ρ, H, hs, .refl .., rfl, rfl, rfl⟩
theorem AllT.or_cons {e : Expr} {es : List Expr} {b c : Bool} (h : EvT C A env ρ H e b) (h2 : b = false → AllT C A env ρ H .Or es c) : AllT C A env ρ H .Or (e :: es) (b || c) := fun s hs =>
  wpAny_allTrue_Or_cons (wpAny_mono (h s hs) (fun x s1 ⟨ρ1, H1, x1, y1, e1, e2, e3⟩ => by
    subst e1 e2 e3
    cases x with
    | false => exact (h2 rfl).at x1 y1
    | true => exact ⟨_, _, x1, y1, rfl, rfl, rfl⟩) fun _ _ e => e)


/-! items -/
theorem Ev.item {o i : Expr} {pos : Pos} {a : Addr} {ob : O} {vs : List V} {k : Int} {v : V} (h1 : Ev C A env ρ H o (.ref a)) (h2 : Ev C A env ρ H i (.int k)) (hH : H a = some ob) (hl : lst ob = some vs) (h0 : 0 ≤ k) (hx : vs[k.toNat]? = some v)
    (hs : ∀ t, subscripted i false (.ref a) (.int k t) = operate [.ref a, .int k t] (getItem (.ref a) (.int k t)) := by intro _; with_unfolding_all rfl) : Ev C A env ρ H (.Subscript o i pos) v :=
  W.Subscript (W.mono h1 (by
    rintro x _ _ ⟨rfl, rfl, e⟩
    refine h2.then fun y e' => ?_
    cases ab_ref e
    obtain ⟨t, rfl⟩ := ab_int e'
    intro s hst
    obtain ⟨xs, q1, q2, q3⟩ := hst.list hH hl
    obtain ⟨y, y1, y2⟩ := arr_get q2 hx
    have hlt : k.toNat < vs.length := (List.getElem?_eq_some_iff.mp hx).1
    have hsl : (sizeLine : Int) < 2 ^ 63 := by decide
    exact tail_any q1.typeIs slot_list_getitem.lookup (wpAny_getItem_list q1 h0 (by omega) y1 ⟨_, _, hst, .refl .., rfl, rfl, y2⟩) (hs t)))
end
end Mine

namespace Mine
open PySem PySem.W PyProof.Rows

inductive Fl where
  | next | brk | cont | ret (v : V)
noncomputable def abF : Flow → Fl
  | .next => .next
  | .brk => .brk
  | .cont => .cont
  | .ret v => .ret (ab v)

noncomputable def WE (C : Cx) (A : Around) (env : Env) (e : Expr) (ρ : Lo) (H : AH) (Q : V → AH → Prop) : Prop :=
  W C A env.locals (eval e env) ρ H (fun v ρ' H' => ρ' = ρ ∧ Q (ab v) H')
noncomputable def WT (C : Cx) (A : Around) (env : Env) (e : Expr) (ρ : Lo) (H : AH) (Q : Bool → AH → Prop) : Prop :=
  W C A env.locals (isTrue e env (eval e env)) ρ H (fun b ρ' H' => ρ' = ρ ∧ Q b H')
noncomputable def WS (C : Cx) (A : Around) (env : Env) (ss : List Stmt) (ρ : Lo) (H : AH) (Q : Fl → Lo → AH → Prop) : Prop :=
  W C A env.locals (execs ss env) ρ H (fun f ρ' H' => Q (abF f) ρ' H')
noncomputable def W1 (C : Cx) (A : Around) (env : Env) (st : Stmt) (ρ : Lo) (H : AH) (Q : Fl → Lo → AH → Prop) : Prop :=
  W C A env.locals (exec st env) ρ H (fun f ρ' H' => Q (abF f) ρ' H')
noncomputable def WCall (C : Cx) (A : Around) (f : V) (args : List V) (kw : List (Str × V)) (H : AH) (Q : V → AH → Prop) : Prop :=
  ∀ L ρ (fv : Value) (vals : List Value) (kvs : List (Str × Value)), ab fv = f → vals.map ab = args → kvs.map (fun p => (p.1, ab p.2)) = kw →
    W C A L (call fv vals kvs) ρ H (fun v ρ' H' => ρ' = ρ ∧ Q (ab v) H')
theorem WCall.mono {C : Cx} {A : Around} {f : V} {args : List V} {kw : List (Str × V)} {H : AH} {Q Q' : V → AH → Prop} (h : WCall C A f args kw H Q) (hq : ∀ v H', Q v H' → Q' v H') : WCall C A f args kw H Q' :=
  fun L ρ fv vals kvs a b c => W.mono (h L ρ fv vals kvs a b c) fun _ _ _ q => ⟨q.1, hq _ _ q.2⟩

section
variable {C : Cx} {A : Around} {env : Env} {ρ : Lo} {H : AH}

theorem WE.of {e : Expr} {v : V} {Q : V → AH → Prop} (h : Ev C A env ρ H e v) (q : Q v H) : WE C A env e ρ H Q := W.mono h (by rintro x _ _ ⟨rfl, rfl, rfl⟩; exact ⟨rfl, q⟩)
theorem WE.mono {e : Expr} {Q Q' : V → AH → Prop} (h : WE C A env e ρ H Q) (hq : ∀ v H', Q v H' → Q' v H') : WE C A env e ρ H Q' := W.mono h fun _ _ _ q => ⟨q.1, hq _ _ q.2⟩
theorem WE.ev {e : Expr} {v : V} (h : WE C A env e ρ H (fun v' H' => v' = v ∧ H' = H)) : Ev C A env ρ H e v := W.mono h (by rintro x _ _ ⟨rfl, rfl, rfl⟩; exact ⟨rfl, rfl, rfl⟩)
theorem WT.of {e : Expr} {b : Bool} {Q : Bool → AH → Prop} (h : EvT C A env ρ H e b) (q : Q b H) : WT C A env e ρ H Q := W.mono h (by rintro x _ _ ⟨rfl, rfl, rfl⟩; exact ⟨rfl, q⟩)
theorem WE.then {β : Type} {e : Expr} {f : Value → Sem β} {Q : β → Lo → AH → Prop} (h : WE C A env e ρ H (fun v H1 => ∀ x, ab x = v → W C A env.locals (f x) ρ H1 Q)) :
    W C A env.locals (eval e env) ρ H (fun x ρ1 H1 => W C A env.locals (f x) ρ1 H1 Q) := W.mono h (by rintro x _ _ ⟨rfl, q⟩; exact q x rfl)
theorem WS.mono {ss : List Stmt} {Q Q' : Fl → Lo → AH → Prop} (h : WS C A env ss ρ H Q) (hq : ∀ f ρ' H', Q f ρ' H' → Q' f ρ' H') : WS C A env ss ρ H Q' := W.mono h fun _ _ _ q => hq _ _ _ q
theorem W1.mono {ss : Stmt} {Q Q' : Fl → Lo → AH → Prop} (h : W1 C A env ss ρ H Q) (hq : ∀ f ρ' H', Q f ρ' H' → Q' f ρ' H') : W1 C A env ss ρ H Q' := W.mono h fun _ _ _ q => hq _ _ _ q

theorem WS.nil {Q : Fl → Lo → AH → Prop} (h : Q .next ρ H) : WS C A env [] ρ H Q := fun s hs => wpAny_execs_nil ⟨ρ, H, hs, .refl .., h⟩
theorem WS.cons {st : Stmt} {rest : List Stmt} {Q : Fl → Lo → AH → Prop} (h : W1 C A env st ρ H (fun f ρ1 H1 => match f with | .next => WS C A env rest ρ1 H1 Q | f => Q f ρ1 H1)) : WS C A env (st :: rest) ρ H Q := fun s hs =>
  wpAny_execs_cons (wpAny_mono (h s hs) (fun f s' ⟨ρ', H', x, y, z⟩ => by
    cases f with
    | next => exact W.at z x y
    | brk => exact ⟨ρ', H', x, y, z⟩
    | cont => exact ⟨ρ', H', x, y, z⟩
    | ret v => exact ⟨ρ', H', x, y, z⟩) fun _ _ e => e)
/-- a statement that goes on -/
theorem WS.seq {st : Stmt} {rest : List Stmt} {Q : Fl → Lo → AH → Prop} (h : W1 C A env st ρ H (fun f ρ1 H1 => f = .next ∧ WS C A env rest ρ1 H1 Q)) : WS C A env (st :: rest) ρ H Q :=
  WS.cons (W1.mono h fun f ρ' H' q => by obtain ⟨rfl, q⟩ := q; exact q)

theorem W1.ret {e : Expr} {pos : Pos} {Q : Fl → Lo → AH → Prop} (h : WE C A env e ρ H (fun v H1 => Q (.ret v) ρ H1)) : W1 C A env (.Return (some e) pos) ρ H Q := fun s hs =>
  wpAny_Return_some (wpAny_mono (h s hs) (fun v s' ⟨ρ', H', x, y, z⟩ => ⟨ρ', H', x, y, by rw [z.1]; exact z.2⟩) fun _ _ e => e)
theorem W1.if {t : Expr} {b o : List Stmt} {pos : Pos} {Q : Fl → Lo → AH → Prop} (h : WT C A env t ρ H (fun c H1 => (c = true → WS C A env b ρ H1 Q) ∧ (c = false → WS C A env o ρ H1 Q))) : W1 C A env (.If t b o pos) ρ H Q := fun s hs =>
  wpAny_If (wpAny_mono (h s hs) (fun c s' ⟨ρ', H', x, y, z1, z2⟩ => by
    subst z1
    cases c with
    | true => exact W.at (z2.1 rfl) x y
    | false => exact W.at (z2.2 rfl) x y) fun _ _ e => e)

/-! ## stores -/
theorem W.storeLocal {x : Str} {v : Value} {Q : Unit → Lo → AH → Prop} (F : Fx C A env) (hl : env.kindOf x = some .local) (h : Q () (ρ.set x (ab v)) H) : W C A env.locals (storeName env x v) ρ H Q := fun s hs => by
  obtain ⟨m, hn, hm⟩ := hs.loc
  exact wpAny_storeName_local hl hn (fun h' hn' hsb => ⟨_, H, hs.store hm hn' hsb, .store hn' hsb, h⟩) (by simp [F.kind])
theorem W.storeCell {x : Str} {v : Value} {c : Addr} {o : Option V} {Q : Unit → Lo → AH → Prop} (F : Fx C A env) (hl : env.kindOf x = some .cell) (hc : env.cells.lookup x = some c) (hH : H c = some (.cell o)) (h : Q () ρ (H.set c (.cell (some (ab v))))) :
    W C A env.locals (storeName env x v) ρ H Q := fun s hs => by
  obtain ⟨u, h1, h2⟩ := hs.cell hH
  exact wpAny_storeName_cell F.kind hl hc h1 (fun h' hc' hsb => by
    obtain ⟨oc, e1, e2⟩ := hc'
    exact ⟨_, _, hs.upd (o := .cell (some (ab v))) hH rfl e1 ⟨some v, e2, rfl⟩ (fun b o hb e => hsb.extBut b o hb e), .upd hH e1 (fun b o hb e => hsb.extBut b o hb e), h⟩)

/-- what is drawn: a value, or a tuple of values -/
inductive Dv where
  | one (v : V) | tup (vs : List V)
noncomputable def Dv.Is (h : Heap) : Dv → Value → Prop
  | .one v, x => ab x = v
  | .tup vs, x => ∃ T xs, x = .ref T ∧ IsTup h T xs ∧ xs.toList.map ab = vs

noncomputable def Asg (C : Cx) (A : Around) (env : Env) (tgt : Expr) (d : Dv) (ρ : Lo) (H : AH) (Q : Lo → AH → Prop) : Prop :=
  ∀ s x, St C env.locals ρ H s.heap → d.Is s.heap x → wpAny C.M A (assign tgt env x) (Post C env.locals H s (fun _ => Q)) False2 s
noncomputable def AsgL (C : Cx) (A : Around) (env : Env) (ts : List Expr) (vs : List V) (ρ : Lo) (H : AH) (Q : Lo → AH → Prop) : Prop :=
  match ts, vs with
  | [], [] => Q ρ H
  | t :: ts, v :: vs => Asg C A env t (.one v) ρ H (fun ρ1 H1 => AsgL C A env ts vs ρ1 H1 Q)
  | _, _ => False

theorem Asg.local {x : Str} {pos : Pos} {v : V} {Q : Lo → AH → Prop} (F : Fx C A env) (hl : env.kindOf x = some .local) (h : Q (ρ.set x v) H) : Asg C A env (.Name x pos) (.one v) ρ H Q := fun s y hs hd => by
  have e : ab y = v := hd
  subst e
  exact wpAny_assign_Name (W.storeLocal F hl h s hs)
theorem Asg.cell {x : Str} {pos : Pos} {v : V} {c : Addr} {o : Option V} {Q : Lo → AH → Prop} (F : Fx C A env) (hl : env.kindOf x = some .cell) (hc : env.cells.lookup x = some c) (hH : H c = some (.cell o)) (h : Q ρ (H.set c (.cell (some v)))) : Asg C A env (.Name x pos) (.one v) ρ H Q := fun s y hs hd => by
  have e : ab y = v := hd
  subst e
  exact wpAny_assign_Name (W.storeCell F hl hc hH h s hs)
noncomputable def noStar : List Expr → Bool
  | [] => true
  | .Starred _ _ :: _ => false
  | _ :: r => noStar r
theorem assignEach_plain : ∀ {ts : List Expr}, noStar ts = true → assignEach ts env = ts.map (fun t => (false, assign t env))
  | [], _ => rfl
  | t :: r, h => by
    have hr : noStar r = true := by
      unfold noStar at h; split at h <;> simp_all
    have e : assignEach (t :: r) env = (false, assign t env) :: assignEach r env := by
      cases t <;> first | rfl | (simp [noStar] at h)
    rw [e, assignEach_plain hr]; rfl
theorem Asg.inOrder : ∀ {ts : List Expr} {vs : List V} {ρ : Lo} {H : AH} {Q : Lo → AH → Prop} (xs : List Value), xs.map ab = vs → AsgL C A env ts vs ρ H Q →
    W C A env.locals (assignInOrder (ts.map fun t => assign t env) xs) ρ H (fun _ => Q)
  | [], [], _, _, _, [], _, h => W.pure h
  | [], _ :: _, _, _, _, _, _, h => h.elim
  | _ :: _, [], _, _, _, _, _, h => h.elim
  | t :: ts, v :: vs, ρ, H, Q, x :: xs, e, h => by
    simp only [List.map_cons, List.cons.injEq] at e
    show W C A env.locals (holding xs (assign t env x) >>= fun _ => assignInOrder (ts.map fun t => assign t env) xs) ρ H _
    refine W.bind (W.holding (fun s hs => ?_))
    exact wpAny_mono (h s x hs e.1) (fun _ s' ⟨ρ', H', a, b, c⟩ => ⟨ρ', H', a, b, Asg.inOrder xs e.2 c⟩) fun _ _ e => e
theorem Asg.tuple {ts : List Expr} {k : Nat} {pos : Pos} {vs : List V} {Q : Lo → AH → Prop} (F : Fx C A env) (hst : noStar ts = true) (hlen : ts.length = vs.length) (h : AsgL C A env ts vs ρ H Q) : Asg C A env (.Tuple ts k pos) (.tup vs) ρ H Q := fun s x hs hd => by
  obtain ⟨T, xs, rfl, hT, e⟩ := hd
  have hsz : xs.size = vs.length := by rw [← e]; simp
  refine assign_Tuple_tuple F.hh hT (by rw [assignEach_plain hst, List.length_map, hlen, hsz]) (by rw [assignEach_plain hst]; simp) fun h' hx => ?_
  have k : ∀ b o, s.heap.get? b = some o → h'.get? b = some o := fun b o eb => hx b o (Nat.ne_of_lt (Heap.lt_size eb)) eb
  have := Asg.inOrder (C := C) (A := A) (env := env) xs.toList e h
  rw [assignEach_plain hst, List.map_map]
  exact this.at (hs.ext k) (.ext k)
end
end Mine

namespace Mine
open PySem PySem.W PyProof.Rows

section
variable {C : Cx} {A : Around} {env : Env} {ρ : Lo} {H : AH}



/-! ## assignment statements -/
theorem W1.asg {tgt e : Expr} {pos : Pos} {Q : Fl → Lo → AH → Prop} (h : WE C A env e ρ H (fun v H1 => Asg C A env tgt (.one v) ρ H1 (fun ρ2 H2 => Q .next ρ2 H2)))
    (hs : swapsWithSole [tgt] e pos.line env = pure false := by rfl) (hw : swappedStores [tgt] e env = pure none := by rfl) (hn : noStar [tgt] = true := by rfl) : W1 C A env (.Assign [tgt] e pos) ρ H Q := by
  show W C A env.locals (standAt pos >>= fun _ => swapsWithSole [tgt] e pos.line env >>= fun b => if b then (evalThenUse e env (fun v => assignAll v ((assignEach [tgt] env).map (·.2))) >>= fun _ => pure .next) else
    (eval e env >>= fun v => swappedStores [tgt] e env >>= fun sw => assignStores env v sw ((assignEach [tgt] env).map (·.2)))) ρ H _
  refine W.bind (W.standAt ?_)
  rw [hs]
  refine W.bind (W.pure ?_)
  rw [if_neg Bool.false_ne_true]
  refine W.bind (WE.then (WE.mono h fun v H1 k x ex => ?_))
  rw [hw, assignEach_plain hn]
  refine W.bind (W.pure ?_)
  show W C A env.locals (assign tgt env x >>= fun _ => pure Flow.next) ρ H1 _
  refine W.bind (fun s hs => wpAny_mono (k s x hs ex) (fun _ s' ⟨ρ', H', a, b, c⟩ => ⟨ρ', H', a, b, W.pure c⟩) fun _ _ e => e)

theorem W1.asgLocal {x : Str} {p pos : Pos} {e : Expr} {Q : Fl → Lo → AH → Prop} (F : Fx C A env) (hl : env.kindOf x = some .local) (h : WE C A env e ρ H (fun v H1 => Q .next (ρ.set x v) H1))
    (hs : swapsWithSole [.Name x p] e pos.line env = pure false := by rfl) (hw : swappedStores [.Name x p] e env = pure none := by rfl) : W1 C A env (.Assign [.Name x p] e pos) ρ H Q :=
  W1.asg (WE.mono h fun v H1 q => Asg.local F hl q) hs hw rfl


/-! ## argument lists, displays -/
noncomputable def WEs (C : Cx) (A : Around) (env : Env) : List Expr → Lo → AH → (List V → AH → Prop) → Prop
  | [], _, H, Q => Q [] H
  | e :: es, ρ, H, Q => WE C A env e ρ H (fun v H1 => WEs C A env es ρ H1 (fun vs H2 => Q (v :: vs) H2))
theorem starEach_plain : ∀ {es : List Expr}, noStar es = true → starEach es env = es.map fun e => (false, eval e env)
  | [], _ => rfl
  | t :: r, h => by
    have hr : noStar r = true := by
      unfold noStar at h; split at h <;> simp_all
    have e : starEach (t :: r) env = (false, eval t env) :: starEach r env := by
      cases t <;> first | rfl | (simp [noStar] at h)
    rw [e, starEach_plain hr]; rfl
theorem backTo_plain {pos : Pos} {es : List Expr} (h : noStar es = true) : backTo pos (starEach es env) = es.map fun e => (false, eval e env) := by
  rw [starEach_plain h]
  unfold backTo
  rw [List.map_map]
  rfl
theorem WEs.run : ∀ {es : List Expr} {ρ : Lo} {H : AH} {Q : List V → AH → Prop}, WEs C A env es ρ H Q → W C A env.locals (spliced (es.map fun e => (false, eval e env))) ρ H (fun vs ρ' H' => ρ' = ρ ∧ Q (vs.map ab) H')
  | [], ρ, H, Q, h => W.pure ⟨rfl, h⟩
  | e :: es, ρ, H, Q, h => fun s hs => PySem.Calls.spliced_cons (wpAny_mono (h s hs) (fun v s1 ⟨ρ1, H1, a1, b1, c1, d1⟩ => by
      subst c1
      exact wpAny_mono (WEs.run d1 s1 a1) (fun vs s2 ⟨ρ2, H2, a2, b2, c2, d2⟩ => ⟨ρ2, H2, a2, b1.trans b2 (fun _ _ => a2.nl), c2, d2⟩) fun _ _ e => e) fun _ _ e => e)
theorem WEs.mono : ∀ {es : List Expr} {ρ : Lo} {H : AH} {Q Q' : List V → AH → Prop}, WEs C A env es ρ H Q → (∀ vs H', Q vs H' → Q' vs H') → WEs C A env es ρ H Q'
  | [], _, _, _, _, h, k => k _ _ h
  | _ :: es, _, _, _, _, h, k => WE.mono h fun _ _ q => WEs.mono q fun _ _ r => k _ _ r
/-- all pure -/
inductive Evs (C : Cx) (A : Around) (env : Env) (ρ : Lo) (H : AH) : List Expr → List V → Prop
  | nil : Evs C A env ρ H [] []
  | cons {e : Expr} {es : List Expr} {v : V} {vs : List V} : Ev C A env ρ H e v → Evs C A env ρ H es vs → Evs C A env ρ H (e :: es) (v :: vs)
theorem WEs.of {es : List Expr} {vs : List V} {Q : List V → AH → Prop} (h : Evs C A env ρ H es vs) (q : Q vs H) : WEs C A env es ρ H Q := by
  induction h generalizing Q with
  | nil => exact q
  | cons h1 _ ih => exact WE.of h1 (ih q)

theorem WE.list {es : List Expr} {pos : Pos} {Q : V → AH → Prop} (hn : noStar es = true) (hlen : es.length ≤ 1000) (h : WEs C A env es ρ H (fun vs H1 => ∀ a, H1 a = none → Q (.ref a) (H1.set a (.list vs)))) : WE C A env (.List es pos) ρ H Q := fun s hs => by
  refine wpAny_List ?_
  rw [backTo_plain hn]
  have hl : ∀ {es : List Expr} {ρ : Lo} {H : AH} {Q : List V → AH → Prop}, WEs C A env es ρ H Q → WEs C A env es ρ H (fun vs H' => vs.length = es.length ∧ Q vs H') := by
    intro es
    induction es with
    | nil => intro ρ H Q h; exact ⟨rfl, h⟩
    | cons e es ih => intro ρ H Q h; exact WE.mono h fun v H1 q => WEs.mono (ih q) fun vs H2 r => ⟨by simp [r.1], r.2⟩
  refine wpAny_mono (WEs.run (hl h) s hs) (fun vs s1 ⟨ρ1, H1, a1, b1, c1, d1⟩ => ?_) fun _ _ e => e
  subst c1
  obtain ⟨d0, d1⟩ := d1
  rw [List.length_map] at d0
  have hz : vs.length ≤ sizeLine := by rw [d0]; exact Nat.le_trans hlen (by decide)
  have ha := get?_size_none s1.heap
  refine ⟨hz, _, _, a1.alloc (o := .list (vs.map ab)) ha (Heap.get?_push_size _ rfl) ⟨vs.toArray, 0, rfl, rfl, by simpa using hz⟩ (fun b o e => Heap.get?_push_of_some _ e), ?_, rfl, d1 _ (a1.fresh ha).1⟩
  exact b1.trans (Step.alloc (tk := s1.toks) ha (fun b o e => Heap.get?_push_of_some _ e)) (fun _ _ => by rw [AH.set_ne _ _ (Ne.symm (a1.fresh ha).2.2)]; exact a1.nl)


/-! a tuple display unpacked at once: the tuple is not tracked -/
theorem WEs.hidden {es : List Expr} {k : Nat} {pos : Pos} {s : Shared} {R : List V → AH → Prop} (hn : noStar es = true) (hlen : es.length ≤ 1000) (hs : St C env.locals ρ H s.heap) (h : WEs C A env es ρ H R) {Q : Value → Shared → Prop}
    (hq : ∀ T (xs : Array Value) s1 H1, IsTup s1.heap T xs → St C env.locals ρ H1 s1.heap → Step env.locals H H1 s s1 → xs.size = es.length → R (xs.toList.map ab) H1 → Q (.ref T) s1) :
    wpAny C.M A (eval (.Tuple es k pos) env) Q False2 s := by
  refine wpAny_Tuple ?_
  rw [backTo_plain hn]
  have hl : ∀ {es : List Expr} {ρ : Lo} {H : AH} {Q : List V → AH → Prop}, WEs C A env es ρ H Q → WEs C A env es ρ H (fun vs H' => vs.length = es.length ∧ Q vs H') := by
    intro es
    induction es with
    | nil => intro ρ H Q h; exact ⟨rfl, h⟩
    | cons e es ih => intro ρ H Q h; exact WE.mono h fun v H1 q => WEs.mono (ih q) fun vs H2 r => ⟨by simp [r.1], r.2⟩
  refine wpAny_mono (WEs.run (hl h) s hs) (fun vs s1 ⟨ρ1, H1, a1, b1, c1, d1⟩ => ?_) fun _ _ e => e
  subst c1
  obtain ⟨d0, d1⟩ := d1
  rw [List.length_map] at d0
  have hz : vs.length ≤ sizeLine := by rw [d0]; exact Nat.le_trans hlen (by decide)
  have k' : ∀ b o, s1.heap.get? b = some o → (s1.heap.push { cls := .type "tuple", data := .seq vs.toArray }).get? b = some o := fun b o e => Heap.get?_push_of_some _ e
  refine ⟨hz, hq _ vs.toArray _ H1 ⟨_, Heap.get?_push_size _ rfl, rfl, _, rfl⟩ (a1.ext k') (b1.trans (Step.ext (tk := s1.toks) k') (fun _ _ => a1.nl)) (by simp [d0]) d1⟩

theorem W1.asgTup {ts es : List Expr} {k k' : Nat} {p p' pos : Pos} {Q : Fl → Lo → AH → Prop} (F : Fx C A env) (h : WEs C A env es ρ H (fun vs H1 => AsgL C A env ts vs ρ H1 (fun ρ2 H2 => Q .next ρ2 H2)))
    (hs : swapsWithSole [.Tuple ts k p] (.Tuple es k' p') pos.line env = pure false := by rfl) (hw : swappedStores [.Tuple ts k p] (.Tuple es k' p') env = pure none := by rfl) (hn : noStar es = true := by rfl) (hnt : noStar ts = true := by rfl) (hlen : es.length = ts.length := by rfl) (hl : es.length ≤ 1000 := by decide) :
    W1 C A env (.Assign [.Tuple ts k p] (.Tuple es k' p') pos) ρ H Q := fun s hs' => by
  refine Assign_Tuple ?_ hs hw
  refine WEs.hidden hn hl hs' h fun T xs s1 H1 hT a1 b1 hz r => ?_
  refine wpAny_mono (Asg.tuple F hnt (by simp [← hlen, ← hz]) r s1 (.ref T) a1 ⟨T, xs, rfl, hT, rfl⟩) (fun _ s2 ⟨ρ2, H2, a2, b2, c2⟩ => ⟨ρ2, H2, a2, b1.trans b2 (fun _ _ => a2.nl), c2⟩) fun _ _ e => e


/-! ## expression statements -/
theorem W1.expr {e : Expr} {pos : Pos} {Q : Fl → Lo → AH → Prop} (F : Fx C A env) (h : WE C A env e ρ H (fun v H1 => (∀ a, v ≠ .ref a) ∧ Q .next ρ H1)) (hs : swapsWith e none pos.line env = pure false := by rfl) : W1 C A env (.Expr e pos) ρ H Q := fun s hs' => by
  refine wpAny_Expr (wpAny_mono (h s hs') (fun v s1 ⟨ρ1, H1, a1, b1, c1, d1, d2⟩ => ?_) fun _ _ e => e) (by simp [interactive, F.kind]) hs
  subst c1
  cases v <;> first | exact ⟨ρ1, H1, a1, b1, d2⟩ | exact absurd rfl (d1 _)
end
end Mine

namespace Mine
open PySem PySem.W PyProof.Rows

section
variable {C : Cx} {A : Around} {env : Env} {ρ : Lo} {H : AH}

/-! ## calls by a name -/
noncomputable def FnAt (C : Cx) (H : AH) (a : Addr) (o : Obj) (fd : FuncData) : Prop := o.data = .func fd ∧ (C.base.get? a = some o ∨ (H a = some (.fn fd) ∧ o = { cls := .type "function", data := .func fd }))
theorem FnAt.obj {a : Addr} {o : Obj} {fd : FuncData} {L : Addr} {h : Heap} (f : FnAt C H a o fd) (hs : St C L ρ H h) : h.get? a = some o ∧ o.data = .func fd := by
  obtain ⟨e, e1 | ⟨e1, rfl⟩⟩ := f
  · exact ⟨hs.keep _ _ e1, e⟩
  · exact ⟨hs.func e1, e⟩

noncomputable def WKs (C : Cx) (A : Around) (env : Env) : List Keyword → Lo → AH → (List (Str × V) → AH → Prop) → Prop
  | [], _, H, Q => Q [] H
  | ⟨some n, e, _⟩ :: ks, ρ, H, Q => WE C A env e ρ H (fun v H1 => WKs C A env ks ρ H1 (fun vs H2 => Q ((n, v) :: vs) H2))
  | ⟨none, _, _⟩ :: _, _, _, _ => False
theorem WKs.nil {Q : List (Str × V) → AH → Prop} (h : Q [] H) : WKs C A env [] ρ H Q := h
theorem WKs.run {pos : Pos} : ∀ {ks : List Keyword} {ρ : Lo} {H : AH} {Q : List (Str × V) → AH → Prop}, WKs C A env ks ρ H Q →
    W C A env.locals (evalAll ((backToKw pos (keywordEach ks env)).map (·.2))) ρ H (fun vs ρ' H' => ρ' = ρ ∧ Q ((((backToKw pos (keywordEach ks env)).filterMap (·.1)).zip vs).map fun p => (p.1, ab p.2)) H')
  | [], ρ, H, Q, h => W.pure ⟨rfl, h⟩
  | ⟨none, e, p⟩ :: ks, ρ, H, Q, h => h.elim
  | ⟨some n, e, p⟩ :: ks, ρ, H, Q, h => fun s hs => by
    show wpAny C.M A (evalAll ((do let v ← eval e env; standAt pos; pure v) :: (backToKw pos (keywordEach ks env)).map (·.2))) _ _ s
    refine wpAny_evalAll_cons (wpAny_bind (wpAny_mono (h s hs) (fun v s1 ⟨ρ1, H1, a1, b1, c1, d1⟩ => ?_) fun _ _ e => e))
    subst c1
    refine wpAny_bind (wpAny_standAt (wpAny_pure ?_))
    exact wpAny_mono (WKs.run (pos := pos) d1 s1 a1) (fun vs s2 ⟨ρ2, H2, a2, b2, c2, d2⟩ => ⟨ρ2, H2, a2, b1.trans b2 (fun _ _ => a2.nl), c2, d2⟩) fun _ _ e => e
theorem WKs.all {pos : Pos} : ∀ {ks : List Keyword} {ρ : Lo} {H : AH} {Q : List (Str × V) → AH → Prop}, ks.all (·.arg.isSome) = true → (backToKw pos (keywordEach ks env)).all (·.1.isSome) = true
  | [], _, _, _, _ => rfl
  | ⟨none, e, p⟩ :: ks, _, _, _, h => by simp at h
  | ⟨some n, e, p⟩ :: ks, ρ, H, Q, h => by
    have := WKs.all (pos := pos) (ks := ks) (ρ := ρ) (H := H) (Q := Q) (by simpa using h)
    simpa [backToKw, keywordEach] using this

theorem evalArgs_run {f : Value} {pos : Pos} {es : List Expr} {ks : List Keyword} {Q : List V → List (Str × V) → AH → Prop} (hn : noStar es = true) (hk : ks.all (·.arg.isSome) = true) (h : WEs C A env es ρ H (fun vs H1 => WKs C A env ks ρ H1 (fun kv H2 => Q vs kv H2))) :
    W C A env.locals (evalArgs f true (backTo pos (starEach es env)) (backToKw pos (keywordEach ks env))) ρ H (fun a ρ' H' => ρ' = ρ ∧ Q (a.pos.map ab) (a.kw.map fun p => (p.1, ab p.2)) H') := fun s hs => by
  have hall := WKs.all (env := env) (pos := pos) (ks := ks) (ρ := ρ) (H := H) (Q := fun _ _ => True) hk
  rw [backTo_plain hn]
  cases es with
  | nil =>
    refine evalArgs_kw_nil hall ?_
    exact wpAny_mono (WKs.run (pos := pos) h s hs) (fun vs s2 ⟨ρ2, H2, a2, b2, c2, d2⟩ => ⟨ρ2, H2, a2, b2, c2, d2⟩) fun _ _ e => e
  | cons e es =>
    refine evalArgs_kw hall ?_
    refine wpAny_mono (WEs.run h s hs) (fun vs s1 ⟨ρ1, H1, a1, b1, c1, d1⟩ => ?_) fun _ _ e => e
    subst c1
    exact wpAny_mono (WKs.run (pos := pos) d1 s1 a1) (fun vs s2 ⟨ρ2, H2, a2, b2, c2, d2⟩ => ⟨ρ2, H2, a2, b1.trans b2 (fun _ _ => a2.nl), c2, d2⟩) fun _ _ e => e

theorem WE.callFn {id : Str} {p pos : Pos} {a : Addr} {o : Obj} {fd : FuncData} {es : List Expr} {ks : List Keyword} {Q : V → AH → Prop} (hf : Ev C A env ρ H (.Name id p) (.ref a))
    (h : WEs C A env es ρ H (fun vs H1 => WKs C A env ks ρ H1 (fun kv H2 => FnAt C H2 a o fd ∧ WCall C A (.ref a) vs kv H2 Q))) (hn : noStar es = true := by rfl) (hk : ks.all (·.arg.isSome) = true := by rfl) :
    WE C A env (.Call (.Name id p) es ks pos) ρ H Q := fun s hs => by
  refine wpAny_Call_Name_kw ?_
  refine wpAny_mono (hf s hs) (fun f s1 ⟨ρ1, H1, a1, b1, c1, c2, c3⟩ => ?_) fun _ _ e => e
  subst c1 c2
  cases ab_ref c3
  refine callWith_function_kw (o := o) (fd := fd) ?_
  refine wpAny_mono (evalArgs_run hn hk h s1 a1) (fun x s2 ⟨ρ2, H2, a2, b2, c2, hfn, d2⟩ => ⟨hfn.obj a2, ?_⟩) fun _ _ e => e
  subst c2
  exact wpAny_mono (d2 env.locals ρ2 (.ref a) x.pos x.kw rfl rfl rfl s2 a2) (fun v s3 ⟨ρ3, H3, a3, b3, c3, d3⟩ => ⟨ρ3, H3, a3, (b1.trans b2 (fun _ _ => a2.nl)).trans b3 (fun _ _ => a3.nl), c3, d3⟩) fun _ _ e => e

theorem backTo_any {pos : Pos} {es : List Expr} (h : noStar es = true) : (backTo pos (starEach es env)).any (·.1) = false := by
  rw [backTo_plain h]; induction es with
  | nil => rfl
  | cons e es ih =>
    have : noStar es = true := by unfold noStar at h; split at h <;> simp_all
    simp
theorem WE.callBi {id : Str} {p pos : Pos} {b : String} {es : List Expr} {ks : List Keyword} {Q : V → AH → Prop} (hf : Ev C A env ρ H (.Name id p) (.bi b))
    (h : WEs C A env es ρ H (fun vs H1 => WKs C A env ks ρ H1 (fun kv H2 => WCall C A (.bi b) vs kv H2 Q))) (hn : noStar es = true := by rfl) (hk : ks.all (·.arg.isSome) = true := by rfl) :
    WE C A env (.Call (.Name id p) es ks pos) ρ H Q := fun s hs => by
  refine wpAny_Call_Name_kw ?_
  refine wpAny_mono (hf s hs) (fun f s1 ⟨ρ1, H1, a1, b1, c1, c2, c3⟩ => ?_) fun _ _ e => e
  subst c1 c2
  cases ab_bi c3
  have hall := WKs.all (env := env) (pos := pos) (ks := ks) (ρ := ρ1) (H := H1) (Q := fun _ _ => True) hk
  refine callWith_builtin_kwB (backTo_any hn) ?_ ?_
  · rw [List.any_eq_false]
    intro x hx
    have := List.all_eq_true.mp hall x hx
    cases hx1 : x.1 <;> simp_all
  refine wpAny_mono (evalArgs_run hn hk h s1 a1) (fun x s2 ⟨ρ2, H2, a2, b2, c2, d2⟩ => ?_) fun _ _ e => e
  subst c2
  exact wpAny_mono (d2 env.locals ρ2 (.builtin b) x.pos x.kw rfl rfl rfl s2 a2) (fun v s3 ⟨ρ3, H3, a3, b3, c3, d3⟩ => ⟨ρ3, H3, a3, (b1.trans b2 (fun _ _ => a2.nl)).trans b3 (fun _ _ => a3.nl), c3, d3⟩) fun _ _ e => e
theorem WE.callTy {id : Str} {p pos : Pos} {b : String} {es : List Expr} {Q : V → AH → Prop} (hf : Ev C A env ρ H (.Name id p) (.ty b))
    (h : WEs C A env es ρ H (fun vs H1 => WCall C A (.ty b) vs [] H1 Q)) (hn : noStar es = true := by rfl) :
    WE C A env (.Call (.Name id p) es [] pos) ρ H Q := fun s hs => by
  refine wpAny_Call_Name_kw ?_
  refine wpAny_mono (hf s hs) (fun f s1 ⟨ρ1, H1, a1, b1, c1, c2, c3⟩ => ?_) fun _ _ e => e
  subst c1 c2
  cases ab_ty c3
  refine PySem.callWith_type (backTo_any hn) ?_
  refine wpAny_mono (evalArgs_run (ks := []) (Q := fun vs kv H2 => kv = [] ∧ WCall C A (.ty b) vs [] H2 Q) hn rfl (WEs.mono h fun vs H1 q => ⟨rfl, q⟩) s1 a1) (fun x s2 ⟨ρ2, H2, a2, b2, c2, d1, d2⟩ => ?_) fun _ _ e => e
  subst c2
  have hkw : x.kw = [] := by simpa using d1
  rw [hkw]
  exact wpAny_mono (d2 env.locals ρ2 (.type b) x.pos [] rfl rfl rfl s2 a2) (fun v s3 ⟨ρ3, H3, a3, b3, c3, d3⟩ => ⟨ρ3, H3, a3, (b1.trans b2 (fun _ _ => a2.nl)).trans b3 (fun _ _ => a3.nl), c3, d3⟩) fun _ _ e => e

theorem vals1 {vals : List Value} {a : V} (e : vals.map ab = [a]) : ∃ x, vals = [x] ∧ ab x = a := by
  cases vals with
  | nil => simp at e
  | cons x r => cases r with
    | nil => simp at e; exact ⟨x, rfl, e⟩
    | cons => simp at e
theorem vals2 {vals : List Value} {a b : V} (e : vals.map ab = [a, b]) : ∃ x y, vals = [x, y] ∧ ab x = a ∧ ab y = b := by
  cases vals with
  | nil => simp at e
  | cons x r =>
    simp only [List.map_cons, List.cons.injEq] at e
    obtain ⟨y, rfl, h⟩ := vals1 e.2
    exact ⟨x, y, rfl, e.1, h⟩
theorem vals3 {vals : List Value} {a b c : V} (e : vals.map ab = [a, b, c]) : ∃ x y z, vals = [x, y, z] ∧ ab x = a ∧ ab y = b ∧ ab z = c := by
  cases vals with
  | nil => simp at e
  | cons x r =>
    simp only [List.map_cons, List.cons.injEq] at e
    obtain ⟨y, z, rfl, h⟩ := vals2 e.2
    exact ⟨x, y, z, rfl, e.1, h⟩

/-! ## methods of lists -/
theorem WE.listMeth {o : Expr} {name : Str} {id : String} {apos pos : Pos} {es : List Expr} {Q : V → AH → Prop} (slot : Slot "list" name id) (hty : typeOf (.builtin id) = pure (.type "method_descriptor"))
    (h : WE C A env o ρ H (fun v H1 => ∃ a vs, v = .ref a ∧ H1 a = some (.list vs) ∧ WEs C A env es ρ H1 (fun ws H2 => WCall C A (.bi id) (.ref a :: ws) [] H2 Q)))
    (hbase : attributeBase o name env (eval o env) = eval o env := by rfl) (hfew : ((backTo pos (starEach es env)).all (fun x => !x.1) && (backToKw pos (keywordEach [] env)).all (fun x => x.1.isSome) && decide (es.length + ([] : List Keyword).length + (if ([] : List Keyword).isEmpty then 0 else 1) < 30)) = true := by rfl)
    (hline : (apos.endLine == pos.line) = true := by rfl) (hn : noStar es = true := by rfl) : WE C A env (.Call (.Attribute o name apos) es [] pos) ρ H Q := fun s hs => by
  refine wpAny_Call_method hbase hfew hline PySem.F.plainAttrs_list slot hty ?_
  refine wpAny_mono (h s hs) (fun v s1 ⟨ρ1, H1, a1, b1, c1, a, vs, d1, d2, d3⟩ => ?_) fun _ _ e => e
  subst c1
  cases ab_ref d1
  obtain ⟨xs, ⟨n, e1⟩, e2, e3⟩ := a1.plist d2
  refine ⟨⟨_, e1, rfl⟩, fun b hb => ⟨_, by cases hb; exact e1, rfl⟩, ?_⟩
  refine PySem.Calls.callWith_builtin (backTo_any hn) ?_
  refine wpAny_mono (evalArgs_run (ks := []) (Q := fun ws kv H2 => kv = [] ∧ WCall C A (.bi id) (.ref a :: ws) [] H2 Q) hn rfl (WEs.mono d3 fun vs H1 q => ⟨rfl, q⟩) s1 a1) (fun x s2 ⟨ρ2, H2, a2, b2, c2, d1, d2⟩ => ?_) fun _ _ e => e
  subst c2
  have hkw : x.kw = [] := by simpa using d1
  rw [hkw]
  exact wpAny_mono (d2 env.locals ρ2 (.builtin id) (.ref a :: x.pos) [] rfl rfl rfl s2 a2) (fun v s3 ⟨ρ3, H3, a3, b3, c3, d3⟩ => ⟨ρ3, H3, a3, (b1.trans b2 (fun _ _ => a2.nl)).trans b3 (fun _ _ => a3.nl), c3, d3⟩) fun _ _ e => e

theorem WCall.append {a : Addr} {vs : List V} {v : V} {Q : V → AH → Prop} (hH : H a = some (.list vs)) (hz : vs.length < sizeLine) (h : Q .none (H.set a (.list (vs ++ [v])))) : WCall C A (.bi "list.append") [.ref a, v] [] H Q := by
  intro L ρ fv vals kvs e1 e2 e3
  cases ab_bi e1
  obtain ⟨x, y, rfl, ex, ey⟩ := vals2 e2
  cases ab_ref ex
  have : kvs = [] := by simpa using e3
  subst this
  intro s hs
  obtain ⟨xs, h1, h2, h3⟩ := hs.plist hH
  refine wpAny_list_append_plain h1 (fun h' ⟨n, hp⟩ hsb => ?_) (by rw [arr_size h2]; omega)
  refine ⟨_, _, hs.upd hH rfl hp (o := .list (vs ++ [v])) ⟨_, n, rfl, by simp [h2, ey], by simp; omega⟩ (fun b o hb e => hsb.extBut b o hb e), .upd hH hp (fun b o hb e => hsb.extBut b o hb e), rfl, h⟩

/-! ## built-in functions -/
theorem WCall.len {a : Addr} {o : O} {vs : List V} {Q : V → AH → Prop} (hH : H a = some o) (hl : lst o = some vs) (h : Q (.int vs.length) H) : WCall C A (.bi "len") [.ref a] [] H Q := by
  intro L ρ fv vals kvs e1 e2 e3
  cases ab_bi e1
  obtain ⟨x, rfl, ex⟩ := vals1 e2
  cases ab_ref ex
  have : kvs = [] := by simpa using e3
  subst this
  intro s hs
  obtain ⟨xs, h1, h2, h3⟩ := hs.list hH hl
  have hsl : (sizeLine : Int) < 2 ^ 63 := by decide
  refine len_list h1 (by rw [arr_size h2]; omega) ⟨ρ, H, hs, .toks, rfl, ?_⟩
  show Q (.int xs.size) H
  rw [arr_size h2]; exact h
/-- len(e) as a pure expression -/
theorem Ev.len {e : Expr} {p pos : Pos} {a : Addr} {o : O} {vs : List V} {id : Str} (hf : Ev C A env ρ H (.Name id p) (.bi "len")) (h : Ev C A env ρ H e (.ref a)) (hH : H a = some o) (hl : lst o = some vs) (hn : noStar [e] = true := by rfl) : Ev C A env ρ H (.Call (.Name id p) [e] [] pos) (.int vs.length) :=
  WE.ev (WE.callBi hf (WEs.of (.cons h .nil) (WKs.nil (WCall.len hH hl ⟨rfl, rfl⟩))) hn)
end
end Mine

namespace Mine
open PySem PySem.W PyProof.Rows

section
variable {C : Cx} {A : Around} {env : Env} {ρ : Lo} {H : AH}

/-! ## a def called -/
noncomputable def retv : Fl → V
  | .ret v => v
  | _ => .none
noncomputable def Keep (C : Cx) (s : Shared) : Prop := ∀ b o, C.base.get? b = some o → s.heap.get? b = some o
theorem lookup_ab (x : Str) (l : List (Str × Value)) : (l.lookup x).map ab = (l.map fun p => (p.1, ab p.2)).lookup x := by
  induction l with
  | nil => rfl
  | cons p r ih =>
    obtain ⟨n, v⟩ := p
    rw [List.map_cons, List.lookup_cons, List.lookup_cons]
    cases x == n
    · exact ih
    · rfl
/-- the frame left -/
theorem St.back {L L' : Addr} {s s1 s' : Shared} {ρ' : Lo} {H1 H' : AH} (hs : St C L ρ H s.heap) (hk : ∀ b o, s.heap.get? b = some o → s1.heap.get? b = some o) (hL' : s.heap.get? L' = none) (h1 : ∀ b o, s.heap.get? b = some o → H b = none → H1 b = none) (x : St C L' ρ' H' s'.heap) (y : Step L' H1 H' s1 s') :
    St C L ρ H' s'.heap ∧ (∀ b o, s.heap.get? b = some o → H b = none → s'.heap.get? b = some o) ∧ (∀ b o, s.heap.get? b = some o → H b = none → H' b = none) ∧ (∀ b o, s.heap.get? b = some o → ∃ o', s'.heap.get? b = some o') := by
  obtain ⟨m, ⟨o, es, ep, ho, r⟩, hm⟩ := hs.loc
  have ne : ∀ b o, s.heap.get? b = some o → b ≠ L' := fun b o e q => by rw [q, hL'] at e; cases e
  have kept : ∀ b o, s.heap.get? b = some o → H b = none → s'.heap.get? b = some o := fun b o e eb => y.kept b o (hk b o e) (h1 b o e eb) (ne b o e)
  have new : ∀ b o, s.heap.get? b = some o → H b = none → H' b = none := fun b o e eb => y.new b o (hk b o e) (h1 b o e eb)
  exact ⟨⟨x.keep, x.rep, x.own, ⟨m, ⟨o, es, ep, kept L o ho hs.nl, r⟩, hm⟩, new L o ho hs.nl, hs.bl⟩, kept, new, fun b o e => y.live b o (hk b o e)⟩

theorem WCall.def {a : Addr} {o : Obj} {fd : FuncData} {body : List Stmt} {args : List V} {kw bs : List (Str × V)} {Q : V → AH → Prop} (hfn : FnAt C H a o fd) (hdep : A.depth < recursionLimit)
    (hb : fd.body = .stmts body) (hcell : ∀ x ∈ fd.scope.names, x.2 ≠ .cell) (hcd : ∀ h : Heap, (∀ b o, C.base.get? b = some o → h.get? b = some o) → h.CodeRec fd.code fd.qualname)
    (hbind : ∀ vals kvs, vals.map ab = args → kvs.map (fun p => (p.1, ab p.2)) = kw → ∃ binds, (∀ s, Keep C s → BindsTo s fd ⟨vals, kvs⟩ binds) ∧ binds.map (fun p => (p.1, ab p.2)) = bs)
    (hloc : ∀ x ∈ bs, fd.scope.names.lookup x.1 = some .local)
    (h : ∀ L, H L = none → WS C (A.deeper (callEnv fd L a)) (callEnv fd L a) body (fun y => bs.reverse.lookup y) H (fun f _ H' => Q (retv f) H'))
    (hco : fd.scope.isCoroutine = false := by rfl) (hgen : fd.scope.isGenerator = false := by rfl) (hk : fd.scope.kind = .function := by rfl) : WCall C A (.ref a) args kw H Q := by
  intro L ρ fv vals kvs e1 e2 e3
  cases ab_ref e1
  obtain ⟨binds, hbt, hbs⟩ := hbind vals kvs e2 e3
  intro s hs
  obtain ⟨ho, hd⟩ := hfn.obj hs
  have hnone := get?_size_none s.heap
  refine wpAny_call (codeAny_call_def hdep ho hd (C.lim.keeps hs.keep) (hcd _ hs.keep) hb (hbt s hs.keep) hcell (fun x hx => hloc (x.1, ab x.2) (by rw [← hbs]; exact List.mem_map.mpr ⟨x, hx, rfl⟩)) (fun h₀ hn hk0 => ?_) hco hgen hk)
  have hst : St C s.heap.objs.size (fun y => bs.reverse.lookup y) H h₀ := by
    refine ⟨fun b o e => hk0 _ _ (hs.keep b o e), fun a o e => let ⟨c, e1, e2⟩ := hs.rep a o e; ⟨c, hk0 _ _ e1, e2⟩, hs.own, ⟨_, hn, fun x => ?_⟩, (hs.fresh hnone).1, (hs.fresh hnone).2.1⟩
    rw [← hbs, ← List.map_reverse]
    exact lookup_ab x binds.reverse
  have henv : (callEnv fd s.heap.objs.size a).locals = s.heap.objs.size := rfl
  refine wpAny_mono (h s.heap.objs.size (hs.fresh hnone).1 { s with heap := h₀, toks := s.toks + binds.length } hst) (fun f s' ⟨ρ', H', x, y, z⟩ => ?_) fun _ _ e => e.elim
  obtain ⟨q1, q2, q3, q4⟩ := hs.back (s1 := { s with heap := h₀, toks := s.toks + binds.length }) (L' := s.heap.objs.size) hk0 hnone (fun _ _ _ e => e) x y
  refine ⟨ρ, H', q1, ⟨?_, fun b o e eb _ => q2 b o e eb, q3, q4⟩, rfl, by cases f <;> exact z⟩
  exact y.same

/-! with cells -/
noncomputable def cellH (cm : Str → Option V) : List (Str × Addr) → AH → AH
  | [], H => H
  | (n, c) :: r, H => (cellH cm r H).set c (.cell (cm n))
theorem cellH_get {cm : Str → Option V} : ∀ {cs : List (Str × Addr)} {H : AH} {b : Addr}, (∀ p ∈ cs, p.2 ≠ b) → cellH cm cs H b = H b
  | [], _, _, _ => rfl
  | (n, c) :: r, H, b, h => by
    rw [cellH, AH.set_ne _ _ (Ne.symm (h (n, c) (List.mem_cons_self ..)))]
    exact cellH_get fun p hp => h p (List.mem_cons_of_mem _ hp)
theorem cellH_some {cm : Str → Option V} : ∀ {cs : List (Str × Addr)} {H : AH} {b : Addr} {o : O}, cellH cm cs H b = some o → (∃ n, (n, b) ∈ cs ∧ o = .cell (cm n)) ∨ H b = some o
  | [], _, _, _, h => .inr h
  | (n, c) :: r, H, b, o, h => by
    rw [cellH] at h
    by_cases q : b = c
    · subst q; rw [AH.set_same] at h; cases h; exact .inl ⟨n, List.mem_cons_self .., rfl⟩
    · rw [AH.set_ne _ _ q] at h
      rcases cellH_some h with ⟨m, hm, e⟩ | e
      · exact .inl ⟨m, List.mem_cons_of_mem _ hm, e⟩
      · exact .inr e


/-! ## while -/
theorem W1.while {t : Expr} {body : List Stmt} {pos : Pos} {Q : Fl → Lo → AH → Prop} (F : Fx C A env) (I : Nat → Lo → AH → Prop) (n : Nat) (h0 : I n ρ H)
    (turn : ∀ n ρ1 H1, I n ρ1 H1 → WT C A env t ρ1 H1 (fun c H2 => (c = true → WS C A env body ρ1 H2 (fun f ρ3 H3 => match f with | .next => ∃ m, m < n ∧ I m ρ3 H3 | .cont => ∃ m, m < n ∧ I m ρ3 H3 | .brk => Q .next ρ3 H3 | .ret v => Q (.ret v) ρ3 H3)) ∧ (c = false → Q .next ρ1 H2))) :
    W1 C A env (.While t body [] pos) ρ H Q := fun s hs => by
  refine wpAny_While ?_
  refine codeAny_whileLoop (fun k s' => ∃ ρ1 H1, St C env.locals ρ1 H1 s'.heap ∧ Step env.locals H H1 s s' ∧ I k ρ1 H1) ?_ n ⟨ρ, H, hs, .refl .., h0⟩
  rintro k s1 ⟨ρ1, H1, a1, b1, c1⟩
  refine wpAny_mono (turn k ρ1 H1 c1 s1 a1) (fun c s2 ⟨ρ2, H2, a2, b2, c2, d2⟩ => ?_) fun _ _ e => e.elim
  subst c2
  have b12 := b1.trans b2 (fun _ _ => a2.nl)
  cases c with
  | true =>
    refine wpAny_mono (d2.1 rfl s2 a2) (fun f s3 ⟨ρ3, H3, a3, b3, c3⟩ => ?_) fun _ _ e => e.elim
    have b13 := b12.trans b3 (fun _ _ => a3.nl)
    cases f with
    | next => obtain ⟨m, hm, hI⟩ := c3; exact ⟨m, hm, ρ3, H3, a3, b13, hI⟩
    | cont => obtain ⟨m, hm, hI⟩ := c3; exact ⟨m, hm, ρ3, H3, a3, b13, hI⟩
    | brk => exact ⟨ρ3, H3, a3, b13, c3⟩
    | ret v => exact ⟨ρ3, H3, a3, b13, c3⟩
  | false => exact wpAny_execs_nil ⟨ρ2, H2, a2, b12, d2.2 rfl⟩
end
end Mine

namespace Mine
open PySem PySem.W PyProof.Rows

/-! ## iterators (their own objects are not tracked) -/
noncomputable def Drawn (C : Cx) (A : Around) (tgt : Expr) (I : Addr) (Q : Option Value → Shared → Prop) (r : Option Value) (s₁ : Shared) : Prop :=
  match r with
  | none => Q none s₁
  | some v => wpAny C.M A (letOwnedTupleGo tgt (.ref I) v) (fun _ s₂ => Q (some v) s₂) False2 s₁

noncomputable def Off (C : Cx) (L : Addr) (H : AH) (wr : List Addr) : Prop := ∀ b ∈ wr, H b = none ∧ C.base.get? b = none ∧ b ≠ L

structure Itr (C : Cx) (A : Around) (I : Addr) (wr : List Addr) (tgt : Expr) (n : Nat) (Rr : Nat → Heap → Prop) (Ok : Nat → AH → Prop) (P : Nat → AH → Dv → Prop) : Prop where
  live : ∀ i h, Rr i h → ∀ b ∈ wr, ∃ o, h.get? b = some o
  frame : ∀ i h h', Rr i h → (∀ b ∈ wr, ∀ o, h.get? b = some o → h'.get? b = some o) → Rr i h'
  item : ∀ i (s : Shared) L ρ H (Q : Option Value → Shared → Prop), i < n → Rr i s.heap → St C L ρ H s.heap → Off C L H wr → Ok i H →
    (∀ v d h' tk, P i H d → d.Is h' v → St C L ρ H h' → Rr (i + 1) h' → (∀ b o, b ∉ wr → s.heap.get? b = some o → h'.get? b = some o) → Q (some v) { s with heap := h', toks := tk }) →
    wpAny C.M A (pyNext (.ref I)) (Drawn C A tgt I Q) False2 s
  done : ∀ (s : Shared) L ρ H (Q : Option Value → Shared → Prop), Rr n s.heap → St C L ρ H s.heap → Off C L H wr → Ok n H →
    (∀ h' tk, St C L ρ H h' → (∀ b o, b ∉ wr → s.heap.get? b = some o → h'.get? b = some o) → Q none { s with heap := h', toks := tk }) →
    wpAny C.M A (pyNext (.ref I)) (Drawn C A tgt I Q) False2 s
  self : ∀ i (s : Shared) (Q : Value → Shared → Prop), Rr i s.heap → Q (.ref I) s → wpAny C.M A (pyIter (.ref I)) Q False2 s

noncomputable def WIt (C : Cx) (A : Around) (env : Env) (e tgt : Expr) (ρ : Lo) (H : AH) (K : AH → Nat → (Nat → AH → Prop) → (Nat → AH → Dv → Prop) → Prop) : Prop :=
  ∀ s : Shared, St C env.locals ρ H s.heap → ∀ Q : Value → Shared → Prop,
    (∀ H1 n Ok P I wr Rr s', K H1 n Ok P → Itr C A I wr tgt n Rr Ok P → Rr 0 s'.heap → St C env.locals ρ H1 s'.heap → Step env.locals H H1 s s' → (∀ b ∈ wr, s.heap.get? b = none ∧ H1 b = none) → Q (.ref I) s') →
    wpAny C.M A (eval e env) (fun x s₁ => wpAny C.M A (pyIter x) Q False2 s₁) False2 s

section
variable {C : Cx} {A : Around} {env : Env} {ρ : Lo} {H : AH}

theorem St.offL {L : Addr} {h h' : Heap} {wr : List Addr} (x : St C L ρ H h) (hw : Off C L H wr) (k : ∀ b o, b ∉ wr → h.get? b = some o → h'.get? b = some o) : St C L ρ H h' where
  keep := fun b o e => k _ _ (fun q => by rw [(hw b q).2.1] at e; cases e) (x.keep b o e)
  rep := fun a o e => let ⟨c, e1, e2⟩ := x.rep a o e; ⟨c, k _ _ (fun q => by rw [(hw a q).1] at e; cases e) e1, e2⟩
  own := x.own
  loc := let ⟨m, ⟨o, es, ep, e1, r⟩, e2⟩ := x.loc; ⟨m, ⟨o, es, ep, k L o (fun q => (hw L q).2.2 rfl) e1, r⟩, e2⟩
  nl := x.nl
  bl := x.bl

theorem Step.offL {L : Addr} {H H' : AH} {s s2 : Shared} {h' : Heap} {tk : Nat} {wr : List Addr} (x : Step L H H' s s2) (hw : ∀ b ∈ wr, s.heap.get? b = none) (k : ∀ b o, b ∉ wr → s2.heap.get? b = some o → h'.get? b = some o) : Step L H H' s { s2 with heap := h', toks := tk } := by
  obtain ⟨m1, k1, n1, l1⟩ := x
  exact ⟨m1, fun b o e eb eL => k b o (fun q => by rw [hw b q] at e; cases e) (k1 b o e eb eL), n1, fun b o e => let ⟨o', e'⟩ := l1 b o e; ⟨o', k b o' (fun q => by rw [hw b q] at e; cases e) e'⟩⟩
/-! the loop itself -/
theorem forLoop_run {tgt : Expr} {it : Addr} {body : List Stmt} {R : Result → Shared → Prop} {s : Shared} (I : Nat → Shared → Prop)
    (turn : ∀ n s, I n s → wpAny C.M A (pyNext (.ref it)) (Drawn C A tgt it (fun r s₁ => match r with
      | none => R (.ok .next) s₁
      | some v => wpAny C.M A (PySem.assign tgt env v) (fun _ s₂ => wpAny C.M A (execs body env) (fun f s₃ => match f with
          | .next | .cont => ∃ m, m < n ∧ I m s₃
          | .brk => R (.ok .next) s₃
          | .ret v => R (.ok (.ret v)) s₃) False2 s₂) False2 s₁)) False2 s)
    (n : Nat) (h : I n s) : codeAny C.M A (.forLoop tgt (.ref it) body [] env) R s := by
  refine codeAny_loop' rfl I (fun n s hI => ?_) n h
  show wpAny _ _ ((forTurn tgt (.ref it) body [] env).onRaise (fun x => do noteFrame x env; theTreesLotGoes x)) _ _ s
  refine wpAny_noted ?_
  simp only [forTurn]
  refine wpAny_bind (wpAny_standAt (wpAny_bind (wpAny_onRaise (wpAny_mono (turn n s hI) (fun r s₁ h₁ => ?_) fun _ _ e => e.elim))))
  cases r with
  | none => exact wpAny_pure (.inr ⟨rfl, codeAny_block (wpAny_execs_nil h₁)⟩)
  | some v =>
    refine wpAny_bind (wpAny_mono h₁ (fun _ s₁' h₁' => ?_) fun _ _ e => e.elim)
    refine wpAny_bind (wpAny_mono h₁' (fun _ s₂ h₂ => wpAny_bind (wpAny_mono h₂ (fun f s₃ h₃ => ?_) fun _ _ e => e.elim)) fun _ _ e => e.elim)
    cases f with
    | next => exact wpAny_pure (.inl ⟨rfl, h₃⟩)
    | cont => exact wpAny_pure (.inl ⟨rfl, h₃⟩)
    | brk => exact wpAny_pure h₃
    | ret v => exact wpAny_pure h₃

theorem Off.step {L : Addr} {H H' : AH} {wr : List Addr} {s s' : Shared} (x : Off C L H wr) (hl : ∀ b ∈ wr, ∃ o, s.heap.get? b = some o) (y : Step L H H' s s') : Off C L H' wr := fun b hb =>
  ⟨let ⟨o, e⟩ := hl b hb; y.new b o e (x b hb).1, (x b hb).2⟩

theorem W1.for {tgt iter : Expr} {body : List Stmt} {pos : Pos} {Q : Fl → Lo → AH → Prop}
    (h : WIt C A env iter tgt ρ H (fun H1 n Ok P => ∃ Inv : Nat → Lo → AH → Prop, Inv 0 ρ H1 ∧
      (∀ i ρ1 H2, i < n → Inv i ρ1 H2 → Ok i H2 ∧ ∀ d, P i H2 d → Asg C A env tgt d ρ1 H2 (fun ρ2 H3 => WS C A env body ρ2 H3 (fun f ρ3 H4 => match f with
        | .next => Inv (i + 1) ρ3 H4
        | .cont => Inv (i + 1) ρ3 H4
        | .brk => Q .next ρ3 H4
        | .ret v => Q (.ret v) ρ3 H4))) ∧
      (∀ ρ1 H2, Inv n ρ1 H2 → Ok n H2 ∧ Q .next ρ1 H2)))
    (hs : ∀ x, foldedSetIterable iter env x = pure x := by intro _; rfl) : W1 C A env (.For tgt iter body [] pos) ρ H Q := fun s hst => by
  refine wpAny_For ?_ hs
  refine h s hst _ (fun H1 n Ok P I wr Rr s' ⟨Inv, h0, turn, fin⟩ it r0 a1 b1 hw => ?_)
  have hoff : Off C env.locals H1 wr := fun b hb => ⟨(hw b hb).2, (hst.fresh (hw b hb).1).2⟩
  refine forLoop_run (fun k s2 => ∃ i ρ2 H2, i ≤ n ∧ k = n - i ∧ St C env.locals ρ2 H2 s2.heap ∧ Step env.locals H H2 s s2 ∧ Rr i s2.heap ∧ Off C env.locals H2 wr ∧ Inv i ρ2 H2) ?_ n ⟨0, ρ, H1, Nat.zero_le _, rfl, a1, b1, r0, hoff, h0⟩
  rintro k s2 ⟨i, ρ2, H2, hi, rfl, a2, b2, r2, o2, i2⟩
  by_cases hlt : i < n
  · obtain ⟨ok, t⟩ := turn i ρ2 H2 hlt i2
    refine it.item i s2 env.locals ρ2 H2 _ hlt r2 a2 o2 ok fun v d h' tk hP hd a3 r3 k3 => ?_
    have b3 : Step env.locals H H2 s { s2 with heap := h', toks := tk } := b2.offL (fun b hb => (hw b hb).1) k3
    refine wpAny_mono (t d hP { s2 with heap := h', toks := tk } v a3 hd) (fun _ s4 ⟨ρ4, H4, a4, b4, c4⟩ => ?_) fun _ _ e => e
    have b14 := b3.trans b4 (fun _ _ => a4.nl)
    have r4 : Rr (i + 1) s4.heap := it.frame _ _ _ r3 fun b hb o e => b4.kept b o e (o2 b hb).1 (o2 b hb).2.2
    have o4 : Off C env.locals H4 wr := o2.step (it.live _ _ r3) b4
    refine wpAny_mono (c4 s4 a4) (fun f s5 ⟨ρ5, H5, a5, b5, c5⟩ => ?_) fun _ _ e => e
    have b15 := b14.trans b5 (fun _ _ => a5.nl)
    have r5 : Rr (i + 1) s5.heap := it.frame _ _ _ r4 fun b hb o e => b5.kept b o e (o4 b hb).1 (o4 b hb).2.2
    have o5 : Off C env.locals H5 wr := o4.step (it.live _ _ r4) b5
    cases f with
    | next => exact ⟨n - (i + 1), by omega, i + 1, ρ5, H5, hlt, rfl, a5, b15, r5, o5, c5⟩
    | cont => exact ⟨n - (i + 1), by omega, i + 1, ρ5, H5, hlt, rfl, a5, b15, r5, o5, c5⟩
    | brk => exact ⟨ρ5, H5, a5, b15, c5⟩
    | ret v => exact ⟨ρ5, H5, a5, b15, c5⟩
  · have hin : i = n := by omega
    subst hin
    obtain ⟨ok, q⟩ := fin ρ2 H2 i2
    exact it.done s2 env.locals ρ2 H2 _ r2 a2 o2 ok fun h' tk a3 k3 => ⟨ρ2, H2, a3, b2.offL (fun b hb => (hw b hb).1) k3, q⟩

/-! ## lists, ranges -/
theorem letOwned_list {tgt : Expr} {I l : Addr} {i : Nat} {v : Value} {s : Shared} {Q : Unit → Shared → Prop} (h : s.heap.IsListIter I l i) (q : Q () s) : wpAny C.M A (letOwnedTupleGo tgt (.ref I) v) Q False2 s := by
  obtain ⟨o, ho, hc, hd⟩ := h
  cases tgt <;> first | exact wpAny_pure q | skip
  all_goals
    cases v <;> first | exact wpAny_pure q | skip
    refine wpAny_bind (wpAny_load ho ?_)
    rw [hc, hd]
    show wpAny _ _ (if _ then _ else _) _ _ _
    rw [if_neg (by simp)]
    exact wpAny_pure q

theorem Itr.list {I l : Addr} {tgt : Expr} {ob : O} {vs : List V} (hh : A.handled = none) (hne : l ≠ I) (hl : lst ob = some vs) :
    Itr C A I [I] tgt vs.length (fun i h => h.IsListIter I l i) (fun _ H => H l = some ob) (fun i H d => ∃ v, vs[i]? = some v ∧ d = .one v) where
  live := fun i h ⟨o, ho, _⟩ b hb => by rw [List.mem_singleton.mp hb]; exact ⟨o, ho⟩
  frame := fun i h h' ⟨o, ho, r⟩ k => ⟨o, k I (List.mem_singleton.mpr rfl) o ho, r⟩
  item := fun i s L ρ H Q hi hr hs hw hok hq => by
    obtain ⟨xs, h1, h2, h3⟩ := hs.list hok hl
    obtain ⟨x, x1, x2⟩ := arr_get (i := i) (v := vs[i]) h2 (by simp [hi])
    refine wpAny_pyNext_list_item hr h1 x1 fun h' hit' hs' => ?_
    refine letOwned_list hit' ?_
    have k : ∀ b o, b ∉ [I] → s.heap.get? b = some o → h'.get? b = some o := fun b o hb e => hs'.extBut b o (fun q => hb (by simp [q])) e
    exact hq x (.one vs[i]) h' s.toks ⟨_, by simp [hi], rfl⟩ x2 (hs.offL hw k) hit' k
  done := fun s L ρ H Q hr hs hw hok hq => by
    obtain ⟨xs, h1, h2, h3⟩ := hs.list hok hl
    refine wpAny_pyNext_list_end hh hr h1 (by rw [← arr_size h2]; simp) fun h' he' => ?_
    have k : ∀ b o, b ∉ [I] → s.heap.get? b = some o → h'.get? b = some o := fun b o hb e => he' b o (fun q => hb (by simp [q])) e
    exact hq h' s.toks (hs.offL hw k) k
  self := fun i s Q hr hq => wpAny_pyIter_listiter hr hq

theorem WIt.list {e tgt : Expr} {K : AH → Nat → (Nat → AH → Prop) → (Nat → AH → Dv → Prop) → Prop} (F : Fx C A env)
    (h : WE C A env e ρ H (fun v H1 => ∃ l ob vs, v = .ref l ∧ H1 l = some ob ∧ lst ob = some vs ∧ K H1 vs.length (fun _ H2 => H2 l = some ob) (fun i _ d => ∃ v, vs[i]? = some v ∧ d = .one v))) : WIt C A env e tgt ρ H K := fun s hs Q hq => by
  refine wpAny_mono (h s hs) (fun x s1 ⟨ρ1, H1, a1, b1, c1, l, ob, vs, d1, d2, d3, d4⟩ => ?_) fun _ _ e => e
  subst c1
  cases ab_ref d1
  obtain ⟨xs, h1, h2, h3⟩ := a1.list d2 d3
  refine wpAny_pyIter_list h1 ?_
  have hn := get?_size_none s1.heap
  have hne : l ≠ s1.heap.objs.size := fun q => by obtain ⟨o, ho, _⟩ := h1; rw [q, hn] at ho; cases ho
  have k : ∀ b o, s1.heap.get? b = some o → (s1.heap.push { cls := .type "list_iterator", data := .fields #[.ref l, .int 0 0] }).get? b = some o := fun b o e => Heap.get?_push_of_some _ e
  refine hq H1 _ _ _ s1.heap.objs.size [s1.heap.objs.size] _ _ d4 (Itr.list F.hh hne d3) ⟨_, Heap.get?_push_size _ rfl, rfl, rfl⟩ (a1.ext k) (b1.trans (Step.ext (tk := s1.toks) k) (fun _ _ => a1.nl)) fun b hb => ?_
  rw [List.mem_singleton.mp hb]
  refine ⟨?_, (a1.fresh hn).1⟩
  cases e : s.heap.get? s1.heap.objs.size with
  | none => rfl
  | some o =>
    obtain ⟨o', e'⟩ := b1.live _ o e
    rw [hn] at e'; cases e'
end
end Mine

namespace Mine
open PySem PySem.W PyProof.Rows

section
variable {C : Cx} {A : Around} {env : Env} {ρ : Lo} {H : AH}

theorem letOwned_range {tgt : Expr} {I : Addr} {x left step : Int} {i : Int} {t : Tok} {s : Shared} {Q : Unit → Shared → Prop} (q : Q () s) : wpAny C.M A (letOwnedTupleGo tgt (.ref I) (.int i t)) Q False2 s := by
  cases tgt <;> exact wpAny_pure q

theorem Itr.range {I : Addr} {tgt : Expr} {a c : Int} {n : Nat} (hh : A.handled = none) :
    Itr C A I [I] tgt n (fun i h => IsRangeIter h I (a + (i : Nat) * c) ((n : Int) - (i : Nat)) c) (fun _ _ => True) (fun i H d => d = .one (.int (a + (i : Nat) * c))) where
  live := fun i h ho b hb => by rw [List.mem_singleton.mp hb]; exact ⟨_, ho⟩
  frame := fun i h h' ho k => k I (List.mem_singleton.mpr rfl) _ ho
  item := fun i s L ρ H Q hi hr hs hw hok hq => by
    refine wpAny_pyNext_range_item hr (by omega) fun h' hit' hs' => ?_
    refine letOwned_range (x := 0) (left := 0) (step := 0) ?_
    have k : ∀ b o, b ∉ [I] → s.heap.get? b = some o → h'.get? b = some o := fun b o hb e => hs'.extBut b o (fun q => hb (by simp [q])) e
    refine hq (.int (a + (i : Nat) * c) s.toks) _ h' (s.toks + 1) rfl rfl (hs.offL hw k) ?_ k
    have e1 : a + ((i + 1 : Nat) : Int) * c = a + (i : Int) * c + c := by push_cast; rw [Int.add_mul, Int.one_mul, Int.add_assoc]
    have e2 : (n : Int) - ((i + 1 : Nat) : Int) = (n : Int) - (i : Int) - 1 := by push_cast; omega
    rw [e1, e2]; exact hit'
  done := fun s L ρ H Q hr hs hw hok hq => by
    refine wpAny_pyNext_range_end hh hr (by omega) fun h' he' => ?_
    have k : ∀ b o, b ∉ [I] → s.heap.get? b = some o → h'.get? b = some o := fun b o hb e => he' b o (fun q => hb (by simp [q])) e
    exact hq h' s.toks (hs.offL hw k) k
  self := fun i s Q hr hq => wpAny_pyIter_rangeiter hr hq

/-- behind the call of range -/
theorem WIt.range_core {r : Addr} {tgt : Expr} {a b c : Int} {t u v : Tok} {n : Nat} {s s1 : Shared} {H1 : AH} {K : AH → Nat → (Nat → AH → Prop) → (Nat → AH → Dv → Prop) → Prop} (hh : A.handled = none)
    (hr : IsRange s1.heap r a b c t u v) (hsm : Builtin.Range.small a b c = true) (hn : Builtin.Range.rangeSize a b c = (n : Int)) (a1 : St C env.locals ρ H1 s1.heap) (b1 : Step env.locals H H1 s s1)
    (hK : K H1 n (fun _ _ => True) (fun i H d => d = .one (.int (a + (i : Nat) * c)))) {Q : Value → Shared → Prop}
    (hq : ∀ H1 n Ok P I wr Rr s', K H1 n Ok P → Itr C A I wr tgt n Rr Ok P → Rr 0 s'.heap → St C env.locals ρ H1 s'.heap → Step env.locals H H1 s s' → (∀ b ∈ wr, s.heap.get? b = none ∧ H1 b = none) → Q (.ref I) s') :
    wpAny C.M A (pyIter (.ref r)) Q False2 s1 := by
  refine wpAny_pyIter_range hr hsm ?_
  have hnn := get?_size_none s1.heap
  have k : ∀ b' o, s1.heap.get? b' = some o → (s1.heap.push { cls := .type "range_iterator", data := .fields #[rawInt a, rawInt (Builtin.Range.rangeSize a b c), rawInt c] }).get? b' = some o := fun b' o e => Heap.get?_push_of_some _ e
  refine hq H1 n _ _ s1.heap.objs.size [s1.heap.objs.size] _ _ hK (Itr.range (a := a) (c := c) hh) ?_ (a1.ext k) (b1.trans (Step.ext (tk := s1.toks) k) (fun _ _ => a1.nl)) fun b hb => ?_
  · have := Heap.get?_push_size s1.heap (o := { cls := .type "range_iterator", data := .fields #[rawInt a, rawInt (Builtin.Range.rangeSize a b c), rawInt c] }) rfl
    rw [hn] at this
    have e : a + ((0 : Nat) : Int) * c = a := by simp
    have e' : (n : Int) - ((0 : Nat) : Int) = n := by simp
    show IsRangeIter _ _ (a + ((0 : Nat) : Int) * c) ((n : Int) - ((0 : Nat) : Int)) c
    rw [e, e', hn]; exact this
  · rw [List.mem_singleton.mp hb]
    refine ⟨?_, (a1.fresh hnn).1⟩
    cases e : s.heap.get? s1.heap.objs.size with
    | none => rfl
    | some o =>
      obtain ⟨o', e'⟩ := b1.live _ o e
      rw [hnn] at e'; cases e'

theorem WIt.range1 {e tgt : Expr} {id : Str} {p pos : Pos} {b : Int} {K : AH → Nat → (Nat → AH → Prop) → (Nat → AH → Dv → Prop) → Prop} (F : Fx C A env) (hf : Ev C A env ρ H (.Name id p) (.ty "range")) (he : Ev C A env ρ H e (.int b)) (hb : -(2 ^ 62) ≤ b) (hb' : b < 2 ^ 62)
    (hK : K H b.toNat (fun _ _ => True) (fun i _ d => d = .one (.int i))) (hn : noStar [e] = true := by rfl) : WIt C A env (.Call (.Name id p) [e] [] pos) tgt ρ H K := fun s hs Q hq => by
  refine wpAny_Call_Name_kw (wpAny_mono (hf s hs) (fun f s1 ⟨ρ1, H1, a1, b1, c1, c2, c3⟩ => ?_) fun _ _ e => e)
  subst c1 c2
  cases ab_ty c3
  refine PySem.callWith_type (backTo_any hn) (wpAny_mono (evalArgs_run (ks := []) (Q := fun vs kv H2 => vs = [.int b] ∧ kv = [] ∧ H2 = H1) hn rfl (WEs.of (.cons he .nil) ⟨rfl, rfl, rfl⟩) s1 a1) (fun x s2 ⟨ρ2, H2, a2, b2, c2, d1, d2, d3⟩ => ?_) fun _ _ e => e)
  subst c2 d3
  have hkw : x.kw = [] := by simpa using d2
  obtain ⟨y, ey, ey'⟩ := vals1 d1
  obtain ⟨t, rfl⟩ := ab_int ey'
  rw [hkw, ey]
  have k : ∀ b' o, s2.heap.get? b' = some o → (s2.heap.push { cls := .type "range", data := .fields #[.int 0 s2.toks, .int b t, .int 1 (s2.toks + 1)] }).get? b' = some o := fun b' o e => Heap.get?_push_of_some _ e
  refine call_range_1 (WIt.range_core (n := b.toNat) F.hh (IsRange.new _ _ _ _ _ _ _) (small_one (by decide) (by decide) hb hb') (by rw [rangeSize_nat]; simp) (a2.ext k) ((b1.trans b2 (fun _ _ => a2.nl)).trans (Step.ext (tk := s2.toks + 1 + 1) k) (fun _ _ => a2.nl)) ?_ hq)
  have e : (fun (i : Nat) (H : AH) (d : Dv) => d = Dv.one (V.int (0 + (i : Int) * 1))) = fun i _ d => d = .one (.int i) := by funext i _ d; simp
  rw [e]; exact hK
theorem WIt.range2 {e1 e2 tgt : Expr} {id : Str} {p pos : Pos} {a b : Int} {K : AH → Nat → (Nat → AH → Prop) → (Nat → AH → Dv → Prop) → Prop} (F : Fx C A env) (hf : Ev C A env ρ H (.Name id p) (.ty "range")) (he1 : Ev C A env ρ H e1 (.int a)) (he2 : Ev C A env ρ H e2 (.int b)) (ha : -(2 ^ 62) ≤ a) (ha' : a < 2 ^ 62) (hb : -(2 ^ 62) ≤ b) (hb' : b < 2 ^ 62)
    (hK : K H (b - a).toNat (fun _ _ => True) (fun i _ d => d = .one (.int (a + i)))) (hn : noStar [e1, e2] = true := by rfl) : WIt C A env (.Call (.Name id p) [e1, e2] [] pos) tgt ρ H K := fun s hs Q hq => by
  refine wpAny_Call_Name_kw (wpAny_mono (hf s hs) (fun f s1 ⟨ρ1, H1, a1, b1, c1, c2, c3⟩ => ?_) fun _ _ e => e)
  subst c1 c2
  cases ab_ty c3
  refine PySem.callWith_type (backTo_any hn) (wpAny_mono (evalArgs_run (ks := []) (Q := fun vs kv H2 => vs = [.int a, .int b] ∧ kv = [] ∧ H2 = H1) hn rfl (WEs.of (.cons he1 (.cons he2 .nil)) ⟨rfl, rfl, rfl⟩) s1 a1) (fun x s2 ⟨ρ2, H2, a2, b2, c2, d1, d2, d3⟩ => ?_) fun _ _ e => e)
  subst c2 d3
  have hkw : x.kw = [] := by simpa using d2
  obtain ⟨y, z, ey, ey', ez'⟩ := vals2 d1
  obtain ⟨t, rfl⟩ := ab_int ey'
  obtain ⟨u, rfl⟩ := ab_int ez'
  rw [hkw, ey]
  have k : ∀ b' o, s2.heap.get? b' = some o → (s2.heap.push { cls := .type "range", data := .fields #[.int a t, .int b u, .int 1 s2.toks] }).get? b' = some o := fun b' o e => Heap.get?_push_of_some _ e
  refine call_range_2 (WIt.range_core (n := (b - a).toNat) F.hh (IsRange.new _ _ _ _ _ _ _) (small_one ha ha' hb hb') (by rw [rangeSize_nat]) (a2.ext k) ((b1.trans b2 (fun _ _ => a2.nl)).trans (Step.ext (tk := s2.toks + 1) k) (fun _ _ => a2.nl)) ?_ hq)
  have e : (fun (i : Nat) (H : AH) (d : Dv) => d = Dv.one (V.int (a + (i : Int) * 1))) = fun i _ d => d = .one (.int (a + i)) := by funext i _ d; simp
  rw [e]; exact hK
end
end Mine

namespace Mine
open PySem PySem.W PyProof.Rows

section
variable {C : Cx} {A : Around} {env : Env} {ρ : Lo} {H : AH}

/-! ## tests of a clause -/
noncomputable def WIf (C : Cx) (A : Around) (env : Env) : List Expr → Lo → AH → (Bool → AH → Prop) → Prop
  | [], _, H, Q => Q true H
  | c :: cs, ρ, H, Q => WT C A env c ρ H (fun b H1 => (b = true → WIf C A env cs ρ H1 Q) ∧ (b = false → Q false H1))
theorem ifs_false {env : Env} : ∀ (ifs : List Expr), (forIn ifs false fun c r => if r = true then do let ok ← isTrue c env (eval c env); pure (ForInStep.yield ok) else pure (ForInStep.yield r) : Sem Bool) = pure false
  | [] => rfl
  | c :: cs => by
    rw [List.forIn_cons]
    show (if false = true then _ else pure (ForInStep.yield false) : Sem (ForInStep Bool)) >>= _ = _
    rw [if_neg Bool.false_ne_true]
    exact ifs_false cs
theorem WIf.run : ∀ {ifs : List Expr} {ρ : Lo} {H : AH} {Q : Bool → AH → Prop}, WIf C A env ifs ρ H Q →
    W C A env.locals (forIn ifs true fun c r => if r = true then do let ok ← isTrue c env (eval c env); pure (ForInStep.yield ok) else pure (ForInStep.yield r)) ρ H (fun b ρ' H' => ρ' = ρ ∧ Q b H')
  | [], ρ, H, Q, h => W.pure ⟨rfl, h⟩
  | c :: cs, ρ, H, Q, h => by
    rw [List.forIn_cons]
    refine W.bind (W.bind (W.mono h ?_))
    rintro b ρ1 H1 ⟨rfl, h1, h2⟩
    refine W.pure ?_
    cases b with
    | true => exact WIf.run (h1 rfl)
    | false =>
      show W C A env.locals (forIn cs false _) ρ1 H1 _
      rw [ifs_false]
      exact W.pure ⟨rfl, h2 rfl⟩

/-! ## comprehensions -/
structure StepX (ex : List Addr) (L : Addr) (H H' : AH) (s s' : Shared) : Prop where
  same : s'.gens = s.gens ∧ s'.os = s.os
  kept : ∀ b o, b ∉ ex → s.heap.get? b = some o → H b = none → b ≠ L → s'.heap.get? b = some o
  new : ∀ b o, b ∉ ex → s.heap.get? b = some o → H b = none → H' b = none
  live : ∀ b o, b ∉ ex → s.heap.get? b = some o → ∃ o', s'.heap.get? b = some o'
theorem Step.toX {ex : List Addr} {L : Addr} {H H' : AH} {s s' : Shared} (x : Step L H H' s s') : StepX ex L H H' s s' := ⟨x.same, fun b o _ e eb eL => x.kept b o e eb eL, fun b o _ => x.new b o, fun b o _ => x.live b o⟩
theorem StepX.trans {ex : List Addr} {L : Addr} {H H' H'' : AH} {s s' s'' : Shared} (x : StepX ex L H H' s s') (y : StepX ex L H' H'' s' s'') : StepX ex L H H'' s s'' := by
  obtain ⟨m1, k1, n1, l1⟩ := x
  obtain ⟨m2, k2, n2, l2⟩ := y
  exact ⟨⟨m2.1.trans m1.1, m2.2.trans m1.2⟩, fun b o hb e eH eL => k2 b o hb (k1 b o hb e eH eL) (n1 b o hb e eH) eL, fun b o hb e eH => let ⟨o', e'⟩ := l1 b o hb e; n2 b o' hb e' (n1 b o hb e eH), fun b o hb e => let ⟨o', e'⟩ := l1 b o hb e; l2 b o' hb e'⟩
/-- changes at untracked places -/
theorem StepX.off {ex : List Addr} {L : Addr} {H : AH} {s : Shared} {h' : Heap} {tk : Nat} (k : ∀ b o, b ∉ ex → s.heap.get? b = some o → h'.get? b = some o) : StepX ex L H H s { s with heap := h', toks := tk } :=
  ⟨⟨rfl, rfl⟩, fun b o hb e _ _ => k b o hb e, fun _ _ _ _ e => e, fun b o hb e => ⟨o, k b o hb e⟩⟩
theorem StepX.mono {ex ex' : List Addr} {L : Addr} {H H' : AH} {s s' : Shared} (x : StepX ex L H H' s s') (h : ∀ b ∈ ex, ∀ o, s.heap.get? b = some o → b ∈ ex') : StepX ex' L H H' s s' :=
  ⟨x.same, fun b o hb e eb eL => x.kept b o (fun q => hb (h b q o e)) e eb eL, fun b o hb e => x.new b o (fun q => hb (h b q o e)) e, fun b o hb e => x.live b o (fun q => hb (h b q o e)) e⟩

/-- the accumulator, not tracked -/
structure Acc (C : Cx) (L : Addr) (D : Addr) (H : AH) (ys : List V) (h : Heap) : Prop where
  off : H D = none ∧ C.base.get? D = none ∧ D ≠ L
  arr : ∃ xs : Array Value, h.PlainList D xs ∧ xs.toList.map ab = ys
  sz : ys.length ≤ sizeLine
theorem Acc.step {L D : Addr} {H H' : AH} {ys : List V} {s s' : Shared} (x : Acc C L D H ys s.heap) (y : Step L H H' s s') : Acc C L D H' ys s'.heap := by
  obtain ⟨o, ⟨xs, ⟨n, hp⟩, e⟩, z⟩ := x
  exact ⟨⟨y.new _ _ hp o.1, o.2⟩, ⟨xs, ⟨n, y.kept _ _ hp o.1 o.2.2⟩, e⟩, z⟩

noncomputable def CompR (C : Cx) (L D : Addr) (ex : List Addr) (H : AH) (s : Shared) (Q : Lo → AH → List V → Prop) (r : Result) (s' : Shared) : Prop :=
  match r with
  | .ok .next => ∃ ρ' H' zs, St C L ρ' H' s'.heap ∧ Acc C L D H' zs s'.heap ∧ StepX ex L H H' s s' ∧ Q ρ' H' zs
  | _ => False

/-- what is done for each item of the clauses behind -/
noncomputable def CompI (C : Cx) (A : Around) (env : Env) (elt : Expr) : List Comprehension → Lo → AH → List V → (Lo → AH → List V → Prop) → Prop
  | [], ρ, H, ys, Q => WE C A env elt ρ H (fun v H1 => ys.length < sizeLine ∧ Q ρ H1 (ys ++ [v]))
  | ⟨tgt, iter, ifs, _⟩ :: gs, ρ, H, ys, Q => WIt C A env iter tgt ρ H (fun H1 n Ok P => ∃ Inv : Nat → Lo → AH → List V → Prop, Inv 0 ρ H1 ys ∧
      (∀ i ρ1 H2 zs, i < n → Inv i ρ1 H2 zs → Ok i H2 ∧ ∀ d, P i H2 d → Asg C A env tgt d ρ1 H2 (fun ρ2 H3 => WIf C A env ifs ρ2 H3 (fun b H4 => (b = true → CompI C A env elt gs ρ2 H4 zs (fun ρ5 H5 us => Inv (i + 1) ρ5 H5 us)) ∧ (b = false → Inv (i + 1) ρ2 H4 zs)))) ∧
      (∀ ρ1 H2 zs, Inv n ρ1 H2 zs → Ok n H2 ∧ Q ρ1 H2 zs))

/-- the loop of one clause, given what is done inside -/
noncomputable def LoopOk (C : Cx) (A : Around) (env : Env) (elt tgt : Expr) (ifs : List Expr) (gs : List Comprehension) (H1 : AH) (n : Nat) (Ok : Nat → AH → Prop) (P : Nat → AH → Dv → Prop) (ρ : Lo) (ys : List V) (Q : Lo → AH → List V → Prop) : Prop :=
  ∃ Inv : Nat → Lo → AH → List V → Prop, Inv 0 ρ H1 ys ∧
      (∀ i ρ1 H2 zs, i < n → Inv i ρ1 H2 zs → Ok i H2 ∧ ∀ d, P i H2 d → Asg C A env tgt d ρ1 H2 (fun ρ2 H3 => WIf C A env ifs ρ2 H3 (fun b H4 => (b = true → CompI C A env elt gs ρ2 H4 zs (fun ρ5 H5 us => Inv (i + 1) ρ5 H5 us)) ∧ (b = false → Inv (i + 1) ρ2 H4 zs)))) ∧
      (∀ ρ1 H2 zs, Inv n ρ1 H2 zs → Ok n H2 ∧ Q ρ1 H2 zs)

theorem compTurn_last (elt : Expr) (gens : List Comprehension) (scope : Scope) (pos : Pos) (d : Nat) (tgt iter : Expr) (ifs : List Expr) (it acc : Value) (cenv : Env) (hd : gens[d]? = some ⟨tgt, iter, ifs, 0⟩) (hl : gens[d + 1]? = none) :
    compTurn (.ListComp elt gens scope pos) d it acc cenv = (standAt iter.pos >>= fun _ => pyNext it >>= fun r => match r with
      | none => pure (.done .next)
      | some v => letOwnedTupleGo tgt it v >>= fun _ => PySem.assign tgt cenv v >>= fun _ =>
          (forIn ifs true fun c r => if r = true then do let ok ← isTrue c cenv (eval c cenv); pure (ForInStep.yield ok) else pure (ForInStep.yield r)) >>= fun ok =>
            if ok = true then ((eval elt cenv >>= fun x => call (.builtin "list.append") [acc, x] >>= fun _ => pure PUnit.unit) >>= fun _ => again (.compLoop (.ListComp elt gens scope pos) d it acc cenv)) else again (.compLoop (.ListComp elt gens scope pos) d it acc cenv)) := by
  unfold compTurn
  simp only [hd, hl]
  rfl
theorem compTurn_more (elt : Expr) (gens : List Comprehension) (scope : Scope) (pos : Pos) (d : Nat) (tgt iter tgt' iter' : Expr) (ifs ifs' : List Expr) (it acc : Value) (cenv : Env) (hd : gens[d]? = some ⟨tgt, iter, ifs, 0⟩) (hl : gens[d + 1]? = some ⟨tgt', iter', ifs', 0⟩) :
    compTurn (.ListComp elt gens scope pos) d it acc cenv = (standAt iter.pos >>= fun _ => pyNext it >>= fun r => match r with
      | none => pure (.done .next)
      | some v => letOwnedTupleGo tgt it v >>= fun _ => PySem.assign tgt cenv v >>= fun _ =>
          (forIn ifs true fun c r => if r = true then do let ok ← isTrue c cenv (eval c cenv); pure (ForInStep.yield ok) else pure (ForInStep.yield r)) >>= fun ok =>
            if ok = true then (eval iter' cenv >>= fun x => standAt iter'.pos >>= fun _ => foldedSetIterable iter' cenv x >>= fun x => holding [x] (pyIter x) >>= fun it' => runOwn (.compStart (.ListComp elt gens scope pos) (d + 1) it' acc cenv) cenv >>= fun _ => again (.compLoop (.ListComp elt gens scope pos) d it acc cenv)) else again (.compLoop (.ListComp elt gens scope pos) d it acc cenv)) := by
  unfold compTurn
  simp only [hd, hl]
  rfl

theorem Off.stepX {L : Addr} {H H' : AH} {wr ex : List Addr} {s s' : Shared} (x : Off C L H wr) (hl : ∀ b ∈ wr, ∃ o, s.heap.get? b = some o) (y : StepX ex L H H' s s') (hex : ∀ b ∈ wr, b ∉ ex) : Off C L H' wr := fun b hb =>
  ⟨let ⟨o, e⟩ := hl b hb; y.new b o (hex b hb) e (x b hb).1, (x b hb).2⟩

noncomputable abbrev ifsT (ifs : List Expr) (env : Env) : Sem Bool := forIn ifs true fun c r => if r = true then do let ok ← isTrue c env (eval c env); pure (ForInStep.yield ok) else pure (ForInStep.yield r)
noncomputable def TurnP (C : Cx) (A : Around) (env : Env) (tgt : Expr) (ifs : List Expr) (I : Addr) (fin : Shared → Prop) (Inn : Shared → Prop) (K : Shared → Prop) : Option Value → Shared → Prop :=
  Drawn C A tgt I (fun r s₁ => match r with
    | none => fin s₁
    | some v => wpAny C.M A (PySem.assign tgt env v) (fun _ s₂ => wpAny C.M A (ifsT ifs env) (fun ok s₃ => (ok = true → Inn s₃) ∧ (ok = false → K s₃)) False2 s₂) False2 s₁)
noncomputable def InnLast (C : Cx) (A : Around) (env : Env) (elt : Expr) (D : Addr) (K : Shared → Prop) (s : Shared) : Prop :=
  wpAny C.M A (eval elt env) (fun x s₄ => wpAny C.M A (call (.builtin "list.append") [.ref D, x]) (fun _ s₅ => K s₅) False2 s₄) False2 s
noncomputable def InnMore (C : Cx) (A : Around) (env : Env) (e iter : Expr) (d : Nat) (D : Addr) (K : Shared → Prop) (s : Shared) : Prop :=
  wpAny C.M A (eval iter env) (fun x s₄ => wpAny C.M A (pyIter x) (fun it s₅ => codeAny C.M A (.compStart e d it (.ref D) env) (fun r s₆ => match r with | .ok _ => K s₆ | .error _ => False) s₅) False2 s₄) False2 s

theorem compLoop_last {elt : Expr} {gens : List Comprehension} {scope : Scope} {pos : Pos} {d : Nat} {tgt iter : Expr} {ifs : List Expr} {it D : Addr} {R : Result → Shared → Prop} {s : Shared} (hd : gens[d]? = some ⟨tgt, iter, ifs, 0⟩) (hl : gens[d + 1]? = none) (I : Nat → Shared → Prop)
    (turn : ∀ n s, I n s → wpAny C.M A (pyNext (.ref it)) (TurnP C A env tgt ifs it (R (.ok .next)) (InnLast C A env elt D (fun s' => ∃ m, m < n ∧ I m s')) (fun s' => ∃ m, m < n ∧ I m s')) False2 s) (n : Nat) (h : I n s) :
    codeAny C.M A (.compLoop (.ListComp elt gens scope pos) d (.ref it) (.ref D) env) R s := by
  refine codeAny_loop rfl I (fun n s hI => ?_) n h
  show wpAny _ A ((compTurn (.ListComp elt gens scope pos) d (.ref it) (.ref D) env).onRaise (fun x => do noteFrame x env; theTreesLotGoes x)) _ _ s
  refine wpAny_noted ?_
  rw [compTurn_last elt gens scope pos d tgt iter ifs _ _ _ hd hl]
  refine wpAny_bind (wpAny_standAt (wpAny_bind (wpAny_mono (turn n s hI) (fun r s₁ h₁ => ?_) fun _ _ e => e.elim)))
  cases r with
  | none => exact wpAny_pure h₁
  | some v =>
    refine wpAny_bind (wpAny_mono h₁ (fun _ s₂ h₂ => ?_) fun _ _ e => e.elim)
    refine wpAny_bind (wpAny_mono h₂ (fun _ s₃ h₃ => ?_) fun _ _ e => e.elim)
    refine wpAny_bind (wpAny_mono h₃ (fun ok s₄ h₄ => ?_) fun _ _ e => e.elim)
    cases ok with
    | false => exact wpAny_pure ⟨rfl, h₄.2 rfl⟩
    | true => exact wpAny_bind (wpAny_bind (wpAny_mono (h₄.1 rfl) (fun x s₅ h₅ => wpAny_bind (wpAny_mono h₅ (fun _ s₆ h₆ => wpAny_pure (wpAny_pure ⟨rfl, h₆⟩)) fun _ _ e => e.elim)) fun _ _ e => e.elim))
theorem compLoop_more {elt : Expr} {gens : List Comprehension} {scope : Scope} {pos : Pos} {d : Nat} {tgt iter tgt' iter' : Expr} {ifs ifs' : List Expr} {it D : Addr} {R : Result → Shared → Prop} {s : Shared} (hd : gens[d]? = some ⟨tgt, iter, ifs, 0⟩) (hl : gens[d + 1]? = some ⟨tgt', iter', ifs', 0⟩) (hs : ∀ x, foldedSetIterable iter' env x = pure x) (I : Nat → Shared → Prop)
    (turn : ∀ n s, I n s → wpAny C.M A (pyNext (.ref it)) (TurnP C A env tgt ifs it (R (.ok .next)) (InnMore C A env (.ListComp elt gens scope pos) iter' (d + 1) D (fun s' => ∃ m, m < n ∧ I m s')) (fun s' => ∃ m, m < n ∧ I m s')) False2 s) (n : Nat) (h : I n s) :
    codeAny C.M A (.compLoop (.ListComp elt gens scope pos) d (.ref it) (.ref D) env) R s := by
  refine codeAny_loop rfl I (fun n s hI => ?_) n h
  show wpAny _ A ((compTurn (.ListComp elt gens scope pos) d (.ref it) (.ref D) env).onRaise (fun x => do noteFrame x env; theTreesLotGoes x)) _ _ s
  refine wpAny_noted ?_
  rw [compTurn_more elt gens scope pos d tgt iter tgt' iter' ifs ifs' _ _ _ hd hl]
  refine wpAny_bind (wpAny_standAt (wpAny_bind (wpAny_mono (turn n s hI) (fun r s₁ h₁ => ?_) fun _ _ e => e.elim)))
  cases r with
  | none => exact wpAny_pure h₁
  | some v =>
    refine wpAny_bind (wpAny_mono h₁ (fun _ s₂ h₂ => ?_) fun _ _ e => e.elim)
    refine wpAny_bind (wpAny_mono h₂ (fun _ s₃ h₃ => ?_) fun _ _ e => e.elim)
    refine wpAny_bind (wpAny_mono h₃ (fun ok s₄ h₄ => ?_) fun _ _ e => e.elim)
    cases ok with
    | false => exact wpAny_pure ⟨rfl, h₄.2 rfl⟩
    | true =>
      refine wpAny_bind (wpAny_mono (h₄.1 rfl) (fun x s₅ h₅ => wpAny_bind (wpAny_standAt ?_)) fun _ _ e => e.elim)
      rw [hs]
      refine wpAny_bind (wpAny_pure (wpAny_bind (wpAny_holding (wpAny_mono h₅ (fun it' s₆ h₆ => ?_) fun _ _ e => e.elim))))
      refine wpAny_bind ?_
      unfold runOwn
      refine wpAny_onRaise (wpAny_run (codeAny_mono h₆ fun r s' hr => ?_))
      cases r with
      | ok f => exact wpAny_pure ⟨rfl, hr⟩
      | error e => exact hr.elim

theorem compStart_run {elt : Expr} {gens : List Comprehension} {scope : Scope} {pos : Pos} {d : Nat} {tgt iter : Expr} {ifs : List Expr} {it acc : Value} {R : Result → Shared → Prop} {s : Shared} (hd : gens[d]? = some ⟨tgt, iter, ifs, 0⟩)
    (h0 : codeAny C.M A (.compLoop (.ListComp elt gens scope pos) d it acc env) R s)
    (h : wpAny C.M A (pyIter it) (fun it' s' => codeAny C.M A (.compLoop (.ListComp elt gens scope pos) d it' acc env) R s') False2 s) :
    codeAny C.M A (.compStart (.ListComp elt gens scope pos) d it acc env) R s := by
  refine codeAny_of_tree ?_
  show wpAny _ _ ((compStart (.ListComp elt gens scope pos) d it acc env).onRaise (fun x => do noteFrame x env; standAt theWindowsPlace)) _ _ s
  refine wpAny_notedAt ?_
  unfold compStart
  have hcl : (clausesOf (.ListComp elt gens scope pos))[d]? = some ⟨tgt, iter, ifs, 0⟩ := hd
  rw [hcl]
  show wpAny _ _ (ask >>= _) _ _ s
  refine wpAny_bind (wpAny_askSetting (wpAny_ite ?_))
  split
  · exact wpAny_pure (And.intro rfl h0)
  · exact wpAny_bind (wpAny_rule (wpAny_bind (wpAny_standAt (wpAny_bind (wpAny_mono h (fun it' s' h' => wpAny_pure (And.intro rfl h')) fun _ _ x => x.elim)))))

section
variable {elt tgt : Expr} {ifs : List Expr} {gs : List Comprehension} {I D : Addr} {wr : List Addr} {n : Nat} {Rr : Nat → Heap → Prop} {Ok : Nat → AH → Prop} {P : Nat → AH → Dv → Prop} {Inv : Nat → Lo → AH → List V → Prop} {s : Shared} {Q : Lo → AH → List V → Prop}
noncomputable def CSt (C : Cx) (env : Env) (D : Addr) (wr : List Addr) (n : Nat) (Rr : Nat → Heap → Prop) (Inv : Nat → Lo → AH → List V → Prop) (H : AH) (s : Shared) (k : Nat) (s2 : Shared) : Prop :=
  ∃ i ρ2 H2 zs, i ≤ n ∧ k = n - i ∧ St C env.locals ρ2 H2 s2.heap ∧ StepX (D :: wr) env.locals H H2 s s2 ∧ Rr i s2.heap ∧ Off C env.locals H2 wr ∧ Acc C env.locals D H2 zs s2.heap ∧ Inv i ρ2 H2 zs
theorem comp_turns (Inn : (Shared → Prop) → Shared → Prop)
    (hInn : ∀ {ρ H zs Qi} {K : Shared → Prop} {s : Shared}, CompI C A env elt gs ρ H zs Qi → St C env.locals ρ H s.heap → Acc C env.locals D H zs s.heap →
      (∀ ρ5 H5 us s5, St C env.locals ρ5 H5 s5.heap → Acc C env.locals D H5 us s5.heap → StepX [D] env.locals H H5 s s5 → Qi ρ5 H5 us → K s5) → Inn K s)
    (it : Itr C A I wr tgt n Rr Ok P) (hDw : D ∉ wr)
    (turn : ∀ i ρ1 H2 zs, i < n → Inv i ρ1 H2 zs → Ok i H2 ∧ ∀ d, P i H2 d → Asg C A env tgt d ρ1 H2 (fun ρ2 H3 => WIf C A env ifs ρ2 H3 (fun b H4 => (b = true → CompI C A env elt gs ρ2 H4 zs (fun ρ5 H5 us => Inv (i + 1) ρ5 H5 us)) ∧ (b = false → Inv (i + 1) ρ2 H4 zs))))
    (fin : ∀ ρ1 H2 zs, Inv n ρ1 H2 zs → Ok n H2 ∧ Q ρ1 H2 zs) (k : Nat) (s2 : Shared) (hI : CSt C env D wr n Rr Inv H s k s2) :
    wpAny C.M A (pyNext (.ref I)) (TurnP C A env tgt ifs I (CompR C env.locals D (D :: wr) H s Q (.ok .next)) (Inn (fun s' => ∃ m, m < k ∧ CSt C env D wr n Rr Inv H s m s')) (fun s' => ∃ m, m < k ∧ CSt C env D wr n Rr Inv H s m s')) False2 s2 := by
  obtain ⟨i, ρ2, H2, zs, hi, rfl, a2, b2, r2, o2, acc2, i2⟩ := hI
  by_cases hlt : i < n
  · obtain ⟨ok, t⟩ := turn i ρ2 H2 zs hlt i2
    refine it.item i s2 env.locals ρ2 H2 _ hlt r2 a2 o2 ok fun v dd h' tk hP hdd a3 r3 k3 => ?_
    have b3 : StepX (D :: wr) env.locals H2 H2 s2 { s2 with heap := h', toks := tk } := StepX.off (fun b o hb e => k3 b o (fun q => hb (List.mem_cons_of_mem _ q)) e)
    have hDn : ∀ b ∈ wr, b ∉ [D] := fun b hb q => hDw (by rw [← List.mem_singleton.mp q]; exact hb)
    have acc3 : Acc C env.locals D H2 zs h' := by
      obtain ⟨oo, ⟨xs, ⟨nn, hp⟩, e⟩, z⟩ := acc2
      exact ⟨oo, ⟨xs, ⟨nn, k3 D _ hDw hp⟩, e⟩, z⟩
    refine wpAny_mono (t dd hP { s2 with heap := h', toks := tk } v a3 hdd) (fun _ s4 ⟨ρ4, H4, a4, b4, c4⟩ => ?_) fun _ _ e => e.elim
    have acc4 := acc3.step b4
    have r4 : Rr (i + 1) s4.heap := it.frame _ _ _ r3 fun b hb o e => b4.kept b o e (o2 b hb).1 (o2 b hb).2.2
    have o4 : Off C env.locals H4 wr := o2.step (it.live _ _ r3) b4
    refine wpAny_mono (WIf.run c4 s4 a4) (fun bb s5 ⟨ρ5, H5, a5, b5, c5, d5, d5'⟩ => ?_) fun _ _ e => e.elim
    subst c5
    have acc5 := acc4.step b5
    have r5 : Rr (i + 1) s5.heap := it.frame _ _ _ r4 fun b hb o e => b5.kept b o e (o4 b hb).1 (o4 b hb).2.2
    have o5 : Off C env.locals H5 wr := o4.step (it.live _ _ r4) b5
    have b25 := ((b2.trans b3).trans b4.toX).trans b5.toX
    refine ⟨fun e => ?_, fun e => ⟨n - (i + 1), by omega, i + 1, ρ5, H5, zs, hlt, rfl, a5, b25, r5, o5, acc5, d5' e⟩⟩
    refine hInn (d5 e) a5 acc5 fun ρ6 H6 us s6 a6 acc6 b6 i6 => ?_
    refine ⟨n - (i + 1), by omega, i + 1, ρ6, H6, us, hlt, rfl, a6, b25.trans (b6.mono fun b hb _ _ => by rw [List.mem_singleton.mp hb]; exact List.mem_cons_self ..), ?_, o5.stepX (it.live _ _ r5) b6 hDn, acc6, i6⟩
    exact it.frame _ _ _ r5 fun b hb o e => b6.kept b o (hDn b hb) e (o5 b hb).1 (o5 b hb).2.2
  · have hin : i = n := by omega
    subst hin
    obtain ⟨ok, q⟩ := fin ρ2 H2 zs i2
    refine it.done s2 env.locals ρ2 H2 _ r2 a2 o2 ok fun h' tk a3 k3 => ?_
    refine ⟨ρ2, H2, zs, a3, ?_, ?_, q⟩
    · obtain ⟨oo, ⟨xs, ⟨nn, hp⟩, e⟩, z⟩ := acc2
      exact ⟨oo, ⟨xs, ⟨nn, k3 D _ hDw hp⟩, e⟩, z⟩
    · exact b2.trans (StepX.off fun b o hb e => k3 b o (fun q => hb (List.mem_cons_of_mem _ q)) e)
end

theorem comp_run {elt : Expr} {gens : List Comprehension} {scope : Scope} {pos : Pos} {D : Addr} : ∀ (gs : List Comprehension) (d : Nat) (tgt iter : Expr) (ifs : List Expr), gens.drop d = ⟨tgt, iter, ifs, 0⟩ :: gs → (∀ g ∈ gs, g.is_async = 0 ∧ ∀ x, foldedSetIterable g.iter env x = pure x) →
    ∀ {I : Addr} {wr : List Addr} {n : Nat} {Rr : Nat → Heap → Prop} {Ok : Nat → AH → Prop} {P : Nat → AH → Dv → Prop} {ρ : Lo} {H : AH} {ys : List V} {Q : Lo → AH → List V → Prop} {s : Shared},
      LoopOk C A env elt tgt ifs gs H n Ok P ρ ys Q → Itr C A I wr tgt n Rr Ok P → Rr 0 s.heap → St C env.locals ρ H s.heap → Off C env.locals H wr → D ∉ wr → Acc C env.locals D H ys s.heap →
      codeAny C.M A (.compStart (.ListComp elt gens scope pos) d (.ref I) (.ref D) env) (CompR C env.locals D (D :: wr) H s Q) s := by
  intro gs
  induction gs with
  | nil =>
    intro d tgt iter ifs hdrop hasync I wr n Rr Ok P ρ H ys Q s ⟨Inv, h0, turn, fin⟩ it r0 a0 o0 hDw acc0
    have hd : gens[d]? = some ⟨tgt, iter, ifs, 0⟩ := by rw [← List.head?_drop, hdrop]; rfl
    have hl : gens[d + 1]? = none := by
      have : gens.drop (d + 1) = [] := by rw [← List.drop_drop, hdrop]; rfl
      rw [← List.head?_drop, this]; rfl
    have key : codeAny C.M A (.compLoop (.ListComp elt gens scope pos) d (.ref I) (.ref D) env) (CompR C env.locals D (D :: wr) H s Q) s := by
      refine compLoop_last hd hl (CSt C env D wr n Rr Inv H s) (fun k s2 hI => comp_turns (InnLast C A env elt D) ?_ it hDw turn fin k s2 hI) n ⟨0, ρ, H, ys, Nat.zero_le _, rfl, a0, (Step.refl ..).toX, r0, o0, acc0, h0⟩
      intro ρ5 H5 zs Qi K s5 hc a5 acc5 hK
      refine wpAny_mono (hc s5 a5) (fun y s6 ⟨ρ6, H6, a6, b6, c6, d6, d6'⟩ => ?_) fun _ _ e => e.elim
      subst c6
      obtain ⟨oo, ⟨xs, hp, e⟩, z6⟩ := acc5.step b6
      have hxs : xs.size = zs.length := by rw [← e]; simp
      refine wpAny_list_append_plain hp (fun h7 hp7 hs7 => ?_) (by rw [hxs]; exact Nat.le_of_lt d6)
      have k7 : ∀ b o, b ∉ [D] → s6.heap.get? b = some o → h7.get? b = some o := fun b o hb e => hs7.extBut b o (fun q => hb (by simp [q])) e
      exact hK ρ6 H6 (zs ++ [ab y]) _ (a6.offL (fun b hb => by rw [List.mem_singleton.mp hb]; exact oo) k7) ⟨oo, ⟨xs.push y, hp7, by simp [e]⟩, by simp; omega⟩ (b6.toX.trans (StepX.off k7)) d6'
    exact compStart_run hd key (it.self 0 s _ r0 key)
  | cons g gs ih =>
    intro d tgt iter ifs hdrop hasync I wr n Rr Ok P ρ H ys Q s ⟨Inv, h0, turn, fin⟩ it r0 a0 o0 hDw acc0
    obtain ⟨tgt', iter', ifs', as'⟩ := g
    have has : as' = 0 := (hasync _ (List.mem_cons_self ..)).1
    subst has
    have hfs : ∀ x, foldedSetIterable iter' env x = pure x := (hasync _ (List.mem_cons_self ..)).2
    have hd : gens[d]? = some ⟨tgt, iter, ifs, 0⟩ := by rw [← List.head?_drop, hdrop]; rfl
    have hdrop' : gens.drop (d + 1) = ⟨tgt', iter', ifs', 0⟩ :: gs := by rw [← List.drop_drop, hdrop]; rfl
    have hl : gens[d + 1]? = some ⟨tgt', iter', ifs', 0⟩ := by rw [← List.head?_drop, hdrop']; rfl
    have key : codeAny C.M A (.compLoop (.ListComp elt gens scope pos) d (.ref I) (.ref D) env) (CompR C env.locals D (D :: wr) H s Q) s := by
      refine compLoop_more hd hl hfs (CSt C env D wr n Rr Inv H s) (fun k s2 hI => comp_turns (InnMore C A env (.ListComp elt gens scope pos) iter' (d + 1) D) ?_ it hDw turn fin k s2 hI) n ⟨0, ρ, H, ys, Nat.zero_le _, rfl, a0, (Step.refl ..).toX, r0, o0, acc0, h0⟩
      intro ρ5 H5 zs Qi K s5 hc a5 acc5 hK
      refine hc s5 a5 _ (fun H6 n6 Ok6 P6 I6 wr6 Rr6 s6 hL6 it6 r6 a6 b6 hw6 => ?_)
      have acc6 := acc5.step b6
      have hD6 : D ∉ wr6 := fun q => by
        obtain ⟨_, ⟨xs, ⟨nn, hp⟩, _⟩, _⟩ := acc5
        rw [(hw6 D q).1] at hp; cases hp
      refine codeAny_mono (ih (d + 1) tgt' iter' ifs' hdrop' (fun g hg => hasync g (List.mem_cons_of_mem _ hg)) hL6 it6 r6 a6 (fun b hb => ⟨(hw6 b hb).2, (a5.fresh (hw6 b hb).1).2⟩) hD6 acc6) (fun r s7 h7 => ?_)
      cases r with
      | error e => exact h7
      | ok f =>
        cases f with
        | next =>
          obtain ⟨ρ7, H7, us, a7, acc7, b7, q7⟩ := h7
          refine hK ρ7 H7 us s7 a7 acc7 ?_ q7
          have b67 := (b6.toX (ex := D :: wr6)).trans b7
          refine b67.mono fun b hb o e => ?_
          rcases List.mem_cons.mp hb with rfl | hb
          · exact List.mem_singleton.mpr rfl
          · rw [(hw6 b hb).1] at e; cases e
        | brk => exact h7.elim
        | cont => exact h7.elim
        | ret v => exact h7.elim
    exact compStart_run hd key (it.self 0 s _ r0 key)

/-! the whole comprehension -/

noncomputable def CompOk (C : Cx) (A : Around) (env : Env) (elt : Expr) (g : Comprehension) (gs : List Comprehension) (scope : Scope) (cl : List (Str × Addr)) (ρ : Lo) (H : AH) (Q : AH → List V → Prop) : Prop :=
  WIt C A env g.iter g.target ρ H (fun H1 n Ok P => ∀ Cn, H1 Cn = none → LoopOk C A (compEnvC scope cl Cn env) elt g.target g.ifs gs H1 n Ok P (fun _ => none) [] (fun _ H2 zs => Q H2 zs))

theorem comp_whole {elt tgt iter : Expr} {ifs : List Expr} {gs : List Comprehension} {scope : Scope} {pos : Pos} {cl : List (Str × Addr)} {use : Option (Value → Sem Unit)} {s : Shared} {Q : AH → List V → Prop} {QQ : Value → Shared → Prop}
    (hclos : closureFor scope env = pure cl) (hcell : ∀ y ∈ scope.names, y.2 ≠ .cell) (hkind : scope.kind = .function) (hnames : ∀ x ∈ scope.names, x.2 = .local → scope.names.lookup x.1 = some .local)
    (hfs : ∀ x, foldedSetIterable iter env x = pure x) (hgs : ∀ g ∈ gs, g.is_async = 0 ∧ ∀ Cn, ∀ x, foldedSetIterable g.iter (compEnvC scope cl Cn env) x = pure x)
    (hs : St C env.locals ρ H s.heap) (h : CompOk C A env elt ⟨tgt, iter, ifs, 0⟩ gs scope cl ρ H Q)
    (hq : ∀ D Cn H2 zs s', Q H2 zs → H2 D = none → St C env.locals ρ (H2.set D (.list zs)) s'.heap → Step env.locals H (H2.set D (.list zs)) s s' → s.heap.get? Cn = none → Cn ≠ D → H2 Cn = none → (∃ m, s'.heap.Ns Cn m) → compPost C.M A False2 use QQ (.ref D) Cn (.ok .next) s') :
    wpAny C.M A (comprehension (.ListComp elt (⟨tgt, iter, ifs, 0⟩ :: gs) scope pos) scope env (firstIterPos (⟨tgt, iter, ifs, 0⟩ :: gs) pos) (newList []) false (eval iter env) use) QQ False2 s := by
  refine wpAny_comprehension_free (g := ⟨tgt, iter, ifs, 0⟩) (gs := gs) rfl hfs hclos hkind hnames ?_
  refine h s hs _ (fun H1 n Ok P I wr Rr s1 hL it r1 a1 b1 hw => ?_)
  refine wpAny_newObj_type (wpAny_newFunctionEnv hcell (by intro y hy; simp at hy) (fun h2 hns2 hsb2 => ?_) hkind)
  dsimp only at hns2 hsb2 ⊢
  generalize hH2 : s1.heap.push { cls := .type "list", dict := none, data := .seq ([] : List Value).toArray } = HH at hns2 hsb2 ⊢
  have hsz : HH.objs.size = s1.heap.objs.size + 1 := by rw [← hH2, Heap.size_push]
  have hDn : s1.heap.get? s1.heap.objs.size = none := get?_size_none _
  have hCn : HH.get? HH.objs.size = none := get?_size_none _
  have up1 : ∀ b o, s1.heap.get? b = some o → HH.get? b = some o := fun b o e => by rw [← hH2]; exact Heap.get?_push_of_some _ e
  have up2 : ∀ b o, HH.get? b = some o → h2.get? b = some o := fun b o e => hsb2.extBut b o (fun q => by rw [q, hCn] at e; cases e) (Heap.get?_push_of_some _ e)
  have hDC : s1.heap.objs.size ≠ HH.objs.size := by rw [hsz]; exact Nat.ne_of_lt (Nat.lt_succ_self _)
  have hC1 : s1.heap.get? HH.objs.size = none := by
    cases e : s1.heap.get? HH.objs.size with
    | none => rfl
    | some o => rw [up1 _ _ e] at hCn; cases hCn
  have fD := a1.fresh hDn
  have fC := a1.fresh hC1
  have a2 : St C HH.objs.size (fun _ => none) H1 h2 := ⟨fun b o e => up2 _ _ (up1 _ _ (a1.keep b o e)), fun a o e => let ⟨c, e1, e2⟩ := a1.rep a o e; ⟨c, up2 _ _ (up1 _ _ e1), e2⟩, a1.own, ⟨_, hns2, fun x => rfl⟩, fC.1, fC.2.1⟩
  have hDp : h2.PlainList s1.heap.objs.size #[] := ⟨0, up2 _ _ (by rw [← hH2]; exact Heap.get?_push_size _ rfl)⟩
  have accD : Acc C HH.objs.size s1.heap.objs.size H1 [] h2 := ⟨⟨fD.1, fD.2.1, hDC⟩, ⟨#[], hDp, rfl⟩, Nat.zero_le _⟩
  have live1 := it.live 0 s1.heap r1
  have hwne : ∀ b ∈ wr, b ≠ s1.heap.objs.size ∧ b ≠ HH.objs.size := fun b hb => by
    obtain ⟨o, e⟩ := live1 b hb
    exact ⟨fun q => (by rw [q, hDn] at e; cases e), fun q => (by rw [q, hC1] at e; cases e)⟩
  have r2 : Rr 0 h2 := it.frame _ _ _ r1 fun b hb o e => up2 _ _ (up1 _ _ e)
  have o2 : Off C HH.objs.size H1 wr := fun b hb => ⟨(hw b hb).2, (hs.fresh (hw b hb).1).2.1, (hwne b hb).2⟩
  have key := comp_run (C := C) (A := A) (env := compEnvC scope cl HH.objs.size env) (elt := elt) (gens := ⟨tgt, iter, ifs, 0⟩ :: gs) (scope := scope) (pos := pos) (D := s1.heap.objs.size) gs 0 tgt iter ifs rfl (fun g hg => ⟨(hgs g hg).1, (hgs g hg).2 _⟩) (s := { s1 with heap := h2, toks := s1.toks + ([] : List (Str × Value)).length }) (hL HH.objs.size fC.1) it r2 a2 o2 (fun q => (hwne _ q).1 rfl) accD
  refine codeAny_mono key fun r s3 h3 => ?_
  cases r with
  | error e => exact h3.elim
  | ok f =>
    cases f with
    | brk => exact h3.elim
    | cont => exact h3.elim
    | ret v => exact h3.elim
    | next =>
      obtain ⟨ρ3, H3, zs, a3, ⟨oD, ⟨xs, ⟨nn, hp⟩, e⟩, hzs⟩, b3, q3⟩ := h3
      have s13 : ∀ b o, s.heap.get? b = some o → b ∉ s1.heap.objs.size :: wr := fun b o eb q => by
        rcases List.mem_cons.mp q with rfl | q
        · obtain ⟨o', e'⟩ := b1.live _ o eb; rw [hDn] at e'; cases e'
        · rw [(hw b q).1] at eb; cases eb
      have neC : ∀ b o, s.heap.get? b = some o → b ≠ HH.objs.size := fun b o eb q => by obtain ⟨o', e'⟩ := b1.live _ o eb; rw [q, hC1] at e'; cases e'
      have alive2 : ∀ b o, s.heap.get? b = some o → ∃ o', h2.get? b = some o' := fun b o eb => let ⟨o', e'⟩ := b1.live _ o eb; ⟨o', up2 _ _ (up1 _ _ e')⟩
      have kept : ∀ b o, s.heap.get? b = some o → H b = none → b ≠ env.locals → s3.heap.get? b = some o := fun b o eb eH eL =>
        b3.kept b o (s13 b o eb) (up2 _ _ (up1 _ _ (b1.kept b o eb eH eL))) (b1.new b o eb eH) (neC b o eb)
      have new3 : ∀ b o, s.heap.get? b = some o → H b = none → H3 b = none := fun b o eb eH => by
        obtain ⟨o', e'⟩ := alive2 b o eb
        exact b3.new b o' (s13 b o eb) e' (b1.new b o eb eH)
      obtain ⟨m1, ⟨oL, esL, epL, hoL, rL⟩, hm1⟩ := a1.loc
      have hLD : env.locals ≠ s1.heap.objs.size := fun q => by rw [q, hDn] at hoL; cases hoL
      have hLC : env.locals ≠ HH.objs.size := fun q => by rw [q, hC1] at hoL; cases hoL
      have hLx : env.locals ∉ s1.heap.objs.size :: wr := fun q => by
        rcases List.mem_cons.mp q with q | q
        · exact hLD q
        · exact (hs.fresh (hw _ q).1).2.2 rfl
      have hL3 : s3.heap.get? env.locals = some oL := b3.kept _ _ hLx (up2 _ _ (up1 _ _ hoL)) a1.nl hLC
      have nL3 : H3 env.locals = none := b3.new _ _ hLx (up2 _ _ (up1 _ _ hoL)) a1.nl
      have St3 : St C env.locals ρ (H3.set s1.heap.objs.size (.list zs)) s3.heap := by
        refine ⟨a3.keep, fun b o eb => ?_, fun b o eb hm => ?_, ⟨m1, ⟨oL, esL, epL, hL3, rL⟩, hm1⟩, ?_, a1.bl⟩
        · by_cases q : b = s1.heap.objs.size
          · subst q; rw [AH.set_same] at eb; cases eb; exact ⟨_, hp, xs, nn, rfl, e, hzs⟩
          · rw [AH.set_ne _ _ q] at eb; exact a3.rep b o eb
        · by_cases q : b = s1.heap.objs.size
          · subst q; exact fD.2.1
          · rw [AH.set_ne _ _ q] at eb; exact a3.own b o eb hm
        · rw [AH.set_ne _ _ hLD]; exact nL3
      refine hq s1.heap.objs.size HH.objs.size H3 zs s3 q3 oD.1 St3 ⟨?_, kept, fun b o eb eH => ?_, fun b o eb => ?_⟩ ?_ (Ne.symm hDC) a3.nl (let ⟨m, hm, _⟩ := a3.loc; ⟨m, hm⟩)
      · exact ⟨b3.same.1.trans b1.same.1, b3.same.2.trans b1.same.2⟩
      · rw [AH.set_ne _ _ (fun q => by obtain ⟨o', e'⟩ := b1.live _ o eb; rw [q, hDn] at e'; cases e')]; exact new3 b o eb eH
      · obtain ⟨o', e'⟩ := alive2 b o eb
        exact b3.live b o' (s13 b o eb) e'
      · cases ec : s.heap.get? HH.objs.size with
        | none => rfl
        | some o => exact absurd rfl (neC _ o ec)

theorem Step.letgo {L Cn D : Addr} {H H2 : AH} {s s' : Shared} {h' : Heap} {zs : List V} (x : Step L H H2 s s') (hc : s.heap.get? Cn = none) (hs : Heap.SameBut Cn s'.heap h') : Step L H H2 s { s' with heap := h' } := by
  obtain ⟨m1, k, n, l⟩ := x
  have ne : ∀ b o, s.heap.get? b = some o → b ≠ Cn := fun b o e q => by rw [q, hc] at e; cases e
  exact ⟨m1, fun b o e eb eL => hs.extBut b o (ne b o e) (k b o e eb eL), n, fun b o e => let ⟨o', e'⟩ := l b o e; ⟨o', hs.extBut b o' (ne b o e) e'⟩⟩


theorem W1.asgComp {elt tgt iter : Expr} {ifs : List Expr} {gs : List Comprehension} {scope : Scope} {pos spos p : Pos} {x : Str} {cl : List (Str × Addr)} {Q : Fl → Lo → AH → Prop} (F : Fx C A env) (hl : env.kindOf x = some .local)
    (hclos : closureFor scope env = pure cl) (h : CompOk C A env elt ⟨tgt, iter, ifs, 0⟩ gs scope cl ρ H (fun H2 zs => ∀ D, H2 D = none → Q .next (ρ.set x (.ref D)) (H2.set D (.list zs))))
    (hsw : swapsWith (.ListComp elt (⟨tgt, iter, ifs, 0⟩ :: gs) scope pos) (some (.Name x p)) spos.line env = pure true)
    (hcell : ∀ y ∈ scope.names, y.2 ≠ .cell := by decide) (hkind : scope.kind = .function := by rfl) (hnames : ∀ x ∈ scope.names, x.2 = .local → scope.names.lookup x.1 = some .local := by decide)
    (hfs : ∀ x, foldedSetIterable iter env x = pure x := by intro _; rfl) (hgs : ∀ g ∈ gs, g.is_async = 0 ∧ ∀ Cn, ∀ x, foldedSetIterable g.iter (compEnvC scope cl Cn env) x = pure x := by simp) :
    W1 C A env (.Assign [.Name x p] (.ListComp elt (⟨tgt, iter, ifs, 0⟩ :: gs) scope pos) spos) ρ H Q := fun s hs => by
  rw [exec_Assign_Name_used x p _ spos hsw]
  refine wpAny_bind (wpAny_standAt (wpAny_bind (m := evalThenUse (.ListComp elt (⟨tgt, iter, ifs, 0⟩ :: gs) scope pos) env (PySem.assign (.Name x p) env)) ?_))
  show wpAny C.M A (comprehension (.ListComp elt (⟨tgt, iter, ifs, 0⟩ :: gs) scope pos) scope env (firstIterPos (⟨tgt, iter, ifs, 0⟩ :: gs) pos) (newList []) false (eval iter env) (some (PySem.assign (.Name x p) env)) >>= fun _ => pure PUnit.unit) _ _ s
  refine wpAny_bind ?_
  refine comp_whole (use := some (PySem.assign (.Name x p) env)) hclos hcell hkind hnames hfs hgs hs h fun D Cn H2 zs s' q hD a b hCs hCD hC2 hns => ?_
  obtain ⟨m, hm⟩ := hns
  have hCo : (H2.set D (.list zs)) Cn = none := by rw [AH.set_ne _ _ hCD]; exact hC2
  have hCL : Cn ≠ env.locals := (hs.fresh hCs).2.2
  refine wpAny_mono (Asg.local (pos := p) F hl (Q := fun ρ2 H3 => ρ2 = ρ.set x (.ref D) ∧ H3 = H2.set D (.list zs)) ⟨rfl, rfl⟩ s' (.ref D) a rfl) (fun _ s'' ⟨ρ2, H3, a2, b2, c2, c3⟩ => ?_) fun _ _ e => e
  subst c2 c3
  have hm2 : s''.heap.Ns Cn m := by
    obtain ⟨o, es, ep, ho, r⟩ := hm
    exact ⟨o, es, ep, b2.kept _ _ ho hCo hCL, r⟩
  refine ⟨m, hm2, fun h' hsb => wpAny_pure (wpAny_pure ⟨_, _, ?_, (b.trans b2 (fun _ _ => a2.nl)).letgo (D := D) (zs := zs) hCs hsb, q D hD⟩)⟩
  exact a2.off (I := Cn) hCo (hs.fresh hCs).2.1 hCL (fun b o hb e => hsb.extBut b o hb e)
end
end Mine

namespace Mine
open PySem PySem.W PyProof.Rows

section
variable {C : Cx} {A : Around} {env : Env} {ρ : Lo} {H : AH}

/-! ## the library's frames and ledgers over my states -/
noncomputable def noHeap : Heap := ⟨#[], {}⟩
theorem noHeap_get (b : Addr) : noHeap.get? b = none := by simp [noHeap, Heap.get?]
noncomputable def allNews (h : Heap) (L : Addr) : List (Addr × Obj) := (List.range h.objs.size).filterMap fun b => if b = L then none else (h.get? b).map fun o => (b, o)
theorem mem_allNews {h : Heap} {L b : Addr} {o : Obj} (e : h.get? b = some o) (hb : b ≠ L) : (b, o) ∈ allNews h L :=
  List.mem_filterMap.mpr ⟨b, List.mem_range.mpr (Heap.lt_size e), by simp [hb, e]⟩
theorem news_all (h : Heap) (L : Addr) : News noHeap L h (allNews h L) := fun p hp => by
  obtain ⟨b, _, e⟩ := List.mem_filterMap.mp hp
  by_cases hb : b = L
  · simp [hb] at e
  · rw [if_neg hb] at e
    cases hg : h.get? b with
    | none => rw [hg] at e; cases e
    | some o => rw [hg] at e; cases e; exact ⟨hg, hb, noHeap_get _⟩
theorem St.fr {L : Addr} {h : Heap} (hs : St C L ρ H h) : ∃ m, Fr noHeap L h m ∧ ∀ x, (m x).map ab = ρ x := by
  obtain ⟨m, hn, hm⟩ := hs.loc
  exact ⟨m, ⟨hn, fun b o e => (by rw [noHeap_get] at e; cases e), Nat.zero_le _⟩, hm⟩
theorem News.kept {L : Addr} {h h' : Heap} {news : List (Addr × Obj)} (N : News noHeap L h' news) (hsub : ∀ p ∈ allNews h L, p ∈ news) : ∀ b o, b ≠ L → h.get? b = some o → h'.get? b = some o := fun b o hb e => (N _ (hsub _ (mem_allNews e hb))).1
theorem St.of_fr {L : Addr} {h h' : Heap} {m : Str → Option Value} (hs : St C L ρ H h) (F : Fr noHeap L h' m) (hm : ∀ x, (m x).map ab = ρ x) (k : ∀ b o, b ≠ L → h.get? b = some o → h'.get? b = some o) : St C L ρ H h' where
  keep := fun b o e => k b o (fun q => by rw [q, hs.bl] at e; cases e) (hs.keep b o e)
  rep := fun a o e => let ⟨c, e1, e2⟩ := hs.rep a o e; ⟨c, k a c (fun q => by rw [q, hs.nl] at e; cases e) e1, e2⟩
  own := hs.own
  loc := ⟨m, F.ns, hm⟩
  nl := hs.nl
  bl := hs.bl
theorem Step.of_fr {L : Addr} {s : Shared} {h' : Heap} {tk : Nat} {m : Str → Option Value} (F : Fr noHeap L h' m) (k : ∀ b o, b ≠ L → s.heap.get? b = some o → h'.get? b = some o) : Step L H H s { s with heap := h', toks := tk } :=
  ⟨⟨rfl, rfl⟩, fun b o e _ hb => k b o hb e, fun _ _ _ e => e, fun b o e => by
    by_cases q : b = L
    · subst q; obtain ⟨o', _, _, ho, _⟩ := F.ns; exact ⟨o', ho⟩
    · exact ⟨o, k b o q e⟩⟩
/-- a new object, given by its ledger row -/
theorem St.alloc_fr {L a : Addr} {h h' : Heap} {c : Obj} {o : O} {m : Str → Option Value} (hs : St C L ρ H h) (F : Fr noHeap L h' m) (hm : ∀ x, (m x).map ab = ρ x) (ha : h.get? a = none) (hc : h'.get? a = some c) (hr : Rep o c) (k : ∀ b o, b ≠ L → h.get? b = some o → h'.get? b = some o) : St C L ρ (H.set a o) h' := by
  have f := hs.fresh ha
  exact St.alloc' (hs.of_fr F hm k) f.1 f.2.1 f.2.2 hc hr
where
  St.alloc' {h' : Heap} {a : Addr} {c : Obj} {o : O} {L : Addr} {ρ : Lo} {H : AH} (x : St C L ρ H h') (hH : H a = none) (hB : C.base.get? a = none) (hL : a ≠ L) (hc : h'.get? a = some c) (hr : Rep o c) : St C L ρ (H.set a o) h' :=
    ⟨x.keep, fun b o' e => by
      by_cases q : b = a
      · subst q; rw [AH.set_same] at e; cases e; exact ⟨c, hc, hr⟩
      · rw [AH.set_ne _ _ q] at e; exact x.rep b o' e, fun b o' e m => by
      by_cases q : b = a
      · subst q; exact hB
      · rw [AH.set_ne _ _ q] at e; exact x.own b o' e m, x.loc, by rw [AH.set_ne _ _ (Ne.symm hL)]; exact x.nl, x.bl⟩
theorem Step.alloc_fr {L a : Addr} {s : Shared} {h' : Heap} {tk : Nat} {o : O} {m : Str → Option Value} (F : Fr noHeap L h' m) (ha : s.heap.get? a = none) (k : ∀ b o, b ≠ L → s.heap.get? b = some o → h'.get? b = some o) : Step L H (H.set a o) s { s with heap := h', toks := tk } :=
  let x : Step L H H s { s with heap := h', toks := tk } := Step.of_fr F k
  ⟨x.same, x.kept, fun b o e eb => by rw [AH.set_ne _ _ (fun q => by rw [q, ha] at e; cases e)]; exact eb, x.live⟩

/-! ## lists: +, slices -/
theorem WE.addList {l r : Expr} {pos : Pos} {Q : V → AH → Prop}
    (h : WE C A env l ρ H (fun v H1 => WE C A env r ρ H1 (fun w H2 => ∃ a b oa ob xs ys, v = .ref a ∧ w = .ref b ∧ H2 a = some oa ∧ H2 b = some ob ∧ lst oa = some xs ∧ lst ob = some ys ∧ xs.length + ys.length ≤ sizeLine ∧ ∀ c, H2 c = none → Q (.ref c) (H2.set c (.list (xs ++ ys)))))) :
    WE C A env (.BinOp l .Add r pos) ρ H Q := by
  refine W.BinOp (W.mono h ?_)
  rintro x _ H1 ⟨rfl, h1⟩
  refine W.mono h1 ?_
  rintro y _ H2 ⟨rfl, a, b, oa, ob, xs, ys, ex, ey, ha, hb, la, lb, hsz, hq⟩
  cases ab_ref ex
  cases ab_ref ey
  intro s hs
  obtain ⟨ax, a1, a2, a3⟩ := hs.list ha la
  obtain ⟨bx, b1, b2, b3⟩ := hs.list hb lb
  obtain ⟨m, F, hm⟩ := hs.fr
  have hn := get?_size_none s.heap
  refine add_arrays F (news_all s.heap env.locals) a1 b1 (fun h' F' N' => ?_) (by rw [arr_size a2, arr_size b2]; exact hsz)
  have k := News.kept N' fun p hp => List.mem_cons_of_mem _ hp
  exact ⟨_, _, hs.alloc_fr (o := .list (xs ++ ys)) F' hm hn (N' _ (List.mem_cons_self ..)).1 ⟨_, _, rfl, by simp [a2, b2], by simpa using hsz⟩ k, .alloc_fr F' hn k, rfl, hq _ (hs.fresh hn).1⟩




/-! ## vints of a list -/
noncomputable def vints (ns : List Int) : List V := ns.map V.int
theorem intsAre_of : ∀ {xs : List Value} {ns : List Int}, xs.map ab = vints ns → IntsAre xs ns
  | [], [], _ => .nil
  | [], _ :: _, h => by simp [vints] at h
  | _ :: _, [], h => by simp [vints] at h
  | x :: xs, n :: ns, h => by
    simp only [vints, List.map_cons, List.cons.injEq] at h
    obtain ⟨t, rfl⟩ := ab_int h.1
    exact .cons n t (intsAre_of h.2)
@[simp] theorem ints_length (ns : List Int) : (vints ns).length = ns.length := by simp [vints]

end
end Mine

namespace Mine
open PySem PySem.W PyProof.Rows

/-! ## forgetting tracked objects at the end -/
noncomputable def AH.le (H H' : AH) : Prop := ∀ a o, H a = some o → H' a = some o
theorem AH.le_refl (H : AH) : H.le H := fun _ _ e => e
theorem AH.le_trans {H H' H'' : AH} (x : H.le H') (y : H'.le H'') : H.le H'' := fun a o e => y a o (x a o e)
theorem AH.none_of_le {H H' : AH} (x : H.le H') {a : Addr} (e : H' a = none) : H a = none := by
  cases q : H a with
  | none => rfl
  | some o => have := x a o q; rw [e] at this; cases this
theorem AH.le_set {H H' : AH} (x : H.le H') {a : Addr} {o : O} (e : H a = none) : H.le (H'.set a o) := fun b o' eb => by
  by_cases q : b = a
  · subst q; rw [e] at eb; cases eb
  · rw [AH.set_ne _ _ q]; exact x b o' eb
theorem AH.get_of_set {H : AH} {a b : Addr} {o o' : O} (e : H b = some o') (ha : H a = none) : (H.set a o) b = some o' := by
  rw [AH.set_ne _ _ (fun q => by rw [q, ha] at e; cases e)]; exact e
theorem AH.none_of_set {H : AH} {a b : Addr} {o : O} (e : (H.set a o) b = none) : H b = none ∧ b ≠ a := by
  by_cases q : b = a
  · subst q; rw [AH.set_same] at e; cases e
  · rw [AH.set_ne _ _ q] at e; exact ⟨e, q⟩

section
variable {C : Cx} {A : Around} {env : Env} {ρ : Lo} {H : AH}
theorem St.le {L : Addr} {H H' : AH} {h : Heap} (x : H.le H') (y : St C L ρ H' h) : St C L ρ H h :=
  ⟨y.keep, fun a o e => y.rep a o (x a o e), fun a o e => y.own a o (x a o e), y.loc, AH.none_of_le x y.nl, y.bl⟩
theorem Post.drop {α : Type} {L : Addr} {s s' : Shared} {Q : α → Lo → AH → Prop} {a : α} (h : Post C L H s (fun a ρ' H' => ∃ H0, AH.le H0 H' ∧ Q a ρ' H0) a s') : Post C L H s Q a s' := by
  obtain ⟨ρ', H', x, y, H0, le, q⟩ := h
  exact ⟨ρ', H0, x.le le, ⟨y.same, y.kept, fun b o e eb => AH.none_of_le le (y.new b o e eb), y.live⟩, q⟩
theorem W.drop {α : Type} {L : Addr} {t : Sem α} {Q : α → Lo → AH → Prop} (h : W C A L t ρ H (fun a ρ' H' => ∃ H0, AH.le H0 H' ∧ Q a ρ' H0)) : W C A L t ρ H Q := fun s hs =>
  wpAny_mono (h s hs) (fun _ _ q => q.drop) fun _ _ e => e
theorem WT.drop {e : Expr} {Q : Bool → AH → Prop} (h : WT C A env e ρ H (fun v H' => ∃ H0, AH.le H0 H' ∧ Q v H0)) : WT C A env e ρ H Q :=
  W.drop (W.mono h fun _ _ _ ⟨a, H0, b, c⟩ => ⟨H0, b, a, c⟩)

theorem WEs.nil {Q : List V → AH → Prop} (h : Q [] H) : WEs C A env [] ρ H Q := h
theorem WEs.cons {e : Expr} {es : List Expr} {Q : List V → AH → Prop} (h : WE C A env e ρ H (fun v H1 => WEs C A env es ρ H1 (fun vs H2 => Q (v :: vs) H2))) : WEs C A env (e :: es) ρ H Q := h

/-! ## the call from the top -/
end
end Mine

namespace Mine
open PySem PySem.W PyProof.Rows

noncomputable def aL (k : Str → Option NameKind) : List (Str × V) → Lo → Lo
  | [], m => m
  | (n, v) :: r, m => aL k r (if k n = some .local then fun y => if y = n then some v else m y else m)
noncomputable def aC (k : Str → Option NameKind) : List (Str × V) → Lo → Lo
  | [], m => m
  | (n, v) :: r, m => aC k r (if k n = some .local then m else fun y => if y = n then some v else m y)
theorem bindL_ab {k : Str → Option NameKind} : ∀ {binds : List (Str × Value)} {m : Str → Option Value} {m' : Lo}, (∀ x, (m x).map ab = m' x) → ∀ x, (bindL k binds m x).map ab = aL k (binds.map fun p => (p.1, ab p.2)) m' x
  | [], _, _, h, x => h x
  | (n, v) :: r, m, m', h, x => by
    rw [List.map_cons, bindL, aL]
    refine bindL_ab (fun y => ?_) x
    split
    · show Option.map ab (if y = n then some v else m y) = if y = n then some (ab v) else m' y
      split
      · rfl
      · exact h y
    · exact h y
theorem bindC_ab {k : Str → Option NameKind} : ∀ {binds : List (Str × Value)} {m : Str → Option Value} {m' : Lo}, (∀ x, (m x).map ab = m' x) → ∀ x, (bindC k binds m x).map ab = aC k (binds.map fun p => (p.1, ab p.2)) m' x
  | [], _, _, h, x => h x
  | (n, v) :: r, m, m', h, x => by
    rw [List.map_cons, bindC, aC]
    refine bindC_ab (fun y => ?_) x
    split
    · exact h y
    · show Option.map ab (if y = n then some v else m y) = if y = n then some (ab v) else m' y
      split
      · rfl
      · exact h y

section
variable {C : Cx} {A : Around} {env : Env} {ρ : Lo} {H : AH}
noncomputable def kinds (fd : FuncData) (x : Str) : Option NameKind := fd.scope.names.lookup x

/-! sums, counts, shorter -/
theorem WE.callB {id : Str} {p pos : Pos} {a : Addr} {o : Obj} {fd : FuncData} {es : List Expr} {ks : List Keyword} {Q : V → AH → Prop} (hfn : ∀ H, FnAt C H a o fd) (hf : Ev C A env ρ H (.Name id p) (.ref a))
    (h : WEs C A env es ρ H (fun vs H1 => WKs C A env ks ρ H1 (fun kv H2 => WCall C A (.ref a) vs kv H2 Q))) (hn : noStar es = true := by rfl) (hk : ks.all (·.arg.isSome) = true := by rfl) :
    WE C A env (.Call (.Name id p) es ks pos) ρ H Q := WE.callFn (o := o) (fd := fd) hf (WEs.mono h fun vs H1 q => by
      have : ∀ {ks : List Keyword} {H1 : AH} {Q Q' : List (Str × V) → AH → Prop}, (∀ kv H2, Q kv H2 → Q' kv H2) → WKs C A env ks ρ H1 Q → WKs C A env ks ρ H1 Q' := by
        intro ks
        induction ks with
        | nil => intro H1 Q Q' hq h; exact hq _ _ h
        | cons k ks ih =>
          intro H1 Q Q' hq h
          obtain ⟨arg, value⟩ := k
          cases arg with
          | none => exact h
          | some n => exact WE.mono h fun v H2 h => ih (fun kv H3 q => hq _ _ q) h
      exact this (fun kv H2 q => ⟨hfn H2, q⟩) q) hn hk
theorem Fx.comp {scope : Scope} {cl : List (Str × Addr)} {Cn : Addr} (F : Fx C A env) (h : scope.kind = .function) : Fx C A (compEnvC scope cl Cn env) := ⟨h, F.gl, F.bu, F.hh⟩
end
end Mine

namespace Mine
open PySem PySem.W PyProof.Rows

/-! ## the top -/
theorem gl_own {C : Cx} {K : Frag} {x : Str} {v : Value} (hK : K.In C.base) (e : nsIn K mainGlobals x = some (some v)) : C.gl x = some v := by
  unfold Cx.gl; rw [mg_of hK C.hg e]
theorem gl_boot {C : Cx} {K : Frag} {x : Str} {v : Value} (hK : K.In C.base) (e : nsIn K mainGlobals x = some none) (hb : C.mb x = some v) : C.gl x = some v := by
  unfold Cx.gl; rw [ns_none_of hK C.hg e]; exact hb
theorem ints_of : ∀ {vs : List Value} {ns : List Int}, IntsAre vs ns → vs.map ab = vints ns
  | _, _, .nil => rfl
  | _, _, .cons _ _ h => by
    rw [List.map_cons, ints_of h]; rfl
theorem addr_ne (L i j : Nat) (h : (i == j) = false) : L + i ≠ L + j := by
  have : i ≠ j := by simpa using h
  omega
noncomputable def bodyOf (fd : FuncData) : List Stmt := match fd.body with
  | .stmts b => b
  | _ => []
noncomputable def fdOf (K : Frag) (a : Addr) : FuncData := match K.lookup a with
  | some ⟨_, _, .func fd, _⟩ => fd
  | _ => default
theorem noCell {l : List (Str × NameKind)} (h : l.all (fun x => x.2 != .cell) = true) : ∀ x ∈ l, x.2 ≠ .cell := fun x hx q => by
  have := List.all_eq_true.mp h x hx
  rw [q] at this
  exact absurd this (by decide)
theorem allLocal {l : List (Str × NameKind)} {bs : List (Str × V)} (h : bs.all (fun x => l.lookup x.1 == some .local) = true) : ∀ x ∈ bs, l.lookup x.1 = some .local := fun x hx => by
  simpa using List.all_eq_true.mp h x hx
theorem fn_in {C : Cx} {H : AH} {K : Frag} (hK : K.In C.base) (a : Addr) (h : K.lookup a = some ⟨.type "function", none, .func (fdOf K a), #[]⟩) : FnAt C H a ⟨.type "function", none, .func (fdOf K a), #[]⟩ (fdOf K a) := ⟨rfl, .inl (hK a _ h)⟩
end Mine

namespace Mine
open PySem PySem.W PyProof.Rows

section
variable {C : Cx} {A : Around} {env : Env} {ρ : Lo} {H : AH}

/-! ## a list changed, given by the ledger -/
theorem upd_map {D : Addr} {o o' : Obj} : ∀ {l : List (Addr × Obj)}, l.Pairwise (fun p q => p.1 ≠ q.1) → (D, o) ∈ l → Upd D o o' l (l.map fun p => if p.1 = D then (D, o') else p)
  | [], _, h => by cases h
  | p :: r, hp, h => by
    obtain ⟨h1, h2⟩ := List.pairwise_cons.mp hp
    rw [List.map_cons]
    by_cases q : p.1 = D
    · have hp : p = (D, o) := by
        rcases List.mem_cons.mp h with e | e
        · exact e.symm
        · exact absurd q (h1 _ e)
      subst hp
      have hr : ∀ x ∈ r, x.1 ≠ D := fun x hx => Ne.symm (h1 x hx)
      rw [if_pos rfl]
      have : (r.map fun p => if p.1 = D then (D, o') else p) = r := by
        conv => rhs; rw [← List.map_id r]
        exact List.map_congr_left fun x hx => by rw [if_neg (hr x hx)]; rfl
      rw [this]
      exact .head hr
    · rw [if_neg q]
      have : (D, o) ∈ r := by
        rcases List.mem_cons.mp h with e | e
        · rw [← e] at q; exact absurd rfl q
        · exact e
      exact .tail q (upd_map h2 this)
theorem allNews_keys (h : Heap) (L : Addr) : (allNews h L).Pairwise (fun p q => p.1 ≠ q.1) := by
  unfold allNews
  refine List.Pairwise.filterMap _ ?_ (List.nodup_range (n := h.objs.size))
  intro a a' hne b hb b' hb'
  have key : ∀ {a : Addr} {b : Addr × Obj}, (if a = L then none else (h.get? a).map fun o => (a, o)) = some b → b.1 = a := by
    intro a b e
    split at e
    · cases e
    · cases hg : h.get? a with
      | none => rw [hg] at e; cases e
      | some o => rw [hg] at e; cases e; rfl
  rw [key hb, key hb']; exact hne
/-- what the ledger says behind a change -/
theorem upd_all {L D : Addr} {h : Heap} {o o' : Obj} (hD : D ≠ L) (ho : h.get? D = some o) : ∃ news', Upd D o o' (allNews h L) news' ∧ ∀ h', News noHeap L h' news' → h'.get? D = some o' ∧ ∀ b ob, b ≠ L → b ≠ D → h.get? b = some ob → h'.get? b = some ob := by
  refine ⟨_, upd_map (allNews_keys h L) (mem_allNews ho hD), fun h' N => ⟨?_, fun b ob hb hbD e => ?_⟩⟩
  · exact (N (D, o') (List.mem_map.mpr ⟨(D, o), mem_allNews ho hD, by simp⟩)).1
  · exact (N (b, ob) (List.mem_map.mpr ⟨(b, ob), mem_allNews e hb, by simp [hbD]⟩)).1
theorem St.upd_fr {L a : Addr} {h h' : Heap} {c : Obj} {o₀ o : O} {m : Str → Option Value} (x : St C L ρ H h) (F : Fr noHeap L h' m) (hm : ∀ x, (m x).map ab = ρ x) (hH : H a = some o₀) (hmut : o₀.mut = true) (hc : h'.get? a = some c) (hr : Rep o c) (k : ∀ b o, b ≠ L → b ≠ a → h.get? b = some o → h'.get? b = some o) : St C L ρ (H.set a o) h' where
  keep := fun b o e => k _ _ (fun q => by rw [q, x.bl] at e; cases e) (fun q => by rw [q, x.own a o₀ hH hmut] at e; cases e) (x.keep b o e)
  rep := fun b o' e => by
    by_cases q : b = a
    · subst q; rw [AH.set_same] at e; cases e; exact ⟨c, hc, hr⟩
    · rw [AH.set_ne _ _ q] at e; obtain ⟨c, e1, e2⟩ := x.rep b o' e; exact ⟨c, k _ _ (fun q => by rw [q, x.nl] at e; cases e) q e1, e2⟩
  own := fun b o' e hm' => by
    by_cases q : b = a
    · subst q; exact x.own _ _ hH hmut
    · rw [AH.set_ne _ _ q] at e; exact x.own b o' e hm'
  loc := ⟨m, F.ns, hm⟩
  nl := by rw [AH.set_ne _ _ (fun q => by rw [← q, x.nl] at hH; cases hH)]; exact x.nl
  bl := x.bl
theorem Step.upd_fr {L a : Addr} {s : Shared} {h' : Heap} {tk : Nat} {c : Obj} {o₀ o : O} {m : Str → Option Value} (F : Fr noHeap L h' m) (hH : H a = some o₀) (hc : h'.get? a = some c) (k : ∀ b o, b ≠ L → b ≠ a → s.heap.get? b = some o → h'.get? b = some o) : Step L H (H.set a o) s { s with heap := h', toks := tk } :=
  ⟨⟨rfl, rfl⟩, fun b o e hb hL => k b o hL (fun q => by rw [q, hH] at hb; cases hb) e, fun b o e hb => by rw [AH.set_ne _ _ (fun q => by rw [q, hH] at hb; cases hb)]; exact hb, fun b o e => by
    by_cases q : b = a
    · subst q; exact ⟨c, hc⟩
    · by_cases ql : b = L
      · subst ql; obtain ⟨o', _, _, ho, _⟩ := F.ns; exact ⟨o', ho⟩
      · exact ⟨o, k b o ql q e⟩⟩
theorem St.at {L D : Addr} {h : Heap} {vs : List V} (hs : St C L ρ H h) (hH : H D = some (.list vs)) : ∃ its n, h.get? D = some (listOf its n) ∧ its.toList.map ab = vs ∧ vs.length ≤ sizeLine ∧ D ≠ L := by
  obtain ⟨c, e1, xs, n, rfl, e2, e3⟩ := hs.rep _ _ hH
  exact ⟨xs, n, e1, e2, e3, fun q => by rw [q, hs.nl] at hH; cases hH⟩

/-! ## methods -/
theorem ab_nil {kvs : List (Str × Value)} (h : kvs.map (fun p => (p.1, ab p.2)) = []) : kvs = [] := by simpa using h
end
end Mine

namespace Mine
open PySem PySem.W PyProof.Rows
open PySem.SeqAt (shaped compareEq_shaped compareNe_shaped in_list_reads notIn_list_reads canLay_of_shaped depth_of_shaped)

/-! ## deep data -/
mutual
noncomputable def Rd (H : AH) (v : V) : PyData → Prop
  | .none => v = .none
  | .bool b => v = .bool b
  | .int i => v = .int i
  | .str x => v = .str x
  | .list ds => ∃ a ob vs, v = .ref a ∧ H a = some ob ∧ lst ob = some vs ∧ RdL H vs ds
  | .tuple ds => ∃ a vs, v = .ref a ∧ H a = some (.tup vs) ∧ RdL H vs ds
  | .dict _ => False
noncomputable def RdL (H : AH) (vs : List V) : List PyData → Prop
  | [] => vs = []
  | d :: ds => ∃ v r, vs = v :: r ∧ Rd H v d ∧ RdL H r ds
end

section
variable {C : Cx} {A : Around} {env : Env} {ρ : Lo} {H : AH}
mutual
theorem Rd.reads {L : Addr} {h : Heap} (hs : St C L ρ H h) : ∀ (d : PyData) (x : Value), Rd H (ab x) d → ∃ as, Reads h x d as
  | .none, x, r => by rw [Rd] at r; cases ab_none r; exact ⟨_, .none⟩
  | .bool b, x, r => by rw [Rd] at r; cases ab_bool r; exact ⟨_, .bool b⟩
  | .int i, x, r => by rw [Rd] at r; obtain ⟨t, rfl⟩ := ab_int r; exact ⟨_, .int i t⟩
  | .str y, x, r => by rw [Rd] at r; obtain ⟨t, rfl⟩ := ab_str r; exact ⟨_, .str y t⟩
  | .list ds, x, r => by
    rw [Rd] at r
    obtain ⟨a, ob, vs, e, hH, hl, hr⟩ := r
    cases ab_ref e
    obtain ⟨xs, ⟨o, ho, hc, n, hd⟩, h2, _⟩ := hs.list hH hl
    obtain ⟨as, R⟩ := RdL.reads hs ds xs.toList (by rw [h2]; exact hr)
    exact ⟨_, .list ho hc hd R⟩
  | .tuple ds, x, r => by
    rw [Rd] at r
    obtain ⟨a, vs, e, hH, hr⟩ := r
    cases ab_ref e
    obtain ⟨xs, ⟨o, ho, hc, n, hd⟩, h2, _⟩ := hs.tup hH
    obtain ⟨as, R⟩ := RdL.reads hs ds xs.toList (by rw [h2]; exact hr)
    exact ⟨_, .tuple ho hc hd R⟩
  | .dict _, x, r => by rw [Rd] at r; exact r.elim
theorem RdL.reads {L : Addr} {h : Heap} (hs : St C L ρ H h) : ∀ (ds : List PyData) (xs : List Value), RdL H (xs.map ab) ds → ∃ as, ReadsAll h xs ds as
  | [], xs, r => by
    rw [RdL] at r
    have : xs = [] := by simpa using r
    subst this; exact ⟨_, .nil⟩
  | d :: ds, xs, r => by
    rw [RdL] at r
    obtain ⟨v, q, e, r1, r2⟩ := r
    cases xs with
    | nil => simp at e
    | cons x xs =>
      rw [List.map_cons] at e
      cases e
      obtain ⟨as, R⟩ := Rd.reads hs d x r1
      obtain ⟨bs, R'⟩ := RdL.reads hs ds xs r2
      exact ⟨_, .cons R R'⟩
end
theorem RdL_ints {H : AH} : ∀ (ns : List Int), RdL H (vints ns) (ns.map .int)
  | [] => by rw [List.map_nil, RdL]; rfl
  | n :: ns => by rw [List.map_cons, RdL]; exact ⟨.int n, vints ns, rfl, by rw [Rd], RdL_ints ns⟩
noncomputable def dints (ns : List Int) : PyData := .list (ns.map .int)
theorem Rd_ints {H : AH} {a : Addr} {ob : O} {ns : List Int} (h : H a = some ob) (hl : lst ob = some (vints ns)) : Rd H (.ref a) (dints ns) := by
  unfold dints; rw [Rd]; exact ⟨a, ob, _, rfl, h, hl, RdL_ints ns⟩
theorem shaped_ints (ns : List Int) : shaped (dints ns) = true := by
  have h1 : PyData.canLayAll0 (ns.map .int) = true := by
    induction ns with
    | nil => rfl
    | cons n ns ih => rw [List.map_cons, PyData.canLayAll0, ih]; rfl
  have h2 : PyData.depthAll (ns.map .int) = 0 := by
    induction ns with
    | nil => rfl
    | cons n ns ih =>
      rw [List.map_cons, PyData.depthAll, ih (by rw [List.map_cons, PyData.canLayAll0] at h1; exact (Bool.and_eq_true_iff.mp h1).2)]; rfl
  unfold shaped dints
  rw [PyData.canLay0, PyData.depth, h1, h2]; rfl
theorem eqv_int (a b : Int) : PyData.eqv (.int a) (.int b) = decide (a = b) := by
  rw [PyData.eqv]; rfl


theorem WT.cmp {l r : Expr} {op : CmpOp} {pos : Pos} {Q : Bool → AH → Prop} (h : WE C A env l ρ H (fun v H1 => WE C A env r ρ H1 (fun w H2 => ∀ x y, ab x = v → ab y = w → W C A env.locals (compareOp op x y) ρ H2 (fun z ρ' H' => ρ' = ρ ∧ ∃ b, z = .bool b ∧ Q b H'))))
    (hm : behindInMarks op r = false := by with_unfolding_all rfl) : WT C A env (.Compare l [op] [r] pos) ρ H Q :=
  W.isTrue_Compare1 hm (W.mono h (by rintro x _ H1 ⟨rfl, h1⟩; exact W.mono h1 (by rintro y _ H2 ⟨rfl, h2⟩; exact W.mono (h2 x y rfl rfl) (by rintro z _ H3 ⟨rfl, b, rfl, q⟩; exact W.truthy_bool ⟨rfl, q⟩))))
/-- pure tests out of tests that make things -/
theorem WT.ev {e : Expr} {b : Bool} (h : WT C A env e ρ H (fun b' H' => b' = b ∧ H' = H)) : EvT C A env ρ H e b := W.mono h (by rintro x _ _ ⟨rfl, rfl, rfl⟩; exact ⟨rfl, rfl, rfl⟩)

/-! ## in -/
theorem W.inData {L : Addr} {x y : Value} {d : PyData} {es : List PyData} {Q : Value → Lo → AH → Prop} (hx : Rd H (ab x) d) (hy : Rd H (ab y) (.list es)) (hd : shaped d = true) (he : shaped (.list es) = true) (hu : A.units + 66 < cLine) (h : Q (.bool (es.any fun y => PyData.eqv y d)) ρ H) : W C A L (compareOp .In x y) ρ H Q := fun s hs => by
  obtain ⟨as, R⟩ := Rd.reads hs d x hx
  obtain ⟨bs, R'⟩ := Rd.reads hs (.list es) y hy
  exact in_list_reads R' R (canLay_of_shaped he) (canLay_of_shaped hd) (by have := depth_of_shaped hd; omega) ⟨ρ, H, hs, .refl .., h⟩
theorem shaped_int (i : Int) : shaped (.int i) = true := by unfold shaped; rw [PyData.canLay0, PyData.depth]; rfl
theorem any_ints (ns : List Int) (k : Int) : ((ns.map PyData.int).any fun y => PyData.eqv y (.int k)) = decide (k ∈ ns) := by
  induction ns with
  | nil => simp
  | cons n ns ih =>
    rw [List.map_cons, List.any_cons, ih, eqv_int]
    by_cases q : n = k
    · simp [q]
    · have : ¬ k = n := fun e => q e.symm
      simp [q, this]
theorem EvT.inInts {l r : Expr} {pos : Pos} {k : Int} {a : Addr} {ob : O} {ns : List Int} (hu : A.units + 66 < cLine) (h1 : Ev C A env ρ H l (.int k)) (h2 : Ev C A env ρ H r (.ref a)) (hH : H a = some ob) (hl : lst ob = some (vints ns)) (hm : behindInMarks .In r = false := by with_unfolding_all rfl) :
    EvT C A env ρ H (.Compare l [.In] [r] pos) (decide (k ∈ ns)) :=
  WT.ev (WT.cmp (WE.of h1 (WE.of h2 fun x y ex ey => W.inData (d := .int k) (es := ns.map .int) (by rw [ex, Rd]) (by rw [ey]; exact Rd_ints hH hl) (shaped_int k) (shaped_ints ns) hu ⟨rfl, _, rfl, any_ints ns k, rfl⟩)) hm)

/-! ## negative places, stores, repeats, powers, the greatest -/
end
end Mine

namespace Mine
open PySem PySem.W PyProof.Rows

section
variable {C : Cx} {A : Around} {env : Env} {ρ : Lo} {H : AH}

theorem kf_at_ints : ∀ {xs : List Value} {ns : List Int} {k : Int} {j : Nat}, xs.map ab = vints ns → ns.idxOf? k = some j → kf_at k xs = some j
  | [], [], k, j, _, h => by simp at h
  | [], _ :: _, _, _, h, _ => by simp [vints] at h
  | _ :: _, [], _, _, h, _ => by simp [vints] at h
  | x :: xs, n :: ns, k, j, h, hk => by
    simp only [vints, List.map_cons, List.cons.injEq] at h
    obtain ⟨t, rfl⟩ := ab_int h.1
    rw [List.idxOf?_cons] at hk
    unfold kf_at
    by_cases q : n = k
    · have : (n == k) = true := by simp [q]
      rw [if_pos this] at hk; cases hk
      have : isInt k (.int n t) = true := by simp [isInt, q]
      rw [this]; rfl
    · have : ¬ (n == k) = true := by simp [q]
      rw [if_neg this] at hk
      have e : isInt k (.int n t) = false := by simp [isInt, q]
      rw [e]
      cases hj : ns.idxOf? k with
      | none => rw [hj] at hk; cases hk
      | some i =>
        rw [hj] at hk; cases hk
        rw [kf_at_ints h.2 hj]; rfl
theorem kf_ints_of : ∀ {xs : List Value} {ns : List Int}, xs.map ab = vints ns → kf_ints xs = true
  | [], _, _ => rfl
  | _ :: _, [], h => by simp [vints] at h
  | x :: xs, n :: ns, h => by
    simp only [vints, List.map_cons, List.cons.injEq] at h
    obtain ⟨t, rfl⟩ := ab_int h.1
    show kf_ints xs = true
    exact kf_ints_of (ns := ns) h.2
theorem WCall.index {a : Addr} {ns : List Int} {k : Int} {j : Nat} {Q : V → AH → Prop} (hH : H a = some (.list (vints ns))) (hj : ns.idxOf? k = some j) (h : Q (.int j) H) : WCall C A (.bi "list.index") [.ref a, .int k] [] H Q := by
  intro L ρ fv vals kvs e1 e2 e3
  cases ab_bi e1
  obtain ⟨x, y, rfl, ex, ey⟩ := vals2 e2
  cases ab_ref ex
  obtain ⟨t, rfl⟩ := ab_int ey
  cases ab_nil e3
  intro s hs
  obtain ⟨its, n, ho, hi, hsz, hL⟩ := hs.at hH
  have hlen : its.toList.length = (vints ns).length := by rw [← hi]; simp
  exact kf_index (news_all s.heap L) (mem_allNews ho hL) (kf_ints_of hi) (kf_at_ints hi hj) rfl (by rw [hlen]; exact hsz) ⟨ρ, H, hs, .toks, rfl, h⟩

/-! ## stores into lists -/
theorem ki_setL_some : ∀ {l : List Value} {k : Nat} {v : Value}, k < l.length → ki_setL l k v = some (l.set k v)
  | [], k, v, h => by simp at h
  | x :: r, 0, v, _ => rfl
  | x :: r, k + 1, v, h => by
    have := ki_setL_some (l := r) (k := k) (v := v) (by simpa using h)
    unfold ki_setL
    rw [this]; rfl
theorem W.setItem {L a : Addr} {vs : List V} {k : Nat} {x y : Value} {Q : Unit → Lo → AH → Prop} (hH : H a = some (.list vs)) (hx : ab x = .int k) (hk : k < vs.length) (h : Q () ρ (H.set a (.list (vs.set k (ab y))))) : W C A L (PySem.setItem (.ref a) x y) ρ H Q := fun s hs => by
  obtain ⟨t, rfl⟩ := ab_int hx
  obtain ⟨its, n, ho, hi, hsz, hL⟩ := hs.at hH
  obtain ⟨m, F, hm⟩ := hs.fr
  have hlen : its.toList.length = vs.length := by rw [← hi]; simp
  have hsl : (sizeLine : Int) < 2 ^ 62 := by decide
  obtain ⟨news', U, hU⟩ := upd_all (o' := listOf (its.toList.set k y).toArray n) hL ho
  refine ki_set F (news_all _ _) (by omega) (by omega) (q := its.toList.set k y) (by rw [Int.toNat_natCast]; exact ki_setL_some (by omega)) U (fun h' F' N' => ?_)
  obtain ⟨k1, k2⟩ := hU h' N'
  refine ⟨_, _, hs.upd_fr F' hm hH rfl k1 (o := .list (vs.set k (ab y))) ⟨_, _, rfl, ?_, ?_⟩ k2, .upd_fr F' hH k1 k2, h⟩
  · rw [List.toList_toArray, List.map_set, hi]
  · simp; exact hsz
/-- a[i] = v -/
theorem Asg.item {o i : Expr} {pos : Pos} {v : V} {a : Addr} {k : Nat} {vs : List V} {Q : Lo → AH → Prop} (h1 : Ev C A env ρ H o (.ref a)) (h2 : Ev C A env ρ H i (.int k)) (hH : H a = some (.list vs)) (hk : k < vs.length) (h : Q ρ (H.set a (.list (vs.set k v)))) : Asg C A env (.Subscript o i pos) (.one v) ρ H Q := fun s y hs hd => by
  have e : ab y = v := hd
  subst e
  refine kas_sub ?_
  refine wpAny_mono (h1 s hs) (fun ov s1 ⟨ρ1, H1, a1, b1, c1, c2, c3⟩ => ?_) fun _ _ e => e
  subst c1 c2
  cases ab_ref c3
  refine wpAny_mono (h2 s1 a1) (fun iv s2 ⟨ρ2, H2, a2, b2, c1, c2, c3⟩ => ?_) fun _ _ e => e
  subst c1 c2
  exact W.at (W.setItem hH c3 hk h) a2 (b1.trans b2 (fun _ _ => a2.nl))

/-! ## repeats, powers, the greatest -/

/-! ## the place's own changes -/
theorem W.loadLocal {x : Str} {v : V} (F : Fx C A env) (hl : env.kindOf x = some .local) (hv : ρ x = some v) : W C A env.locals (loadName env x) ρ H (fun y ρ' H' => ρ' = ρ ∧ H' = H ∧ ab y = v) := fun s hs => by
  obtain ⟨m, hn, hm⟩ := hs.loc
  have := hm x
  rw [hv] at this
  cases hx : m x with
  | none => rw [hx] at this; cases this
  | some y => rw [hx] at this; exact wpAny_loadName_local F.kind hl hn hx ⟨ρ, H, hs, .refl .., rfl, rfl, by simpa using this⟩
theorem W1.augLocal {x : Str} {p pos : Pos} {op : Operator} {e : Expr} {Q : Fl → Lo → AH → Prop} {u : V} (F : Fx C A env) (hl : env.kindOf x = some .local) (hv : ρ x = some u)
    (h : WE C A env e ρ H (fun v H1 => ∀ y z, ab y = u → ab z = v → W C A env.locals (inplaceOp op y z) ρ H1 (fun r ρ' H' => ρ' = ρ ∧ Q .next (ρ.set x (ab r)) H'))) : W1 C A env (.AugAssign (.Name x p) op e pos) ρ H Q := fun s hs => by
  refine wpAny_AugAssign_Name ?_
  refine wpAny_mono (W.loadLocal F hl hv s hs) (fun old s1 ⟨ρ1, H1, a1, b1, c1, c2, c3⟩ => ?_) fun _ _ e => e
  subst c1 c2
  refine wpAny_mono (h s1 a1) (fun v s2 ⟨ρ2, H2, a2, b2, c1, c4⟩ => ?_) fun _ _ e => e
  subst c1
  refine wpAny_mono (c4 old v c3 rfl s2 a2) (fun r s3 ⟨ρ3, H3, a3, b3, c1, c5⟩ => ?_) fun _ _ e => e
  subst c1
  exact W.at (W.storeLocal F hl c5) a3 ((b1.trans b2 (fun _ _ => a2.nl)).trans b3 (fun _ _ => a3.nl))
theorem W1.augAdd {x : Str} {p pos : Pos} {e : Expr} {Q : Fl → Lo → AH → Prop} {a b : Int} (F : Fx C A env) (hl : env.kindOf x = some .local) (hv : ρ x = some (.int a)) (he : Ev C A env ρ H e (.int b)) (h : Q .next (ρ.set x (.int (a + b))) H) : W1 C A env (.AugAssign (.Name x p) .Add e pos) ρ H Q :=
  W1.augLocal F hl hv (WE.of he fun y z ey ez => by
    obtain ⟨t, rfl⟩ := ab_int ey; obtain ⟨u, rfl⟩ := ab_int ez
    exact fun s hs => PySem.AutoIntOps.iadd_0 ⟨ρ, H, hs, .toks, rfl, h⟩)

/-! ## backwards -/
end
end Mine

namespace Mine
open PySem PySem.W PyProof.Rows

section
variable {C : Cx} {A : Around} {env : Env} {ρ : Lo} {H : AH}
theorem vints_at {xs : List Int} {i : Nat} {v : V} (h : (vints xs)[i]? = some v) : v = .int (xs.getD i 0) ∧ i < xs.length := by
  have hi : i < (vints xs).length := (List.getElem?_eq_some_iff.mp h).1
  rw [ints_length] at hi
  rw [List.getD_eq_getElem?_getD]
  refine ⟨?_, hi⟩
  simp [vints, hi] at h ⊢
  exact h.symm
end
end Mine

namespace Mine
open PySem PySem.W PyProof.Rows

/-! ## lambdas -/
noncomputable def Bm (C : Cx) : Prop := ∃ bm ob, C.mg "__builtins__" = some (.ref bm) ∧ bm ≠ builtinsNs ∧ bm ≠ mainGlobals ∧ C.base.get? bm = some ob ∧ ob.cls = .type "module" ∧ ob.dict = some builtinsNs ∧ ob.data = .plain
noncomputable def hit (es : List (Nat × Nat × Addr)) (pos : Pos) : Option Addr := match es with
  | [] => none
  | e :: r => if e.1 == pos.line && e.2.1 == pos.col then some e.2.2 else hit r pos
theorem triples_tab : ∀ (es : List (Nat × Nat × Addr)), TriplesOk (tabItems es)
  | [] => trivial
  | e :: r => triples_tab r
theorem among_tab {pos : Pos} : ∀ (es : List (Nat × Nat × Addr)), codeAmong pos (tabItems es) = (hit es pos).map Value.ref
  | [] => rfl
  | e :: r => by
    have ih := among_tab (pos := pos) r
    show (if ((e.1 : Int) == (pos.line : Int) && (e.2.1 : Int) == (pos.col : Int)) = true then some (Value.ref e.2.2) else codeAmong pos (tabItems r)) = _
    rw [hit, ih]
    have h1 : ((e.1 : Int) == (pos.line : Int)) = (e.1 == pos.line) := by
      by_cases q : e.1 = pos.line
      · simp [q]
      · have : ¬ (e.1 : Int) = (pos.line : Int) := by omega
        rw [beq_eq_false_iff_ne.mpr q, beq_eq_false_iff_ne.mpr this]
    have h2 : ((e.2.1 : Int) == (pos.col : Int)) = (e.2.1 == pos.col) := by
      by_cases q : e.2.1 = pos.col
      · simp [q]
      · have : ¬ (e.2.1 : Int) = (pos.col : Int) := by omega
        rw [beq_eq_false_iff_ne.mpr q, beq_eq_false_iff_ne.mpr this]
    rw [h1, h2]
    cases (e.1 == pos.line && e.2.1 == pos.col) <;> rfl
theorem tab_snoc (es : List (Nat × Nat × Addr)) (l c : Nat) (a : Addr) : tabItems (es ++ [(l, c, a)]) = tabItems es ++ [rawInt l, rawInt c, .ref a] := by
  simp [tabItems]

section
variable {C : Cx} {A : Around} {env : Env} {ρ : Lo} {H : AH}
noncomputable abbrev lamFd (C : Cx) (env : Env) (params : Arguments) (body : Expr) (scope : Scope) (clos : List (Str × Addr)) (c' : Addr) (ctv : Value) : FuncData :=
  kla_fn "<lambda>" (env.qual ++ "<lambda>") params body scope clos ((C.mg "__name__").getD .none) (.ref c') ctv

theorem WE.lambda {params : Arguments} {body : Expr} {scope : Scope} {pos : Pos} {clos : List (Str × Addr)} {es : List (Nat × Nat × Addr)} {c P : Addr} {Q : V → AH → Prop} (F : Fx C A env) (hbm : Bm C) (hcode : env.code = .ref c) (hC : CodeHd C.base c P) (hP : H P = some (.tab es))
    (h1 : hit es pos = none → ∀ c' ctv f, H c' = none → H f = none → c' ≠ f → Q (.ref f) (((H.set c' (.code (env.qual ++ "<lambda>"))).set P (.tab (es ++ [(pos.line, pos.col, c')]))).set f (.fn (lamFd C env params body scope clos c' ctv))))
    (h2 : ∀ c', hit es pos = some c' → ∀ ctv f, H f = none → Q (.ref f) (H.set f (.fn (lamFd C env params body scope clos c' ctv))))
    (hdef : defaultsOf params env = ([], []) := by rfl) (hcl : closureFor scope env = pure clos := by rfl) : WE C A env (.Lambda params body scope pos) ρ H Q := fun s hs => by
  refine kla_eval hdef ?_
  obtain ⟨co, hco, hr⟩ := hs.rep P _ hP
  have hPo : s.heap.get? P = some (tabObj (tabItems es).toArray) := by rw [hco, hr]
  have hPL : P ≠ env.locals := fun q => by rw [q, hs.nl] at hP; cases hP
  have hPb := hs.own P _ hP rfl
  have hg := C.hg.keeps hs.keep
  have hgP : mainGlobals ≠ P := fun q => by
    obtain ⟨o, es, ep, e, hd, _⟩ := C.hg
    rw [q, hPb] at e; cases e
  obtain ⟨bm, ob, b1, b2, b3, b4, b5, b6, b7⟩ := hbm
  have hbP : bm ≠ P := fun q => by rw [q, hPb] at b4; cases b4
  have hB : s.heap.BuiltinsAt C.mg P := ⟨bm, ob, b1, b2, b3, hbP, hs.keep _ _ b4, b5, b6, b7⟩
  have hCs := hC.keeps hs.keep
  cases hf : hit es pos with
  | none =>
    refine kla_makeFunction hcl F.gl hg hcode hCs hPo (by rw [List.toList_toArray]; exact triples_tab es) (by rw [List.toList_toArray, among_tab, hf]; rfl) hgP hB fun c' ctv h' tk hx hge hlt hrec htb => ?_
    have hcn : s.heap.get? c' = none := Heap.get?_none_of_le hge
    have hfn : s.heap.get? h'.objs.size = none := Heap.get?_none_of_le (Nat.le_of_lt (Nat.lt_of_le_of_lt hge hlt))
    obtain ⟨c₂, oc, vs, t, e2, hoc, hd, hv⟩ := hrec
    cases e2
    have fc := hs.fresh hcn
    have ff := hs.fresh hfn
    have hcf : c' ≠ h'.objs.size := Nat.ne_of_lt hlt
    have hcP : c' ≠ P := fun q => by rw [q, hPo] at hcn; cases hcn
    have hfP : h'.objs.size ≠ P := fun q => by rw [q, hPo] at hfn; cases hfn
    obtain ⟨m, hn, hm⟩ := hs.loc
    have hpush : ∀ (o' : Obj) b o, h'.get? b = some o → (h'.push o').get? b = some o := fun o' b o e => Heap.get?_push_of_some _ e
    have hget : ∀ (x : Addr) (o : O), ((((H.set c' (.code (env.qual ++ "<lambda>"))).set P (.tab (es ++ [(pos.line, pos.col, c')]))).set h'.objs.size (.fn (lamFd C env params body scope clos c' ctv))) x = some o) → (x = h'.objs.size ∧ o = .fn (lamFd C env params body scope clos c' ctv)) ∨ (x = P ∧ o = .tab (es ++ [(pos.line, pos.col, c')])) ∨ (x = c' ∧ o = .code (env.qual ++ "<lambda>")) ∨ (x ≠ P ∧ H x = some o) := by
      intro x o e
      by_cases q1 : x = h'.objs.size
      · subst q1; rw [AH.set_same] at e; cases e; exact .inl ⟨rfl, rfl⟩
      · rw [AH.set_ne _ _ q1] at e
        by_cases q2 : x = P
        · subst q2; rw [AH.set_same] at e; cases e; exact .inr (.inl ⟨rfl, rfl⟩)
        · rw [AH.set_ne _ _ q2] at e
          by_cases q3 : x = c'
          · subst q3; rw [AH.set_same] at e; cases e; exact .inr (.inr (.inl ⟨rfl, rfl⟩))
          · rw [AH.set_ne _ _ q3] at e; exact .inr (.inr (.inr ⟨q2, e⟩))
    refine ⟨ρ, _, ⟨fun b o e => hpush _ b o (hx b o (fun q => by rw [q, hPb] at e; cases e) (hs.keep b o e)), fun x o e => ?_, fun x o e hm' => ?_, ⟨m, (hn.extBut hx hPL.symm).push _, hm⟩, ?_, hs.bl⟩, ⟨⟨rfl, rfl⟩, fun b o e eb eL => hpush _ b o (hx b o (fun q => by rw [q, hP] at eb; cases eb) e), fun b o e eb => ?_, fun b o e => ?_⟩, rfl, h1 hf c' ctv _ fc.1 ff.1 hcf⟩
    · rcases hget x o e with ⟨rfl, rfl⟩ | ⟨rfl, rfl⟩ | ⟨rfl, rfl⟩ | ⟨q, e⟩
      · exact ⟨_, Heap.get?_push_size _ rfl, rfl⟩
      · refine ⟨_, hpush _ _ _ htb, ?_⟩
        show tabObj _ = _
        rw [tab_snoc]; simp
      · exact ⟨oc, hpush _ _ _ hoc, vs, t, hd, hv⟩
      · obtain ⟨c0, e1, e2⟩ := hs.rep x o e
        exact ⟨c0, hpush _ _ _ (hx x c0 q e1), e2⟩
    · rcases hget x o e with ⟨rfl, rfl⟩ | ⟨rfl, rfl⟩ | ⟨rfl, rfl⟩ | ⟨q, e⟩
      · cases hm'
      · exact hPb
      · cases hm'
      · exact hs.own x o e hm'
    · rw [AH.set_ne _ _ (Ne.symm ff.2.2), AH.set_ne _ _ hPL.symm, AH.set_ne _ _ (Ne.symm fc.2.2)]; exact hs.nl
    · rw [AH.set_ne _ _ (fun q => by rw [q, hfn] at e; cases e), AH.set_ne _ _ (fun q => by rw [q, hP] at eb; cases eb), AH.set_ne _ _ (fun q => by rw [q, hcn] at e; cases e)]; exact eb
    · by_cases q : b = P
      · subst q; exact ⟨_, hpush _ _ _ htb⟩
      · exact ⟨o, hpush _ b o (hx b o q e)⟩
  | some c' =>
    refine kla_makeFunctionHit hcl F.gl hg hcode hCs hPo (by rw [List.toList_toArray]; exact triples_tab es) (cv := .ref c') (by rw [List.toList_toArray, among_tab, hf]; rfl) hB fun ctv h' tk hk hsz => ?_
    have hfn : s.heap.get? h'.objs.size = none := Heap.get?_none_of_le hsz
    have k : ∀ b o, s.heap.get? b = some o → (h'.push (kla_obj "<lambda>" (env.qual ++ "<lambda>") params body scope clos ((C.mg "__name__").getD .none) c' ctv)).get? b = some o := fun b o e => Heap.get?_push_of_some _ (hk b o e)
    exact ⟨ρ, _, hs.alloc (o := .fn (lamFd C env params body scope clos c' ctv)) hfn (Heap.get?_push_size _ rfl) rfl k, .alloc hfn k, rfl, h2 c' hf ctv _ (hs.fresh hfn).1⟩

/-- a lambda called -/
noncomputable abbrev lamEnv (fd : FuncData) (L a : Addr) : Env := newEnv fd.scope L fd.globals fd.closure (fd.qualname ++ ".<locals>.") (some a) fd.code none fd.builtins
theorem WCall.lam {a c' : Addr} {fd : FuncData} {body : Expr} {args : List V} {bs : List (Str × V)} {Q : V → AH → Prop} (hfn : H a = some (.fn fd)) (hdep : A.depth < recursionLimit)
    (hb : fd.body = .expr body) (hc : fd.code = .ref c') (hcH : H c' = some (.code fd.qualname)) (hcell : ∀ x ∈ fd.scope.names, x.2 ≠ .cell)
    (hbind : ∀ vals, vals.map ab = args → ∃ binds, bindArgs fd ⟨vals, []⟩ = pure binds ∧ binds.map (fun p => (p.1, ab p.2)) = bs)
    (hloc : ∀ x ∈ bs, fd.scope.names.lookup x.1 = some .local)
    (h : ∀ L, H L = none → WE C (A.deeper (lamEnv fd L a)) (lamEnv fd L a) body (fun y => bs.reverse.lookup y) H Q)
    (hco : fd.scope.isCoroutine = false := by rfl) (hgen : fd.scope.isGenerator = false := by rfl) (hk : fd.scope.kind = .function := by rfl) : WCall C A (.ref a) args [] H Q := by
  intro L ρ fv vals kvs e1 e2 e3
  cases ab_ref e1
  cases ab_nil e3
  obtain ⟨binds, hbt, hbs⟩ := hbind vals e2
  intro s hs
  have ho := hs.func hfn
  have hnone := get?_size_none s.heap
  have hrec : s.heap.CodeRec fd.code fd.qualname := by
    obtain ⟨oc, hoc, vs, t, hd, hv⟩ := hs.rep c' _ hcH
    exact ⟨c', oc, vs, t, hc, hoc, hd, hv⟩
  refine wpAny_call (kla_callFunE hdep ho rfl hco hgen hb hrec ?_)
  rw [hbt]
  refine wpAny_pure (wpAny_newFunctionEnv hcell (fun x hx => hloc (x.1, ab x.2) (by rw [← hbs]; exact List.mem_map.mpr ⟨x, hx, rfl⟩)) (fun h₁ hns hsb => ⟨((C.lim).keeps hs.keep).fresh _ hsb, ?_⟩) hk)
  have hk₁ : ∀ b o, s.heap.get? b = some o → h₁.get? b = some o := fun b o e => hsb.extBut b o (Nat.ne_of_lt (Heap.lt_size e)) (Heap.get?_push_of_some _ e)
  have hst : St C s.heap.objs.size (fun y => bs.reverse.lookup y) H h₁ := by
    refine ⟨fun b o e => hk₁ _ _ (hs.keep b o e), fun a o e => let ⟨c, e1, e2⟩ := hs.rep a o e; ⟨c, hk₁ _ _ e1, e2⟩, hs.own, ⟨_, hns, fun x => ?_⟩, (hs.fresh hnone).1, (hs.fresh hnone).2.1⟩
    rw [← hbs, ← List.map_reverse]
    exact lookup_ab x binds.reverse
  show codeAny _ _ (.expr body (lamEnv fd s.heap.objs.size a)) _ _
  refine kla_codeExpr (wpAny_mono (h s.heap.objs.size (hs.fresh hnone).1 { s with heap := h₁, toks := s.toks + binds.length } hst) (fun v s' ⟨ρ', H', x, y, z1, z⟩ => ?_) fun _ _ e => e.elim)
  obtain ⟨q1, q2, q3, q4⟩ := hs.back (s1 := { s with heap := h₁, toks := s.toks + binds.length }) (L' := s.heap.objs.size) hk₁ hnone (fun _ _ _ e => e) x y
  refine ⟨ρ, H', q1, ⟨?_, fun b o e eb _ => q2 b o e eb, q3, q4⟩, rfl, z⟩
  exact y.same
end
end Mine

namespace Mine
open PySem PySem.W PyProof.Rows

section
variable {C : Cx} {A : Around} {env : Env} {ρ : Lo} {H : AH}
/-! ## the call from the top, with code tables that may grow -/
theorem top_call2 {a : Addr} {o : Obj} {fd : FuncData} {body : List Stmt} {vals : List Value} {bs : List (Str × V)} {Q : V → AH → Prop} {s : Shared} (hsub : ∀ b o, C.base.get? b = some o → s.heap.get? b = some o) (hrep : ∀ a o, H a = some o → ∃ c, s.heap.get? a = some c ∧ Rep o c) (hown : ∀ a o, H a = some o → o.mut = true → C.base.get? a = none)
    (ho : s.heap.get? a = some o) (hd : o.data = .func fd) (hdep : A.depth < recursionLimit)
    (hb : fd.body = .stmts body) (hclo : fd.closure = []) (hcd : s.heap.CodeRec fd.code fd.qualname)
    {binds : List (Str × Value)} (hbt : bindArgs fd ⟨vals, []⟩ = pure binds) (hbs : binds.map (fun p => (p.1, ab p.2)) = bs)
    (hkind : (bs.all fun y => fd.scope.names.lookup y.1 == some .local || fd.scope.names.lookup y.1 == some .cell) = true)
    (hnd : ((cellsFrom 0 fd.scope.names []).map (·.1)).Nodup)
    (lm cm : Str → Option V) (hlm : ∀ L x, (bindL (callEnvC fd L a).kindOf binds (fun _ => none) x).map ab = lm x) (hcm : ∀ L x, (bindC (callEnvC fd L a).kindOf binds (fun _ => none) x).map ab = cm x)
    (h : ∀ L, H L = none → (∀ p ∈ cellsFrom (L + 1) fd.scope.names [], H p.2 = none ∧ p.2 ≠ L) → WS C (A.deeper (callEnvC fd L a)) (callEnvC fd L a) body lm (cellH cm (cellsFrom (L + 1) fd.scope.names []) H) (fun f _ H' => Q (retv f) H'))
    (hco : fd.scope.isCoroutine = false := by rfl) (hgen : fd.scope.isGenerator = false := by rfl) (hk : fd.scope.kind = .function := by rfl) :
    wpAny C.M A (call (.ref a) vals []) (fun v s' => (∃ H', Q (ab v) H' ∧ ∀ a o, H' a = some o → ∃ c, s'.heap.get? a = some c ∧ Rep o c) ∧ (∀ b o, C.base.get? b = some o → s'.heap.get? b = some o) ∧ (∀ b o, s.heap.get? b = some o → H b = none → s'.heap.get? b = some o) ∧ (∀ b o, s.heap.get? b = some o → ∃ o', s'.heap.get? b = some o') ∧ s'.gens = s.gens ∧ s'.os = s.os) False2 s := by
  have hnone := get?_size_none s.heap
  have hHn : ∀ b, s.heap.get? b = none → H b = none := fun b e => by
    cases q : H b with
    | none => rfl
    | some o => obtain ⟨c, e1, _⟩ := hrep b o q; rw [e] at e1; cases e1
  have hBn : ∀ b, s.heap.get? b = none → C.base.get? b = none := fun b e => by
    cases q : C.base.get? b with
    | none => rfl
    | some o => rw [hsub b o q] at e; cases e
  have hkind' : ∀ n, ∀ x ∈ binds, fd.scope.names.lookup x.1 = some .local ∨ (fd.scope.names.lookup x.1 = some .cell ∧ ((cellsFrom n fd.scope.names []).lookup x.1).isSome = true) := fun n x hx => by
    have := kindsX (scope := fd.scope) (binds := binds) (by
      rw [List.all_eq_true]; intro y hy
      exact List.all_eq_true.mp hkind (y.1, ab y.2) (by rw [← hbs]; exact List.mem_map.mpr ⟨y, hy, rfl⟩)) n x hx
    exact this
  refine wpAny_call (codeAny_call_cells hdep ho hd (C.lim.keeps hsub) hcd hb hbt hclo (hkind' _) (fun s₁ X => ?_) hco hgen hk)
  have hnames : ∀ (n : Nat) (names : List (Str × NameKind)) (acc : List (Str × Addr)) (p : Str × Addr), p ∈ cellsFrom n names acc → p ∈ acc ∨ n ≤ p.2 := by
    intro n names
    induction names generalizing n with
    | nil => intro acc p hp; exact .inl hp
    | cons x r ih =>
      intro acc p hp
      obtain ⟨nm, k⟩ := x
      unfold cellsFrom at hp
      split at hp
      · rcases ih (n + 1) _ p hp with q | q
        · rcases List.mem_cons.mp q with rfl | q
          · exact .inr (Nat.le_refl _)
          · exact .inl q
        · exact .inr (by omega)
      · exact ih n acc p hp
  have habove : ∀ p ∈ cellsFrom (s.heap.objs.size + 1) fd.scope.names [], s.heap.objs.size < p.2 := fun p hp => by
    rcases hnames _ _ _ p hp with q | q
    · cases q
    · omega
  have hfresh : ∀ p ∈ cellsFrom (s.heap.objs.size + 1) fd.scope.names [], s.heap.get? p.2 = none := fun p hp => by
    cases e : s.heap.get? p.2 with
    | none => rfl
    | some o => exact absurd (Heap.lt_size e) (Nat.lt_asymm (habove p hp))
  have same_names : ∀ (n n' : Nat) (names : List (Str × NameKind)) (acc acc' : List (Str × Addr)), acc.map (·.1) = acc'.map (·.1) → (cellsFrom n names acc).map (·.1) = (cellsFrom n' names acc').map (·.1) := by
    intro n n' names
    induction names generalizing n n' with
    | nil => intro acc acc' e; exact e
    | cons x r ih =>
      intro acc acc' e
      obtain ⟨nm, k⟩ := x
      unfold cellsFrom
      split
      · exact ih _ _ _ _ (by simp [e])
      · exact ih _ _ _ _ e
  have hnd' : ((cellsFrom (s.heap.objs.size + 1) fd.scope.names []).map (·.1)).Nodup := by rw [same_names _ 0 _ _ [] rfl]; exact hnd
  have lookup_mem : ∀ {cs : List (Str × Addr)}, (cs.map (·.1)).Nodup → ∀ n c, (n, c) ∈ cs → cs.lookup n = some c := by
    intro cs
    induction cs with
    | nil => intro _ n c hm; cases hm
    | cons p r ih =>
      intro hn n c hm
      obtain ⟨pn, pc⟩ := p
      simp only [List.map_cons, List.nodup_cons] at hn
      rcases List.mem_cons.mp hm with e | hm
      · cases e; simp [List.lookup_cons]
      · have hne : n ≠ pn := fun q => hn.1 (q ▸ List.mem_map.mpr ⟨(n, c), hm, rfl⟩)
        rw [List.lookup_cons, beq_false_of_ne hne]; exact ih hn.2 n c hm
  obtain ⟨⟨⟨h1, tk1, rfl⟩, hns, hkeep, hab⟩, hcell, hap, hgt⟩ := X
  have hst : St C s.heap.objs.size lm (cellH cm (cellsFrom (s.heap.objs.size + 1) fd.scope.names []) H) h1 := by
    refine ⟨fun b o e => hkeep _ _ (hsub b o e), fun b o e => ?_, fun b o e hm => ?_, ⟨_, hns, fun x => hlm _ x⟩, ?_, hBn _ hnone⟩
    · rcases cellH_some e with ⟨n, hm, rfl⟩ | e
      · obtain ⟨oc, ho, hd⟩ := hcell n b (lookup_mem hnd' n b hm)
        exact ⟨oc, ho, _, hd, hcm _ n⟩
      · obtain ⟨c, e1, e2⟩ := hrep b o e; exact ⟨c, hkeep _ _ e1, e2⟩
    · rcases cellH_some e with ⟨n, hm', rfl⟩ | e
      · exact hBn _ (hfresh _ hm')
      · exact hown b o e hm
    · rw [cellH_get (fun p hp q => Nat.ne_of_gt (habove p hp) q)]; exact hHn _ hnone
  refine wpAny_mono (h s.heap.objs.size (hHn _ hnone) (fun p hp => ⟨hHn _ (hfresh p hp), Nat.ne_of_gt (habove p hp)⟩) { s with heap := h1, toks := tk1 } hst) (fun f s' ⟨ρ', H', x, y, z⟩ => ?_) fun _ _ e => e.elim
  have e1 : (∃ H', Q (ab (match f with | .ret v => v | _ => .none)) H' ∧ ∀ a o, H' a = some o → ∃ c, s'.heap.get? a = some c ∧ Rep o c) := ⟨H', by cases f <;> exact z, x.rep⟩
  have e2 : ∀ b o, C.base.get? b = some o → s'.heap.get? b = some o := fun b o e => x.keep b o e
  have e3 : s'.gens = s.gens ∧ s'.os = s.os := y.same
  have e4 : ∀ b o, s.heap.get? b = some o → H b = none → s'.heap.get? b = some o := fun b o eb hb => by
    refine y.kept b o (hkeep b o eb) ?_ (fun q => by have q' : b = s.heap.objs.size := q; rw [q', hnone] at eb; cases eb)
    rw [cellH_get (fun p hp q => by have := hfresh p hp; rw [q, eb] at this; cases this)]; exact hb
  have e5 : ∀ b o, s.heap.get? b = some o → ∃ o', s'.heap.get? b = some o' := fun b o eb => y.live b o (hkeep b o eb)
  exact ⟨by cases f <;> exact e1, e2, e4, e5, e3.1, e3.2⟩

theorem law_end2 {r : RowW} {cl : Str → Option Addr} {mean : ExcName → Option Value} {args : List WData} {s₁ s' : Shared} {H H' : AH} {tabs : List Addr} (hr : r.raises = []) (hp : r.claim.post args (.bool true) args = true)
    (htab : ∀ P ∈ tabs, (∃ c, s₁.heap.TableAt c P #[]) ∧ ∃ es, H' P = some (.tab es)) (hrep : ∀ a o, H' a = some o → ∃ c, s'.heap.get? a = some c ∧ Rep o c)
    (hk : ∀ b o, b ∉ tabs → s₁.heap.get? b = some o → s'.heap.get? b = some o) (hl : ∀ b o, s₁.heap.get? b = some o → ∃ o', s'.heap.get? b = some o') (hg : s'.gens = #[]) (hos : s'.os = s₁.os) : GoodWG r.claim cl mean args s₁ (.ok (.ret (.bool true))) s' := by
  refine ⟨.inl ⟨.bool true, .bool true, [], rfl, raisesW_false (by rw [hr]; exact allW_false_nil), .bool true, hp, unshared_nil⟩, ⟨fun b o e => ?_, hl⟩, hos, .of_eq hg⟩
  by_cases q : b ∈ tabs
  · obtain ⟨⟨c, ht⟩, es, he⟩ := htab b q
    have e₀ : o = { cls := .none, data := .fields #[] } := Option.some.inj (e.symm.trans ht.2)
    obtain ⟨co, h1, h2⟩ := hrep b _ he
    refine .inr (.inl ⟨ht.isCodeTable, by rw [e₀], #[], (tabItems es).toArray, by rw [e₀], ?_⟩)
    rw [h1, e₀]
    have : co = { cls := .none, data := .fields (tabItems es).toArray } := h2
    rw [this]; simp
  · exact .inl (hk b o q e)
end
end Mine

namespace Mine
open PySem PySem.W PyProof.Rows

/-! ## comparisons and keys as judgements -/
noncomputable def LtOk (C : Cx) (A : Around) (H : AH) (v w : V) (b : Bool) : Prop := ∀ L ρ x y, ab x = v → ab y = w → W C A L (compareOp .Lt x y) ρ H (fun z ρ' H' => ρ' = ρ ∧ H' = H ∧ z = .bool b)
noncomputable def KeyOk (C : Cx) (A : Around) (H : AH) (f : Addr) (v kv : V) : Prop := WCall C A (.ref f) [v] [] H (fun r H' => r = kv ∧ H' = H)
section
variable {C : Cx} {A : Around} {env : Env} {ρ : Lo} {H : AH}
theorem LtOk.int {a b : Int} : LtOk C A H (.int a) (.int b) (decide (a < b)) := fun L ρ x y ex ey => W.icmp (op := .Lt) ex ey rfl ⟨rfl, rfl, rfl⟩
theorem EvT.ltOk {l r : Expr} {pos : Pos} {v w : V} {b : Bool} (h1 : Ev C A env ρ H l v) (h2 : Ev C A env ρ H r w) (h : LtOk C A H v w b) (hm : behindInMarks .Lt r = false := by with_unfolding_all rfl) : EvT C A env ρ H (.Compare l [.Lt] [r] pos) b :=
  WT.ev (WT.cmp (WE.of h1 (WE.of h2 fun x y ex ey => W.mono (h _ _ x y ex ey) (by rintro z _ _ ⟨rfl, rfl, rfl⟩; exact ⟨rfl, _, rfl, rfl, rfl⟩))) hm)
theorem Ev.key {id : Str} {p pos : Pos} {e : Expr} {f : Addr} {o : Obj} {fd : FuncData} {v kv : V} (hf : Ev C A env ρ H (.Name id p) (.ref f)) (hfn : FnAt C H f o fd) (he : Ev C A env ρ H e v) (hk : KeyOk C A H f v kv) (hn : noStar [e] = true := by rfl) : Ev C A env ρ H (.Call (.Name id p) [e] [] pos) kv :=
  WE.ev (WE.callFn hf (WEs.of (.cons he .nil) (WKs.nil ⟨hfn, hk⟩)) hn)
/-! is, is not -/
theorem Ev.any {l r : Expr} {op : CmpOp} {pos : Pos} {v w : V} {b : Bool} (h1 : Ev C A env ρ H l v) (h2 : Ev C A env ρ H r w) (h : ∀ x y, ab x = v → ab y = w → W C A env.locals (compareOp op x y) ρ H (fun z ρ' H' => ρ' = ρ ∧ H' = H ∧ z = .bool b)) (hm : behindInMarks op r = false := by with_unfolding_all rfl) : EvT C A env ρ H (.Compare l [op] [r] pos) b :=
  WT.ev (WT.cmp (WE.of h1 (WE.of h2 fun x y ex ey => W.mono (h x y ex ey) (by rintro z _ _ ⟨rfl, rfl, rfl⟩; exact ⟨rfl, _, rfl, rfl, rfl⟩))) hm)
end
/-- one frame deeper -/
noncomputable def Nx (A A' : Around) : Prop := A'.depth = A.depth + 1 ∧ A'.units = A.units + 3 ∧ A'.handled = A.handled
theorem Nx.of (A : Around) (env : Env) : Nx A (A.deeper env) := ⟨rfl, rfl, rfl⟩

/-! ## the search -/
noncomputable def bis (f : Nat → Bool) (lo hi : Nat) : Nat :=
  if h : lo < hi then
    if f ((lo + hi) / 2) then bis f lo ((lo + hi) / 2) else bis f ((lo + hi) / 2 + 1) hi
  else lo
termination_by hi - lo
decreasing_by all_goals omega
theorem bis_eq {f : Nat → Bool} {s : Nat} : ∀ {lo hi : Nat}, lo ≤ s → s ≤ hi → (∀ i, lo ≤ i → i < s → f i = false) → (∀ i, s ≤ i → i < hi → f i = true) → bis f lo hi = s := by
  intro lo hi
  induction hm : hi - lo using Nat.strongRecOn generalizing lo hi with
  | ind n ih =>
    intro h1 h2 h3 h4
    unfold bis
    by_cases h : lo < hi
    · rw [dif_pos h]
      by_cases hf : f ((lo + hi) / 2) = true
      · rw [if_pos hf]
        have : s ≤ (lo + hi) / 2 := by
          rcases Nat.lt_or_ge ((lo + hi) / 2) s with q | q
          · have := h3 _ (by omega) q; rw [hf] at this; cases this
          · exact q
        exact ih _ (by omega) rfl h1 this h3 (fun i a b => h4 i a (by omega))
      · rw [if_neg hf]
        have : (lo + hi) / 2 < s := by
          rcases Nat.lt_or_ge ((lo + hi) / 2) s with q | q
          · exact q
          · exact absurd (h4 _ q (by omega)) hf
        exact ih _ (by omega) rfl this h2 (fun i a b => h3 i (by omega) b) h4
    · rw [dif_neg h]; omega
theorem bis_cross {f : Nat → Bool} {lo hi : Nat} (h : hi ≤ lo) : bis f lo hi = lo := by
  unfold bis; rw [dif_neg (by omega)]
theorem bis_true {f : Nat → Bool} {lo hi : Nat} (h : lo < hi) (hf : f ((lo + hi) / 2) = true) : bis f lo hi = bis f lo ((lo + hi) / 2) := by
  conv => lhs; unfold bis
  rw [dif_pos h, if_pos hf]
theorem bis_false {f : Nat → Bool} {lo hi : Nat} (h : lo < hi) (hf : f ((lo + hi) / 2) = false) : bis f lo hi = bis f ((lo + hi) / 2 + 1) hi := by
  conv => lhs; unfold bis
  rw [dif_pos h, if_neg (by simp [hf])]
end Mine

namespace Mine
open PySem PySem.W PyProof.Rows

section
variable {C : Cx} {A : Around} {env : Env} {ρ : Lo} {H : AH}
/-! ## enumerate -/
theorem Itr.enum {e it l : Addr} {elts : List Expr} {kk : Nat} {pos : Pos} {ob : O} {vs : List V} (hh : A.handled = none) (hei : e ≠ it) (hle : l ≠ e) (hli : l ≠ it) (hl : lst ob = some vs) :
    Itr C A e [e, it] (.Tuple elts kk pos) vs.length (fun i h => (∃ old, IsEnum h e it i old) ∧ h.IsListIter it l i) (fun _ H => H l = some ob) (fun i H d => ∃ v, vs[i]? = some v ∧ d = .tup [.int i, v]) where
  live := fun i h ⟨⟨old, he⟩, o, ho, _⟩ b hb => by
    rcases List.mem_cons.mp hb with rfl | hb
    · exact ⟨_, he⟩
    · rw [List.mem_singleton.mp hb]; exact ⟨o, ho⟩
  frame := fun i h h' ⟨⟨old, he⟩, hit⟩ k => ⟨⟨old, k e (by simp) _ he⟩, hit.at fun o x => k it (by simp) o x⟩
  item := fun i s L ρ H Q hi hr hs hw hok hq => by
    obtain ⟨⟨old, he⟩, hit⟩ := hr
    obtain ⟨xs, h1, h2, h3⟩ := hs.list hok hl
    obtain ⟨x, x1, x2⟩ := arr_get (i := i) (v := vs[i]) h2 (by simp [hi])
    refine wpAny_pyNext_enum_item he hit h1 x1 hei fun h' ho hit' hT hsz hk => ?_
    refine wpAny_letOwnedTupleGo_enum ho fun h'' he'' hs'' => ?_
    have helt : e < s.heap.objs.size := Heap.lt_size he
    have k : ∀ b o, b ∉ [e, it] → s.heap.get? b = some o → h''.get? b = some o := fun b o hb eb => (hs''.2 b fun q => hb (by simp [q])).trans (hk b o (fun q => hb (by simp [q])) (fun q => hb (by simp [q])) eb)
    refine hq (.ref s.heap.objs.size) (.tup [.int i, vs[i]]) h'' (s.toks + 1) ⟨_, by simp [hi], rfl⟩ ⟨_, #[.int i s.toks, x], rfl, ⟨_, (hs''.2 _ (Nat.ne_of_gt helt)).trans hT, rfl, _, rfl⟩, by show [ab _, ab x] = _; rw [x2]; rfl⟩ (hs.offL hw k) ⟨⟨x, by simpa using he''⟩, hit'.at fun o y => (hs''.2 it hei.symm).trans y⟩ k
  done := fun s L ρ H Q hr hs hw hok hq => by
    obtain ⟨⟨old, he⟩, hit⟩ := hr
    obtain ⟨xs, h1, h2, h3⟩ := hs.list hok hl
    refine wpAny_pyNext_enum_end hh he hit h1 (by rw [← arr_size h2]; simp) fun h' hx => ?_
    have k : ∀ b o, b ∉ [e, it] → s.heap.get? b = some o → h'.get? b = some o := fun b o hb eb => hx b o (fun q => hb (by simp [q])) eb
    exact hq h' s.toks (hs.offL hw k) k
  self := fun i s Q ⟨⟨old, he⟩, _⟩ hq => wpAny_pyIter_enum he hq

theorem WIt.enum {e : Expr} {elts : List Expr} {kk : Nat} {tpos : Pos} {id : Str} {p pos : Pos} {K : AH → Nat → (Nat → AH → Prop) → (Nat → AH → Dv → Prop) → Prop} (F : Fx C A env) (hf : Ev C A env ρ H (.Name id p) (.ty "enumerate"))
    (h : WE C A env e ρ H (fun v H1 => ∃ l ob vs, v = .ref l ∧ H1 l = some ob ∧ lst ob = some vs ∧ K H1 vs.length (fun _ H2 => H2 l = some ob) (fun i _ d => ∃ v, vs[i]? = some v ∧ d = .tup [.int i, v]))) (hn : noStar [e] = true := by rfl) :
    WIt C A env (.Call (.Name id p) [e] [] pos) (.Tuple elts kk tpos) ρ H K := fun s hs Q hq => by
  refine wpAny_Call_Name_kw (wpAny_mono (hf s hs) (fun f s1 ⟨ρ1, H1, a1, b1, c1, c2, c3⟩ => ?_) fun _ _ e => e)
  subst c1 c2
  cases ab_ty c3
  refine PySem.callWith_type (backTo_any hn) (wpAny_mono (evalArgs_run (ks := []) (Q := fun vs kv H2 => ∃ v, vs = [v] ∧ kv = [] ∧ ∃ l ob ws, v = .ref l ∧ H2 l = some ob ∧ lst ob = some ws ∧ K H2 ws.length (fun _ H3 => H3 l = some ob) (fun i _ d => ∃ v, ws[i]? = some v ∧ d = .tup [.int i, v])) hn rfl (WEs.cons (WE.mono h fun v H1 q => WEs.nil (WKs.nil ⟨v, rfl, rfl, q⟩))) s1 a1) (fun x s2 ⟨ρ2, H2, a2, b2, c2, v, d1, d2, l, ob, ws, d3, d4, d5, d6⟩ => ?_) fun _ _ e => e)
  subst c2
  have hkw : x.kw = [] := by simpa using d2
  obtain ⟨y, ey, ey'⟩ := vals1 d1
  subst d3
  cases ab_ref ey'
  rw [hkw, ey]
  obtain ⟨xs, x1, x2, x3⟩ := a2.list d4 d5
  have hn1 := get?_size_none s2.heap
  have hn2 : s2.heap.get? (s2.heap.objs.size + 1) = none := Heap.get?_none_of_le (by omega)
  have hlne : l < s2.heap.objs.size := by obtain ⟨o, ho, _⟩ := x1; exact Heap.lt_size ho
  have b12 := b1.trans b2 (fun _ _ => a2.nl)
  have back : ∀ b, s2.heap.get? b = none → s.heap.get? b = none := fun b e => by
    cases q : s.heap.get? b with
    | none => rfl
    | some o => obtain ⟨o', e'⟩ := b12.live _ o q; rw [e] at e'; cases e'
  refine call_enumerate_list x1 fun h' he hit hsz k => ?_
  refine wpAny_pyIter_enum he ?_
  refine hq H2 _ _ _ (s2.heap.objs.size + 1) [s2.heap.objs.size + 1, s2.heap.objs.size] _ _ d6 (Itr.enum F.hh (Nat.succ_ne_self _) (Nat.ne_of_lt (Nat.lt_succ_of_lt hlne)) (Nat.ne_of_lt hlne) d5) ⟨⟨.none, he⟩, hit⟩ (a2.ext k) (b12.trans (Step.ext (tk := s2.toks) k) (fun _ _ => a2.nl)) fun b hb => ?_
  rcases List.mem_cons.mp hb with rfl | hb
  · exact ⟨back _ hn2, (a2.fresh hn2).1⟩
  · rw [List.mem_singleton.mp hb]; exact ⟨back _ hn1, (a2.fresh hn1).1⟩
end
end Mine

namespace Mine
open PySem PySem.W PyProof.Rows

/-! ## plain lists: the place among sorted things, one part grown -/
theorem count_split {α : Type} {P : α → Bool} : ∀ {xs : List α}, xs.Pairwise (fun p q => P q = true → P p = true) → ∀ (j : Nat) (x : α), xs[j]? = some x → (P x = true ↔ j < xs.countP P)
  | [], _, j, x, e => by simp at e
  | a :: r, h, j, x, e => by
    obtain ⟨h1, h2⟩ := List.pairwise_cons.mp h
    have ih := count_split h2
    by_cases ha : P a = true
    · rw [List.countP_cons_of_pos ha]
      cases j with
      | zero => simp at e; subst e; simp [ha]
      | succ j => rw [List.getElem?_cons_succ] at e; rw [ih j x e]; omega
    · have hall : ∀ y ∈ r, ¬ P y = true := fun y hy q => ha (h1 y hy q)
      have h0 : r.countP P = 0 := by rw [List.countP_eq_zero]; exact hall
      rw [List.countP_cons_of_neg ha, h0]
      cases j with
      | zero => simp at e; subst e; simp [ha]
      | succ j =>
        rw [List.getElem?_cons_succ] at e
        have := hall x (List.mem_of_getElem? e)
        simp [this]


theorem bis_part {α : Type} {P : α → Bool} {xs : List α} {f : Nat → Bool} {lo hi : Nat} (h : xs.Pairwise (fun p q => P q = true → P p = true)) (hhi : hi = lo + xs.length) (hf : ∀ j x, xs[j]? = some x → f (lo + j) = !P x) : bis f lo hi = lo + xs.countP P := by
  have hc := List.countP_le_length (p := P) (l := xs)
  refine bis_eq (by omega) (by omega) (fun i h1 h2 => ?_) (fun i h1 h2 => ?_)
  · obtain ⟨j, rfl⟩ : ∃ j, i = lo + j := ⟨i - lo, by omega⟩
    have hj : j < xs.length := by omega
    rw [hf j _ (List.getElem?_eq_getElem hj), ((count_split h j _ (List.getElem?_eq_getElem hj)).mpr (by omega))]; rfl
  · obtain ⟨j, rfl⟩ : ∃ j, i = lo + j := ⟨i - lo, by omega⟩
    have hj : j < xs.length := by omega
    rw [hf j _ (List.getElem?_eq_getElem hj)]
    cases q : P xs[j] with
    | false => rfl
    | true => have := (count_split h j _ (List.getElem?_eq_getElem hj)).mp q; omega

theorem split_at {α : Type} {P : α → Bool} {xs : List α} (h : xs.Pairwise (fun p q => P q = true → P p = true)) : (∀ p ∈ xs.take (xs.countP P), P p = true) ∧ (∀ p ∈ xs.drop (xs.countP P), P p = false) := by
  refine ⟨fun p hp => ?_, fun p hp => ?_⟩
  · obtain ⟨j, hj⟩ := List.getElem?_of_mem hp
    rw [List.getElem?_take] at hj
    split at hj
    · exact (count_split h j p hj).mpr ‹_›
    · cases hj
  · obtain ⟨j, hj⟩ := List.getElem?_of_mem hp
    rw [List.getElem?_drop] at hj
    have := count_split h _ p hj
    cases q : P p with
    | false => rfl
    | true => have := this.mp q; omega

/-! ## statements, lambdas, heaps -/
noncomputable def stAt (l : List Stmt) (n : Nat) : Stmt := (l[n]?).getD (.Pass ⟨0, 0, 0, 0⟩)
theorem set_at {H : AH} {a b : Addr} {o o' o2 : O} (ha : H a = some o) (hb : H b = some o') (hne : o ≠ o') : (H.set b o2) a = some o := by
  rw [AH.set_ne _ _ (fun q => by rw [q, hb] at ha; exact hne (Option.some.inj ha).symm)]; exact ha
theorem hit_mem {es : List (Nat × Nat × Addr)} {pos : Pos} {c : Addr} (h : hit es pos = some c) : ∃ e ∈ es, e.2.2 = c := by
  induction es with
  | nil => cases h
  | cons e r ih =>
    rw [hit] at h
    split at h
    · exact ⟨e, List.mem_cons_self .., Option.some.inj h⟩
    · obtain ⟨e', h1, h2⟩ := ih h
      exact ⟨e', List.mem_cons_of_mem _ h1, h2⟩

section
variable {C : Cx} {A : Around} {env : Env} {ρ : Lo} {H : AH}
end
end Mine

namespace Mine
open PySem PySem.W PyProof.Rows

/-! ## a table whose codes are all of one lambda -/
noncomputable def Tab (H : AH) (T : Addr) (q : Str) : Prop := ∃ es, H T = some (.tab es) ∧ ∀ e ∈ es, H e.2.2 = some (.code q)
theorem WE.lamT {C : Cx} {A : Around} {env : Env} {ρ : Lo} {H : AH} {params : Arguments} {body : Expr} {scope : Scope} {pos : Pos} {clos : List (Str × Addr)} {c T : Addr} {Q : V → AH → Prop} (F : Fx C A env) (hbm : Bm C) (hcode : env.code = .ref c) (hC : CodeHd C.base c T) (ht : Tab H T (env.qual ++ "<lambda>"))
    (h : ∀ H1 g c' ctv, (∀ a o, H a = some o → a ≠ T → H1 a = some o) → Tab H1 T (env.qual ++ "<lambda>") → H1 g = some (.fn (lamFd C env params body scope clos c' ctv)) → H1 c' = some (.code (env.qual ++ "<lambda>")) → H g = none → (∀ a, H1 a = none → H a = none) → Q (.ref g) H1)
    (hdef : defaultsOf params env = ([], []) := by rfl) (hcl : closureFor scope env = pure clos := by rfl) : WE C A env (.Lambda params body scope pos) ρ H Q := by
  obtain ⟨es, hes, hec⟩ := ht
  refine WE.lambda (es := es) F hbm hcode hC hes (fun hm c' ctv f hc' hf' hcf => ?_) (fun c' hm ctv f hf' => ?_) hdef hcl
  · have up : ∀ {x : Addr} {o : O}, H x = some o → x ≠ T → (((H.set c' (.code (env.qual ++ "<lambda>"))).set T (.tab (es ++ [(pos.line, pos.col, c')]))).set f (.fn (lamFd C env params body scope clos c' ctv))) x = some o := fun {x o} e hn => by
      rw [AH.set_ne _ _ (fun q => by rw [q, hf'] at e; cases e), AH.set_ne _ _ hn, AH.set_ne _ _ (fun q => by rw [q, hc'] at e; cases e)]; exact e
    have hcT : c' ≠ T := fun e => by rw [e, hes] at hc'; cases hc'
    have hTf : T ≠ f := fun e => by rw [← e, hes] at hf'; cases hf'
    have hc2 : (((H.set c' (.code (env.qual ++ "<lambda>"))).set T (.tab (es ++ [(pos.line, pos.col, c')]))).set f (.fn (lamFd C env params body scope clos c' ctv))) c' = some (.code (env.qual ++ "<lambda>")) := by
      rw [AH.set_ne _ _ hcf, AH.set_ne _ _ hcT, AH.set_same]
    refine h _ f c' ctv (fun a o e hn => up e hn) ⟨es ++ [(pos.line, pos.col, c')], by rw [AH.set_ne _ _ hTf, AH.set_same], fun e he => ?_⟩ (AH.set_same ..) hc2 hf' fun a ha => ?_
    · rcases List.mem_append.mp he with he | he
      · exact up (hec e he) (fun q => by have := hec e he; rw [q, hes] at this; cases this)
      · rw [List.mem_singleton.mp he]; exact hc2
    · cases q : H a with
      | none => rfl
      | some o =>
        by_cases hT : a = T
        · rw [hT, AH.set_ne _ _ hTf, AH.set_same] at ha; cases ha
        · rw [up q hT] at ha; cases ha
  · obtain ⟨e0, he0, rfl⟩ := hit_mem hm
    refine h _ f e0.2.2 ctv (fun a o e _ => AH.get_of_set e hf') ⟨es, AH.get_of_set hes hf', fun e he => AH.get_of_set (hec e he) hf'⟩ (AH.set_same ..) (AH.get_of_set (hec e0 he0) hf') hf' fun a ha => (AH.none_of_set ha).1
end Mine

namespace Mine
open PySem PySem.W PyProof.Rows
open PySem.AutoSeq1 (wpAny_loadPart')

/-! ## a list unpacked -/
section
variable {prog : Program} {w : World} {A : Around} {E : Value → Shared → Prop}
end
section
variable {C : Cx} {A : Around} {env : Env} {ρ : Lo} {H : AH}

/-! ## a list beside an empty one -/
theorem W.eqNilRaw {L a b : Addr} {vs : List V} {Q : Value → Lo → AH → Prop} (ha : H a = some (.list vs)) (hb : H b = some (.list [])) (hu : A.units + 64 < cLine) (h : Q (.bool (decide (vs = []))) ρ H) : W C A L (compareOp .Eq (.ref a) (.ref b)) ρ H Q := fun s hs => by
  obtain ⟨its, n, ho, hi, _, _⟩ := hs.at ha
  obtain ⟨its2, n2, ho2, hi2, _, _⟩ := hs.at hb
  have h2 : its2.size = 0 := by rw [← Array.length_toList]; have := congrArg List.length hi2; simpa using this
  have h1 : its.size = vs.length := by rw [← hi]; simp
  by_cases q : vs = []
  · have h1' : its.size = 0 := by rw [h1, q]; rfl
    refine cmp_ofEq (richCompare_meets_room (T := "list") ⟨_, ho, rfl⟩ ⟨_, ho2, rfl⟩ PySem.F.slot_list_eq PySem.F.entry_list_eq (PySem.F.args_list_eq_2 _ _) (PySem.SeqAt.list_eqAt a b its its2 n n2 none none #[] #[] (by omega) (fun _ => true)) ⟨ho, ho2, fun j hj _ => by omega, ?_⟩ (by omega))
    refine ⟨by simp, ρ, H, hs, .refl .., ?_⟩
    rw [h1']
    simpa [q] using h
  · have hne : (its.size != its2.size) = true := by rw [h1, h2]; have : vs.length ≠ 0 := fun e => q (List.eq_nil_of_length_eq_zero e); simpa using this
    refine cmp_ofEq (richCompare_meets_room (T := "list") ⟨_, ho, rfl⟩ ⟨_, ho2, rfl⟩ PySem.F.slot_list_eq PySem.F.entry_list_eq (PySem.F.args_list_eq_2 _ _) (PySem.SeqAt.list_eq_lengthsAt a b its its2 n n2 none none #[] #[] hne) ⟨ho, ho2, ?_⟩ (by omega))
    refine ⟨by simp, ρ, H, hs, .refl .., ?_⟩
    simpa [q] using h
theorem EvT.eqNilRaw {l : Expr} {p pos : Pos} {a : Addr} {vs : List V} (hu : A.units + 64 < cLine) (h : Ev C A env ρ H l (.ref a)) (hH : H a = some (.list vs)) : EvT C A env ρ H (.Compare l [.Eq] [.List [] p] pos) (decide (vs = [])) :=
  WT.ev (WT.drop (WT.cmp (WE.of h (WE.list rfl (by decide) (WEs.nil fun b hb => fun x y ex ey => by
    cases ab_ref ex; cases ab_ref ey
    exact W.eqNilRaw (AH.get_of_set hH hb) (AH.set_same ..) hu ⟨rfl, _, rfl, H, AH.le_set (AH.le_refl _) hb, rfl, rfl⟩)))))
end

/-! ## del a[k:] -/
section
variable {prog : Program} {w : World} {A : Around} {E : Value → Shared → Prop} {s : Shared}
end
section
variable {C : Cx} {A : Around} {env : Env} {ρ : Lo} {H : AH}
end
end Mine

namespace Mine
open PySem PySem.W PyProof.Rows
open PySem.SeqAt (shaped)

/-! ## things in rising order -/
section
variable {α : Type} (g : α → Int)
noncomputable def SrtBy (xs : List α) : Prop := xs.Pairwise fun p q => g p ≤ g q
variable {g}
theorem SrtBy.le {xs : List α} (h : SrtBy g xs) (v : Int) : xs.Pairwise (fun p q => decide (g q ≤ v) = true → decide (g p ≤ v) = true) :=
  List.Pairwise.imp (fun {p q} hpq hq => by simp at *; omega) h
theorem srt_ints {xs : List Int} (h : xs.Pairwise (fun a b => a ≤ b)) : SrtBy (fun x => x) xs := h

end

/-! ## items of two numbers -/
section
variable {C : Cx} {A : Around} {ρ : Lo} {H : AH}


noncomputable def Sm (A : Around) : Prop := A.handled = none ∧ A.depth < recursionLimit ∧ A.units < cLine
end
end Mine

set_option maxHeartbeats 1000000
namespace Mine
open PySem PySem.W PyProof.Rows

/-! ## the sorting of fewer than 64 things, asked by pairs -/

section
variable {lt : Nat → Nat → Bool} {N : Nat}
structure Ord (lt : Nat → Nat → Bool) : Prop where
  asym : ∀ a b, lt a b = true → lt b a = false
  trans : ∀ a b c, lt b a = false → lt c b = false → lt c a = false
theorem Ord.refl (o : Ord lt) (a : Nat) : lt a a = false := by
  cases h : lt a a with
  | false => rfl
  | true => have := o.asym a a h; rw [h] at this; cases this
noncomputable abbrev gP (p : Array Nat) (i : Nat) : Nat := p.getD i 0
noncomputable def SP (lt : Nat → Nat → Bool) (p : Array Nat) (k : Nat) : Prop := ∀ i j, i ≤ j → j < k → lt (gP p j) (gP p i) = false
structure In (N : Nat) (p : Array Nat) : Prop where
  size : p.size = N
  perm : p.toList.Perm (List.range N)
theorem In.bd {p : Array Nat} (h : In N p) {i : Nat} (hi : i < N) : gP p i < N := by
  have hi' : i < p.size := by rw [h.size]; exact hi
  have e : gP p i = p[i] := by simp [gP, Array.getD, hi']
  have hm : p[i] ∈ p.toList := by simp
  rw [e]; simpa using h.perm.mem_iff.mp hm
theorem gP_of {p q : Array Nat} {i j : Nat} (h : p[i]? = q[j]?) : gP p i = gP q j := by
  simp only [gP, Array.getD_eq_getD_getElem?, h]
theorem rev_get {p : Array Nat} {i j : Nat} (hj : j ≤ p.size) (k : Nat) : gP (kas_rev p i j) k = if i ≤ k ∧ k < j then gP p (i + j - 1 - k) else gP p k := by
  have := getElem?_mirror_all (xs := p) (i := i) hj k
  split
  · rename_i h; rw [if_pos h] at this; exact gP_of this
  · rename_i h; rw [if_neg h] at this; exact gP_of this
theorem In.rev {p : Array Nat} (h : In N p) (i j : Nat) : In N (kas_rev p i j) := ⟨by rw [kas_rev_size, h.size], (Array.perm_iff_toList_perm.mp (mirror_perm p i j _)).trans h.perm⟩
end
end Mine

set_option maxHeartbeats 1000000
namespace Mine

/-! ## one row: what is put in, what is pushed out -/
noncomputable abbrev Pr := Int × Int
noncomputable def swp (x : Pr) : Pr := (x.2, x.1)
noncomputable def leL (x y : Pr) : Prop := x.1 < y.1 ∨ (x.1 = y.1 ∧ x.2 ≤ y.2)
noncomputable def SL (L : List Pr) : Prop := L.Pairwise leL
noncomputable abbrev PS := List Int × List Int × List Pr
noncomputable def plc (R : List Int) (p : Int) : Nat := R.countP (fun z => decide (z ≤ p))
noncomputable def pstep (st : PS) (e : Pr) : PS :=
  if plc st.1 e.2 = st.1.length then (st.1 ++ [e.2], st.2.1 ++ [e.1], st.2.2)
  else (st.1.set (plc st.1 e.2) e.2, st.2.1, st.2.2 ++ [(e.1, st.1.getD (plc st.1 e.2) 0)])
noncomputable def pass (L : List Pr) : PS := L.foldl pstep ([], [], [])
noncomputable def prow (L : List Pr) : List Int := (pass L).1
noncomputable def pq (L : List Pr) : List Int := (pass L).2.1
noncomputable def pout (L : List Pr) : List Pr := (pass L).2.2
theorem pass_snoc (L : List Pr) (e : Pr) : pass (L ++ [e]) = pstep (pass L) e := by unfold pass; rw [List.foldl_append]; rfl

/-! the first column taken off -/
noncomputable def peel (c : Int) : List Pr → List Pr × List Pr
  | [] => ([], [])
  | e :: r => if e.2 < c then (e :: (peel e.2 r).1, (peel e.2 r).2) else ((peel c r).1, e :: (peel c r).2)
noncomputable def bumps (c : Int) : List Pr → List Pr
  | [] => []
  | e :: r => (e.1, c) :: bumps e.2 r
noncomputable def lastC (c : Int) : List Pr → Int
  | [] => c
  | e :: r => lastC e.2 r
theorem pass_peel : ∀ (L : List Pr) (c q0 : Int) (R Q : List Int) (O O2 B : List Pr), (∀ y ∈ R, c ≤ y) → O.Perm (B ++ O2) →
    ∃ O', L.foldl pstep (c :: R, q0 :: Q, O) = (lastC c (peel c L).1 :: ((peel c L).2.foldl pstep (R, Q, O2)).1, q0 :: ((peel c L).2.foldl pstep (R, Q, O2)).2.1, O') ∧ O'.Perm (B ++ bumps c (peel c L).1 ++ ((peel c L).2.foldl pstep (R, Q, O2)).2.2)
  | [], c, q0, R, Q, O, O2, B, hR, hO => ⟨O, rfl, by simpa [peel, bumps] using hO⟩
  | e :: r, c, q0, R, Q, O, O2, B, hR, hO => by
    by_cases h : e.2 < c
    · have hk : plc (c :: R) e.2 = 0 := by
        unfold plc
        rw [List.countP_eq_zero]
        intro z hz
        rcases List.mem_cons.mp hz with rfl | hz
        · simp; omega
        · have := hR z hz; simp; omega
      have hs : pstep (c :: R, q0 :: Q, O) e = (e.2 :: R, q0 :: Q, O ++ [(e.1, c)]) := by
        unfold pstep; simp only [hk]; rw [if_neg (by simp)]; rfl
      obtain ⟨O', h1, h2⟩ := pass_peel r e.2 q0 R Q (O ++ [(e.1, c)]) O2 (B ++ [(e.1, c)]) (fun y hy => by have := hR y hy; omega) (by
        refine (List.Perm.append_right _ hO).trans ?_
        rw [List.append_assoc, List.append_assoc]
        exact List.Perm.append_left _ List.perm_append_comm)
      refine ⟨O', ?_, ?_⟩
      · rw [List.foldl_cons, hs, h1]; simp [peel, h, lastC]
      · simpa [peel, h, bumps] using h2
    · have hk : plc (c :: R) e.2 = plc R e.2 + 1 := by
        unfold plc; rw [List.countP_cons_of_pos (by simp; omega)]
      have hp : peel c (e :: r) = ((peel c r).1, e :: (peel c r).2) := by rw [peel, if_neg h]
      rw [hp]
      by_cases hl : plc R e.2 = R.length
      · have hs : pstep (c :: R, q0 :: Q, O) e = (c :: (R ++ [e.2]), q0 :: (Q ++ [e.1]), O) := by
          unfold pstep; simp only [hk]; rw [if_pos (by simp [hl])]; rfl
        have hs2 : pstep (R, Q, O2) e = (R ++ [e.2], Q ++ [e.1], O2) := by unfold pstep; rw [if_pos hl]
        obtain ⟨O', h1, h2⟩ := pass_peel r c q0 (R ++ [e.2]) (Q ++ [e.1]) O O2 B (fun y hy => by
          rcases List.mem_append.mp hy with hy | hy
          · exact hR y hy
          · rw [List.mem_singleton.mp hy]; omega) hO
        exact ⟨O', by rw [List.foldl_cons, hs, h1, List.foldl_cons, hs2], by rw [List.foldl_cons, hs2]; exact h2⟩
      · have hs : pstep (c :: R, q0 :: Q, O) e = (c :: R.set (plc R e.2) e.2, q0 :: Q, O ++ [(e.1, R.getD (plc R e.2) 0)]) := by
          unfold pstep; simp only [hk]; rw [if_neg (by simpa using hl)]; rfl
        have hs2 : pstep (R, Q, O2) e = (R.set (plc R e.2) e.2, Q, O2 ++ [(e.1, R.getD (plc R e.2) 0)]) := by unfold pstep; rw [if_neg hl]
        obtain ⟨O', h1, h2⟩ := pass_peel r c q0 (R.set (plc R e.2) e.2) Q (O ++ [(e.1, R.getD (plc R e.2) 0)]) (O2 ++ [(e.1, R.getD (plc R e.2) 0)]) B (fun y hy => by
          rcases List.mem_or_eq_of_mem_set hy with hy | hy
          · exact hR y hy
          · rw [hy]; omega) (by rw [← List.append_assoc]; exact List.Perm.append_right _ hO)
        exact ⟨O', by rw [List.foldl_cons, hs, h1, List.foldl_cons, hs2], by rw [List.foldl_cons, hs2]; exact h2⟩
theorem pass_cons (e : Pr) (L : List Pr) : prow (e :: L) = lastC e.2 (peel e.2 L).1 :: prow (peel e.2 L).2 ∧ pq (e :: L) = e.1 :: pq (peel e.2 L).2 ∧ (pout (e :: L)).Perm (bumps e.2 (peel e.2 L).1 ++ pout (peel e.2 L).2) := by
  obtain ⟨O', h1, h2⟩ := pass_peel L e.2 e.1 [] [] [] [] [] (by simp) (by simp)
  have h0 : pass (e :: L) = L.foldl pstep ([e.2], [e.1], []) := by unfold pass; rw [List.foldl_cons]; rfl
  rw [h1] at h0
  unfold prow pq pout
  rw [h0]
  exact ⟨rfl, rfl, by unfold pass; simpa using h2⟩

/-! what is taken off: the least ones -/
theorem peel_perm : ∀ (L : List Pr) (c : Int), L.Perm ((peel c L).1 ++ (peel c L).2)
  | [], _ => by simp [peel]
  | e :: r, c => by
    rw [peel]
    split
    · exact List.Perm.cons _ (peel_perm r e.2)
    · exact ((peel_perm r c).cons e).trans (List.perm_middle.symm)
theorem peel_sub : ∀ (L : List Pr) (c : Int), (peel c L).1.Sublist L ∧ (peel c L).2.Sublist L
  | [], _ => by simp [peel]
  | e :: r, c => by
    rw [peel]
    split
    · exact ⟨(peel_sub r e.2).1.cons_cons _, (peel_sub r e.2).2.cons _⟩
    · exact ⟨(peel_sub r c).1.cons _, (peel_sub r c).2.cons_cons _⟩
theorem peel_desc : ∀ (L : List Pr) (c : Int), (∀ x ∈ (peel c L).1, x.2 < c) ∧ (peel c L).1.Pairwise (fun x y => y.2 < x.2)
  | [], _ => by simp [peel]
  | e :: r, c => by
    rw [peel]
    split
    · rename_i h
      obtain ⟨h1, h2⟩ := peel_desc r e.2
      refine ⟨fun x hx => ?_, List.pairwise_cons.mpr ⟨h1, h2⟩⟩
      rcases List.mem_cons.mp hx with rfl | hx
      · exact h
      · have := h1 x hx; omega
    · exact peel_desc r c
theorem peel_below : ∀ (L : List Pr) (c q0 : Int), SL L → (∀ y ∈ L, q0 ≤ y.1) → ∀ y ∈ L, (∃ m ∈ (peel c L).1, m.1 ≤ y.1 ∧ m.2 ≤ y.2) ∨ c ≤ y.2
  | [], _, _, _, _ => by simp
  | e :: r, c, q0, hs, hq => by
    obtain ⟨h1, h2⟩ := List.pairwise_cons.mp hs
    intro y hy
    rw [peel]
    have he : ∀ z ∈ r, e.1 ≤ z.1 := fun z hz => by rcases h1 z hz with q | ⟨q, _⟩ <;> omega
    split
    · rcases List.mem_cons.mp hy with rfl | hy
      · exact .inl ⟨y, List.mem_cons_self .., Int.le_refl _, Int.le_refl _⟩
      · rcases peel_below r e.2 e.1 h2 he y hy with ⟨m, hm, hm'⟩ | h
        · exact .inl ⟨m, List.mem_cons_of_mem _ hm, hm'⟩
        · exact .inl ⟨e, List.mem_cons_self .., he y hy, h⟩
    · rename_i h
      rcases List.mem_cons.mp hy with rfl | hy
      · right; omega
      · exact peel_below r c e.1 h2 he y hy
/-- the least ones of a list in order -/
noncomputable def mins : List Pr → List Pr
  | [] => []
  | e :: r => e :: (peel e.2 r).1
noncomputable def rest : List Pr → List Pr
  | [] => []
  | e :: r => (peel e.2 r).2
theorem mins_anti {L : List Pr} (hs : SL L) : (mins L).Pairwise (fun x y => x.1 < y.1 ∧ y.2 < x.2) := by
  cases L with
  | nil => exact List.Pairwise.nil
  | cons e r =>
    have hsub : (mins (e :: r)).Sublist (e :: r) := (peel_sub r e.2).1.cons_cons e
    have h1 : (mins (e :: r)).Pairwise leL := List.Pairwise.sublist hsub hs
    obtain ⟨d1, d2⟩ := peel_desc r e.2
    have h2 : (mins (e :: r)).Pairwise (fun x y => y.2 < x.2) := List.pairwise_cons.mpr ⟨d1, d2⟩
    refine List.Pairwise.imp (fun {x y} h => ?_) (List.Pairwise.and h1 h2)
    obtain ⟨q | ⟨q1, q2⟩, h'⟩ := h
    · exact ⟨q, h'⟩
    · omega
theorem mins_mem {L : List Pr} (hs : SL L) (x : Pr) : x ∈ mins L ↔ x ∈ L ∧ ∀ y ∈ L, y.1 ≤ x.1 → y.2 ≤ x.2 → y = x := by
  have below : ∀ y ∈ L, ∃ m ∈ mins L, m.1 ≤ y.1 ∧ m.2 ≤ y.2 := by
    cases L with
    | nil => simp
    | cons e r =>
      obtain ⟨h1, h2⟩ := List.pairwise_cons.mp hs
      have he : ∀ z ∈ r, e.1 ≤ z.1 := fun z hz => by rcases h1 z hz with q | ⟨q, _⟩ <;> omega
      intro y hy
      rcases List.mem_cons.mp hy with rfl | hy
      · exact ⟨y, List.mem_cons_self .., Int.le_refl _, Int.le_refl _⟩
      · rcases peel_below r e.2 e.1 h2 he y hy with ⟨m, hm, hm'⟩ | h
        · exact ⟨m, List.mem_cons_of_mem _ hm, hm'⟩
        · exact ⟨e, List.mem_cons_self .., he y hy, h⟩
  have sub : ∀ m ∈ mins L, m ∈ L := by
    cases L with
    | nil => simp [mins]
    | cons e r => exact fun m hm => ((peel_sub r e.2).1.cons_cons e).subset hm
  have anti := mins_anti hs
  have same : ∀ m ∈ mins L, ∀ x ∈ mins L, m.1 ≤ x.1 → m.2 ≤ x.2 → m = x := by
    intro m hm x hx h1 h2
    obtain ⟨i, hi⟩ := List.getElem?_of_mem hm
    obtain ⟨j, hj⟩ := List.getElem?_of_mem hx
    have hil : i < (mins L).length := (List.getElem?_eq_some_iff.mp hi).1
    have hjl : j < (mins L).length := (List.getElem?_eq_some_iff.mp hj).1
    rcases Nat.lt_trichotomy i j with q | q | q
    · have := List.pairwise_iff_getElem.mp anti i j hil hjl q
      rw [(List.getElem?_eq_some_iff.mp hi).2, (List.getElem?_eq_some_iff.mp hj).2] at this
      omega
    · subst q; rw [hi] at hj; exact Option.some.inj hj
    · have := List.pairwise_iff_getElem.mp anti j i hjl hil q
      rw [(List.getElem?_eq_some_iff.mp hi).2, (List.getElem?_eq_some_iff.mp hj).2] at this
      omega
  constructor
  · intro hx
    refine ⟨sub x hx, fun y hy h1 h2 => ?_⟩
    obtain ⟨m, hm, m1, m2⟩ := below y hy
    have := same m hm x hx (by omega) (by omega)
    subst this
    exact Prod.ext (by omega) (by omega)
  · rintro ⟨hx, h⟩
    obtain ⟨m, hm, m1, m2⟩ := below x hx
    rw [← h m (sub m hm) m1 m2]; exact hm
theorem strict_eq : ∀ {A B : List Pr}, A.Pairwise (fun x y => x.1 < y.1) → B.Pairwise (fun x y => x.1 < y.1) → (∀ x, x ∈ A ↔ x ∈ B) → A = B
  | [], [], _, _, _ => rfl
  | [], b :: B, _, _, h => by have := (h b).mpr (List.mem_cons_self ..); cases this
  | a :: A, [], _, _, h => by have := (h a).mp (List.mem_cons_self ..); cases this
  | a :: A, b :: B, h1, h2, h => by
    obtain ⟨p1, p2⟩ := List.pairwise_cons.mp h1
    obtain ⟨q1, q2⟩ := List.pairwise_cons.mp h2
    have hab : a = b := by
      rcases List.mem_cons.mp ((h a).mp (List.mem_cons_self ..)) with e | e
      · exact e
      · rcases List.mem_cons.mp ((h b).mpr (List.mem_cons_self ..)) with e' | e'
        · exact e'.symm
        · have := q1 a e; have := p1 b e'; omega
    subst hab
    congr 1
    refine strict_eq p2 q2 fun x => ⟨fun hx => ?_, fun hx => ?_⟩
    · rcases List.mem_cons.mp ((h x).mp (List.mem_cons_of_mem _ hx)) with e | e
      · subst e; have := p1 x hx; omega
      · exact e
    · rcases List.mem_cons.mp ((h x).mpr (List.mem_cons_of_mem _ hx)) with e | e
      · subst e; have := q1 x hx; omega
      · exact e
theorem mins_swap {L L' : List Pr} (h1 : SL L) (h2 : SL L') (hp : L'.Perm (L.map swp)) : mins L' = ((mins L).map swp).reverse := by
  have a1 := mins_anti h1
  have a2 := mins_anti h2
  refine strict_eq (List.Pairwise.imp (fun h => h.1) a2) ?_ fun x => ?_
  · rw [List.pairwise_reverse, List.pairwise_map]
    exact List.Pairwise.imp (fun h => h.2) a1
  · rw [List.mem_reverse, List.mem_map, mins_mem h2]
    have hm : ∀ y, y ∈ L' ↔ swp y ∈ L := fun y => by
      rw [hp.mem_iff, List.mem_map]
      constructor
      · rintro ⟨z, hz, rfl⟩; exact hz
      · intro h; exact ⟨swp y, h, rfl⟩
    constructor
    · rintro ⟨hx, h⟩
      refine ⟨swp x, (mins_mem h1 _).mpr ⟨(hm x).mp hx, fun y hy q1 q2 => ?_⟩, rfl⟩
      have := h (swp y) ((hm (swp y)).mpr hy) q2 q1
      rw [← this]; rfl
    · rintro ⟨z, hz, rfl⟩
      obtain ⟨z1, z2⟩ := (mins_mem h1 z).mp hz
      refine ⟨(hm _).mpr z1, fun y hy q1 q2 => ?_⟩
      have := z2 (swp y) ((hm y).mp hy) q2 q1
      rw [← this]; rfl
noncomputable def bumpsL : List Pr → List Pr
  | [] => []
  | e :: r => bumps e.2 r
theorem bumpsL_snoc : ∀ (M : List Pr) (a b : Pr), bumpsL (M ++ [a] ++ [b]) = bumpsL (M ++ [a]) ++ [(b.1, a.2)]
  | [], a, b => rfl
  | [x], a, b => rfl
  | x :: y :: r, a, b => by
    have ih := bumpsL_snoc (y :: r) a b
    show (y.1, x.2) :: bumpsL (y :: r ++ [a] ++ [b]) = (y.1, x.2) :: bumpsL (y :: r ++ [a]) ++ [(b.1, a.2)]
    rw [ih]; rfl
theorem bumps_swap : ∀ (M : List Pr), (bumpsL ((M.map swp).reverse)).Perm ((bumpsL M).map swp)
  | [] => by simp [bumpsL]
  | [x] => by simp [bumpsL, bumps]
  | x :: y :: r => by
    have ih := bumps_swap (y :: r)
    have e1 : ((x :: y :: r).map swp).reverse = ((r.map swp).reverse ++ [swp y]) ++ [swp x] := by simp
    have e2 : ((y :: r).map swp).reverse = (r.map swp).reverse ++ [swp y] := by simp
    rw [e1, bumpsL_snoc, ← e2]
    have e3 : (bumpsL (x :: y :: r)).map swp = swp (y.1, x.2) :: (bumpsL (y :: r)).map swp := rfl
    rw [e3]
    exact (List.Perm.append_right _ ih).trans (List.perm_append_singleton _ _)
theorem lastC_eq (e : Pr) : ∀ (r : List Pr), lastC e.2 r = ((e :: r).getLast (by simp)).2 := by
  intro r
  induction r generalizing e with
  | nil => rfl
  | cons a r ih => rw [lastC, ih a, List.getLast_cons_cons]

/-- one row of both -/
theorem sym_row : ∀ (n : Nat) {L L' : List Pr}, L.length = n → SL L → SL L' → L'.Perm (L.map swp) → prow L' = pq L ∧ pq L' = prow L ∧ (pout L').Perm ((pout L).map swp) := by
  intro n
  induction n using Nat.strongRecOn with
  | ind n ih =>
    intro L L' hn h1 h2 hp
    cases L with
    | nil =>
      have : L' = [] := List.Perm.eq_nil (by simpa using hp)
      subst this
      exact ⟨rfl, rfl, by simp [pout, pass]⟩
    | cons e r =>
      cases L' with
      | nil => have := hp.length_eq; simp at this
      | cons e' r' =>
        have hm := mins_swap h1 h2 hp
        obtain ⟨a1, a2, a3⟩ := pass_cons e r
        obtain ⟨b1, b2, b3⟩ := pass_cons e' r'
        have p1 : (e :: r).Perm (mins (e :: r) ++ rest (e :: r)) := (peel_perm r e.2).cons e
        have p2 : (e' :: r').Perm (mins (e' :: r') ++ rest (e' :: r')) := (peel_perm r' e'.2).cons e'
        have hr : (rest (e' :: r')).Perm ((rest (e :: r)).map swp) := by
          have q1 : (mins (e' :: r') ++ rest (e' :: r')).Perm ((mins (e :: r)).map swp ++ (rest (e :: r)).map swp) := by
            rw [← List.map_append]; exact p2.symm.trans (hp.trans (p1.map swp))
          have q2 : (mins (e' :: r')).Perm ((mins (e :: r)).map swp) := by rw [hm]; exact List.reverse_perm _
          exact (List.perm_append_left_iff _).mp ((List.Perm.append_right _ q2.symm).trans q1)
        have hlen : (rest (e :: r)).length < n := by
          have := (peel_sub r e.2).2.length_le
          rw [← hn]; show (peel e.2 r).2.length < _; simp; omega
        have s1 : SL (rest (e :: r)) := List.Pairwise.sublist (peel_sub r e.2).2 (List.pairwise_cons.mp h1).2
        have s2 : SL (rest (e' :: r')) := List.Pairwise.sublist (peel_sub r' e'.2).2 (List.pairwise_cons.mp h2).2
        obtain ⟨i1, i2, i3⟩ := ih _ hlen rfl s1 s2 hr
        have hne : mins (e :: r) ≠ [] := by simp [mins]
        have hne' : mins (e' :: r') ≠ [] := by simp [mins]
        have l1 : lastC e.2 (peel e.2 r).1 = ((mins (e :: r)).getLast hne).2 := lastC_eq e _
        have l2 : lastC e'.2 (peel e'.2 r').1 = ((mins (e' :: r')).getLast hne').2 := lastC_eq e' _
        have g1 : e'.1 = ((mins (e :: r)).getLast hne).2 := by
          have : (mins (e' :: r')).head hne' = e' := rfl
          rw [← this]
          simp only [hm, List.head_reverse, List.getLast_map]; rfl
        have g2 : ((mins (e' :: r')).getLast hne').2 = e.1 := by
          simp only [hm, List.getLast_reverse, List.head_map]; rfl
        refine ⟨?_, ?_, ?_⟩
        · rw [b1, a2, l2, g2, show prow (peel e'.2 r').2 = pq (peel e.2 r).2 from i1]
        · rw [b2, a1, l1, ← g1, show pq (peel e'.2 r').2 = prow (peel e.2 r).2 from i2]
        · refine b3.trans ?_
          refine List.Perm.trans ?_ (a3.map swp).symm
          rw [List.map_append]
          refine List.Perm.append ?_ i3
          have e1 : bumps e'.2 (peel e'.2 r').1 = bumpsL (mins (e' :: r')) := rfl
          have e2 : bumps e.2 (peel e.2 r).1 = bumpsL (mins (e :: r)) := rfl
          rw [e1, e2, hm]
          exact bumps_swap _

/-! what is pushed out comes in order -/
theorem plc_split {R : List Int} (h : R.Pairwise (fun a b => a ≤ b)) (p : Int) : (∀ z ∈ R.take (plc R p), z ≤ p) ∧ (∀ z ∈ R.drop (plc R p), p < z) := by
  obtain ⟨h1, h2⟩ := split_at (P := fun z => decide (z ≤ p)) (xs := R) ((srt_ints h).le p)
  exact ⟨fun z hz => by simpa using h1 z hz, fun z hz => by have := h2 z hz; simpa using this⟩
theorem plc_le (R : List Int) (p : Int) : plc R p ≤ R.length := List.countP_le_length
theorem set_split {R : List Int} {k : Nat} {p : Int} (hk : k < R.length) : R.set k p = R.take k ++ p :: R.drop (k + 1) := List.set_eq_take_append_cons_drop.trans (if_pos hk)
theorem pstep_sorted {st : PS} {e : Pr} (h : st.1.Pairwise (fun a b => a ≤ b)) : (pstep st e).1.Pairwise (fun a b => a ≤ b) := by
  obtain ⟨h1, h2⟩ := plc_split h e.2
  unfold pstep
  split
  · rename_i hl
    rw [hl, List.take_length] at h1
    rw [List.pairwise_append]
    exact ⟨h, by simp, fun a ha b hb => by rw [List.mem_singleton.mp hb]; exact h1 a ha⟩
  · rename_i hl
    have hk : plc st.1 e.2 < st.1.length := by have := plc_le st.1 e.2; omega
    show (st.1.set _ _).Pairwise _
    rw [set_split hk, List.pairwise_append]
    refine ⟨List.Pairwise.sublist (List.take_sublist ..) h, List.pairwise_cons.mpr ⟨fun z hz => ?_, List.Pairwise.sublist (List.drop_sublist ..) h⟩, fun a ha b hb => ?_⟩
    · have : z ∈ st.1.drop (plc st.1 e.2) := by
        rw [List.drop_eq_getElem_cons hk]; exact List.mem_cons_of_mem _ hz
      have := h2 z this; omega
    · have ha' := h1 a ha
      rcases List.mem_cons.mp hb with rfl | hb
      · exact ha'
      · have : b ∈ st.1.drop (plc st.1 e.2) := by
          rw [List.drop_eq_getElem_cons hk]; exact List.mem_cons_of_mem _ hb
        have := h2 b this; omega
theorem getD_drop {R : List Int} {k : Nat} (hk : k < R.length) : R.getD k 0 ∈ R.drop k := by
  rw [List.drop_eq_getElem_cons hk, List.getD_eq_getElem?_getD, List.getElem?_eq_getElem hk]; exact List.mem_cons_self ..
theorem getD_least {R : List Int} {k : Nat} (h : R.Pairwise (fun a b => a ≤ b)) (hk : k < R.length) : ∀ z ∈ R.drop k, R.getD k 0 ≤ z := by
  intro z hz
  have hs := List.Pairwise.sublist (List.drop_sublist k R) h
  rw [List.drop_eq_getElem_cons hk] at hz hs
  rw [List.getD_eq_getElem?_getD, List.getElem?_eq_getElem hk]
  rcases List.mem_cons.mp hz with rfl | hz
  · exact Int.le_refl _
  · exact (List.pairwise_cons.mp hs).1 z hz
theorem out_go : ∀ (L : List Pr) (st : PS) (e0 : Pr), SL (e0 :: L) → st.1.Pairwise (fun a b => a ≤ b) → SL st.2.2 → (∀ o ∈ st.2.2, o.1 < e0.1 ∨ (o.1 = e0.1 ∧ ∀ z ∈ st.1, e0.2 < z → o.2 ≤ z)) →
    SL (L.foldl pstep st).2.2 ∧ (L.foldl pstep st).1.Pairwise (fun a b => a ≤ b)
  | [], st, _, _, h1, h2, _ => ⟨h2, h1⟩
  | e :: L, st, e0, hL, h1, h2, h3 => by
    obtain ⟨q1, q2⟩ := List.pairwise_cons.mp hL
    have hee := q1 e (List.mem_cons_self ..)
    rw [List.foldl_cons]
    refine out_go L (pstep st e) e q2 (pstep_sorted h1) ?_ ?_
    · unfold pstep
      split
      · exact h2
      · rename_i hl
        have hk : plc st.1 e.2 < st.1.length := by have := plc_le st.1 e.2; omega
        show (st.2.2 ++ [_]).Pairwise leL
        rw [List.pairwise_append]
        refine ⟨h2, by simp, fun o ho b hb => ?_⟩
        rw [List.mem_singleton.mp hb]
        have hd := getD_drop hk
        have hgt := (plc_split h1 e.2).2 _ hd
        rcases h3 o ho with q | ⟨q, q'⟩
        · left; rcases hee with w | ⟨w, _⟩ <;> show o.1 < e.1 <;> omega
        · rcases hee with w | ⟨w, w'⟩
          · left; show o.1 < e.1; omega
          · right
            exact ⟨by show o.1 = e.1; omega, q' _ (List.mem_of_mem_drop hd) (by omega)⟩
    · have old : ∀ o ∈ st.2.2, o.1 < e.1 ∨ (o.1 = e.1 ∧ ∀ z ∈ st.1, e.2 < z → o.2 ≤ z) := fun o ho => by
        rcases h3 o ho with q | ⟨q, q'⟩
        · left; rcases hee with w | ⟨w, _⟩ <;> omega
        · rcases hee with w | ⟨w, w'⟩
          · left; omega
          · right; exact ⟨by omega, fun z hz hlt => q' z hz (by omega)⟩
      unfold pstep
      split
      · intro o ho
        rcases old o ho with q | ⟨q, q'⟩
        · exact .inl q
        · refine .inr ⟨q, fun z hz hlt => ?_⟩
          rcases List.mem_append.mp hz with hz | hz
          · exact q' z hz hlt
          · rw [List.mem_singleton.mp hz] at hlt; omega
      · rename_i hl
        have hk : plc st.1 e.2 < st.1.length := by have := plc_le st.1 e.2; omega
        have inset : ∀ z ∈ st.1.set (plc st.1 e.2) e.2, e.2 < z → z ∈ st.1 := fun z hz hlt => by
          rcases List.mem_or_eq_of_mem_set hz with hz | hz
          · exact hz
          · omega
        intro o ho
        rcases List.mem_append.mp ho with ho | ho
        · rcases old o ho with q | ⟨q, q'⟩
          · exact .inl q
          · exact .inr ⟨q, fun z hz hlt => q' z (inset z hz hlt) hlt⟩
        · rw [List.mem_singleton.mp ho]
          refine .inr ⟨rfl, fun z hz hlt => ?_⟩
          have hz' := inset z hz hlt
          have : z ∈ st.1.drop (plc st.1 e.2) := by
            rw [← List.take_append_drop (plc st.1 e.2) st.1] at hz'
            rcases List.mem_append.mp hz' with hz' | hz'
            · have := (plc_split h1 e.2).1 z hz'; omega
            · exact hz'
          exact getD_least h1 hk z this
theorem out_sorted {L : List Pr} (h : SL L) : SL (pout L) ∧ (prow L).Pairwise (fun a b => a ≤ b) := by
  cases L with
  | nil => exact ⟨List.Pairwise.nil, List.Pairwise.nil⟩
  | cons e r =>
    refine out_go (e :: r) ([], [], []) e (List.pairwise_cons.mpr ⟨fun y hy => ?_, h⟩) List.Pairwise.nil List.Pairwise.nil (by simp)
    rcases List.mem_cons.mp hy with rfl | hy
    · exact .inr ⟨rfl, Int.le_refl _⟩
    · exact (List.pairwise_cons.mp h).1 y hy
theorem out_len_go : ∀ (L : List Pr) (st : PS), (L.foldl pstep st).2.2.length + (L.foldl pstep st).1.length = st.2.2.length + st.1.length + L.length ∧ st.1.length ≤ (L.foldl pstep st).1.length
  | [], st => by simp
  | e :: L, st => by
    obtain ⟨h1, h2⟩ := out_len_go L (pstep st e)
    have h3 : (pstep st e).2.2.length + (pstep st e).1.length = st.2.2.length + st.1.length + 1 ∧ st.1.length ≤ (pstep st e).1.length := by
      unfold pstep; split <;> simp <;> omega
    rw [List.foldl_cons, List.length_cons]; omega
theorem out_len {L : List Pr} (h : L ≠ []) : (pout L).length < L.length := by
  cases L with
  | nil => exact absurd rfl h
  | cons e r =>
    have h0 : pass (e :: r) = r.foldl pstep ([e.2], [e.1], []) := by unfold pass; rw [List.foldl_cons]; rfl
    obtain ⟨h1, h2⟩ := out_len_go r ([e.2], [e.1], [])
    unfold pout
    rw [h0]
    simp at h1 h2 ⊢; omega

/-! ## the tables -/
noncomputable def tabs : Nat → List Pr → List (List Int) × List (List Int)
  | 0, _ => ([], [])
  | _ + 1, [] => ([], [])
  | n + 1, e :: r => (prow (e :: r) :: (tabs n (pout (e :: r))).1, pq (e :: r) :: (tabs n (pout (e :: r))).2)
theorem tabs_fuel : ∀ (n m : Nat) (L : List Pr), L.length ≤ n → L.length ≤ m → tabs n L = tabs m L
  | 0, 0, _, _, _ => rfl
  | 0, m + 1, [], _, _ => rfl
  | 0, _ + 1, _ :: _, h, _ => by simp at h
  | n + 1, 0, [], _, _ => rfl
  | _ + 1, 0, _ :: _, _, h => by simp at h
  | n + 1, m + 1, [], _, _ => rfl
  | n + 1, m + 1, e :: r, h1, h2 => by
    have := out_len (L := e :: r) (by simp)
    have ih := tabs_fuel n m (pout (e :: r)) (by simp at *; omega) (by simp at *; omega)
    rw [tabs, tabs, ih]
noncomputable def table (L : List Pr) : List (List Int) × List (List Int) := tabs L.length L
theorem sym_tabs : ∀ (n : Nat) {L L' : List Pr}, L.length ≤ n → SL L → SL L' → L'.Perm (L.map swp) → tabs n L' = ((tabs n L).2, (tabs n L).1)
  | 0, L, L', h, _, _, _ => rfl
  | n + 1, [], L', _, _, _, hp => by
    have : L' = [] := List.Perm.eq_nil (by simpa using hp)
    subst this; rfl
  | n + 1, e :: r, [], _, _, _, hp => by have := hp.length_eq; simp at this
  | n + 1, e :: r, e' :: r', hn, h1, h2, hp => by
    obtain ⟨q1, q2, q3⟩ := sym_row _ rfl h1 h2 hp
    have := out_len (L := e :: r) (by simp)
    have ih := sym_tabs n (L := pout (e :: r)) (L' := pout (e' :: r')) (by simp at *; omega) (out_sorted h1).1 (out_sorted h2).1 q3
    rw [tabs, tabs, ih, q1, q2]
theorem sym_table {L L' : List Pr} (h1 : SL L) (h2 : SL L') (hp : L'.Perm (L.map swp)) : table L' = ((table L).2, (table L).1) := by
  have hl : L'.length = L.length := by rw [hp.length_eq, List.length_map]
  unfold table
  rw [hl]
  exact sym_tabs _ (Nat.le_refl _) h1 h2 hp
/-- one more put in: the rows, and the place where a cell is added -/
noncomputable def putR : List (List Int) → Int → List (List Int) × Nat
  | [], b => ([[b]], 0)
  | R :: rows, b => if plc R b = R.length then ((R ++ [b]) :: rows, 0) else (R.set (plc R b) b :: (putR rows (R.getD (plc R b) 0)).1, (putR rows (R.getD (plc R b) 0)).2 + 1)
noncomputable def putS (steps : List (List Int)) (k : Nat) (a : Int) : List (List Int) := if k = steps.length then steps ++ [[a]] else steps.set k (steps.getD k [] ++ [a])
theorem tabs_len : ∀ (n : Nat) (L : List Pr), (tabs n L).1.length = (tabs n L).2.length
  | 0, _ => rfl
  | _ + 1, [] => rfl
  | n + 1, e :: r => by rw [tabs]; simp [tabs_len n]
theorem putR_le : ∀ (rows : List (List Int)) (b : Int), (putR rows b).2 ≤ rows.length
  | [], _ => Nat.le_refl _
  | R :: rows, b => by
    rw [putR]; split
    · exact Nat.zero_le _
    · have := putR_le rows (R.getD (plc R b) 0); simp; exact this
theorem tabs_snoc : ∀ (n : Nat) (L : List Pr) (e : Pr), L.length ≤ n → tabs (n + 1) (L ++ [e]) = ((putR (tabs n L).1 e.2).1, putS (tabs n L).2 (putR (tabs n L).1 e.2).2 e.1)
  | n, [], e, _ => by
    have h0 : tabs n [] = ([], []) := by cases n <;> rfl
    rw [h0, List.nil_append, tabs]
    have hp : pass [e] = ([e.2], [e.1], []) := rfl
    have h1 : prow [e] = [e.2] := rfl
    have h2 : pq [e] = [e.1] := rfl
    have h3 : pout [e] = [] := rfl
    rw [h1, h2, h3, h0]; rfl
  | 0, _ :: _, _, h => by simp at h
  | n + 1, x :: r, e, hn => by
    have hlen := out_len (L := x :: r) (by simp)
    have hs := pass_snoc (x :: r) e
    have e1 : tabs (n + 1 + 1) (x :: r ++ [e]) = (prow (x :: r ++ [e]) :: (tabs (n + 1) (pout (x :: r ++ [e]))).1, pq (x :: r ++ [e]) :: (tabs (n + 1) (pout (x :: r ++ [e]))).2) := rfl
    have e2 : tabs (n + 1) (x :: r) = (prow (x :: r) :: (tabs n (pout (x :: r))).1, pq (x :: r) :: (tabs n (pout (x :: r))).2) := rfl
    rw [e1, e2]
    by_cases hk : plc (prow (x :: r)) e.2 = (prow (x :: r)).length
    · have hp : pass (x :: r ++ [e]) = (prow (x :: r) ++ [e.2], pq (x :: r) ++ [e.1], pout (x :: r)) := by rw [hs]; unfold pstep; exact if_pos hk
      have f1 : prow (x :: r ++ [e]) = prow (x :: r) ++ [e.2] := by unfold prow; rw [hp]; rfl
      have f2 : pq (x :: r ++ [e]) = pq (x :: r) ++ [e.1] := by unfold pq; rw [hp]; rfl
      have f3 : pout (x :: r ++ [e]) = pout (x :: r) := by unfold pout; rw [hp]; rfl
      rw [f1, f2, f3, tabs_fuel (n + 1) n (pout (x :: r)) (by simp at *; omega) (by simp at *; omega)]
      have g : putR (prow (x :: r) :: (tabs n (pout (x :: r))).1) e.2 = ((prow (x :: r) ++ [e.2]) :: (tabs n (pout (x :: r))).1, 0) := by rw [putR, if_pos hk]
      rw [g]
      unfold putS
      rw [if_neg (by simp)]
      rfl
    · have hp : pass (x :: r ++ [e]) = ((prow (x :: r)).set (plc (prow (x :: r)) e.2) e.2, pq (x :: r), pout (x :: r) ++ [(e.1, (prow (x :: r)).getD (plc (prow (x :: r)) e.2) 0)]) := by rw [hs]; unfold pstep; exact if_neg hk
      have f1 : prow (x :: r ++ [e]) = (prow (x :: r)).set (plc (prow (x :: r)) e.2) e.2 := by unfold prow; rw [hp]; rfl
      have f2 : pq (x :: r ++ [e]) = pq (x :: r) := by unfold pq; rw [hp]; rfl
      have f3 : pout (x :: r ++ [e]) = pout (x :: r) ++ [(e.1, (prow (x :: r)).getD (plc (prow (x :: r)) e.2) 0)] := by unfold pout; rw [hp]; rfl
      rw [f1, f2, f3, tabs_snoc n (pout (x :: r)) _ (by simp at *; omega)]
      have g : putR (prow (x :: r) :: (tabs n (pout (x :: r))).1) e.2 = ((prow (x :: r)).set (plc (prow (x :: r)) e.2) e.2 :: (putR (tabs n (pout (x :: r))).1 ((prow (x :: r)).getD (plc (prow (x :: r)) e.2) 0)).1, (putR (tabs n (pout (x :: r))).1 ((prow (x :: r)).getD (plc (prow (x :: r)) e.2) 0)).2 + 1) := by rw [putR, if_neg hk]
      rw [g]
      unfold putS
      simp only [List.length_cons, Nat.add_right_cancel_iff]
      split
      · rfl
      · rfl
theorem table_snoc (L : List Pr) (e : Pr) : table (L ++ [e]) = ((putR (table L).1 e.2).1, putS (table L).2 (putR (table L).1 e.2).2 e.1) := by
  unfold table
  rw [show (L ++ [e]).length = L.length + 1 by simp]
  exact tabs_snoc _ L e (Nat.le_refl _)
end Mine

set_option maxHeartbeats 1000000
namespace Mine
open PySem PySem.W PyProof.Rows

/-! ## the sorting keeps the order of those alike -/
noncomputable def lx (lt : Nat → Nat → Bool) (a b : Nat) : Bool := lt a b || (!lt b a && decide (a < b))
section
variable {lt : Nat → Nat → Bool} {N : Nat}
theorem lx_gt {x y : Nat} (h : y ≤ x) : lx lt x y = lt x y := by
  unfold lx; rw [decide_eq_false (by omega : ¬ x < y)]; simp
theorem lx_of {x y : Nat} (h : lt x y = true) : lx lt x y = true := by unfold lx; rw [h]; rfl
theorem lx_alike {x y : Nat} (h : lt y x = false) (hxy : x < y) : lx lt x y = true := by unfold lx; rw [h, decide_eq_true hxy]; simp
theorem lx_false {x y : Nat} : lx lt x y = false ↔ lt x y = false ∧ (lt y x = true ∨ ¬ x < y) := by
  unfold lx
  cases lt x y <;> cases lt y x <;> simp
theorem Ord.lx (o : Ord lt) : Ord (lx lt) where
  asym := fun a b h => by
    rw [lx_false]
    unfold Mine.lx at h
    cases h1 : lt a b with
    | true => exact ⟨o.asym _ _ h1, .inl rfl⟩
    | false =>
      rw [h1] at h
      simp at h
      exact ⟨h.1, .inr (by omega)⟩
  trans := fun a b c h1 h2 => by
    rw [lx_false] at h1 h2 ⊢
    have h3 := o.trans _ _ _ h1.1 h2.1
    refine ⟨h3, ?_⟩
    cases h4 : lt a c with
    | true => exact .inl rfl
    | false =>
      right
      have h5 : lt b c = false := o.trans c a b h4 h1.1
      have h6 : lt a b = false := o.trans b c a h2.1 h4
      rcases h1.2 with q | q
      · rw [h6] at q; cases q
      · rcases h2.2 with q' | q'
        · rw [h5] at q'; cases q'
        · omega
noncomputable def Fx2 (N : Nat) (p : Array Nat) (k : Nat) : Prop := ∀ m, k ≤ m → m < N → gP p m = m
theorem In.inj {p : Array Nat} (h : In N p) {i j : Nat} (hi : i < N) (hj : j < N) (e : gP p i = gP p j) : i = j := by
  have nd : p.toList.Nodup := h.perm.nodup_iff.mpr List.nodup_range
  have hi' : i < p.toList.length := by simp [h.size, hi]
  have hj' : j < p.toList.length := by simp [h.size, hj]
  have e1 : gP p i = p.toList[i] := by simp [gP, Array.getD, h.size, hi]
  have e2 : gP p j = p.toList[j] := by simp [gP, Array.getD, h.size, hj]
  rw [e1, e2] at e
  rcases Nat.lt_trichotomy i j with q | q | q
  · exact absurd e (List.pairwise_iff_getElem.mp nd i j hi' hj' q)
  · exact q
  · exact absurd e.symm (List.pairwise_iff_getElem.mp nd j i hj' hi' q)
theorem Fx2.lo {p : Array Nat} (hp : In N p) {k : Nat} (h : Fx2 N p k) {i : Nat} (hi : i < k) (hk : k ≤ N) : gP p i < k := by
  rcases Nat.lt_or_ge (gP p i) k with q | q
  · exact q
  · have hb := hp.bd (show i < N by omega)
    have := h _ q hb
    have := hp.inj hb (by omega) this
    omega
theorem gP_range {m : Nat} (h : m < N) : gP (List.toArray (List.range N)) m = m := by simp [gP, Array.getD, h]
end
end Mine

set_option maxHeartbeats 1000000
namespace Mine
open PySem PySem.W PyProof.Rows

noncomputable def gallop' : Bool → Keyed → Array Keyed → Nat → Nat → Nat → StateT SortSt Sem (Option Nat) := sortPriv% PySem.Builtin.gallop
noncomputable def mergeLo' : Array Keyed → Array Keyed → StateT SortSt Sem (Array Keyed) := sortPriv% PySem.Builtin.mergeLo
noncomputable def mergeHi' : Array Keyed → Array Keyed → StateT SortSt Sem (Array Keyed) := sortPriv% PySem.Builtin.mergeHi
noncomputable def beyond' (left : Bool) (key : Keyed) (arr : Array Keyed) (base i : Nat) : StateT SortSt Sem (Option Bool) := do
  let x ← elem' arr (base + i)
  if left then lt' x key else return (← lt' key x).map (!·)
theorem gallop'_eq (left : Bool) (key : Keyed) (arr : Array Keyed) (base n hint : Nat) : gallop' left key arr base n hint = (do
  let mut lastofs := 0
  let mut ofs := 1
  let mut lo := 0
  let mut hi := 0
  let some right ← beyond' left key arr base hint | return none
  if right then
    let maxofs := n - hint
    for _ in [0:n] do
      if ofs ≥ maxofs then break
      let some more ← beyond' left key arr base (hint + ofs) | return none
      if !more then break
      lastofs := ofs
      ofs := 2 * ofs + 1
    lo := hint + lastofs + 1
    hi := hint + min ofs maxofs
  else
    let maxofs := hint + 1
    for _ in [0:n] do
      if ofs ≥ maxofs then break
      let some found ← beyond' left key arr base (hint - ofs) | return none
      if found then break
      lastofs := ofs
      ofs := 2 * ofs + 1
    lo := hint + 1 - min ofs maxofs
    hi := hint - lastofs
  for _ in [0:n] do
    if lo ≥ hi then break
    let m := lo + (hi - lo) / 2
    let some more ← beyond' left key arr base m | return none
    if more then lo := m + 1 else hi := m
  return some hi) := rfl

section
variable {prog : Program} {w : World} {A : Around} {E : Value → Shared → Prop} {s : Shared}
noncomputable def gSearch (left : Bool) (key : Keyed) (arr : Array Keyed) (base n lo₀ hi₀ : Nat) : StateT SortSt Sem (Option Nat) := do
  let mut lo := lo₀
  let mut hi := hi₀
  for _ in [0:n] do
    if lo ≥ hi then break
    let m := lo + (hi - lo) / 2
    let some more ← beyond' left key arr base m | return none
    if more then lo := m + 1 else hi := m
  return some hi
theorem search_w {left : Bool} {key : Keyed} {arr : Array Keyed} {base n lo hi : Nat} {bd : Nat → Bool} {st : SortSt} {Q : Option Nat → SortSt → Prop}
    (hb : ∀ i, i < n → ∀ Q : Option Bool → SortSt → Prop, Q (some (bd i)) st → wpS (model prog w) A E s (beyond' left key arr base i) Q st)
    (anti : ∀ i j, i ≤ j → j < n → bd j = true → bd i = true) (h1 : lo ≤ hi) (h2 : hi ≤ n) (hlo : ∀ i, i < lo → bd i = true) (hhi : ∀ i, hi ≤ i → i < n → bd i = false)
    (hq : ∀ k, k ≤ n → (∀ i, i < k → bd i = true) → (∀ i, k ≤ i → i < n → bd i = false) → Q (some k) st) : wpS (model prog w) A E s (gSearch left key arr base n lo hi) Q st := by
  unfold gSearch
  refine wpS_bind (wpS_mono (wpS_forRange
    (I := fun x c st' => st' = st ∧ ∃ l r, c = (none, l, r) ∧ l ≤ r ∧ r ≤ n ∧ r - l ≤ n - x ∧ (∀ i, i < l → bd i = true) ∧ (∀ i, r ≤ i → i < n → bd i = false))
    (Q := fun c st' => st' = st ∧ ∃ l r, c = (none, l, r) ∧ l = r ∧ r ≤ n ∧ (∀ i, i < l → bd i = true) ∧ (∀ i, r ≤ i → i < n → bd i = false)) ?step ?fin ⟨rfl, lo, hi, rfl, h1, h2, by omega, hlo, hhi⟩) ?post)
  case post =>
    rintro c st' ⟨rfl, l, r, rfl, rfl, a1, a2, a3⟩
    exact wpS_pure (hq l a1 a2 a3)
  case fin =>
    rintro c st' ⟨rfl, l, r, rfl, a1, a2, a3, a4, a5⟩
    exact ⟨rfl, l, r, rfl, by omega, a2, a4, a5⟩
  case step =>
    rintro x c st' _ hx ⟨rfl, l, r, rfl, a1, a2, a3, a4, a5⟩
    dsimp only
    by_cases hge : l ≥ r
    · rw [if_pos hge]
      exact wpS_pure ⟨rfl, l, r, rfl, by omega, a2, a4, a5⟩
    · rw [if_neg hge]
      refine wpS_bind (hb _ (by omega) _ ?_)
      cases hm : bd (l + (r - l) / 2) with
      | true =>
        simp only [if_true]
        exact wpS_pure ⟨rfl, _, r, rfl, by omega, a2, by omega, fun i hi => anti i (l + (r - l) / 2) (by omega) (by omega) hm, a5⟩
      | false =>
        simp only [Bool.false_eq_true, if_false]
        refine wpS_pure ⟨rfl, l, _, rfl, by omega, by omega, by omega, a4, fun i h3 h4 => ?_⟩
        cases h5 : bd i with
        | false => rfl
        | true => rw [anti _ i h3 h4 h5] at hm; cases hm
theorem gallop_w {left : Bool} {key : Keyed} {arr : Array Keyed} {base n hint : Nat} {bd : Nat → Bool} {st : SortSt} {Q : Option Nat → SortSt → Prop}
    (hb : ∀ i, i < n → ∀ Q : Option Bool → SortSt → Prop, Q (some (bd i)) st → wpS (model prog w) A E s (beyond' left key arr base i) Q st)
    (anti : ∀ i j, i ≤ j → j < n → bd j = true → bd i = true) (hh : hint < n)
    (hq : ∀ k, k ≤ n → (∀ i, i < k → bd i = true) → (∀ i, k ≤ i → i < n → bd i = false) → Q (some k) st) : wpS (model prog w) A E s (gallop' left key arr base n hint) Q st := by
  rw [gallop'_eq]
  refine wpS_bind (hb hint hh _ ?_)
  dsimp only
  cases hr : bd hint with
  | true =>
    simp only [if_true]
    refine wpS_bind (wpS_mono (wpS_forRange
      (I := fun x c st' => st' = st ∧ ∃ l o, c = (none, l, o) ∧ l < o ∧ l < n - hint ∧ x + 1 ≤ o ∧ bd (hint + l) = true)
      (Q := fun c st' => st' = st ∧ ∃ l o, c = (none, l, o) ∧ l < o ∧ l < n - hint ∧ bd (hint + l) = true ∧ (o < n - hint → bd (hint + o) = false)) ?step ?fin ⟨rfl, 0, 1, rfl, by omega, by omega, by omega, hr⟩) ?post)
    case fin =>
      rintro c st' ⟨rfl, l, o, rfl, a1, a2, a3, a4⟩
      exact ⟨rfl, l, o, rfl, a1, a2, a4, fun h => by omega⟩
    case step =>
      rintro x c st' _ hx ⟨rfl, l, o, rfl, a1, a2, a3, a4⟩
      dsimp only
      by_cases hge : o ≥ n - hint
      · rw [if_pos hge]
        exact wpS_pure ⟨rfl, l, o, rfl, a1, a2, a4, fun h => by omega⟩
      · rw [if_neg hge]
        refine wpS_bind (hb _ (by omega) _ ?_)
        cases hm : bd (hint + o) with
        | true =>
          simp only [Bool.not_true, Bool.false_eq_true, if_false]
          exact wpS_pure ⟨rfl, _, _, rfl, by omega, by omega, by omega, hm⟩
        | false =>
          simp only [Bool.not_false, if_true]
          exact wpS_pure ⟨rfl, l, o, rfl, a1, a2, a4, fun _ => hm⟩
    case post =>
      rintro c st' ⟨rfl, l, o, rfl, a1, a2, a3, a4⟩
      dsimp only
      refine search_w (bd := bd) (lo := hint + l + 1) (hi := hint + min o (n - hint)) hb anti (by omega) (by omega) (fun i hi => anti i (hint + l) (by omega) (by omega) a3) (fun i h1 h2 => ?_) hq
      have h3 : bd (hint + o) = false := a4 (by omega)
      cases h5 : bd i with
      | false => rfl
      | true => rw [anti (hint + o) i (by omega) h2 h5] at h3; cases h3
  | false =>
    simp only [Bool.false_eq_true, if_false]
    have hn0 : ∀ i, hint ≤ i → i < n → bd i = false := fun i h1 h2 => by
      cases h5 : bd i with
      | false => rfl
      | true => rw [anti hint i h1 h2 h5] at hr; cases hr
    refine wpS_bind (wpS_mono (wpS_forRange
      (I := fun x c st' => st' = st ∧ ∃ l o, c = (none, l, o) ∧ l < o ∧ l < hint + 1 ∧ x + 1 ≤ o ∧ bd (hint - l) = false)
      (Q := fun c st' => st' = st ∧ ∃ l o, c = (none, l, o) ∧ l < o ∧ l < hint + 1 ∧ bd (hint - l) = false ∧ (o < hint + 1 → bd (hint - o) = true)) ?step ?fin ⟨rfl, 0, 1, rfl, by omega, by omega, by omega, hr⟩) ?post)
    case fin =>
      rintro c st' ⟨rfl, l, o, rfl, a1, a2, a3, a4⟩
      exact ⟨rfl, l, o, rfl, a1, a2, a4, fun h => by omega⟩
    case step =>
      rintro x c st' _ hx ⟨rfl, l, o, rfl, a1, a2, a3, a4⟩
      dsimp only
      by_cases hge : o ≥ hint + 1
      · rw [if_pos hge]
        exact wpS_pure ⟨rfl, l, o, rfl, a1, a2, a4, fun h => by omega⟩
      · rw [if_neg hge]
        refine wpS_bind (hb _ (by omega) _ ?_)
        cases hm : bd (hint - o) with
        | true =>
          simp only [if_true]
          exact wpS_pure ⟨rfl, l, o, rfl, a1, a2, a4, fun _ => hm⟩
        | false =>
          simp only [Bool.false_eq_true, if_false]
          exact wpS_pure ⟨rfl, _, _, rfl, by omega, by omega, by omega, hm⟩
    case post =>
      rintro c st' ⟨rfl, l, o, rfl, a1, a2, a3, a4⟩
      dsimp only
      refine search_w (bd := bd) (lo := hint + 1 - min o (hint + 1)) (hi := hint - l) hb anti (by omega) (by omega) (fun i hi => ?_) (fun i h1 h2 => ?_) hq
      · exact anti i (hint - o) (by omega) (by omega) (a4 (by omega))
      · cases h5 : bd i with
        | false => rfl
        | true => rw [anti (hint - l) i (by omega) h2 h5] at a3; cases a3
end
end Mine

set_option maxHeartbeats 1000000
namespace Mine
open PySem PySem.W PyProof.Rows

noncomputable def setGallop (g : Nat) : StateT SortSt Sem Unit := modify fun st => SortSt.mk' (kindOf st) (arrOf st) (pendingOf st) g (failedOf st)
theorem mergeLo'_eq (a b : Array Keyed) : mergeLo' a b = (do
  rule "list.sort.merge-lo"
  let total := a.size + b.size
  let done (out : Array Keyed) (ia ib : Nat) := out ++ a.extract ia a.size ++ b.extract ib b.size
  let lastOfA (out : Array Keyed) (ia ib : Nat) := out ++ b.extract ib b.size ++ a.extract ia a.size
  let mut out : Array Keyed := #[← elem' b 0]
  let mut ia := 0
  let mut ib := 1
  if ib == b.size then return done out ia ib
  if ia + 1 == a.size then return lastOfA out ia ib
  let mut minGallop := gallopOf (← get)
  for _ in [0:total] do
    let mut acount := 0
    let mut bcount := 0
    for _ in [0:total] do
      let some bWins ← lt' (← elem' b ib) (← elem' a ia) | return done out ia ib
      if bWins then
        out := out.push (← elem' b ib); ib := ib + 1; bcount := bcount + 1; acount := 0
        if ib == b.size then return done out ia ib
        if bcount ≥ minGallop then break
      else
        out := out.push (← elem' a ia); ia := ia + 1; acount := acount + 1; bcount := 0
        if ia + 1 == a.size then return lastOfA out ia ib
        if acount ≥ minGallop then break
    rule "list.sort.gallop"
    minGallop := minGallop + 1
    for _ in [0:total] do
      if minGallop > 1 then minGallop := minGallop - 1
      setGallop minGallop
      let some k ← gallop' false (← elem' b ib) a ia (a.size - ia) 0 | return done out ia ib
      acount := k
      if k > 0 then
        out := out ++ a.extract ia (ia + k); ia := ia + k
        if ia + 1 == a.size then return lastOfA out ia ib
        if ia == a.size then return done out ia ib
      out := out.push (← elem' b ib); ib := ib + 1
      if ib == b.size then return done out ia ib
      let some k ← gallop' true (← elem' a ia) b ib (b.size - ib) 0 | return done out ia ib
      bcount := k
      if k > 0 then
        out := out ++ b.extract ib (ib + k); ib := ib + k
        if ib == b.size then return done out ia ib
      out := out.push (← elem' a ia); ia := ia + 1
      if ia + 1 == a.size then return lastOfA out ia ib
      if acount < 7 && bcount < 7 then break
    minGallop := minGallop + 1
    setGallop minGallop
  unsupported "internal:list.sort.merge-bound") := rfl
section
variable {prog : Program} {w : World} {A : Around} {E : Value → Shared → Prop} {s : Shared}
theorem wpS_ite {α : Type} {σ : Type} {M : Model} {c : Prop} [Decidable c] {t e : StateT σ Sem α} {Q : α → σ → Prop} {st : σ} (h1 : c → wpS M A E s t Q st) (h2 : ¬ c → wpS M A E s e Q st) : wpS M A E s (if c then t else e) Q st := by
  split
  · exact h1 ‹_›
  · exact h2 ‹_›
theorem wpS_ite_fun {α : Type} {σ β : Type} {M : Model} {c : Prop} [Decidable c] (f : β → StateT σ Sem α) {a b : β} {Q : α → σ → Prop} {st : σ} (h : ∀ x, wpS M A E s (f x) Q st) : wpS M A E s (if c then f a else f b) Q st := by
  split
  · exact h _
  · exact h _
theorem setG_w {M : Model} {κ : SortKind} {arr : Array Keyed} {pend : Array (Nat × Nat × Nat)} {g g' : Nat} {f : Option Value} {Q : Unit → SortSt → Prop} (h : Q () (SortSt.mk' κ arr pend g' f)) : wpS M A E s (setGallop g') Q (SortSt.mk' κ arr pend g f) := wpS_modify h
noncomputable abbrev gL (l : List Nat) (i : Nat) : Nat := l.getD i 0
theorem arr_at {it : Array Keyed} {l : List Nat} {i : Nat} (h : i < l.length) : ((l.map (kas_item it)).toArray)[i]? = some (kas_item it (gL l i)) := by
  simp [gL, h]
theorem elem_w {M : Model} {it : Array Keyed} {l : List Nat} {i : Nat} {st : SortSt} {Q : Keyed → SortSt → Prop} (h : i < l.length) (hq : Q (kas_item it (gL l i)) st) : wpS M A E s (elem' (l.map (kas_item it)).toArray i) Q st := by
  rw [elem'_eq, arr_at h]; exact wpS_pure hq
/-- the questions that are asked -/
noncomputable def Asks (prog : Program) (w : World) (A : Around) (s : Shared) (κ : SortKind) (it : Array Keyed) (N : Nat) (lt : Nat → Nat → Bool) : Prop :=
  ∀ i j (Q : Bool → Shared → Prop), i < N → j < N → Q (lt i j) s → wpAny (model prog w) A (keyLt' κ (kas_item it i).1 (kas_item it j).1) Q (fun _ _ => False) s
variable {κ : SortKind} {it : Array Keyed} {N : Nat} {lt : Nat → Nat → Bool}
theorem lt_w (hc : Asks prog w A s κ it N lt) {i j : Nat} {st : SortSt} {Q : Option Bool → SortSt → Prop} (hk : kindOf st = κ) (hi : i < N) (hj : j < N) (hq : Q (some (lt i j)) st) : wpS (model prog w) A E s (lt' (kas_item it i) (kas_item it j)) Q st := by
  rw [lt'_eq]
  refine wpS_bind (wpS_get ?_)
  rw [hk]
  refine wpS_bind (wpS_lift (wpAny_attempt (wpAny_mono (hc i j (fun b s' => s' = s ∧ b = lt i j) hi hj ⟨rfl, rfl⟩) (fun b s' hb => ?_) fun _ _ hF => hF.elim)))
  obtain ⟨rfl, rfl⟩ := hb
  exact ⟨rfl, wpS_pure hq⟩
theorem beyond_w (hc : Asks prog w A s κ it N lt) {left : Bool} {x base i : Nat} {l : List Nat} {st : SortSt} {Q : Option Bool → SortSt → Prop} (hk : kindOf st = κ) (hx : x < N) (hi : base + i < l.length) (hl : gL l (base + i) < N)
    (hq : Q (some (if left = true then lt (gL l (base + i)) x else !lt x (gL l (base + i)))) st) : wpS (model prog w) A E s (beyond' left (kas_item it x) (l.map (kas_item it)).toArray base i) Q st := by
  unfold beyond'
  refine wpS_bind (elem_w hi ?_)
  cases left with
  | true =>
    simp only [if_true] at hq ⊢
    exact lt_w hc hk hl hx hq
  | false =>
    simp only [Bool.false_eq_true, if_false] at hq ⊢
    exact wpS_bind (lt_w hc hk hx hl (wpS_pure hq))

/-! ## two runs laid into one -/
structure Two (N : Nat) (lt : Nat → Nat → Bool) (la lb : List Nat) : Prop where
  ord : Ord lt
  na : ∀ i, i < la.length → gL la i < N
  nb : ∀ i, i < lb.length → gL lb i < N
  sa : ∀ i j, i ≤ j → j < la.length → lx lt (gL la j) (gL la i) = false
  sb : ∀ i j, i ≤ j → j < lb.length → lx lt (gL lb j) (gL lb i) = false
  ab : ∀ i j, i < la.length → j < lb.length → gL la i < gL lb j
  ha : 0 < la.length
  hb : 0 < lb.length
  first : lt (gL lb 0) (gL la 0) = true
  last : ∀ j, j < lb.length → lt (gL lb j) (gL la (la.length - 1)) = true
theorem Two.ask {la lb : List Nat} (h : Two N lt la lb) {i j : Nat} (hi : i < la.length) (hj : j < lb.length) : lx lt (gL lb j) (gL la i) = lt (gL lb j) (gL la i) := lx_gt (Nat.le_of_lt (h.ab i j hi hj))
structure Mg (lt : Nat → Nat → Bool) (la lb : List Nat) (out : List Nat) (ia ib : Nat) : Prop where
  lea : ia ≤ la.length
  leb : ib ≤ lb.length
  perm : out.Perm (la.take ia ++ lb.take ib)
  srt : out.Pairwise fun x y => lx lt y x = false
  ba : ∀ x ∈ out, ∀ j, ia ≤ j → j < la.length → lx lt (gL la j) x = false
  bb : ∀ x ∈ out, ∀ j, ib ≤ j → j < lb.length → lx lt (gL lb j) x = false
theorem gL_drop (l : List Nat) (i k : Nat) : ∀ x ∈ (l.drop i).take k, ∃ j, i ≤ j ∧ j < i + k ∧ j < l.length ∧ x = gL l j := fun x hx => by
  obtain ⟨n, hn, e⟩ := List.getElem_of_mem hx
  simp at hn
  exact ⟨i + n, by omega, by omega, by omega, by rw [← e]; simp [gL, (by omega : i + n < l.length)]⟩
theorem srt_drop {l : List Nat} (h : ∀ i j, i ≤ j → j < l.length → lx lt (gL l j) (gL l i) = false) (i k : Nat) : ((l.drop i).take k).Pairwise fun x y => lx lt y x = false := by
  rw [List.pairwise_iff_getElem]
  intro u v hu hv huv
  simp at hu hv
  have := h (i + u) (i + v) (by omega) (by omega)
  simpa [gL, (by omega : i + u < l.length), (by omega : i + v < l.length)] using this
theorem take_add_drop (l : List Nat) (i k : Nat) : l.take (i + k) = l.take i ++ (l.drop i).take k := by rw [List.take_add]
theorem Mg.addA {la lb out : List Nat} {ia ib k : Nat} (T : Two N lt la lb) (h : Mg lt la lb out ia ib) (hk : ia + k ≤ la.length) (hx : ∀ i, ia ≤ i → i < ia + k → ∀ j, ib ≤ j → j < lb.length → lx lt (gL lb j) (gL la i) = false) :
    Mg lt la lb (out ++ (la.drop ia).take k) (ia + k) ib where
  lea := hk
  leb := h.leb
  perm := by
    rw [take_add_drop]
    refine (h.perm.append_right _).trans ?_
    rw [List.append_assoc, List.append_assoc]
    exact List.Perm.append_left _ List.perm_append_comm
  srt := by
    rw [List.pairwise_append]
    refine ⟨h.srt, srt_drop T.sa _ _, fun x hx' y hy => ?_⟩
    obtain ⟨j, h1, h2, h3, rfl⟩ := gL_drop _ _ _ y hy
    exact h.ba x hx' j h1 h3
  ba := fun x hx' j h1 h2 => by
    rcases List.mem_append.mp hx' with q | q
    · exact h.ba x q j (by omega) h2
    · obtain ⟨i, h3, h4, h5, rfl⟩ := gL_drop _ _ _ x q
      exact T.sa i j (by omega) h2
  bb := fun x hx' j h1 h2 => by
    rcases List.mem_append.mp hx' with q | q
    · exact h.bb x q j h1 h2
    · obtain ⟨i, h3, h4, h5, rfl⟩ := gL_drop _ _ _ x q
      exact hx i h3 h4 j h1 h2
theorem Mg.addB {la lb out : List Nat} {ia ib k : Nat} (T : Two N lt la lb) (h : Mg lt la lb out ia ib) (hk : ib + k ≤ lb.length) (hx : ∀ i, ib ≤ i → i < ib + k → ∀ j, ia ≤ j → j < la.length → lx lt (gL la j) (gL lb i) = false) :
    Mg lt la lb (out ++ (lb.drop ib).take k) ia (ib + k) where
  lea := h.lea
  leb := hk
  perm := by
    rw [take_add_drop, ← List.append_assoc]
    exact h.perm.append_right _
  srt := by
    rw [List.pairwise_append]
    refine ⟨h.srt, srt_drop T.sb _ _, fun x hx' y hy => ?_⟩
    obtain ⟨j, h1, h2, h3, rfl⟩ := gL_drop _ _ _ y hy
    exact h.bb x hx' j h1 h3
  ba := fun x hx' j h1 h2 => by
    rcases List.mem_append.mp hx' with q | q
    · exact h.ba x q j h1 h2
    · obtain ⟨i, h3, h4, h5, rfl⟩ := gL_drop _ _ _ x q
      exact hx i h3 h4 j h1 h2
  bb := fun x hx' j h1 h2 => by
    rcases List.mem_append.mp hx' with q | q
    · exact h.bb x q j (by omega) h2
    · obtain ⟨i, h3, h4, h5, rfl⟩ := gL_drop _ _ _ x q
      exact T.sb i j (by omega) h2
noncomputable abbrev arrIt (it : Array Keyed) (l : List Nat) : Array Keyed := (l.map (kas_item it)).toArray
theorem arrIt_size (it : Array Keyed) (l : List Nat) : (arrIt it l).size = l.length := by simp
theorem arrIt_ext (it : Array Keyed) (l : List Nat) (i j : Nat) : (arrIt it l).extract i j = arrIt it ((l.drop i).take (j - i)) := by
  simp [arrIt, List.map_take, List.map_drop]
theorem arrIt_app (it : Array Keyed) (l m : List Nat) : arrIt it l ++ arrIt it m = arrIt it (l ++ m) := by simp [arrIt]
theorem arrIt_push (it : Array Keyed) (l : List Nat) (x : Nat) : (arrIt it l).push (kas_item it x) = arrIt it (l ++ [x]) := by simp [arrIt]
theorem one_drop {l : List Nat} {i : Nat} (h : i < l.length) : (l.drop i).take 1 = [gL l i] := by
  rw [List.drop_eq_getElem_cons h, List.take_succ_cons, List.take_zero]
  simp [gL, h]
noncomputable def MgA (it : Array Keyed) (lt : Nat → Nat → Bool) (la lb : List Nat) (arr : Array Keyed) (ia ib : Nat) : Prop := ∃ out, arr = arrIt it out ∧ Mg lt la lb out ia ib
noncomputable def MgF (it : Array Keyed) (lt : Nat → Nat → Bool) (la lb : List Nat) (arr : Array Keyed) : Prop := ∃ out, arr = arrIt it out ∧ out.Perm (la ++ lb) ∧ out.Pairwise fun x y => lx lt y x = false
section
variable {la lb : List Nat} {arr : Array Keyed} {ia ib k : Nat}
theorem MgA.extA (T : Two N lt la lb) (h : MgA it lt la lb arr ia ib) (hk : ia + k ≤ la.length) (hx : ∀ i, ia ≤ i → i < ia + k → ∀ j, ib ≤ j → j < lb.length → lx lt (gL lb j) (gL la i) = false) : MgA it lt la lb (arr ++ (arrIt it la).extract ia (ia + k)) (ia + k) ib := by
  obtain ⟨out, rfl, h⟩ := h
  exact ⟨_, by rw [arrIt_ext, arrIt_app, show ia + k - ia = k by omega], h.addA T hk hx⟩
theorem MgA.extB (T : Two N lt la lb) (h : MgA it lt la lb arr ia ib) (hk : ib + k ≤ lb.length) (hx : ∀ i, ib ≤ i → i < ib + k → ∀ j, ia ≤ j → j < la.length → lx lt (gL la j) (gL lb i) = false) : MgA it lt la lb (arr ++ (arrIt it lb).extract ib (ib + k)) ia (ib + k) := by
  obtain ⟨out, rfl, h⟩ := h
  exact ⟨_, by rw [arrIt_ext, arrIt_app, show ib + k - ib = k by omega], h.addB T hk hx⟩
theorem MgA.pushA (T : Two N lt la lb) (h : MgA it lt la lb arr ia ib) (hk : ia < la.length) (hx : ∀ j, ib ≤ j → j < lb.length → lx lt (gL lb j) (gL la ia) = false) : MgA it lt la lb (arr.push (kas_item it (gL la ia))) (ia + 1) ib := by
  obtain ⟨out, rfl, h⟩ := h
  exact ⟨_, by rw [arrIt_push, ← one_drop hk], h.addA T (by omega) (fun i h1 h2 j h3 h4 => by rw [show i = ia by omega]; exact hx j h3 h4)⟩
theorem MgA.pushB (T : Two N lt la lb) (h : MgA it lt la lb arr ia ib) (hk : ib < lb.length) (hx : ∀ j, ia ≤ j → j < la.length → lx lt (gL la j) (gL lb ib) = false) : MgA it lt la lb (arr.push (kas_item it (gL lb ib))) ia (ib + 1) := by
  obtain ⟨out, rfl, h⟩ := h
  exact ⟨_, by rw [arrIt_push, ← one_drop hk], h.addB T (by omega) (fun i h1 h2 j h3 h4 => by rw [show i = ib by omega]; exact hx j h3 h4)⟩
theorem MgA.end (h : MgA it lt la lb arr la.length lb.length) : MgF it lt la lb arr := by
  obtain ⟨out, rfl, h⟩ := h
  refine ⟨out, rfl, ?_, h.srt⟩
  have := h.perm
  rwa [List.take_length, List.take_length] at this
theorem ext_nil (l : List Nat) (i j : Nat) (h : l.length ≤ i) : (arrIt it l).extract i j = #[] := by
  rw [arrIt_ext, List.drop_eq_nil_of_le h, List.take_nil]; rfl
theorem MgA.le (h : MgA it lt la lb arr ia ib) : ia ≤ la.length ∧ ib ≤ lb.length := by obtain ⟨_, _, h⟩ := h; exact ⟨h.lea, h.leb⟩
theorem MgA.done (T : Two N lt la lb) (h : MgA it lt la lb arr ia ib) (he : ib = lb.length ∨ ia = la.length) : MgF it lt la lb (arr ++ (arrIt it la).extract ia la.length ++ (arrIt it lb).extract ib lb.length) := by
  have hl := h.le
  rcases he with q | q
  · subst q
    have := h.extA T (k := la.length - ia) (by omega) (fun i _ _ j h3 h4 => by omega)
    rw [show ia + (la.length - ia) = la.length by omega] at this
    rw [ext_nil lb _ _ (Nat.le_refl _), Array.append_empty]
    exact this.end
  · subst q
    have := h.extB T (k := lb.length - ib) (by omega) (fun i _ _ j h3 h4 => by omega)
    rw [show ib + (lb.length - ib) = lb.length by omega] at this
    rw [ext_nil la _ _ (Nat.le_refl _), Array.append_empty]
    exact this.end
theorem MgA.lastA (T : Two N lt la lb) (h : MgA it lt la lb arr ia ib) (he : ia + 1 = la.length) : MgF it lt la lb (arr ++ (arrIt it lb).extract ib lb.length ++ (arrIt it la).extract ia la.length) := by
  have hl := h.le
  have h1 := h.extB T (k := lb.length - ib) (by omega) (fun i h1 h2 j h3 h4 => by
    rw [show j = la.length - 1 by omega]
    exact (T.ord.lx).asym _ _ (lx_of (T.last i (by omega))))
  rw [show ib + (lb.length - ib) = lb.length by omega] at h1
  have h2 := h1.extA T (k := la.length - ia) (by omega) (fun i _ _ j h3 h4 => by omega)
  rw [show ia + (la.length - ia) = la.length by omega] at h2
  exact h2.end
end
noncomputable abbrev LoG := Option (Array Keyed) × Array Keyed × Nat × Nat × Nat × Nat × Nat
/-- a number of the first run, at the end of a round -/
noncomputable def loEnd (it : Array Keyed) (la lb : List Nat) (mg ac bc : Nat) (out : Array Keyed) (ia ib : Nat) : StateT SortSt Sem (ForInStep LoG) :=
  elem' (arrIt it la) ia >>= fun x =>
  if (ia + 1 + 1 == la.length) = true then pure (.done (some (out.push x ++ (arrIt it lb).extract ib lb.length ++ (arrIt it la).extract (ia + 1) la.length), out.push x, ia + 1, ib, mg, ac, bc))
  else if (decide (ac < 7) && decide (bc < 7)) = true then pure (.done (none, out.push x, ia + 1, ib, mg, ac, bc)) else pure (.yield (none, out.push x, ia + 1, ib, mg, ac, bc))
noncomputable def loMid (it : Array Keyed) (la lb : List Nat) (mg ac m : Nat) (out : Array Keyed) (ia ib : Nat) : StateT SortSt Sem (ForInStep LoG) :=
  if m > 0 then
    if (ib + m == lb.length) = true then pure (.done (some (out ++ (arrIt it lb).extract ib (ib + m) ++ (arrIt it la).extract ia la.length ++ (arrIt it lb).extract (ib + m) lb.length), out ++ (arrIt it lb).extract ib (ib + m), ia, ib + m, mg, ac, m))
    else loEnd it la lb mg ac m (out ++ (arrIt it lb).extract ib (ib + m)) ia (ib + m)
  else loEnd it la lb mg ac m out ia ib
/-- what a round may leave -/
structure LoR (it : Array Keyed) (lt : Nat → Nat → Bool) (la lb : List Nat) (lim : Nat) (st : SortSt) (R : ForInStep LoG → SortSt → Prop) : Prop where
  don : ∀ res tl, MgF it lt la lb res → R (.done (some res, tl)) st
  brk : ∀ out ia ib mg ac bc, MgA it lt la lb out ia ib → ia + 1 < la.length → ib < lb.length → lim ≤ ia + ib → R (.done (none, out, ia, ib, mg, ac, bc)) st
  nxt : ∀ out ia ib mg ac bc, MgA it lt la lb out ia ib → ia + 1 < la.length → ib < lb.length → lim ≤ ia + ib → R (.yield (none, out, ia, ib, mg, ac, bc)) st
theorem loEnd_w {M : Model} {la lb : List Nat} {lim mg ac bc ia ib : Nat} {out : Array Keyed} {st : SortSt} {R : ForInStep LoG → SortSt → Prop} (T : Two N lt la lb) (hR : LoR it lt la lb lim st R) (hia : ia < la.length) (hib : ib < lb.length) (hl : lim ≤ ia + 1 + ib)
    (hM : MgA it lt la lb out ia ib) (hx : ∀ j, ib ≤ j → j < lb.length → lx lt (gL lb j) (gL la ia) = false) (hne : ia + 1 < la.length) : wpS M A E s (loEnd it la lb mg ac bc out ia ib) R st := by
  have hM4 := hM.pushA T hia hx
  unfold loEnd
  refine wpS_bind (elem_w hia ?_)
  refine wpS_ite (fun e => wpS_pure (hR.don _ _ (hM4.lastA T (by simpa using e)))) (fun e => ?_)
  have e' : ia + 1 + 1 < la.length := by simp at e; omega
  exact wpS_ite (fun _ => wpS_pure (hR.brk _ _ _ _ _ _ hM4 e' hib hl)) (fun _ => wpS_pure (hR.nxt _ _ _ _ _ _ hM4 e' hib hl))
theorem loMid_w {M : Model} {la lb : List Nat} {lim mg ac m ia ib : Nat} {out : Array Keyed} {st : SortSt} {R : ForInStep LoG → SortSt → Prop} (T : Two N lt la lb) (hR : LoR it lt la lb lim st R) (hib : ib < lb.length) (hl : lim ≤ ia + 1 + ib)
    (hM : MgA it lt la lb out ia ib) (hne : ia + 1 < la.length) (hm : ib + m ≤ lb.length) (h1 : ∀ i, ib ≤ i → i < ib + m → lx lt (gL lb i) (gL la ia) = true) (h2 : ∀ i, ib + m ≤ i → i < lb.length → lx lt (gL lb i) (gL la ia) = false) : wpS M A E s (loMid it la lb mg ac m out ia ib) R st := by
  have ox := T.ord.lx
  have hM3 := hM.extB T (k := m) hm (fun i a1 a2 j a3 a4 => ox.trans _ _ _ (ox.asym _ _ (h1 i a1 a2)) (T.sa ia j a3 a4))
  unfold loMid
  refine wpS_ite (fun hm0 => wpS_ite (fun e => wpS_pure (hR.don _ _ (hM3.done T (.inl (by simpa using e))))) (fun e => ?_)) (fun hm0 => ?_)
  · have e' : ib + m < lb.length := by simp at e; omega
    exact loEnd_w T hR (by omega) e' (by omega) hM3 h2 hne
  · have hm00 : m = 0 := by omega
    subst hm00
    exact loEnd_w T hR (by omega) hib hl hM h2 hne
noncomputable def loMid1 (it : Array Keyed) (la lb : List Nat) (mg ac bc : Nat) (out : Array Keyed) (ia ib : Nat) : StateT SortSt Sem (ForInStep LoG) :=
  elem' (arrIt it lb) ib >>= fun y =>
  if (ib + 1 == lb.length) = true then pure (.done (some (out.push y ++ (arrIt it la).extract ia la.length ++ (arrIt it lb).extract (ib + 1) lb.length), out.push y, ia, ib + 1, mg, ac, bc))
  else elem' (arrIt it la) ia >>= fun x => gallop' true x (arrIt it lb) (ib + 1) (lb.length - (ib + 1)) 0 >>= fun r => match r with
    | some k => loMid it la lb mg ac k (out.push y) ia (ib + 1)
    | _ => pure (.done (some (out.push y ++ (arrIt it la).extract ia la.length ++ (arrIt it lb).extract (ib + 1) lb.length), out.push y, ia, ib + 1, mg, ac, bc))
noncomputable def loRnd (it : Array Keyed) (la lb : List Nat) (ac bc : Nat) (out : Array Keyed) (ia ib mg : Nat) : StateT SortSt Sem (ForInStep LoG) :=
  setGallop mg >>= fun _ => elem' (arrIt it lb) ib >>= fun y => gallop' false y (arrIt it la) ia (la.length - ia) 0 >>= fun r => match r with
    | some k =>
      if k > 0 then
        if (ia + k + 1 == la.length) = true then pure (.done (some (out ++ (arrIt it la).extract ia (ia + k) ++ (arrIt it lb).extract ib lb.length ++ (arrIt it la).extract (ia + k) la.length), out ++ (arrIt it la).extract ia (ia + k), ia + k, ib, mg, k, bc))
        else if (ia + k == la.length) = true then pure (.done (some (out ++ (arrIt it la).extract ia (ia + k) ++ (arrIt it la).extract (ia + k) la.length ++ (arrIt it lb).extract ib lb.length), out ++ (arrIt it la).extract ia (ia + k), ia + k, ib, mg, k, bc))
        else loMid1 it la lb mg k bc (out ++ (arrIt it la).extract ia (ia + k)) (ia + k) ib
      else loMid1 it la lb mg k bc out ia ib
    | _ => pure (.done (some (out ++ (arrIt it la).extract ia la.length ++ (arrIt it lb).extract ib lb.length), out, ia, ib, mg, ac, bc))
theorem loMid1_w (hc : Asks prog w A s κ it N lt) {la lb : List Nat} {lim mg ac bc ia ib : Nat} {out : Array Keyed} {st : SortSt} {R : ForInStep LoG → SortSt → Prop} (T : Two N lt la lb) (hk : kindOf st = κ) (hR : LoR it lt la lb lim st R) (hib : ib < lb.length) (hl : lim ≤ ia + 1 + ib + 1)
    (hM0 : MgA it lt la lb out ia ib) (hia : ia + 1 < la.length) (hx : ∀ j, ia ≤ j → j < la.length → lx lt (gL la j) (gL lb ib) = false) : wpS (model prog w) A E s (loMid1 it la lb mg ac bc out ia ib) R st := by
  have ox := T.ord.lx
  have hM := hM0.pushB T hib hx
  clear hM0 hx
  unfold loMid1
  refine wpS_bind (elem_w hib ?_)
  refine wpS_ite (fun e => wpS_pure (hR.don _ _ (hM.done T (.inl (by simpa using e))))) (fun e => ?_)
  have e' : ib + 1 < lb.length := by simp at e; omega
  have hia2 : ia < la.length := by omega
  refine wpS_bind (elem_w hia2 ?_)
  refine wpS_bind (gallop_w (n := lb.length - (ib + 1)) (hint := 0) (bd := fun i => lt (gL lb (ib + 1 + i)) (gL la ia)) (fun i hi Q' hQ' => beyond_w (x := gL la ia) (base := ib + 1) (i := i) hc hk (T.na ia hia2) (by omega) (T.nb _ (by omega)) (by simpa using hQ')) (fun i j hij hj h => ?_) (by omega) fun m hm hm1 hm2 => ?_)
  · cases h6 : lt (gL lb (ib + 1 + i)) (gL la ia) with
    | true => rfl
    | false =>
      rw [← T.ask hia2 (by omega)] at h6
      have := ox.trans _ _ _ h6 (T.sb (ib + 1 + i) (ib + 1 + j) (by omega) (by omega))
      rw [T.ask hia2 (by omega)] at this
      rw [this] at h; cases h
  exact loMid_w T hR e' (by omega) hM hia (by omega) (fun i h1 h2 => by
      have := hm1 (i - (ib + 1)) (by omega)
      rw [show ib + 1 + (i - (ib + 1)) = i by omega] at this
      exact lx_of this) (fun i h1 h2 => by
      rw [T.ask hia2 h2]
      have := hm2 (i - (ib + 1)) (by omega) (by omega)
      rw [show ib + 1 + (i - (ib + 1)) = i by omega] at this
      exact this)
theorem loRnd_w (hc : Asks prog w A s κ it N lt) {la lb : List Nat} {lim ac bc ia ib mg g : Nat} {ar : Array Keyed} {pend : Array (Nat × Nat × Nat)} {out : Array Keyed} {R : ForInStep LoG → SortSt → Prop} (T : Two N lt la lb) (hR : LoR it lt la lb lim (SortSt.mk' κ ar pend mg none) R)
    (a1 : MgA it lt la lb out ia ib) (a2 : ia + 1 < la.length) (a3 : ib < lb.length) (hl : lim ≤ ia + ib + 1) : wpS (model prog w) A E s (loRnd it la lb ac bc out ia ib mg) R (SortSt.mk' κ ar pend g none) := by
  have ox := T.ord.lx
  unfold loRnd
  refine wpS_bind (setG_w ?_)
  refine wpS_bind (elem_w a3 ?_)
  refine wpS_bind (gallop_w (n := la.length - ia) (hint := 0) (bd := fun i => !lt (gL lb ib) (gL la (ia + i))) (fun i hi Q' hQ' => beyond_w (x := gL lb ib) (base := ia) (i := i) hc rfl (T.nb ib a3) (by omega) (T.na _ (by omega)) (by simpa using hQ')) (fun i j hij hj h => ?_) (by omega) fun k hk hk1 hk2 => ?_)
  · have h' : lt (gL lb ib) (gL la (ia + j)) = false := by simpa using h
    rw [← T.ask (by omega) a3] at h'
    have := ox.trans _ _ _ (T.sa (ia + i) (ia + j) (by omega) (by omega)) h'
    rw [T.ask (by omega) a3] at this
    simpa using this
  have hk1' : ∀ i, i < k → lx lt (gL lb ib) (gL la (ia + i)) = false := fun i hi => by
    rw [T.ask (by omega) a3]; simpa using hk1 i hi
  have hk2' : ∀ i, ia + k ≤ i → i < la.length → lx lt (gL lb ib) (gL la i) = true := fun i h1 h2 => by
    rw [T.ask (by omega) a3]
    have := hk2 (i - ia) (by omega) (by omega)
    rw [show ia + (i - ia) = i by omega] at this
    simpa using this
  clear hk1 hk2
  have hM1 := a1.extA T (k := k) (by omega) (fun i h1 h2 j h3 h4 => by
    have := hk1' (i - ia) (by omega)
    rw [show ia + (i - ia) = i by omega] at this
    exact ox.trans _ _ _ this (T.sb ib j h3 h4))
  refine wpS_ite (fun hk0 => wpS_ite (fun e => wpS_pure (hR.don _ _ (hM1.lastA T (by simpa using e)))) (fun e => wpS_ite (fun e2 => wpS_pure (hR.don _ _ (hM1.done T (.inr (by simpa using e2))))) (fun e2 => ?_))) (fun hk0 => ?_)
  · exact loMid1_w hc T rfl hR a3 (by omega) hM1 (by simp at e e2; omega) (fun j h1 h2 => ox.asym _ _ (hk2' j h1 h2))
  · exact loMid1_w hc T rfl hR a3 (by omega) a1 a2 (fun j h1 h2 => ox.asym _ _ (hk2' j (by omega) h2))
theorem mergeLo_w (hc : Asks prog w A s κ it N lt) {la lb : List Nat} {ar : Array Keyed} {pend : Array (Nat × Nat × Nat)} {g : Nat} {Q : Array Keyed → SortSt → Prop} (T : Two N lt la lb)
    (hq : ∀ res g', MgF it lt la lb res → Q res (SortSt.mk' κ ar pend g' none)) : wpS (model prog w) A E s (mergeLo' (arrIt it la) (arrIt it lb)) Q (SortSt.mk' κ ar pend g none) := by
  have ox := T.ord.lx
  rw [mergeLo'_eq]
  rw [arrIt_size, arrIt_size]
  refine wpS_bind (wpS_lift (wpAny_rule ⟨rfl, ?_⟩))
  refine wpS_bind (elem_w T.hb ?_)
  have h0 : MgA it lt la lb #[kas_item it (gL lb 0)] 0 1 := by
    have e : MgA it lt la lb #[] 0 0 := ⟨[], rfl, ⟨Nat.zero_le _, Nat.zero_le _, by simp, List.Pairwise.nil, fun x hx => (by cases hx), fun x hx => (by cases hx)⟩⟩
    exact e.pushB T T.hb (fun j h1 h2 => ox.trans _ _ _ (ox.asym _ _ (lx_of T.first)) (T.sa 0 j (Nat.zero_le _) h2))
  refine wpS_ite (fun h1 => wpS_pure (hq _ _ (h0.done T (.inl (by simpa using h1))))) (fun h1 => ?_)
  refine wpS_ite (fun h2 => wpS_pure (hq _ _ (h0.lastA T (by simpa using h2)))) (fun h2 => ?_)
  refine wpS_bind (wpS_get ?_)
  have i1 : 0 + 1 < la.length := by have := T.ha; simp at h2; omega
  have i2 : 1 < lb.length := by have := T.hb; simp at h1; omega
  refine wpS_bind (wpS_mono (wpS_forRange
    (I := fun x c st' => ∃ g out ia ib mg, c = (none, out, ia, ib, mg) ∧ st' = SortSt.mk' κ ar pend g none ∧ MgA it lt la lb out ia ib ∧ ia + 1 < la.length ∧ ib < lb.length ∧ x + 1 ≤ ia + ib)
    (Q := fun c st' => ∃ g res x, c = (some res, x) ∧ st' = SortSt.mk' κ ar pend g none ∧ MgF it lt la lb res) ?step ?fin ⟨_, _, 0, 1, _, rfl, rfl, h0, i1, i2, Nat.le_refl 1⟩) ?post)
  case post =>
    rintro c st' ⟨g, res, x, rfl, rfl, hf⟩
    exact wpS_pure (hq _ _ hf)
  case fin =>
    rintro c st' ⟨g, out, ia, ib, mg, rfl, rfl, a1, a2, a3, a4⟩
    omega
  case step =>
    rintro x c st' z0 hx ⟨g0, out0, ia0, ib0, mg0, rfl, rfl, o1, o2, o3, o4⟩
    clear h0 h1 h2 i1 i2 z0
    refine wpS_bind (wpS_mono (wpS_forRange
      (I := fun y c st' => ∃ g out ia ib ac bc, c = (none, out, ia, ib, ac, bc) ∧ st' = SortSt.mk' κ ar pend g none ∧ MgA it lt la lb out ia ib ∧ ia + 1 < la.length ∧ ib < lb.length ∧ x + 1 ≤ ia + ib)
      (Q := fun c st' => (∃ g res y, c = (some res, y) ∧ st' = SortSt.mk' κ ar pend g none ∧ MgF it lt la lb res) ∨ (∃ g out ia ib ac bc, c = (none, out, ia, ib, ac, bc) ∧ st' = SortSt.mk' κ ar pend g none ∧ MgA it lt la lb out ia ib ∧ ia + 1 < la.length ∧ ib < lb.length ∧ x + 1 ≤ ia + ib))
      ?step1 (fun c st' h => .inr h) ⟨g0, out0, ia0, ib0, 0, 0, rfl, rfl, o1, o2, o3, o4⟩) ?post1)
    case step1 =>
      rintro y c st' z1 hy ⟨g, out, ia, ib, ac, bc, rfl, rfl, a1, a2, a3, a4⟩
      clear hx hy z1 o1 o2 o3 o4
      refine wpS_bind (elem_w (i := ib) a3 ?_)
      refine wpS_bind (elem_w (i := ia) (by omega) ?_)
      refine wpS_bind (lt_w hc rfl (T.nb ib a3) (T.na ia (by omega)) ?_)
      refine wpS_ite (fun hw => ?_) (fun hw => ?_)
      · have hM := a1.pushB T a3 (fun j h1 h2 => ox.trans _ _ _ (ox.asym _ _ (lx_of hw)) (T.sa ia j h1 h2))
        refine wpS_bind (elem_w (i := ib) a3 ?_)
        refine wpS_ite (fun e => wpS_pure (.inl ⟨_, _, _, rfl, rfl, hM.done T (.inl (by simpa using e))⟩)) (fun e => ?_)
        have e' : ib + 1 < lb.length := by simp at e; omega
        exact wpS_ite (fun _ => wpS_pure (.inr ⟨_, _, ia, ib + 1, _, _, rfl, rfl, hM, a2, e', by omega⟩)) (fun _ => wpS_pure ⟨_, _, ia, ib + 1, _, _, rfl, rfl, hM, a2, e', by omega⟩)
      · have hw' : lt (gL lb ib) (gL la ia) = false := by simpa using hw
        have hM := a1.pushA T (by omega) (fun j h1 h2 => ox.trans _ _ _ ((T.ask (by omega) a3).trans hw') (T.sb ib j h1 h2))
        refine wpS_bind (elem_w (i := ia) (by omega) ?_)
        refine wpS_ite (fun e => wpS_pure (.inl ⟨_, _, _, rfl, rfl, hM.lastA T (by simpa using e)⟩)) (fun e => ?_)
        have e' : ia + 1 + 1 < la.length := by simp at e; omega
        exact wpS_ite (fun _ => wpS_pure (.inr ⟨_, _, ia + 1, ib, _, _, rfl, rfl, hM, e', a3, by omega⟩)) (fun _ => wpS_pure ⟨_, _, ia + 1, ib, _, _, rfl, rfl, hM, e', a3, by omega⟩)
    case post1 =>
      rintro c st' (⟨g, res, y, rfl, rfl, hf⟩ | ⟨g, out, ia, ib, ac, bc, rfl, rfl, b1, b2, b3, b4⟩)
      · exact wpS_pure ⟨_, _, _, rfl, rfl, hf⟩
      refine wpS_bind (wpS_lift (wpAny_rule ⟨rfl, ?_⟩))
      refine wpS_bind (wpS_mono (wpS_forRange
        (I := fun y c st' => ∃ g out ia ib mg ac bc, c = (none, out, ia, ib, mg, ac, bc) ∧ st' = SortSt.mk' κ ar pend g none ∧ MgA it lt la lb out ia ib ∧ ia + 1 < la.length ∧ ib < lb.length ∧ x + 1 ≤ ia + ib ∧ (0 < y → x + 1 + 1 ≤ ia + ib))
        (Q := fun c st' => (∃ g res y, c = (some res, y) ∧ st' = SortSt.mk' κ ar pend g none ∧ MgF it lt la lb res) ∨ (∃ g out ia ib mg ac bc, c = (none, out, ia, ib, mg, ac, bc) ∧ st' = SortSt.mk' κ ar pend g none ∧ MgA it lt la lb out ia ib ∧ ia + 1 < la.length ∧ ib < lb.length ∧ x + 1 + 1 ≤ ia + ib))
        ?step2 ?fin2 ⟨g, out, ia, ib, _, ac, bc, rfl, rfl, b1, b2, b3, b4, fun h => absurd h (Nat.lt_irrefl _)⟩) ?post2)
      case fin2 =>
        rintro c st' ⟨g, out, ia, ib, mg, ac, bc, rfl, rfl, a1, a2, a3, a4, a5⟩
        exact .inr ⟨_, _, _, _, _, _, _, rfl, rfl, a1, a2, a3, a5 (by omega)⟩
      case post2 =>
        rintro c st' (⟨g, res, y, rfl, rfl, hf⟩ | ⟨g, out, ia, ib, mg, ac, bc, rfl, rfl, b1, b2, b3, b4⟩)
        · exact wpS_pure ⟨_, _, _, rfl, rfl, hf⟩
        · exact wpS_bind (setG_w (wpS_pure ⟨_, _, _, _, _, rfl, rfl, b1, b2, b3, b4⟩))
      case step2 =>
        rintro y c st' z1 hy ⟨g, out, ia, ib, mg, ac, bc, rfl, rfl, a1, a2, a3, a4, -⟩
        clear hx hy z1 o1 o2 o3 o4 b1 b2 b3 b4
        refine wpS_ite_fun (fun mg => loRnd it la lb ac bc out ia ib mg) (fun mg' => ?_)
        exact loRnd_w (lim := x + 1 + 1) hc T ⟨fun res tl hf => .inl ⟨_, _, _, rfl, rfl, hf⟩, fun out ia ib mg ac bc m1 m2 m3 m4 => .inr ⟨_, _, _, _, _, _, _, rfl, rfl, m1, m2, m3, m4⟩, fun out ia ib mg ac bc m1 m2 m3 m4 => ⟨_, _, _, _, _, _, _, rfl, rfl, m1, m2, m3, Nat.le_of_succ_le m4, fun _ => m4⟩⟩ a1 a2 a3 (by omega)
end
end Mine

set_option maxHeartbeats 1000000
namespace Mine
open PySem PySem.W PyProof.Rows

theorem mergeHi'_eq (a b : Array Keyed) : mergeHi' a b = (do
  rule "list.sort.merge-hi"
  let total := a.size + b.size
  let done (out : Array Keyed) (na nb : Nat) := a.extract 0 na ++ b.extract 0 nb ++ out.reverse
  let firstOfB (out : Array Keyed) (na nb : Nat) := b.extract 0 nb ++ a.extract 0 na ++ out.reverse
  let mut na := a.size - 1
  let mut nb := b.size
  let mut out : Array Keyed := #[← elem' a na]
  if na == 0 then return done out na nb
  if nb == 1 then return firstOfB out na nb
  let mut minGallop := gallopOf (← get)
  for _ in [0:total] do
    let mut acount := 0
    let mut bcount := 0
    for _ in [0:total] do
      let some aWins ← lt' (← elem' b (nb - 1)) (← elem' a (na - 1)) | return done out na nb
      if aWins then
        na := na - 1; out := out.push (← elem' a na); acount := acount + 1; bcount := 0
        if na == 0 then return done out na nb
        if acount ≥ minGallop then break
      else
        nb := nb - 1; out := out.push (← elem' b nb); bcount := bcount + 1; acount := 0
        if nb == 1 then return firstOfB out na nb
        if bcount ≥ minGallop then break
    rule "list.sort.gallop"
    minGallop := minGallop + 1
    for _ in [0:total] do
      if minGallop > 1 then minGallop := minGallop - 1
      setGallop minGallop
      let some at_ ← gallop' false (← elem' b (nb - 1)) a 0 na (na - 1) | return done out na nb
      let k := na - at_
      acount := k
      if k > 0 then
        out := out ++ (a.extract at_ na).reverse; na := at_
        if na == 0 then return done out na nb
      nb := nb - 1; out := out.push (← elem' b nb)
      if nb == 1 then return firstOfB out na nb
      let some at_ ← gallop' true (← elem' a (na - 1)) b 0 nb (nb - 1) | return done out na nb
      let k := nb - at_
      bcount := k
      if k > 0 then
        out := out ++ (b.extract at_ nb).reverse; nb := at_
        if nb == 1 then return firstOfB out na nb
        if nb == 0 then return done out na nb
      na := na - 1; out := out.push (← elem' a na)
      if na == 0 then return done out na nb
      if acount < 7 && bcount < 7 then break
    minGallop := minGallop + 1
    setGallop minGallop
  unsupported "internal:list.sort.merge-bound") := rfl

section
variable {prog : Program} {w : World} {A : Around} {E : Value → Shared → Prop} {s : Shared} {κ : SortKind} {it : Array Keyed} {N : Nat} {lt : Nat → Nat → Bool}
structure Mh (lt : Nat → Nat → Bool) (la lb : List Nat) (suf : List Nat) (na nb : Nat) : Prop where
  lea : na ≤ la.length
  leb : nb ≤ lb.length
  perm : suf.Perm (la.drop na ++ lb.drop nb)
  srt : suf.Pairwise fun x y => lx lt y x = false
  ba : ∀ x ∈ suf, ∀ j, j < na → lx lt x (gL la j) = false
  bb : ∀ x ∈ suf, ∀ j, j < nb → lx lt x (gL lb j) = false
theorem drop_seg (l : List Nat) (m n : Nat) (h : m ≤ n) : l.drop m = (l.drop m).take (n - m) ++ l.drop n := by
  have := (List.take_append_drop (n - m) (l.drop m)).symm
  rw [List.drop_drop, show m + (n - m) = n by omega] at this
  exact this
theorem Mh.addA {la lb suf : List Nat} {na nb m : Nat} (T : Two N lt la lb) (h : Mh lt la lb suf na nb) (hm : m ≤ na) (hx : ∀ i, m ≤ i → i < na → ∀ j, j < nb → lx lt (gL la i) (gL lb j) = false) :
    Mh lt la lb ((la.drop m).take (na - m) ++ suf) m nb where
  lea := by have := h.lea; omega
  leb := h.leb
  perm := by
    have e := drop_seg la m na hm
    refine ((h.perm.append_left _).trans ?_)
    rw [← List.append_assoc, ← e]
  srt := by
    rw [List.pairwise_append]
    refine ⟨srt_drop T.sa _ _, h.srt, fun x hx' y hy => ?_⟩
    obtain ⟨j, h1, h2, h3, rfl⟩ := gL_drop _ _ _ x hx'
    exact h.ba y hy j (by omega)
  ba := fun x hx' j h1 => by
    rcases List.mem_append.mp hx' with q | q
    · obtain ⟨i, h3, h4, h5, rfl⟩ := gL_drop _ _ _ x q
      exact T.sa j i (by omega) h5
    · exact h.ba x q j (by omega)
  bb := fun x hx' j h1 => by
    rcases List.mem_append.mp hx' with q | q
    · obtain ⟨i, h3, h4, h5, rfl⟩ := gL_drop _ _ _ x q
      exact hx i h3 (by omega) j h1
    · exact h.bb x q j h1
theorem Mh.addB {la lb suf : List Nat} {na nb m : Nat} (T : Two N lt la lb) (h : Mh lt la lb suf na nb) (hm : m ≤ nb) (hx : ∀ i, m ≤ i → i < nb → ∀ j, j < na → lx lt (gL lb i) (gL la j) = false) :
    Mh lt la lb ((lb.drop m).take (nb - m) ++ suf) na m where
  lea := h.lea
  leb := by have := h.leb; omega
  perm := by
    have e := drop_seg lb m nb hm
    have h1 : (la.drop na ++ lb.drop m) = la.drop na ++ ((lb.drop m).take (nb - m) ++ lb.drop nb) := by rw [← e]
    rw [h1]
    refine (h.perm.append_left _).trans ?_
    rw [← List.append_assoc, ← List.append_assoc]
    exact List.Perm.append_right _ List.perm_append_comm
  srt := by
    rw [List.pairwise_append]
    refine ⟨srt_drop T.sb _ _, h.srt, fun x hx' y hy => ?_⟩
    obtain ⟨j, h1, h2, h3, rfl⟩ := gL_drop _ _ _ x hx'
    exact h.bb y hy j (by omega)
  ba := fun x hx' j h1 => by
    rcases List.mem_append.mp hx' with q | q
    · obtain ⟨i, h3, h4, h5, rfl⟩ := gL_drop _ _ _ x q
      exact hx i h3 (by omega) j h1
    · exact h.ba x q j h1
  bb := fun x hx' j h1 => by
    rcases List.mem_append.mp hx' with q | q
    · obtain ⟨i, h3, h4, h5, rfl⟩ := gL_drop _ _ _ x q
      exact T.sb j i (by omega) h5
    · exact h.bb x q j (by omega)
theorem arrIt_rev (it : Array Keyed) (l : List Nat) : (arrIt it l).reverse = arrIt it l.reverse := by simp [arrIt]
noncomputable def MhA (it : Array Keyed) (lt : Nat → Nat → Bool) (la lb : List Nat) (arr : Array Keyed) (na nb : Nat) : Prop := ∃ suf, arr = arrIt it suf.reverse ∧ Mh lt la lb suf na nb
section
variable {la lb : List Nat} {arr : Array Keyed} {na nb m : Nat}
theorem MhA.le (h : MhA it lt la lb arr na nb) : na ≤ la.length ∧ nb ≤ lb.length := by obtain ⟨_, _, h⟩ := h; exact ⟨h.lea, h.leb⟩
theorem MhA.extA (T : Two N lt la lb) (h : MhA it lt la lb arr na nb) (hm : m ≤ na) (hx : ∀ i, m ≤ i → i < na → ∀ j, j < nb → lx lt (gL la i) (gL lb j) = false) : MhA it lt la lb (arr ++ ((arrIt it la).extract m na).reverse) m nb := by
  obtain ⟨suf, rfl, h⟩ := h
  exact ⟨_, by rw [arrIt_ext, arrIt_rev, arrIt_app, List.reverse_append], h.addA T hm hx⟩
theorem MhA.extB (T : Two N lt la lb) (h : MhA it lt la lb arr na nb) (hm : m ≤ nb) (hx : ∀ i, m ≤ i → i < nb → ∀ j, j < na → lx lt (gL lb i) (gL la j) = false) : MhA it lt la lb (arr ++ ((arrIt it lb).extract m nb).reverse) na m := by
  obtain ⟨suf, rfl, h⟩ := h
  exact ⟨_, by rw [arrIt_ext, arrIt_rev, arrIt_app, List.reverse_append], h.addB T hm hx⟩
theorem MhA.pushA (T : Two N lt la lb) (h : MhA it lt la lb arr na nb) (h0 : 0 < na) (hx : ∀ j, j < nb → lx lt (gL la (na - 1)) (gL lb j) = false) : MhA it lt la lb (arr.push (kas_item it (gL la (na - 1)))) (na - 1) nb := by
  have hl := h.le
  obtain ⟨suf, rfl, h⟩ := h
  refine ⟨_, ?_, h.addA T (m := na - 1) (by omega) (fun i h1 h2 j h3 => by rw [show i = na - 1 by omega]; exact hx j h3)⟩
  rw [show na - (na - 1) = 1 by omega, one_drop (by omega), List.reverse_append, List.reverse_singleton, arrIt_push]
theorem MhA.pushB (T : Two N lt la lb) (h : MhA it lt la lb arr na nb) (h0 : 0 < nb) (hx : ∀ j, j < na → lx lt (gL lb (nb - 1)) (gL la j) = false) : MhA it lt la lb (arr.push (kas_item it (gL lb (nb - 1)))) na (nb - 1) := by
  have hl := h.le
  obtain ⟨suf, rfl, h⟩ := h
  refine ⟨_, ?_, h.addB T (m := nb - 1) (by omega) (fun i h1 h2 j h3 => by rw [show i = nb - 1 by omega]; exact hx j h3)⟩
  rw [show nb - (nb - 1) = 1 by omega, one_drop (by omega), List.reverse_append, List.reverse_singleton, arrIt_push]
theorem MhA.done (T : Two N lt la lb) (h : MhA it lt la lb arr na nb) (he : na = 0 ∨ nb = 0) : MgF it lt la lb ((arrIt it la).extract 0 na ++ (arrIt it lb).extract 0 nb ++ arr.reverse) := by
  obtain ⟨suf, rfl, h⟩ := h
  rw [arrIt_rev, List.reverse_reverse, arrIt_ext, arrIt_ext, arrIt_app, arrIt_app]
  have h1 := h.addB T (m := 0) (Nat.zero_le _) (fun i h1 h2 j h3 => by omega)
  have h2 := h1.addA T (m := 0) (Nat.zero_le _) (fun i h1 h2 j h3 => by omega)
  refine ⟨_, rfl, ?_, ?_⟩
  · have := h2.perm
    rw [List.drop_zero, List.drop_zero] at this
    rw [List.drop_zero, List.drop_zero, List.append_assoc]; exact this
  · have := h2.srt
    rw [List.append_assoc]; exact this
theorem MhA.firstB (T : Two N lt la lb) (h : MhA it lt la lb arr na nb) (he : nb = 1) : MgF it lt la lb ((arrIt it lb).extract 0 nb ++ (arrIt it la).extract 0 na ++ arr.reverse) := by
  have ox := T.ord.lx
  have hl := h.le
  obtain ⟨suf, rfl, h⟩ := h
  rw [arrIt_rev, List.reverse_reverse, arrIt_ext, arrIt_ext, arrIt_app, arrIt_app]
  subst he
  have h1 := h.addA T (m := 0) (Nat.zero_le _) (fun i h1 h2 j h3 => by
    rw [show j = 0 by omega]
    exact ox.trans _ _ _ (ox.asym _ _ (lx_of T.first)) (T.sa 0 i (Nat.zero_le _) (by omega)))
  have h2 := h1.addB T (m := 0) (Nat.zero_le _) (fun i h1 h2 j h3 => by omega)
  refine ⟨_, rfl, ?_, ?_⟩
  · have := h2.perm
    rw [List.drop_zero, List.drop_zero] at this
    rw [List.drop_zero, List.drop_zero, List.append_assoc]; exact this
  · have := h2.srt
    rw [List.append_assoc]; exact this
end
noncomputable abbrev HiG := Option (Array Keyed) × Nat × Nat × Array Keyed × Nat × Nat × Nat
noncomputable def hiEnd (it : Array Keyed) (la lb : List Nat) (mg ac bc : Nat) (na nb : Nat) (out : Array Keyed) : StateT SortSt Sem (ForInStep HiG) :=
  elem' (arrIt it la) (na - 1) >>= fun x =>
  if (na - 1 == 0) = true then pure (.done (some ((arrIt it la).extract 0 (na - 1) ++ (arrIt it lb).extract 0 nb ++ (out.push x).reverse), na - 1, nb, out.push x, mg, ac, bc))
  else if (decide (ac < 7) && decide (bc < 7)) = true then pure (.done (none, na - 1, nb, out.push x, mg, ac, bc)) else pure (.yield (none, na - 1, nb, out.push x, mg, ac, bc))
noncomputable def hiMid (it : Array Keyed) (la lb : List Nat) (mg ac m : Nat) (na nb : Nat) (out : Array Keyed) : StateT SortSt Sem (ForInStep HiG) :=
  if nb - m > 0 then
    if (m == 1) = true then pure (.done (some ((arrIt it lb).extract 0 m ++ (arrIt it la).extract 0 na ++ (out ++ ((arrIt it lb).extract m nb).reverse).reverse), na, m, out ++ ((arrIt it lb).extract m nb).reverse, mg, ac, nb - m))
    else if (m == 0) = true then pure (.done (some ((arrIt it la).extract 0 na ++ (arrIt it lb).extract 0 m ++ (out ++ ((arrIt it lb).extract m nb).reverse).reverse), na, m, out ++ ((arrIt it lb).extract m nb).reverse, mg, ac, nb - m))
    else hiEnd it la lb mg ac (nb - m) na m (out ++ ((arrIt it lb).extract m nb).reverse)
  else hiEnd it la lb mg ac (nb - m) na nb out
noncomputable def hiMid1 (it : Array Keyed) (la lb : List Nat) (mg ac bc : Nat) (na nb : Nat) (out : Array Keyed) : StateT SortSt Sem (ForInStep HiG) :=
  elem' (arrIt it lb) (nb - 1) >>= fun y =>
  if (nb - 1 == 1) = true then pure (.done (some ((arrIt it lb).extract 0 (nb - 1) ++ (arrIt it la).extract 0 na ++ (out.push y).reverse), na, nb - 1, out.push y, mg, ac, bc))
  else elem' (arrIt it la) (na - 1) >>= fun x => gallop' true x (arrIt it lb) 0 (nb - 1) (nb - 1 - 1) >>= fun r => match r with
    | some m => hiMid it la lb mg ac m na (nb - 1) (out.push y)
    | _ => pure (.done (some ((arrIt it la).extract 0 na ++ (arrIt it lb).extract 0 (nb - 1) ++ (out.push y).reverse), na, nb - 1, out.push y, mg, ac, bc))
noncomputable def hiRnd (it : Array Keyed) (la lb : List Nat) (ac bc : Nat) (na nb : Nat) (out : Array Keyed) (mg : Nat) : StateT SortSt Sem (ForInStep HiG) :=
  setGallop mg >>= fun _ => elem' (arrIt it lb) (nb - 1) >>= fun y => gallop' false y (arrIt it la) 0 na (na - 1) >>= fun r => match r with
    | some k =>
      if na - k > 0 then
        if (k == 0) = true then pure (.done (some ((arrIt it la).extract 0 k ++ (arrIt it lb).extract 0 nb ++ (out ++ ((arrIt it la).extract k na).reverse).reverse), k, nb, out ++ ((arrIt it la).extract k na).reverse, mg, na - k, bc))
        else hiMid1 it la lb mg (na - k) bc k nb (out ++ ((arrIt it la).extract k na).reverse)
      else hiMid1 it la lb mg (na - k) bc na nb out
    | _ => pure (.done (some ((arrIt it la).extract 0 na ++ (arrIt it lb).extract 0 nb ++ out.reverse), na, nb, out, mg, ac, bc))
structure HiR (it : Array Keyed) (lt : Nat → Nat → Bool) (la lb : List Nat) (lim : Nat) (st : SortSt) (R : ForInStep HiG → SortSt → Prop) : Prop where
  don : ∀ res tl, MgF it lt la lb res → R (.done (some res, tl)) st
  brk : ∀ na nb out mg ac bc, MhA it lt la lb out na nb → 0 < na → 1 < nb → na + nb ≤ lim → R (.done (none, na, nb, out, mg, ac, bc)) st
  nxt : ∀ na nb out mg ac bc, MhA it lt la lb out na nb → 0 < na → 1 < nb → na + nb ≤ lim → R (.yield (none, na, nb, out, mg, ac, bc)) st
theorem hiEnd_w {M : Model} {la lb : List Nat} {lim mg ac bc na nb : Nat} {out : Array Keyed} {st : SortSt} {R : ForInStep HiG → SortSt → Prop} (T : Two N lt la lb) (hR : HiR it lt la lb lim st R) (hna : 0 < na) (hnb : 1 < nb) (hl : na - 1 + nb ≤ lim)
    (hM : MhA it lt la lb out na nb) (hx : ∀ j, j < nb → lx lt (gL la (na - 1)) (gL lb j) = false) : wpS M A E s (hiEnd it la lb mg ac bc na nb out) R st := by
  have hle := hM.le
  have hM4 := hM.pushA T hna hx
  unfold hiEnd
  refine wpS_bind (elem_w (by omega) ?_)
  refine wpS_ite (fun e => wpS_pure (hR.don _ _ (hM4.done T (.inl (by simpa using e))))) (fun e => ?_)
  have e' : 0 < na - 1 := by simp at e; omega
  exact wpS_ite (fun _ => wpS_pure (hR.brk _ _ _ _ _ _ hM4 e' hnb hl)) (fun _ => wpS_pure (hR.nxt _ _ _ _ _ _ hM4 e' hnb hl))
theorem hiMid_w {M : Model} {la lb : List Nat} {lim mg ac m na nb : Nat} {out : Array Keyed} {st : SortSt} {R : ForInStep HiG → SortSt → Prop} (T : Two N lt la lb) (hR : HiR it lt la lb lim st R) (hna : 0 < na) (hnb : 1 < nb) (hl : na - 1 + nb ≤ lim)
    (hM : MhA it lt la lb out na nb) (hm : m ≤ nb) (h1 : ∀ i, i < m → lx lt (gL lb i) (gL la (na - 1)) = true) (h2 : ∀ i, m ≤ i → i < nb → lx lt (gL lb i) (gL la (na - 1)) = false) : wpS M A E s (hiMid it la lb mg ac m na nb out) R st := by
  have ox := T.ord.lx
  have hle := hM.le
  have hM3 := hM.extB T (m := m) hm (fun i a1 a2 j a3 => ox.trans _ _ _ (T.sa j (na - 1) (by omega) (by omega)) (h2 i a1 a2))
  unfold hiMid
  refine wpS_ite (fun hm0 => wpS_ite (fun e => wpS_pure (hR.don _ _ (hM3.firstB T (by simpa using e)))) (fun e => wpS_ite (fun e2 => wpS_pure (hR.don _ _ (hM3.done T (.inr (by simpa using e2))))) (fun e2 => ?_))) (fun hm0 => ?_)
  · exact hiEnd_w T hR hna (by simp at e e2; omega) (by omega) hM3 (fun j a1 => ox.asym _ _ (h1 j a1))
  · exact hiEnd_w T hR hna hnb hl hM (fun j a1 => ox.asym _ _ (h1 j (by omega)))
theorem hiMid1_w (hc : Asks prog w A s κ it N lt) {la lb : List Nat} {lim mg ac bc na nb : Nat} {out : Array Keyed} {st : SortSt} {R : ForInStep HiG → SortSt → Prop} (T : Two N lt la lb) (hk : kindOf st = κ) (hR : HiR it lt la lb lim st R) (hna : 0 < na) (hnb : 1 < nb) (hl : na - 1 + (nb - 1) ≤ lim)
    (hM0 : MhA it lt la lb out na nb) (hx : ∀ j, j < na → lx lt (gL lb (nb - 1)) (gL la j) = false) : wpS (model prog w) A E s (hiMid1 it la lb mg ac bc na nb out) R st := by
  have ox := T.ord.lx
  have hle := hM0.le
  have hM := hM0.pushB T (by omega) hx
  clear hM0 hx
  unfold hiMid1
  refine wpS_bind (elem_w (by omega) ?_)
  refine wpS_ite (fun e => wpS_pure (hR.don _ _ (hM.firstB T (by simpa using e)))) (fun e => ?_)
  have e' : 1 < nb - 1 := by simp at e; omega
  have hk2 : na - 1 < la.length := by omega
  refine wpS_bind (elem_w hk2 ?_)
  refine wpS_bind (gallop_w (n := nb - 1) (hint := nb - 1 - 1) (bd := fun i => lt (gL lb i) (gL la (na - 1))) (fun i hi Q' hQ' => beyond_w (x := gL la (na - 1)) (base := 0) (i := i) hc hk (T.na _ hk2) (by omega) (T.nb _ (by omega)) (by simpa using hQ')) (fun i j hij hj h => ?_) (by omega) fun m hm hm1 hm2 => ?_)
  · cases h6 : lt (gL lb i) (gL la (na - 1)) with
    | true => rfl
    | false =>
      rw [← T.ask hk2 (by omega)] at h6
      have := ox.trans _ _ _ h6 (T.sb i j (by omega) (by omega))
      rw [T.ask hk2 (by omega)] at this
      rw [this] at h; cases h
  exact hiMid_w T hR hna e' hl hM hm (fun i h1 => lx_of (hm1 i h1)) (fun i h1 h2 => by
      rw [T.ask hk2 (by omega)]
      exact hm2 i h1 h2)
theorem hiRnd_w (hc : Asks prog w A s κ it N lt) {la lb : List Nat} {lim ac bc na nb mg g : Nat} {ar : Array Keyed} {pend : Array (Nat × Nat × Nat)} {out : Array Keyed} {R : ForInStep HiG → SortSt → Prop} (T : Two N lt la lb) (hR : HiR it lt la lb lim (SortSt.mk' κ ar pend mg none) R)
    (a1 : MhA it lt la lb out na nb) (a2 : 0 < na) (a3 : 1 < nb) (hl : na + nb ≤ lim + 1) : wpS (model prog w) A E s (hiRnd it la lb ac bc na nb out mg) R (SortSt.mk' κ ar pend g none) := by
  have ox := T.ord.lx
  have hle := a1.le
  unfold hiRnd
  have hnb : nb - 1 < lb.length := by omega
  refine wpS_bind (setG_w ?_)
  refine wpS_bind (elem_w hnb ?_)
  refine wpS_bind (gallop_w (n := na) (hint := na - 1) (bd := fun i => !lt (gL lb (nb - 1)) (gL la i)) (fun i hi Q' hQ' => beyond_w (x := gL lb (nb - 1)) (base := 0) (i := i) hc rfl (T.nb (nb - 1) hnb) (by omega) (T.na _ (by omega)) (by simpa using hQ')) (fun i j hij hj h => ?_) (by omega) fun k hk hk1 hk2 => ?_)
  · have h' : lt (gL lb (nb - 1)) (gL la j) = false := by simpa using h
    rw [← T.ask (by omega) hnb] at h'
    have := ox.trans _ _ _ (T.sa i j (by omega) (by omega)) h'
    rw [T.ask (by omega) hnb] at this
    simpa using this
  have hk1' : ∀ i, i < k → lx lt (gL lb (nb - 1)) (gL la i) = false := fun i hi => by
    rw [T.ask (by omega) hnb]; simpa using hk1 i hi
  have hk2' : ∀ i, k ≤ i → i < na → lx lt (gL lb (nb - 1)) (gL la i) = true := fun i h1 h2 => by
    rw [T.ask (by omega) hnb]
    have := hk2 i h1 h2
    simpa using this
  clear hk1 hk2
  have hM1 := a1.extA T (m := k) hk (fun i h1 h2 j h3 => ox.trans _ _ _ (T.sb j (nb - 1) (by omega) hnb) (ox.asym _ _ (hk2' i h1 h2)))
  refine wpS_ite (fun hk0 => wpS_ite (fun e => wpS_pure (hR.don _ _ (hM1.done T (.inl (by simpa using e))))) (fun e => ?_)) (fun hk0 => ?_)
  · exact hiMid1_w hc T rfl hR (by simp at e; omega) a3 (by omega) hM1 hk1'
  · exact hiMid1_w hc T rfl hR a2 a3 (by omega) a1 (fun j h1 => hk1' j (by omega))
theorem mergeHi_w (hc : Asks prog w A s κ it N lt) {la lb : List Nat} {ar : Array Keyed} {pend : Array (Nat × Nat × Nat)} {g : Nat} {Q : Array Keyed → SortSt → Prop} (T : Two N lt la lb)
    (hq : ∀ res g', MgF it lt la lb res → Q res (SortSt.mk' κ ar pend g' none)) : wpS (model prog w) A E s (mergeHi' (arrIt it la) (arrIt it lb)) Q (SortSt.mk' κ ar pend g none) := by
  have ox := T.ord.lx
  rw [mergeHi'_eq]
  rw [arrIt_size, arrIt_size]
  have hla := T.ha
  have hlb := T.hb
  refine wpS_bind (wpS_lift (wpAny_rule ⟨rfl, ?_⟩))
  refine wpS_bind (elem_w (i := la.length - 1) (by omega) ?_)
  have h0 : MhA it lt la lb #[kas_item it (gL la (la.length - 1))] (la.length - 1) lb.length := by
    have e : MhA it lt la lb #[] la.length lb.length := ⟨[], rfl, ⟨Nat.le_refl _, Nat.le_refl _, by simp, List.Pairwise.nil, fun x hx => (by cases hx), fun x hx => (by cases hx)⟩⟩
    exact e.pushA T T.ha (fun j h1 => ox.asym _ _ (lx_of (T.last j h1)))
  refine wpS_ite (fun h1 => wpS_pure (hq _ _ (h0.done T (.inl (by simpa using h1))))) (fun h1 => ?_)
  refine wpS_ite (fun h2 => wpS_pure (hq _ _ (h0.firstB T (by simpa using h2)))) (fun h2 => ?_)
  refine wpS_bind (wpS_get ?_)
  have i1 : 0 < la.length - 1 := by simp at h1; omega
  have i2 : 1 < lb.length := by simp at h2; omega
  refine wpS_bind (wpS_mono (wpS_forRange
    (I := fun x c st' => ∃ g out na nb mg, c = (none, na, nb, out, mg) ∧ st' = SortSt.mk' κ ar pend g none ∧ MhA it lt la lb out na nb ∧ 0 < na ∧ 1 < nb ∧ x + 1 + (na + nb) ≤ la.length + lb.length)
    (Q := fun c st' => ∃ g res x, c = (some res, x) ∧ st' = SortSt.mk' κ ar pend g none ∧ MgF it lt la lb res) ?step ?fin ⟨_, _, la.length - 1, lb.length, _, rfl, rfl, h0, i1, i2, by omega⟩) ?post)
  case post =>
    rintro c st' ⟨g, res, x, rfl, rfl, hf⟩
    exact wpS_pure (hq _ _ hf)
  case fin =>
    rintro c st' ⟨g, out, na, nb, mg, rfl, rfl, a1, a2, a3, a4⟩
    omega
  case step =>
    rintro x c st' z0 hx ⟨g0, out0, na0, nb0, mg0, rfl, rfl, o1, o2, o3, o4⟩
    clear h0 h1 h2 i1 i2 z0 hla hlb
    refine wpS_bind (wpS_mono (wpS_forRange
      (I := fun y c st' => ∃ g out na nb ac bc, c = (none, na, nb, out, ac, bc) ∧ st' = SortSt.mk' κ ar pend g none ∧ MhA it lt la lb out na nb ∧ 0 < na ∧ 1 < nb ∧ x + 1 + (na + nb) ≤ la.length + lb.length)
      (Q := fun c st' => (∃ g res y, c = (some res, y) ∧ st' = SortSt.mk' κ ar pend g none ∧ MgF it lt la lb res) ∨ (∃ g out na nb ac bc, c = (none, na, nb, out, ac, bc) ∧ st' = SortSt.mk' κ ar pend g none ∧ MhA it lt la lb out na nb ∧ 0 < na ∧ 1 < nb ∧ x + 1 + (na + nb) ≤ la.length + lb.length))
      ?step1 (fun c st' h => .inr h) ⟨g0, out0, na0, nb0, 0, 0, rfl, rfl, o1, o2, o3, o4⟩) ?post1)
    case step1 =>
      rintro y c st' z1 hy ⟨g, out, na, nb, ac, bc, rfl, rfl, a1, a2, a3, a4⟩
      clear hx hy z1 o1 o2 o3 o4
      have hl := a1.le
      refine wpS_bind (elem_w (i := nb - 1) (by omega) ?_)
      refine wpS_bind (elem_w (i := na - 1) (by omega) ?_)
      refine wpS_bind (lt_w hc rfl (T.nb (nb - 1) (by omega)) (T.na (na - 1) (by omega)) ?_)
      refine wpS_ite (fun hw => ?_) (fun hw => ?_)
      · have hM := a1.pushA T a2 (fun j h1 => ox.trans _ _ _ (T.sb j (nb - 1) (by omega) (by omega)) (ox.asym _ _ (lx_of hw)))
        refine wpS_bind (elem_w (i := na - 1) (by omega) ?_)
        refine wpS_ite (fun e => wpS_pure (.inl ⟨_, _, _, rfl, rfl, hM.done T (.inl (by simpa using e))⟩)) (fun e => ?_)
        have e' : 0 < na - 1 := by simp at e; omega
        exact wpS_ite (fun _ => wpS_pure (.inr ⟨_, _, na - 1, nb, _, _, rfl, rfl, hM, e', a3, by omega⟩)) (fun _ => wpS_pure ⟨_, _, na - 1, nb, _, _, rfl, rfl, hM, e', a3, by omega⟩)
      · have hw' : lt (gL lb (nb - 1)) (gL la (na - 1)) = false := by simpa using hw
        have hM := a1.pushB T (by omega) (fun j h1 => ox.trans _ _ _ (T.sa j (na - 1) (by omega) (by omega)) ((T.ask (by omega) (by omega)).trans hw'))
        refine wpS_bind (elem_w (i := nb - 1) (by omega) ?_)
        refine wpS_ite (fun e => wpS_pure (.inl ⟨_, _, _, rfl, rfl, hM.firstB T (by simpa using e)⟩)) (fun e => ?_)
        have e' : 1 < nb - 1 := by simp at e; omega
        exact wpS_ite (fun _ => wpS_pure (.inr ⟨_, _, na, nb - 1, _, _, rfl, rfl, hM, a2, e', by omega⟩)) (fun _ => wpS_pure ⟨_, _, na, nb - 1, _, _, rfl, rfl, hM, a2, e', by omega⟩)
    case post1 =>
      rintro c st' (⟨g, res, y, rfl, rfl, hf⟩ | ⟨g, out, na, nb, ac, bc, rfl, rfl, b1, b2, b3, b4⟩)
      · exact wpS_pure ⟨_, _, _, rfl, rfl, hf⟩
      refine wpS_bind (wpS_lift (wpAny_rule ⟨rfl, ?_⟩))
      refine wpS_bind (wpS_mono (wpS_forRange
        (I := fun y c st' => ∃ g out na nb mg ac bc, c = (none, na, nb, out, mg, ac, bc) ∧ st' = SortSt.mk' κ ar pend g none ∧ MhA it lt la lb out na nb ∧ 0 < na ∧ 1 < nb ∧ x + 1 + (na + nb) ≤ la.length + lb.length ∧ (0 < y → x + 1 + 1 + (na + nb) ≤ la.length + lb.length))
        (Q := fun c st' => (∃ g res y, c = (some res, y) ∧ st' = SortSt.mk' κ ar pend g none ∧ MgF it lt la lb res) ∨ (∃ g out na nb mg ac bc, c = (none, na, nb, out, mg, ac, bc) ∧ st' = SortSt.mk' κ ar pend g none ∧ MhA it lt la lb out na nb ∧ 0 < na ∧ 1 < nb ∧ x + 1 + 1 + (na + nb) ≤ la.length + lb.length))
        ?step2 ?fin2 ⟨g, out, na, nb, _, ac, bc, rfl, rfl, b1, b2, b3, b4, fun h => absurd h (Nat.lt_irrefl _)⟩) ?post2)
      case fin2 =>
        rintro c st' ⟨g, out, na, nb, mg, ac, bc, rfl, rfl, a1, a2, a3, a4, a5⟩
        exact .inr ⟨_, _, _, _, _, _, _, rfl, rfl, a1, a2, a3, a5 (by omega)⟩
      case post2 =>
        rintro c st' (⟨g, res, y, rfl, rfl, hf⟩ | ⟨g, out, na, nb, mg, ac, bc, rfl, rfl, b1, b2, b3, b4⟩)
        · exact wpS_pure ⟨_, _, _, rfl, rfl, hf⟩
        · exact wpS_bind (setG_w (wpS_pure ⟨_, _, _, _, _, rfl, rfl, b1, b2, b3, b4⟩))
      case step2 =>
        rintro y c st' z1 hy ⟨g, out, na, nb, mg, ac, bc, rfl, rfl, a1, a2, a3, a4, -⟩
        clear hx hy z1 o1 o2 o3 o4 b1 b2 b3 b4
        refine wpS_ite_fun (fun mg => hiRnd it la lb ac bc na nb out mg) (fun mg' => ?_)
        exact hiRnd_w (lim := la.length + lb.length - (x + 1 + 1)) hc T ⟨fun res tl hf => .inl ⟨_, _, _, rfl, rfl, hf⟩, fun na nb out mg ac bc m1 m2 m3 m4 => .inr ⟨_, _, _, _, _, _, _, rfl, rfl, m1, m2, m3, by omega⟩, fun na nb out mg ac bc m1 m2 m3 m4 => ⟨_, _, _, _, _, _, _, rfl, rfl, m1, m2, m3, by omega, fun _ => by omega⟩⟩ a1 a2 a3 (by omega)
end
end Mine

set_option maxHeartbeats 1000000
namespace Mine
open PySem PySem.W PyProof.Rows

section
variable {prog : Program} {w : World} {A : Around} {E : Value → Shared → Prop} {s : Shared} {κ : SortKind} {it : Array Keyed} {N : Nat} {lt : Nat → Nat → Bool}
noncomputable abbrev sst (κ : SortKind) (it : Array Keyed) (p : Array Nat) (pend : Array (Nat × Nat × Nat)) (g : Nat) : SortSt := SortSt.mk' κ (p.map (kas_item it)) pend g none
theorem sst_get {p : Array Nat} {i : Nat} (hi : i < p.size) : (p.map (kas_item it))[i]? = some (kas_item it (gP p i)) := by
  have e : gP p i = p[i] := by simp [gP, Array.getD, hi]
  rw [e]; simp [hi]
theorem ltAt_w (hc : Asks prog w A s κ it N lt) {p : Array Nat} {pend : Array (Nat × Nat × Nat)} {g i j : Nat} {Q : Option Bool → SortSt → Prop} (hp : In N p) (hi : i < N) (hj : j < N) (hq : Q (some (lt (gP p i) (gP p j))) (sst κ it p pend g)) :
    wpS (model prog w) A E s (ltAt' i j) Q (sst κ it p pend g) := by
  rw [ltAt'_eq]
  refine wpS_bind (wpS_get ?_)
  show wpS _ _ _ _ (do let x ← elem' (p.map (kas_item it)) i; let y ← elem' (p.map (kas_item it)) j; lt' x y) Q _
  rw [elem'_eq, elem'_eq, sst_get (by rw [hp.size]; exact hi), sst_get (by rw [hp.size]; exact hj)]
  refine wpS_bind (wpS_pure (wpS_bind (wpS_pure ?_)))
  exact lt_w hc rfl (hp.bd hi) (hp.bd hj) hq
theorem rev_w {M : Model} {p : Array Nat} {pend : Array (Nat × Nat × Nat)} {g i j : Nat} {Q : Unit → SortSt → Prop} (h : Q () (sst κ it (kas_rev p i j) pend g)) : wpS M A E s (reverseSlice' i j) Q (sst κ it p pend g) := by
  rw [reverseSlice'_eq]
  refine wpS_modify ?_
  have e : mirror (p.map (kas_item it)) i j ((j - i) / 2) = (kas_rev p i j).map (kas_item it) := kas_swaps_map _ _ _ _ _
  show Q () (SortSt.mk' κ (mirror (p.map (kas_item it)) i j ((j - i) / 2)) pend g none)
  rw [e]; exact h
theorem move_w {M : Model} {p : Array Nat} {pend : Array (Nat × Nat × Nat)} {g k l : Nat} {Q : Unit → SortSt → Prop} (h : Q () (sst κ it (bubble p k (k - l)) pend g)) : wpS M A E s (moveDown' k l) Q (sst κ it p pend g) := by
  rw [moveDown'_eq]
  refine wpS_modify ?_
  have e : bubble (p.map (kas_item it)) k (k - l) = (bubble p k (k - l)).map (kas_item it) := kas_swaps_map _ _ _ _ _
  show Q () (SortSt.mk' κ (bubble (p.map (kas_item it)) k (k - l)) pend g none)
  rw [e]; exact h

/-- in order from lo to hi -/
noncomputable def SPw (r : Nat → Nat → Bool) (p : Array Nat) (lo hi : Nat) : Prop := ∀ i j, lo ≤ i → i ≤ j → j < hi → r (gP p j) (gP p i) = false
/-- falling from lo to hi -/
noncomputable def FLw (r : Nat → Nat → Bool) (p : Array Nat) (lo hi : Nat) : Prop := ∀ i j, lo ≤ i → i < j → j < hi → r (gP p j) (gP p i) = true
structure DA (lt : Nat → Nat → Bool) (N lo : Nat) (p : Array Nat) (e q : Nat) : Prop where
  dn : ∀ i j, lo ≤ i → i < j → j < e → i < e - (q + 1) → lx lt (gP p j) (gP p i) = true
  fx : Fx2 N p (e - (q + 1))
  qe : lo + q + 1 ≤ e
  eq : ∀ i, e - (q + 1) ≤ i → i < e → lt (gP p (e - 1)) (gP p i) = false ∧ lt (gP p i) (gP p (e - 1)) = false
variable {p : Array Nat} {lo e q : Nat}
theorem DA.rev (o : Ord lt) (hp : In N p) (he : e ≤ N) (h : DA lt N lo p e q) : FLw (lx lt) (kas_rev p (e - (q + 1)) e) lo e ∧ Fx2 N (kas_rev p (e - (q + 1)) e) e ∧ (∀ m, m < lo → gP (kas_rev p (e - (q + 1)) e) m = gP p m) := by
  have hq := h.qe
  have hget := rev_get (p := p) (i := e - (q + 1)) (j := e) (by rw [hp.size]; omega)
  refine ⟨fun i j hi hij hj => ?_, fun m hm hm' => by rw [hget, if_neg (by omega)]; exact h.fx m (by omega) hm', fun m hm => by rw [hget, if_neg (by omega)]⟩
  rw [hget j, hget i]
  by_cases q1 : e - (q + 1) ≤ i
  · rw [if_pos (show e - (q + 1) ≤ j ∧ j < e from ⟨by omega, hj⟩), if_pos (show e - (q + 1) ≤ i ∧ i < e from ⟨q1, by omega⟩)]
    have a := h.eq (e - (q + 1) + e - 1 - i) (by omega) (by omega)
    have b := h.eq (e - (q + 1) + e - 1 - j) (by omega) (by omega)
    refine lx_alike (o.trans _ _ _ b.1 a.2) ?_
    rw [h.fx _ (by omega) (by omega), h.fx _ (by omega) (by omega)]; omega
  · rw [if_neg (by omega : ¬ (e - (q + 1) ≤ i ∧ i < e))]
    by_cases q2 : e - (q + 1) ≤ j
    · rw [if_pos (show e - (q + 1) ≤ j ∧ j < e from ⟨q2, hj⟩)]; exact h.dn i _ hi (by omega) (by omega) (by omega)
    · rw [if_neg (show ¬ (e - (q + 1) ≤ j ∧ j < e) by omega)]; exact h.dn i j hi hij hj (by omega)
theorem DA.one (o : Ord lt) (hd : FLw (lx lt) p lo e) (hf : Fx2 N p e) (hn : lo + 1 ≤ e) (hc : lt (gP p e) (gP p (e - 1)) = true) : DA lt N lo p (e + 1) 0 where
  dn := fun i j hi hij hj hi2 => by
    by_cases q : j < e
    · exact hd i j hi hij q
    · have : j = e := by omega
      subst this
      refine lx_of ?_
      by_cases q2 : i = j - 1
      · rw [q2]; exact hc
      · have h1 := hd i (j - 1) hi (by omega) (by omega)
        cases h2 : lt (gP p j) (gP p i) with
        | true => rfl
        | false =>
          have h3 := (lx_false.mp ((o.lx).asym _ _ h1)).1
          have h8 : lt (gP p j) (gP p (j - 1)) = false := o.trans (gP p (j - 1)) (gP p i) (gP p j) h3 h2
          rw [hc] at h8; cases h8
  fx := fun m hm hm' => hf m (by omega) hm'
  qe := by omega
  eq := fun i hi hi2 => by
    have : i = e := by omega
    subst this
    exact ⟨o.refl _, o.refl _⟩
theorem DA.more (o : Ord lt) (hp : In N p) (he : e < N) (h : DA lt N lo p e q) (hc : lt (gP p e) (gP p (e - 1)) = false) (hd : lt (gP p (e - 1)) (gP p e) = false) : DA lt N lo p (e + 1) (q + 1) where
  dn := fun i j hi hij hj hi2 => by
    have hq := h.qe
    by_cases q1 : j < e
    · exact h.dn i j hi hij q1 (by omega)
    · have : j = e := by omega
      subst this
      have h3 := h.dn i (j - 1) hi (by omega) (by omega) (by omega)
      cases h4 : lx lt (gP p j) (gP p i) with
      | true => rfl
      | false =>
        exfalso
        have hfj1 : gP p (j - 1) = j - 1 := h.fx (j - 1) (by omega) (by omega)
        have hil : gP p i < j - (q + 1) := h.fx.lo hp (by omega) (by omega)
        have h6 := lx_false.mp h4
        have h7 : lt (gP p (j - 1)) (gP p i) = true := by
          rw [lx_gt (by rw [hfj1]; omega)] at h3; exact h3
        have h9 : lt (gP p (j - 1)) (gP p i) = false := o.trans (gP p i) (gP p j) (gP p (j - 1)) h6.1 hd
        rw [h7] at h9; cases h9
  fx := fun m hm hm' => h.fx m (by omega) hm'
  qe := by have := h.qe; omega
  eq := fun i hi hi2 => by
    by_cases q1 : i = e
    · subst q1; exact ⟨o.refl _, o.refl _⟩
    · have := h.eq i (by omega) (by omega)
      exact ⟨o.trans _ _ _ this.1 hc, o.trans _ _ _ hd this.2⟩
theorem FLw.turn (o : Ord lt) (hp : In N p) (hle : lo ≤ e) (he : e ≤ N) (h : FLw (lx lt) p lo e) (hf : Fx2 N p e) : SPw (lx lt) (kas_rev p lo e) lo e ∧ Fx2 N (kas_rev p lo e) e ∧ (∀ m, m < lo → gP (kas_rev p lo e) m = gP p m) := by
  have hget := rev_get (p := p) (i := lo) (j := e) (by rw [hp.size]; omega)
  refine ⟨fun i j hi hij hj => ?_, fun m hm hm' => by rw [hget, if_neg (by omega)]; exact hf m hm hm', fun m hm => by rw [hget, if_neg (by omega)]⟩
  rw [hget, hget, if_pos ⟨by omega, by omega⟩, if_pos ⟨by omega, by omega⟩]
  by_cases q : i = j
  · subst q; exact (o.lx).refl _
  · exact (o.lx).asym _ _ (h _ _ (by omega) (by omega) (by omega))
theorem SPw.grow (o : Ord lt) (hp : In N p) (he : e < N) (hlo : lo < e) (h : SPw (lx lt) p lo e) (hf : Fx2 N p e) (hc : lt (gP p e) (gP p (e - 1)) = false) : SPw (lx lt) p lo (e + 1) := fun i j hi hij hj => by
  by_cases q : j < e
  · exact h i j hi hij q
  · have : j = e := by omega
    subst this
    by_cases q2 : i = j
    · subst q2; exact (o.lx).refl _
    · refine (o.lx).trans _ _ _ (h i (j - 1) hi (by omega) (by omega)) ?_
      rw [lx_gt (by rw [hf j (Nat.le_refl _) he]; exact Nat.le_of_lt (hf.lo hp (by omega) (by omega)))]
      exact hc
/-- a run counted -/
structure Run (lt : Nat → Nat → Bool) (N lo : Nat) (p0 p : Array Nat) (n : Nat) : Prop where
  in_ : In N p
  sp : SPw (lx lt) p lo (lo + n)
  fx : Fx2 N p (lo + n)
  low : ∀ m, m < lo → gP p m = gP p0 m
noncomputable def cntEnd (lo nrem n₀ : Nat) : StateT SortSt Sem (Option Nat) := do
  let mut n := n₀
  reverseSlice' lo (lo + n)
  for _ in [n:nrem] do
    let some smaller ← ltAt' (lo + n) (lo + n - 1) | return none
    if smaller then break
    n := n + 1
  return some n
noncomputable def cntDesc (lo nrem n₀ : Nat) : StateT SortSt Sem (Option Nat) := do
  let mut n := n₀
  rule "list.sort.descending-run"
  n := n + 1
  let mut neq := 0
  for _ in [n:nrem] do
    let some smaller ← ltAt' (lo + n) (lo + n - 1) | return none
    if smaller then
      if neq > 0 then reverseSlice' (lo + n - (neq + 1)) (lo + n)
      neq := 0
    else
      let some larger ← ltAt' (lo + n - 1) (lo + n) | return none
      if larger then break
      neq := neq + 1
    n := n + 1
  if neq > 0 then reverseSlice' (lo + n - (neq + 1)) (lo + n)
  reverseSlice' lo (lo + n)
  for _ in [n:nrem] do
    let some smaller ← ltAt' (lo + n) (lo + n - 1) | return none
    if smaller then break
    n := n + 1
  return some n
theorem cntEnd_w (hc : Asks prog w A s κ it N lt) (o : Ord lt) {p0 : Array Nat} {pend : Array (Nat × Nat × Nat)} {g nrem x : Nat} {Q : Option Nat → SortSt → Prop} (hn : lo + nrem = N) (h1 : 1 ≤ x) (hxn : x ≤ nrem)
    (c1 : In N p) (c2 : FLw (lx lt) p lo (lo + x)) (c3 : Fx2 N p (lo + x)) (c4 : ∀ m, m < lo → gP p m = gP p0 m)
    (hq : ∀ n p, 1 ≤ n → n ≤ nrem → Run lt N lo p0 p n → Q (some n) (sst κ it p pend g)) : wpS (model prog w) A E s (cntEnd lo nrem x) Q (sst κ it p pend g) := by
  obtain ⟨d1, d2, d3⟩ := c2.turn o c1 (by omega) (by omega) c3
  have c1' := c1.rev lo (lo + x)
  have d4 : ∀ m, m < lo → gP (kas_rev p lo (lo + x)) m = gP p0 m := fun m hm => (d3 m hm).trans (c4 m hm)
  clear c1 c2 c3 c4 d3
  unfold cntEnd
  refine wpS_bind (rev_w ?_)
  generalize kas_rev p lo (lo + x) = p' at *
  refine wpS_bind (wpS_mono (wpS_forRange
    (I := fun y c st' => c = (none, y) ∧ st' = sst κ it p' pend g ∧ x ≤ y ∧ SPw (lx lt) p' lo (lo + y))
    (Q := fun c st' => ∃ y, c = (none, y) ∧ st' = sst κ it p' pend g ∧ x ≤ y ∧ y ≤ nrem ∧ SPw (lx lt) p' lo (lo + y)) ?_ ?_ ⟨rfl, rfl, Nat.le_refl _, d1⟩) ?_)
  · rintro y c st' hy1 hy ⟨rfl, rfl, hxy, hs'⟩
    refine wpS_bind (ltAt_w (i := lo + y) (j := lo + y - 1) hc c1' (by omega) (by omega) ?_)
    refine wpS_ite (fun hw => wpS_pure ⟨y, rfl, rfl, hxy, by omega, hs'⟩) (fun hw => wpS_pure ⟨rfl, rfl, by omega, ?_⟩)
    exact hs'.grow (e := lo + y) o c1' (by omega) (by omega) (fun m hm hm' => d2 m (by omega) hm') (by simpa using hw)
  · rintro c st' ⟨rfl, rfl, hxy, hs'⟩
    exact ⟨max x nrem, rfl, rfl, hxy, by omega, hs'⟩
  · rintro c st' ⟨y, rfl, rfl, hxy, hyn, hs'⟩
    exact wpS_pure (hq y p' (by omega) hyn ⟨c1', hs', fun m hm hm' => d2 m (by omega) hm', d4⟩)
theorem cntDesc_w (hc : Asks prog w A s κ it N lt) (o : Ord lt) {p0 p1 : Array Nat} {pend : Array (Nat × Nat × Nat)} {g nrem n : Nat} {Q : Option Nat → SortSt → Prop} (hn : lo + nrem = N) (hn1 : 1 ≤ n) (hlt : n < nrem)
    (hp1 : In N p1) (hF1 : FLw (lx lt) p1 lo (lo + n)) (hx1 : Fx2 N p1 (lo + n)) (hlow1 : ∀ m, m < lo → gP p1 m = gP p0 m) (hc1 : lt (gP p1 (lo + n)) (gP p1 (lo + n - 1)) = true)
    (hq : ∀ n p, 1 ≤ n → n ≤ nrem → Run lt N lo p0 p n → Q (some n) (sst κ it p pend g)) : wpS (model prog w) A E s (cntDesc lo nrem n) Q (sst κ it p1 pend g) := by
  unfold cntDesc
  refine wpS_bind (wpS_lift (wpAny_rule ⟨rfl, ?_⟩))
  have hDA := DA.one o hF1 hx1 (by omega) hc1
  clear hF1 hx1 hc1
  refine wpS_bind (wpS_mono (wpS_forRange
    (I := fun x c st' => ∃ p q, c = (none, x, q) ∧ st' = sst κ it p pend g ∧ x ≤ nrem ∧ In N p ∧ DA lt N lo p (lo + x) q ∧ (∀ m, m < lo → gP p m = gP p0 m))
    (Q := fun c st' => ∃ p x q, c = (none, x, q) ∧ st' = sst κ it p pend g ∧ n + 1 ≤ x ∧ x ≤ nrem ∧ In N p ∧ DA lt N lo p (lo + x) q ∧ (∀ m, m < lo → gP p m = gP p0 m)) ?_ ?_ ⟨p1, 0, rfl, rfl, hlt, hp1, hDA, hlow1⟩) ?_)
  · rintro x c st' hx1 hx ⟨p, q, rfl, rfl, hxn, b1, b2, b3⟩
    clear hDA hlow1 hp1
    refine wpS_bind (ltAt_w (i := lo + x) (j := lo + x - 1) hc b1 (by omega) (by omega) ?_)
    refine wpS_ite (fun hw => ?_) (fun hw => ?_)
    · refine wpS_ite (fun hq0 => ?_) (fun hq0 => ?_)
      · obtain ⟨r1, r2, r3⟩ := b2.rev o b1 (by omega)
        have hqe := b2.qe
        have hwr : lt (gP (kas_rev p (lo + x - (q + 1)) (lo + x)) (lo + x)) (gP (kas_rev p (lo + x - (q + 1)) (lo + x)) (lo + x - 1)) = true := by
          have hget := rev_get (p := p) (i := lo + x - (q + 1)) (j := lo + x) (by rw [b1.size]; omega)
          rw [hget, hget, if_neg (by omega), if_pos ⟨by omega, by omega⟩]
          have a := b2.eq (lo + x - (q + 1) + (lo + x) - 1 - (lo + x - 1)) (by omega) (by omega)
          cases h3 : lt (gP p (lo + x)) (gP p (lo + x - (q + 1) + (lo + x) - 1 - (lo + x - 1))) with
          | true => rfl
          | false =>
            have := o.trans _ _ _ a.2 h3
            have hc' : lt (gP p (lo + x)) (gP p (lo + x - 1)) = true := hw
            rw [hc'] at this; cases this
        refine wpS_bind (rev_w (wpS_pure ⟨_, 0, rfl, rfl, hx, b1.rev _ _, DA.one (e := lo + x) o r1 r2 (by omega) hwr, fun m hm => (r3 m hm).trans (b3 m hm)⟩))
      · have hq00 : q = 0 := Nat.eq_zero_of_not_pos hq0
        subst hq00
        exact wpS_pure ⟨p, 0, rfl, rfl, hx, b1, DA.one (e := lo + x) o (fun i j hi hij hj => b2.dn i j hi hij hj (by omega)) (fun m hm hm' => b2.fx m (by omega) hm') (by omega) hw, b3⟩
    · refine wpS_bind (ltAt_w (i := lo + x - 1) (j := lo + x) hc b1 (by omega) (by omega) ?_)
      refine wpS_ite (fun hw2 => wpS_pure ⟨p, x, q, rfl, rfl, hx1, hxn, b1, b2, b3⟩) (fun hw2 => wpS_pure ⟨p, q + 1, rfl, rfl, hx, b1, DA.more (e := lo + x) o b1 (by omega) b2 (by simpa using hw) (by simpa using hw2), b3⟩)
  · rintro c st' ⟨p, q, rfl, rfl, hxn, b1, b2, b3⟩
    exact ⟨p, _, q, rfl, rfl, by omega, hxn, b1, b2, b3⟩
  · rintro c st' ⟨p, x, q, rfl, rfl, hx1, hxn, b1, b2, b3⟩
    clear hDA hlow1 hp1
    refine wpS_ite (fun hq0 => wpS_bind (rev_w ?_)) (fun hq0 => ?_)
    · obtain ⟨r1, r2, r3⟩ := b2.rev o b1 (by omega)
      exact cntEnd_w (x := x) hc o hn (by omega) hxn (b1.rev _ _) r1 r2 (fun m hm => (r3 m hm).trans (b3 m hm)) hq
    · have hq00 : q = 0 := Nat.eq_zero_of_not_pos hq0
      subst hq00
      exact cntEnd_w (x := x) hc o hn (by omega) hxn b1 (fun i j hi hij hj => b2.dn i j hi hij hj (by omega)) (fun m hm hm' => b2.fx m (by omega) hm') b3 hq
theorem count_w (hc : Asks prog w A s κ it N lt) (o : Ord lt) {p0 : Array Nat} {pend : Array (Nat × Nat × Nat)} {g nrem : Nat} {Q : Option Nat → SortSt → Prop} (hp : In N p0) (hf : Fx2 N p0 lo) (hn : lo + nrem = N) (h1 : 1 ≤ nrem)
    (hq : ∀ n p, 1 ≤ n → n ≤ nrem → Run lt N lo p0 p n → Q (some n) (sst κ it p pend g)) : wpS (model prog w) A E s (countRun' lo nrem) Q (sst κ it p0 pend g) := by
  have ox := o.lx
  rw [countRun'_eq]
  refine wpS_bind (wpS_mono (wpS_forRange
    (I := fun x c st' => c = (none, x) ∧ st' = sst κ it p0 pend g ∧ SPw (lx lt) p0 lo (lo + x))
    (Q := fun c st' => ∃ n, c = (none, n) ∧ st' = sst κ it p0 pend g ∧ 1 ≤ n ∧ n ≤ nrem ∧ SPw (lx lt) p0 lo (lo + n) ∧ (n < nrem → lt (gP p0 (lo + n)) (gP p0 (lo + n - 1)) = true)) ?step1 ?fin1 ⟨rfl, rfl, ?init1⟩) ?post1)
  case init1 =>
    intro i j hi hij hj
    have : i = j := by omega
    subst this; exact ox.refl _
  case fin1 =>
    rintro c st' ⟨rfl, rfl, hs⟩
    exact ⟨_, rfl, rfl, by omega, by omega, hs, fun h => by omega⟩
  case step1 =>
    rintro x c st' hx1 hx ⟨rfl, rfl, hs⟩
    refine wpS_bind (ltAt_w (i := lo + x) (j := lo + x - 1) hc hp (by omega) (by omega) ?_)
    refine wpS_ite (fun hw => wpS_pure ⟨x, rfl, rfl, hx1, by omega, hs, fun _ => hw⟩) (fun hw => wpS_pure ⟨rfl, rfl, ?_⟩)
    exact hs.grow (e := lo + x) o hp (by omega) (by omega) (fun m hm hm' => hf m (by omega) hm') (by simpa using hw)
  case post1 =>
    rintro c st' ⟨n, rfl, rfl, hn1, hn2, hs, hst⟩
    have hfn : Fx2 N p0 (lo + n) := fun m hm hm' => hf m (by omega) hm'
    refine wpS_ite (fun e => wpS_pure (hq n p0 hn1 hn2 ⟨hp, hs, hfn, fun m _ => rfl⟩)) (fun e => ?_)
    have hlt : n < nrem := by simp at e; omega
    have hst := hst hlt
    have hge : lo + n < N := by omega
    refine wpS_ite (fun h2 => wpS_bind (ltAt_w (i := lo) (j := lo + n - 1) hc hp (by omega) (by omega) (wpS_ite (fun hr => wpS_pure (hq n p0 hn1 hn2 ⟨hp, hs, hfn, fun m _ => rfl⟩)) (fun hr => wpS_bind (rev_w ?_))))) (fun h2 => ?_)
    · have hr' : lt (gP p0 lo) (gP p0 (lo + n - 1)) = false := by simpa using hr
      have hget := rev_get (p := p0) (i := lo) (j := lo + n) (by rw [hp.size]; omega)
      have hsp : ∀ i j, lo ≤ i → i ≤ j → j < lo + n → lt (gP p0 j) (gP p0 i) = false := fun i j a b c => (lx_false.mp (hs i j a b c)).1
      have hall : ∀ i j, lo ≤ i → i < lo + n → lo ≤ j → j < lo + n → lt (gP p0 i) (gP p0 j) = false := fun i j hi hi' hj hj' => by
        exact o.trans _ _ _ (o.trans _ _ _ (hsp j (lo + n - 1) hj (by omega) (by omega)) hr') (hsp lo i (Nat.le_refl _) hi hi')
      refine cntDesc_w hc o hn hn1 hlt (hp.rev _ _) (fun i j hi hij hj => ?_) (fun m hm hm' => by rw [hget, if_neg (by omega)]; exact hf m (by omega) hm') (fun m hm => by rw [hget, if_neg (by omega)]) ?_ hq
      · rw [hget, hget, if_pos ⟨by omega, by omega⟩, if_pos ⟨by omega, by omega⟩]
        refine lx_alike (hall _ _ (by omega) (by omega) (by omega) (by omega)) ?_
        rw [hf _ (by omega) (by omega), hf _ (by omega) (by omega)]; omega
      · rw [hget, hget, if_neg (by omega), if_pos ⟨by omega, by omega⟩, show lo + (lo + n) - 1 - (lo + n - 1) = lo by omega]
        cases h3 : lt (gP p0 (lo + n)) (gP p0 lo) with
        | true => rfl
        | false =>
          have := o.trans _ _ _ hr' h3
          rw [hst] at this; cases this
    · have h2' : ¬ n > 1 := h2
      exact cntDesc_w hc o hn hn1 hlt hp (fun i j hi hij hj => by omega) hfn (fun m hm => rfl) hst hq
theorem bin_w (hc : Asks prog w A s κ it N lt) (o : Ord lt) {p0 : Array Nat} {pend : Array (Nat × Nat × Nat)} {g n ok : Nat} {Q : Bool → SortSt → Prop} (h1 : 1 ≤ ok) (hok : ok ≤ n) (hn : lo + n ≤ N) (hr : Run lt N lo p0 p0 ok)
    (hq : ∀ p, Run lt N lo p0 p n → Q true (sst κ it p pend g)) : wpS (model prog w) A E s (binarySort' lo n ok) Q (sst κ it p0 pend g) := by
  have ox := o.lx
  rw [binarySort'_eq]
  refine wpS_bind (wpS_mono (wpS_forRange
    (I := fun k c st' => c = (none, ()) ∧ ∃ p, st' = sst κ it p pend g ∧ Run lt N lo p0 p k)
    (Q := fun c st' => c = (none, ()) ∧ ∃ p, st' = sst κ it p pend g ∧ Run lt N lo p0 p n) ?step ?fin ⟨rfl, p0, rfl, by rw [show max ok 1 = ok by omega]; exact hr⟩) ?post)
  case post =>
    rintro c st' ⟨rfl, p, rfl, h⟩
    exact wpS_pure (hq p h)
  case fin =>
    rintro c st' ⟨rfl, p, rfl, h⟩
    exact ⟨rfl, p, rfl, by rwa [show max (max ok 1) n = n by omega] at h⟩
  case step =>
    rintro k c st' hk1 hk ⟨rfl, p, rfl, R⟩
    have hp := R.in_
    refine wpS_bind (wpS_mono (wpS_forRange
      (I := fun x c st' => st' = sst κ it p pend g ∧ ∃ l r, c = (none, l, r) ∧ l ≤ r ∧ r ≤ k ∧ r - l ≤ k - x ∧ (∀ i, i < l → lx lt (gP p (lo + k)) (gP p (lo + i)) = false) ∧ (∀ i, r ≤ i → i < k → lx lt (gP p (lo + k)) (gP p (lo + i)) = true))
      (Q := fun c st' => st' = sst κ it p pend g ∧ ∃ l r, c = (none, l, r) ∧ l ≤ k ∧ (∀ i, i < l → lx lt (gP p (lo + k)) (gP p (lo + i)) = false) ∧ (∀ i, l ≤ i → i < k → lx lt (gP p (lo + k)) (gP p (lo + i)) = true)) ?istep ?ifin ⟨rfl, 0, k, rfl, by omega, by omega, by omega, fun i hi => by omega, fun i h1 h2 => by omega⟩) ?ipost)
    case ifin =>
      rintro c st' ⟨rfl, l, r, rfl, a1, a2, a3, a4, a5⟩
      have : l = r := by omega
      subst this
      exact ⟨rfl, l, l, rfl, a2, a4, a5⟩
    case istep =>
      rintro x c st' _ hx ⟨rfl, l, r, rfl, a1, a2, a3, a4, a5⟩
      refine wpS_ite (fun hge => ?_) (fun hge => ?_)
      · have hge' : l ≥ r := hge
        have : l = r := by omega
        subst this
        exact wpS_pure ⟨rfl, l, l, rfl, a2, a4, a5⟩
      · have hge' : ¬ l ≥ r := hge
        refine wpS_bind (ltAt_w (i := lo + k) (j := lo + (l + r) / 2) hc hp (by omega) (by omega) ?_)
        have hlx : lx lt (gP p (lo + k)) (gP p (lo + (l + r) / 2)) = lt (gP p (lo + k)) (gP p (lo + (l + r) / 2)) := lx_gt (by rw [R.fx (lo + k) (Nat.le_refl _) (by omega)]; exact Nat.le_of_lt (R.fx.lo hp (by omega) (by omega)))
        refine wpS_ite (fun hw => wpS_pure ⟨rfl, l, (l + r) / 2, rfl, by omega, by omega, by omega, a4, fun i h1 h2 => ?_⟩) (fun hw => wpS_pure ⟨rfl, (l + r) / 2 + 1, r, rfl, by omega, by omega, by omega, fun i h1 => ?_, a5⟩)
        · have hw' : lt (gP p (lo + k)) (gP p (lo + (l + r) / 2)) = true := hw
          cases q : lx lt (gP p (lo + k)) (gP p (lo + i)) with
          | true => rfl
          | false =>
            have h6 := R.sp (lo + (l + r) / 2) (lo + i) (by omega) (by omega) (by omega)
            have := ox.trans _ _ _ h6 q
            rw [hlx, hw'] at this; cases this
        · have hw' : lt (gP p (lo + k)) (gP p (lo + (l + r) / 2)) = false := by simpa using hw
          exact ox.trans _ _ _ (R.sp (lo + i) (lo + (l + r) / 2) (by omega) (by omega) (by omega)) (hlx.trans hw')
    case ipost =>
      rintro c st' ⟨rfl, l, r, rfl, a1, a2, a3⟩
      refine wpS_bind (move_w (k := lo + k) (l := lo + l) (wpS_pure ⟨rfl, _, rfl, ?_⟩))
      have hget : ∀ i, gP (bubble p (lo + k) (lo + k - (lo + l))) i = if i = lo + l then gP p (lo + k) else if lo + l < i ∧ i ≤ lo + k then gP p (i - 1) else gP p i := fun i => by
        have := getElem?_bubble (xs := p) (src := lo + k) (by rw [hp.size]; omega) (lo + k - (lo + l)) (by omega) i
        rw [show lo + k - (lo + k - (lo + l)) = lo + l by omega] at this
        split
        · rename_i h; rw [if_pos h] at this; exact gP_of this
        · rename_i h
          rw [if_neg h] at this
          split
          · rename_i h'; rw [if_pos h'] at this; exact gP_of this
          · rename_i h'; rw [if_neg h'] at this; exact gP_of this
      have a2' : ∀ j, lo ≤ j → j < lo + l → lx lt (gP p (lo + k)) (gP p j) = false := fun j h1 h2 => by
        have := a2 (j - lo) (by omega)
        rwa [show lo + (j - lo) = j by omega] at this
      have a3' : ∀ j, lo + l ≤ j → j < lo + k → lx lt (gP p (lo + k)) (gP p j) = true := fun j h1 h2 => by
        have := a3 (j - lo) (by omega) (by omega)
        rwa [show lo + (j - lo) = j by omega] at this
      refine ⟨⟨by rw [bubble_size, hp.size], (Array.perm_iff_toList_perm.mp (bubble_perm p _ _)).trans hp.perm⟩, fun i j hi hij hj => ?_, fun m hm hm' => by rw [hget, if_neg (by omega), if_neg (by omega)]; exact R.fx m (by omega) hm', fun m hm => by rw [hget, if_neg (by omega), if_neg (by omega)]; exact R.low m hm⟩
      rw [hget, hget]
      by_cases j1 : j = lo + l
      · rw [if_pos j1]
        by_cases i1 : i = lo + l
        · rw [if_pos i1]; exact ox.refl _
        · rw [if_neg i1, if_neg (by omega)]; exact a2' i hi (by omega)
      · rw [if_neg j1]
        by_cases j2 : lo + l < j ∧ j ≤ lo + k
        · rw [if_pos j2]
          by_cases i1 : i = lo + l
          · rw [if_pos i1]; exact ox.asym _ _ (a3' (j - 1) (by omega) (by omega))
          · rw [if_neg i1]
            by_cases i2 : lo + l < i ∧ i ≤ lo + k
            · rw [if_pos i2]; exact R.sp _ _ (by omega) (by omega) (by omega)
            · rw [if_neg i2]; exact R.sp _ _ (by omega) (by omega) (by omega)
        · rw [if_neg j2, if_neg (by omega), if_neg (by omega)]; exact R.sp i j hi hij (by omega)
end
end Mine

set_option maxHeartbeats 1000000
namespace Mine
open PySem PySem.W PyProof.Rows

theorem mergeAt'_eq (i : Nat) : mergeAt' i = (do
  let s ← get
  let (some (sa, na, power), some (sb, nb, _)) := ((pendingOf s)[i]?, (pendingOf s)[i + 1]?) | unsupported "internal:list.sort.pending"
  set (setPending s (((pendingOf s).setIfInBounds i (sa, na + nb, power)).eraseIdxIfInBounds (i + 1)))
  let some k ← gallop' false (← elem' (arrOf s) sb) (arrOf s) sa na 0 | return false
  let (sa, na) := (sa + k, na - k)
  if na == 0 then return true
  let some nb ← gallop' true (← elem' (arrOf s) (sa + na - 1)) (arrOf s) sb nb (nb - 1) | return false
  if nb == 0 then return true
  let x := (arrOf s).extract sa sb
  let y := (arrOf s).extract sb (sb + nb)
  let merged ← if na ≤ nb then mergeLo' x y else mergeHi' x y
  modify fun s => setArr s (merged.toList.zipIdx.foldl (fun a (p, j) => a.setIfInBounds (sa + j) p) (arrOf s))
  return (failedOf (← get)).isNone) := rfl

theorem laid_get {α : Type} (c : Nat) : ∀ (l : List α) (n : Nat) (arr : Array α), c + n + l.length ≤ arr.size → ∀ i, ((l.zipIdx n).foldl (fun (a : Array α) (x : α × Nat) => a.setIfInBounds (c + x.2) x.1) arr)[i]? = if c + n ≤ i ∧ i < c + n + l.length then l[i - (c + n)]? else arr[i]?
  | [], n, arr, h, i => by
    rw [if_neg (by simp)]; rfl
  | x :: l, n, arr, h, i => by
    simp only [List.length_cons] at h ⊢
    rw [List.zipIdx_cons, List.foldl_cons, laid_get c l (n + 1) _ (by rw [Array.size_setIfInBounds]; omega) i]
    by_cases h1 : c + (n + 1) ≤ i ∧ i < c + (n + 1) + l.length
    · rw [if_pos h1, if_pos (by omega), show i - (c + n) = (i - (c + (n + 1))) + 1 by omega, List.getElem?_cons_succ]
    · rw [if_neg h1, Array.getElem?_setIfInBounds]
      by_cases h2 : c + n = i
      · subst h2
        rw [if_pos rfl, if_pos (by omega), if_pos (by omega)]
        simp
      · rw [if_neg h2, if_neg (by omega)]
theorem laid_eq {it : Array Keyed} {L m : List Nat} {c : Nat} (h : c + m.length ≤ L.length) : (arrIt it m).toList.zipIdx.foldl (fun (a : Array Keyed) (x : Keyed × Nat) => a.setIfInBounds (c + x.2) x.1) (arrIt it L) = arrIt it (L.take c ++ m ++ L.drop (c + m.length)) := by
  apply Array.ext_getElem?
  intro i
  rw [laid_get c _ 0 _ (by simpa using h)]
  simp only [Nat.add_zero, List.toList_toArray, List.length_map, List.getElem?_toArray, List.getElem?_map]
  by_cases h1 : c ≤ i ∧ i < c + m.length
  · rw [if_pos h1, List.append_assoc, List.getElem?_append_right (by simp; omega), List.getElem?_append_left (by simp; omega)]
    congr 2
    simp; omega
  · rw [if_neg h1]
    congr 1
    by_cases h2 : i < c
    · rw [List.append_assoc, List.getElem?_append_left (by simp; omega), List.getElem?_take_of_lt h2]
    · rw [List.getElem?_append_right (by simp; omega), List.getElem?_drop]
      congr 1
      simp; omega

section
variable {prog : Program} {w : World} {A : Around} {E : Value → Shared → Prop} {s : Shared} {κ : SortKind} {it : Array Keyed} {N : Nat} {lt : Nat → Nat → Bool}
theorem map_arrIt (p : Array Nat) : p.map (kas_item it) = arrIt it p.toList := by
  apply Array.toList_inj.mp; simp [arrIt]
theorem gL_toList (p : Array Nat) (i : Nat) : gL p.toList i = gP p i := by
  simp [gL, gP, Array.getD_eq_getD_getElem?]
/-- two runs, side by side -/
structure Runs2 (lt : Nat → Nat → Bool) (N n1 : Nat) (p : Array Nat) : Prop where
  in_ : In N p
  le : n1 < N
  pos : 0 < n1
  s1 : SPw (lx lt) p 0 n1
  s2 : SPw (lx lt) p n1 N
  lo : ∀ i, i < n1 → gP p i < n1
  hi : ∀ i, n1 ≤ i → i < N → n1 ≤ gP p i
theorem gL_seg {p : Array Nat} {c n i : Nat} (h : c + i < p.size) (hi : i < n) : gL ((p.toList.drop c).take n) i = gP p (c + i) := by
  rw [← gL_toList]
  simp [gL, hi]
theorem wpS_set {M : Model} {σ : Type} {st st' : σ} {Q : PUnit → σ → Prop} (h : Q ⟨⟩ st') : wpS M A E s (set st' : StateT σ Sem PUnit) Q st := by
  unfold wpS; rw [StateT.run_set]; exact wpAny_pure ⟨rfl, h⟩
theorem pend_two (a b c : Nat × Nat × Nat) : ((#[a, b] : Array (Nat × Nat × Nat)).setIfInBounds 0 c).eraseIdxIfInBounds (0 + 1) = #[c] := by
  simp [Array.eraseIdxIfInBounds]
theorem SPw.of_pairwise {L : List Nat} (h : L.Pairwise fun x y => lx lt y x = false) (o : Ord lt) : SPw (lx lt) L.toArray 0 L.length := fun i j _ hij hj => by
  by_cases q : i = j
  · subst q; exact (o.lx).refl _
  · have := List.pairwise_iff_getElem.mp h i j (by omega) hj (by omega)
    simpa [gP, hj, (by omega : i < L.length)] using this
theorem SPw.pairwise {p : Array Nat} {c n : Nat} (h : SPw (lx lt) p c (c + n)) (hp : c + n ≤ p.size) : ((p.toList.drop c).take n).Pairwise fun x y => lx lt y x = false := by
  rw [List.pairwise_iff_getElem]
  intro i j hi hj hij
  have hi' : i < n := by simp at hi; omega
  have hj' : j < n := by simp at hj; omega
  have := h (c + i) (c + j) (by omega) (by omega) (by omega)
  simpa [gP, (by omega : c + i < p.size), (by omega : c + j < p.size)] using this
theorem mem_seg {p : Array Nat} {c n x : Nat} (h : x ∈ (p.toList.drop c).take n) : ∃ j, c ≤ j ∧ j < c + n ∧ j < p.size ∧ x = gP p j := by
  obtain ⟨j, h1, h2, h3, h4⟩ := gL_drop _ _ _ x h
  exact ⟨j, h1, h2, by simpa using h3, by rw [h4, gL_toList]⟩
theorem mergeAt_w (hc : Asks prog w A s κ it N lt) (o : Ord lt) {p : Array Nat} {n1 pw pw2 g : Nat} {Q : Bool → SortSt → Prop} (R : Runs2 lt N n1 p)
    (hq : ∀ p' g', In N p' → SPw (lx lt) p' 0 N → Q true (sst κ it p' #[(0, N, pw)] g')) : wpS (model prog w) A E s (mergeAt' 0) Q (sst κ it p #[(0, n1, pw), (n1, N - n1, pw2)] g) := by
  have ox := o.lx
  have hp := R.in_
  have hsz := hp.size
  have hle := R.le
  have hpos := R.pos
  have hask : ∀ i j, i < n1 → n1 ≤ j → j < N → lx lt (gP p j) (gP p i) = lt (gP p j) (gP p i) := fun i j h1 h2 h3 => lx_gt (by have := R.lo i h1; have := R.hi j h2 h3; omega)
  have hgL : ∀ i, gL p.toList i = gP p i := gL_toList p
  have hL : p.toList.length = N := by simp [hsz]
  -- whole in order
  have whole : (∀ i, i < n1 → lx lt (gP p n1) (gP p i) = false) → SPw (lx lt) p 0 N := fun h i j _ hij hj => by
    by_cases q1 : j < n1
    · exact R.s1 i j (Nat.zero_le _) hij q1
    · by_cases q2 : i < n1
      · exact ox.trans _ _ _ (h i q2) (R.s2 n1 j (Nat.le_refl _) (by omega) hj)
      · exact R.s2 i j (by omega) hij hj
  rw [mergeAt'_eq]
  unfold sst
  rw [map_arrIt]
  refine wpS_bind (wpS_get ?_)
  refine wpS_bind (wpS_set ?_)
  rw [pend_two]
  show wpS _ _ _ _ _ Q (SortSt.mk' κ (arrIt it p.toList) #[(0, n1 + (N - n1), pw)] g none)
  rw [show n1 + (N - n1) = N by omega]
  refine wpS_bind (elem_w (l := p.toList) (i := n1) (by omega) ?_)
  refine wpS_bind (gallop_w (n := n1) (hint := 0) (bd := fun i => !lt (gP p n1) (gP p i)) (fun i hi Q' hQ' => beyond_w (x := gL p.toList n1) (base := 0) (i := i) hc rfl (by rw [hgL]; exact hp.bd (by omega)) (by omega) (by rw [hgL]; exact hp.bd (by omega)) (by rw [hgL, hgL, Nat.zero_add]; simpa using hQ')) (fun i j hij hj h => ?_) (by omega) fun k hk hk1 hk2 => ?_)
  · have h' : lt (gP p n1) (gP p j) = false := by simpa using h
    rw [← hask j n1 (by omega) (by omega) (by omega)] at h'
    have := ox.trans _ _ _ (R.s1 i j (Nat.zero_le _) hij hj) h'
    rw [hask i n1 (by omega) (by omega) (by omega)] at this
    simpa using this
  have hk1' : ∀ i, i < k → lx lt (gP p n1) (gP p i) = false := fun i hi => by
    rw [hask i n1 (by omega) (by omega) (by omega)]; simpa using hk1 i hi
  have hk2' : ∀ i, k ≤ i → i < n1 → lt (gP p n1) (gP p i) = true := fun i h1 h2 => by simpa using hk2 i h1 h2
  refine wpS_ite (fun e => wpS_pure ?_) (fun e => ?_)
  · rw [← map_arrIt]
    refine hq p g hp (whole fun i hi => hk1' i ?_)
    have : n1 - k = 0 := by simpa using e
    omega
  have hkn : k < n1 := by
    have : ¬ (n1 - k = 0) := by simpa using e
    omega
  have hla : 0 + k + (n1 - k) - 1 = n1 - 1 := by omega
  rw [hla]
  clear hla
  refine wpS_bind (elem_w (l := p.toList) (i := n1 - 1) (by omega) ?_)
  refine wpS_bind (gallop_w (n := N - n1) (hint := N - n1 - 1) (bd := fun i => lt (gP p (n1 + i)) (gP p (n1 - 1))) (fun i hi Q' hQ' => beyond_w (x := gL p.toList (n1 - 1)) (base := n1) (i := i) hc rfl (by rw [hgL]; exact hp.bd (by omega)) (by omega) (by rw [hgL]; exact hp.bd (by omega)) (by rw [hgL, hgL]; simpa using hQ')) (fun i j hij hj h => ?_) (by omega) fun m hm hm1 hm2 => ?_)
  · cases h6 : lt (gP p (n1 + i)) (gP p (n1 - 1)) with
    | true => rfl
    | false =>
      rw [← hask (n1 - 1) (n1 + i) (by omega) (by omega) (by omega)] at h6
      have := ox.trans _ _ _ h6 (R.s2 (n1 + i) (n1 + j) (by omega) (by omega) (by omega))
      rw [hask (n1 - 1) (n1 + j) (by omega) (by omega) (by omega)] at this
      rw [this] at h; cases h
  have hm2' : ∀ i, n1 + m ≤ i → i < N → lx lt (gP p i) (gP p (n1 - 1)) = false := fun i h1 h2 => by
    rw [hask (n1 - 1) i (by omega) (by omega) h2]
    have := hm2 (i - n1) (by omega) (by omega)
    rwa [show n1 + (i - n1) = i by omega] at this
  refine wpS_ite (fun e2 => wpS_pure ?_) (fun e2 => ?_)
  · rw [← map_arrIt]
    refine hq p g hp (whole fun i hi => ?_)
    have hm0 : m = 0 := by simpa using e2
    exact ox.trans _ _ _ (R.s1 i (n1 - 1) (Nat.zero_le _) (by omega) (by omega)) (hm2' n1 (by omega) (by omega))
  have hm0 : 0 < m := by
    have : ¬ (m = 0) := by simpa using e2
    omega
  have ex : (arrIt it p.toList).extract (0 + k) n1 = arrIt it ((p.toList.drop k).take (n1 - k)) := by rw [Nat.zero_add, arrIt_ext]
  have ey : (arrIt it p.toList).extract n1 (n1 + m) = arrIt it ((p.toList.drop n1).take m) := by rw [arrIt_ext, show n1 + m - n1 = m by omega]
  have lla : ((p.toList.drop k).take (n1 - k)).length = n1 - k := by simp; omega
  have llb : ((p.toList.drop n1).take m).length = m := by simp; omega
  have ga : ∀ i, i < n1 - k → gL ((p.toList.drop k).take (n1 - k)) i = gP p (k + i) := fun i hi => gL_seg (by omega) hi
  have gb : ∀ i, i < m → gL ((p.toList.drop n1).take m) i = gP p (n1 + i) := fun i hi => gL_seg (by omega) hi
  have T : Two N lt ((p.toList.drop k).take (n1 - k)) ((p.toList.drop n1).take m) := by
    constructor
    · exact o
    · intro i hi; rw [lla] at hi; rw [ga i hi]; exact hp.bd (by omega)
    · intro i hi; rw [llb] at hi; rw [gb i hi]; exact hp.bd (by omega)
    · intro i j hij hj; rw [lla] at hj; rw [ga i (by omega), ga j hj]; exact R.s1 _ _ (Nat.zero_le _) (by omega) (by omega)
    · intro i j hij hj; rw [llb] at hj; rw [gb i (by omega), gb j hj]; exact R.s2 _ _ (by omega) (by omega) (by omega)
    · intro i j hi hj
      rw [lla] at hi; rw [llb] at hj; rw [ga i hi, gb j hj]
      have := R.lo (k + i) (by omega); have := R.hi (n1 + j) (by omega) (by omega); omega
    · rw [lla]; omega
    · rw [llb]; omega
    · rw [ga 0 (by omega), gb 0 hm0]; exact hk2' k (Nat.le_refl _) hkn
    · intro j hj
      rw [llb] at hj
      rw [lla, ga _ (by omega), gb j hj, show k + (n1 - k - 1) = n1 - 1 by omega]
      exact hm1 j hj
  have fin : ∀ res g', MgF it lt ((p.toList.drop k).take (n1 - k)) ((p.toList.drop n1).take m) res → Q true (SortSt.mk' κ (List.foldl (fun (a : Array Keyed) (x : Keyed × Nat) => a.setIfInBounds (0 + k + x.2) x.1) (arrIt it p.toList) res.toList.zipIdx) #[(0, N, pw)] g' none) := by
    rintro res g' ⟨out, rfl, hperm, hsrt⟩
    have hlen : out.length = n1 - k + m := by rw [hperm.length_eq, List.length_append, lla, llb]
    clear lla llb ga gb ex ey T
    rw [Nat.zero_add, laid_eq (by rw [hlen]; omega)]
    have hmem : ∀ x ∈ out, (∃ j, k ≤ j ∧ j < n1 ∧ x = gP p j) ∨ (∃ j, n1 ≤ j ∧ j < n1 + m ∧ x = gP p j) := fun x hx => by
      rcases List.mem_append.mp (hperm.mem_iff.mp hx) with q | q
      · obtain ⟨j, h1, h2, h3, h4⟩ := mem_seg q
        exact .inl ⟨j, h1, by omega, h4⟩
      · obtain ⟨j, h1, h2, h3, h4⟩ := mem_seg q
        exact .inr ⟨j, h1, h2, h4⟩
    have epre : p.toList.take k = (p.toList.drop 0).take k := by simp
    have hkl : k + out.length = n1 + m := by rw [hlen]; omega
    have esuf : p.toList.drop (k + out.length) = (p.toList.drop (n1 + m)).take (N - (n1 + m)) := by
      rw [hkl, List.take_of_length_le (by simp; omega)]
    have hfull : (p.toList.take k ++ out ++ p.toList.drop (k + out.length)).Perm p.toList := by
      have h1 : p.toList = p.toList.take k ++ ((p.toList.drop k).take (n1 - k) ++ ((p.toList.drop n1).take m ++ p.toList.drop (n1 + m))) := by
        have e1 := (List.take_append_drop k p.toList).symm
        have e2 := drop_seg p.toList k n1 (by omega)
        have e3 := drop_seg p.toList n1 (n1 + m) (by omega)
        rw [show n1 + m - n1 = m by omega] at e3
        rw [← e3, ← e2]; exact e1
      rw [hkl]
      conv => rhs; rw [h1]
      rw [List.append_assoc, ← List.append_assoc ((p.toList.drop k).take (n1 - k))]
      exact List.Perm.append_left _ (List.Perm.append_right _ hperm)
    have hk' := hkl
    clear hlen hkl
    have hpw : (p.toList.take k ++ out ++ p.toList.drop (k + out.length)).Pairwise fun x y => lx lt y x = false := by
      rw [List.pairwise_append, List.pairwise_append]
      refine ⟨⟨?_, hsrt, ?_⟩, ?_, ?_⟩
      · rw [epre]
        exact SPw.pairwise (fun i j a b c => R.s1 i j (Nat.zero_le _) b (by omega)) (by omega)
      · intro x hx y hy
        rw [epre] at hx
        obtain ⟨i, i1, i2, i3, rfl⟩ := mem_seg hx
        rcases hmem y hy with ⟨j, j1, j2, rfl⟩ | ⟨j, j1, j2, rfl⟩
        · exact R.s1 i j (Nat.zero_le _) (by omega) j2
        · exact ox.trans _ _ _ (hk1' i (by omega)) (R.s2 n1 j (Nat.le_refl _) j1 (by omega))
      · rw [esuf]
        exact SPw.pairwise (fun i j a b c => R.s2 i j (by omega) b (by omega)) (by omega)
      · intro x hx y hy
        rw [esuf] at hy
        obtain ⟨j, j1, j2, j3, rfl⟩ := mem_seg hy
        rcases List.mem_append.mp hx with q | q
        · rw [epre] at q
          obtain ⟨i, i1, i2, i3, rfl⟩ := mem_seg q
          exact ox.trans _ _ _ (hk1' i (by omega)) (R.s2 n1 j (Nat.le_refl _) (by omega) (by omega))
        · rcases hmem x q with ⟨i, i1, i2, rfl⟩ | ⟨i, i1, i2, rfl⟩
          · exact ox.trans _ _ _ (R.s1 i (n1 - 1) (Nat.zero_le _) (by omega) (by omega)) (hm2' j (by omega) (by omega))
          · exact R.s2 i j i1 (by omega) (by omega)
    generalize p.toList.take k ++ out ++ p.toList.drop (k + out.length) = F at hfull hpw ⊢
    have hF : F.length = N := by rw [hfull.length_eq, hL]
    have := hq F.toArray g' ⟨by simpa using hF, by simpa using hfull.trans hp.perm⟩ (by rw [← hF]; exact SPw.of_pairwise hpw o)
    rw [show arrIt it F = (F.toArray).map (kas_item it) by simp [arrIt]]
    exact this
  rw [ex, ey]
  refine wpS_ite (fun _ => ?_) (fun _ => ?_)
  · exact wpS_bind (mergeLo_w hc T fun res g' hf => wpS_bind (wpS_modify (wpS_bind (wpS_get (wpS_pure (fin res g' hf))))))
  · exact wpS_bind (mergeHi_w hc T fun res g' hf => wpS_bind (wpS_modify (wpS_bind (wpS_get (wpS_pure (fin res g' hf))))))
end
end Mine

set_option maxHeartbeats 1000000
namespace Mine
open PySem PySem.W PyProof.Rows

section
variable {prog : Program} {w : World} {A : Around} {E : Value → Shared → Prop} {s : Shared} {κ : SortKind} {it : Array Keyed} {N : Nat} {lt : Nat → Nat → Bool}
theorem minRun_mid (h1 : 2 ≤ N) (h2 : N < 128) : ∃ mr, minRun' N N 0 = mr ∧ mr ≤ N ∧ N ≤ 2 * mr := by
  obtain ⟨f, hf⟩ : ∃ f, N = f + 1 + 1 := ⟨N - 2, by omega⟩
  by_cases h : N < 64
  · refine ⟨N, ?_, Nat.le_refl _, by omega⟩
    have : minRun' (f + 1 + 1) N 0 = N := by rw [minRun'_succ, if_pos h]; rfl
    rwa [← hf] at this
  · refine ⟨N / 2 + N % 2, ?_, by omega, by omega⟩
    have : minRun' (f + 1 + 1) N 0 = N / 2 + N % 2 := by
      rw [minRun'_succ, if_neg (by omega), minRun'_succ, if_pos (by omega), Nat.zero_max]
    rwa [← hf] at this
theorem Run.trans {lo : Nat} {p0 p1 p2 : Array Nat} {n m : Nat} (x : Run lt N lo p0 p1 n) (y : Run lt N lo p1 p2 m) : Run lt N lo p0 p2 m := ⟨y.in_, y.sp, y.fx, fun k hk => (y.low k hk).trans (x.low k hk)⟩
theorem Run.self {lo : Nat} {p0 p1 : Array Nat} {n : Nat} (x : Run lt N lo p0 p1 n) : Run lt N lo p1 p1 n := ⟨x.in_, x.sp, x.fx, fun _ _ => rfl⟩
theorem In.at {p : Array Nat} (hp : In N p) {v : Nat} (hv : v < N) : ∃ j, j < N ∧ gP p j = v := by
  have hm : v ∈ p.toList := hp.perm.mem_iff.mpr (by simpa using hv)
  obtain ⟨j, hj, e⟩ := List.getElem_of_mem hm
  have hj' : j < N := by simpa [hp.size] using hj
  refine ⟨j, hj', ?_⟩
  rw [← gL_toList]; simp [gL, ← e, hp.size, hj']
theorem Runs2.of {p1 p2 : Array Nat} {n1 : Nat} (h0 : 0 < n1) (hn : n1 < N) {p0 : Array Nat} (R1 : Run lt N 0 p0 p1 n1) (R2 : Run lt N n1 p1 p2 (N - n1)) : Runs2 lt N n1 p2 := by
  have f1 : Fx2 N p1 n1 := fun m hm hm' => R1.fx m (by omega) hm'
  refine ⟨R2.in_, hn, h0, fun i j hi hij hj => ?_, fun i j hi hij hj => R2.sp i j hi hij (by omega), fun i hi => ?_, fun i hi hi' => ?_⟩
  · rw [R2.low i (by omega), R2.low j hj]; exact R1.sp i j hi hij (by omega)
  · rw [R2.low i hi]; exact f1.lo R1.in_ hi (by omega)
  · rcases Nat.lt_or_ge (gP p2 i) n1 with q | q
    · obtain ⟨j, hj, e⟩ := R1.in_.at (v := gP p2 i) (by omega)
      have hj1 : j < n1 := by
        rcases Nat.lt_or_ge j n1 with q' | q'
        · exact q'
        · rw [f1 j q' hj] at e; omega
      rw [← R2.low j hj1] at e
      have := R2.in_.inj hj hi' e
      omega
    · exact q
theorem runs_mid_w (hc : Asks prog w A s κ it N lt) (o : Ord lt) (h1 : 2 ≤ N) (h2 : N < 128) {Q : Unit → SortSt → Prop}
    (hq : ∀ p pend g, In N p → SPw (lx lt) p 0 N → Q () (sst κ it p pend g)) : wpS (model prog w) A E s sortRuns' Q (sst κ it (List.toArray (List.range N)) #[] 7) := by
  have ox := o.lx
  rw [sortRuns'_eq]
  refine wpS_bind (wpS_get ?_)
  have hsz : (arrOf (sst κ it (List.toArray (List.range N)) #[] 7)).size = N := by
    show (Array.map (kas_item it) (List.toArray (List.range N))).size = N
    simp
  dsimp only
  obtain ⟨mr, hmr, hm1, hm2⟩ := minRun_mid h1 h2
  rw [hsz, hmr]
  have hp0 : In N (List.toArray (List.range N)) := ⟨by simp, by simp⟩
  have hf0 : Fx2 N (List.toArray (List.range N)) 0 := fun m _ hm => gP_range hm
  clear hsz
  generalize List.toArray (List.range N) = p0 at hp0 hf0 ⊢
  refine wpS_bind (wpS_mono (wpS_forRange
    (I := fun x c st' => (x = 0 ∧ c = (none, 0) ∧ st' = sst κ it p0 #[] 7) ∨ (x = 1 ∧ ∃ p n1, c = (none, n1) ∧ st' = sst κ it p #[(0, n1, 0)] 7 ∧ Run lt N 0 p0 p n1 ∧ mr ≤ n1 ∧ n1 ≤ N)
      ∨ (2 ≤ x ∧ ∃ p n1 pw, c = (none, N) ∧ st' = sst κ it p #[(0, n1, pw), (n1, N - n1, 0)] 7 ∧ Runs2 lt N n1 p))
    (Q := fun c st' => (∃ p, c = (none, N) ∧ st' = sst κ it p #[(0, N, 0)] 7 ∧ In N p ∧ SPw (lx lt) p 0 N) ∨ (∃ p n1 pw, c = (none, N) ∧ st' = sst κ it p #[(0, n1, pw), (n1, N - n1, 0)] 7 ∧ Runs2 lt N n1 p)) ?step ?fin (.inl ⟨rfl, rfl, rfl⟩)) ?post)
  case fin =>
    rintro c st' (⟨hx, _, _⟩ | ⟨hx, _⟩ | ⟨hx, h⟩)
    · omega
    · omega
    · exact .inr h
  case step =>
    rintro x c st' _ hx (⟨rfl, rfl, rfl⟩ | ⟨hx1, p, n1, rfl, rfl, R, hn1, hn2⟩ | ⟨hx2, p, n1, pw, rfl, rfl, R⟩)
    · refine wpS_ite (fun e => ?_) (fun _ => ?_)
      · have : 0 ≥ N := e
        omega
      refine wpS_bind (count_w (lo := 0) (nrem := N - 0) hc o hp0 hf0 (by omega) (by omega) fun n p n1 n2 R => ?_)
      refine wpS_ite (fun hlt => ?_) (fun hlt => ?_)
      · have hlt' : n < mr := hlt
        refine wpS_bind (wpS_lift (wpAny_rule ⟨rfl, ?_⟩))
        refine wpS_bind (bin_w (lo := 0) (n := min (N - 0) (mr)) (ok := n) hc o n1 (by omega) (by omega) R.self fun p' R' => ?_)
        simp only [Bool.not_true, Bool.false_eq_true, if_false]
        refine wpS_bind (wpS_get ?_)
        exact wpS_bind (wpS_modify (wpS_pure (.inr (.inl ⟨trivial, p', 0 + min (N - 0) (mr), rfl, by rw [Nat.zero_add]; rfl, by rw [Nat.zero_add]; exact R.trans R', by omega, by omega⟩))))
      · have hlt' : ¬ n < mr := hlt
        refine wpS_bind (wpS_get ?_)
        exact wpS_bind (wpS_modify (wpS_pure (.inr (.inl ⟨rfl, p, 0 + n, rfl, by rw [Nat.zero_add]; rfl, by rw [Nat.zero_add]; exact R, by omega, by omega⟩))))
    · refine wpS_ite (fun e => wpS_pure (.inl ?_)) (fun e => ?_)
      · have e' : n1 ≥ N := e
        have : n1 = N := by omega
        subst this
        exact ⟨p, rfl, rfl, R.in_, fun i j hi hij hj => R.sp i j hi hij (by omega)⟩
      have e' : ¬ n1 ≥ N := e
      refine wpS_bind (count_w (lo := n1) (nrem := N - n1) hc o R.in_ (fun m hm hm' => R.fx m (by omega) hm') (by omega) (by omega) fun n p' m1 m2 R' => ?_)
      refine wpS_ite (fun hlt => ?_) (fun hlt => ?_)
      · refine wpS_bind (wpS_lift (wpAny_rule ⟨rfl, ?_⟩))
        refine wpS_bind (bin_w (lo := n1) (n := min (N - n1) (mr)) (ok := n) hc o m1 (by omega) (by omega) R'.self fun p2 R2 => ?_)
        have hmin : min (N - n1) (mr) = N - n1 := by omega
        rw [hmin] at R2 ⊢
        simp only [Bool.not_true, Bool.false_eq_true, if_false]
        refine wpS_bind (wpS_get ?_)
        refine wpS_bind (wpS_mono (wpS_forRange (I := fun y c st' => c = (none, ()) ∧ st' = sst κ it p2 #[(0, n1, 0)] 7) (Q := fun c st' => c = (none, ()) ∧ st' = sst κ it p2 #[(0, n1, 0)] 7) ?_ (fun c st' h => h) ⟨rfl, rfl⟩) ?_)
        · rintro y c st' _ _ ⟨rfl, rfl⟩
          exact wpS_bind (wpS_get (wpS_pure ⟨rfl, rfl⟩))
        · rintro c st' ⟨rfl, rfl⟩
          exact wpS_bind (wpS_modify (wpS_bind (wpS_modify (wpS_pure (.inr (.inr ⟨by omega, p2, n1, _, by rw [show n1 + (N - n1) = N by omega], rfl, Runs2.of (by omega) (by omega) R (R'.trans R2)⟩))))))
      · have hlt' : ¬ n < mr := hlt
        have hnn : n = N - n1 := by omega
        subst hnn
        refine wpS_bind (wpS_get ?_)
        refine wpS_bind (wpS_mono (wpS_forRange (I := fun y c st' => c = (none, ()) ∧ st' = sst κ it p' #[(0, n1, 0)] 7) (Q := fun c st' => c = (none, ()) ∧ st' = sst κ it p' #[(0, n1, 0)] 7) ?_ (fun c st' h => h) ⟨rfl, rfl⟩) ?_)
        · rintro y c st' _ _ ⟨rfl, rfl⟩
          exact wpS_bind (wpS_get (wpS_pure ⟨rfl, rfl⟩))
        · rintro c st' ⟨rfl, rfl⟩
          exact wpS_bind (wpS_modify (wpS_bind (wpS_modify (wpS_pure (.inr (.inr ⟨by omega, p', n1, _, by rw [show n1 + (N - n1) = N by omega], rfl, Runs2.of (by omega) (by omega) R R'⟩))))))
    · refine wpS_ite (fun e => wpS_pure (.inr ⟨p, n1, pw, rfl, rfl, R⟩)) (fun e => absurd (show N ≥ N from Nat.le_refl _) e)
  case post =>
    intro c st' hcs
    have hc0 : c = (none, N) := by
      rcases hcs with ⟨p, rfl, _⟩ | ⟨p, n1, pw, rfl, _⟩ <;> rfl
    subst hc0
    refine wpS_bind (wpS_mono (wpS_forRange
      (I := fun x c st' => c = (none, ()) ∧ ((∃ p pw g, st' = sst κ it p #[(0, N, pw)] g ∧ In N p ∧ SPw (lx lt) p 0 N) ∨ (x = 0 ∧ ∃ p n1 pw, st' = sst κ it p #[(0, n1, pw), (n1, N - n1, 0)] 7 ∧ Runs2 lt N n1 p)))
      (Q := fun c st' => c = (none, ()) ∧ (∃ p pw g, st' = sst κ it p #[(0, N, pw)] g ∧ In N p ∧ SPw (lx lt) p 0 N)) ?stepF ?finF ⟨rfl, ?initF⟩) ?postF)
    case initF =>
      rcases hcs with ⟨p, _, h, h3, h4⟩ | ⟨p, n1, pw, _, h, h3⟩
      · exact .inl ⟨p, 0, 7, h, h3, h4⟩
      · exact .inr ⟨rfl, p, n1, pw, h, h3⟩
    case finF =>
      rintro c st' ⟨rfl, h | ⟨hx, _⟩⟩
      · exact ⟨rfl, h⟩
      · omega
    case postF =>
      rintro c st' ⟨rfl, p, pw, g, rfl, h3, h4⟩
      exact wpS_pure (hq p _ g h3 h4)
    case stepF =>
      rintro x c st' _ hx ⟨rfl, ⟨p, pw, g, rfl, h3, h4⟩ | ⟨rfl, p, n1, pw, rfl, R⟩⟩
      · refine wpS_bind (wpS_get ?_)
        refine wpS_ite (fun _ => wpS_pure ⟨rfl, p, pw, g, rfl, h3, h4⟩) (fun e => absurd (show (1 : Nat) ≤ 1 from Nat.le_refl _) e)
      · refine wpS_bind (wpS_get ?_)
        refine wpS_ite (fun e => absurd (show ¬ (2 : Nat) ≤ 1 by omega) (not_not_intro e)) (fun e => ?_)
        refine wpS_bind (mergeAt_w hc o R fun p' g' h3 h4 => ?_)
        refine wpS_ite (fun e => by cases e) (fun e => wpS_pure ⟨rfl, .inl ⟨p', pw, g', rfl, h3, h4⟩⟩)
theorem runs_mid (hc : Asks prog w A s κ it N lt) (o : Ord lt) (h1 : 2 ≤ N) (h2 : N < 128) (hit : it.size = N) {Q : PUnit × SortSt → Shared → Prop}
    (h : ∀ p st', In N p → SP (lx lt) p N → arrOf st' = p.map (kas_item it) → failedOf st' = none → Q ((), st') s) :
    wpAny (model prog w) A ((sortRuns').run (SortSt.mk' κ it #[] 7 none)) Q E s := by
  have est : SortSt.mk' κ it #[] 7 none = sst κ it (List.toArray (List.range N)) #[] 7 := by
    have e := kas_range it
    rw [hit] at e
    show _ = SortSt.mk' κ ((List.toArray (List.range N)).map (kas_item it)) #[] 7 none
    rw [e]
  rw [est]
  refine wpAny_mono (runs_mid_w (E := E) hc o h1 h2 (Q := fun _ st' => ∃ p, In N p ∧ SP (lx lt) p N ∧ arrOf st' = p.map (kas_item it) ∧ failedOf st' = none) fun p pend g h3 h4 => ⟨p, h3, fun i j hij hj => h4 i j (Nat.zero_le _) hij hj, rfl, rfl⟩) ?_ fun _ _ e => e
  rintro ⟨⟨⟩, st'⟩ s' ⟨rfl, p, b1, b2, b3, b4⟩
  exact h p st' b1 b2 b3 b4
end
end Mine

set_option maxHeartbeats 1000000
namespace Mine
open PySem PySem.W PyProof.Rows

section
variable {prog : Program} {w : World} {A : Around} {E : Value → Shared → Prop} {s : Shared}
theorem runs_small {κ : SortKind} {it : Array Keyed} {N : Nat} {lt : Nat → Nat → Bool} (h2 : 2 ≤ N) (h128 : N < 128) (hit : it.size = N) (o : Ord lt)
    (hc : ∀ i j (Q : Bool → Shared → Prop), i < N → j < N → Q (lt i j) s → wpAny (model prog w) A (keyLt' κ (kas_item it i).1 (kas_item it j).1) Q (fun _ _ => False) s) {Q : PUnit × SortSt → Shared → Prop}
    (h : ∀ p st', In N p → SP (lx lt) p N → arrOf st' = p.map (kas_item it) → failedOf st' = none → Q ((), st') s) :
    wpAny (model prog w) A ((sortRuns').run (SortSt.mk' κ it #[] 7 none)) Q E s := by
  exact runs_mid hc o h2 h128 hit h
theorem in_range (N : Nat) : In N (List.toArray (List.range N)) := ⟨by simp, by simp⟩
theorem sp_small {lt : Nat → Nat → Bool} {N : Nat} {p : Array Nat} (o : Ord lt) (h : N < 2) : SP (lx lt) p N := fun i j hij hj => by
  have : i = j := by omega
  subst this
  exact (o.lx).refl _
end

section
variable {C : Cx} {A : Around} {ρ : Lo} {H : AH} {L : Addr} {s : Shared} {E : Value → Shared → Prop}
theorem St.track {h : Heap} {D : Addr} {o : O} {c : Obj} (x : St C L ρ H h) (hD : H D = none) (hB : C.base.get? D = none) (hL : D ≠ L) (hc : h.get? D = some c) (hr : Rep o c) : St C L ρ (H.set D o) h :=
  St.alloc_fr.St.alloc' x hD hB hL hc hr
noncomputable def zlt (kz : List Int) (i j : Nat) : Bool := decide (kz.getD i 0 < kz.getD j 0)
theorem zlt_ord (kz : List Int) : Ord (zlt kz) := ⟨fun a b h => by unfold zlt at *; simp at *; omega, fun a b c h1 h2 => by unfold zlt at *; simp at *; omega⟩
theorem zip_getD {ks vs : List Value} (hl : ks.length = vs.length) (i : Nat) : kas_item (ks.toArray.zip vs.toArray) i = (ks.getD i Value.none, vs.getD i Value.none) := by
  unfold kas_item
  by_cases h : i < vs.length
  · have h1 : i < (ks.toArray.zip vs.toArray).size := by simp; omega
    rw [Array.getD_eq_getD_getElem?, Array.getElem?_eq_getElem h1, List.getD_eq_getElem?_getD, List.getD_eq_getElem?_getD, List.getElem?_eq_getElem h, List.getElem?_eq_getElem (by omega : i < ks.length)]
    simp
  · have h1 : ¬ i < (ks.toArray.zip vs.toArray).size := by simp; omega
    rw [Array.getD_eq_getD_getElem?, Array.getElem?_eq_none (by omega), List.getD_eq_getElem?_getD, List.getD_eq_getElem?_getD, List.getElem?_eq_none (by omega), List.getElem?_eq_none (by omega)]
    rfl
/-- a.sort(key=f) -/
theorem sort_keyed {a : Addr} {n : Nat} {vs : List Value} {kz : List Int} {f : Value} {P : PySem.Fin → Shared → Prop} (hs : St C L ρ H s.heap) (ho : s.heap.get? a = some (seqObj "list" vs.toArray n)) (haH : H a = none) (haB : C.base.get? a = none) (haL : a ≠ L)
    (hlen : kz.length = vs.length) (h64 : vs.length < 128)
    (hkey : ∀ (i : Nat) (v : Value) (k : Int), vs[i]? = some v → kz[i]? = some k → W C A L (call f [v]) ρ H (fun r ρ' H' => ρ' = ρ ∧ H' = H ∧ ab r = .int k))
    (h : ∀ p s' c, In vs.length p → SP (lx (zlt kz)) p vs.length → St C L ρ H s'.heap → StepX [a] L H H s s' → s'.heap.get? a = some (seqObj "list" (p.toList.map fun i => vs.getD i Value.none).toArray c) → P (.done (.ret .none)) s') :
    wpAny C.M A (ksk_tree a f false) P E s := by
  have ha : a < s.heap.objs.size := Heap.lt_size ho
  have s1 := Heap.SameBut.update s.heap a (Obj.mapSeq fun _ => (#[] : Array Value))
  obtain ⟨e1, ho1⟩ : ∃ e1, (s.heap.update a (Obj.mapSeq fun _ => (#[] : Array Value))).get? a = some (seqObj "list" #[] e1) := ⟨_, get?_update_seq ho fun _ => #[]⟩
  unfold ksk_tree
  refine wpAny_bind (listItems_at ho rfl ?_)
  refine wpAny_bind (listUpdate_at ho rfl ?_ (by rw [List.size_toArray, sizeLine_eq]; omega) (Nat.zero_le _))
  refine wpAny_bind (seqEpoch_at ho1 rfl ?_)
  refine wpAny_bind (wpAny_newTuple ?_ (by show vs.length ≤ _; rw [sizeLine_eq]; omega))
  refine wpAny_bind (wpAny_newList ?_ (Nat.zero_le _))
  refine wpAny_holding ?_
  have hkS : ((s.heap.update a (Obj.mapSeq fun _ => (#[] : Array Value))).push (seqObj "tuple" vs.toArray 0)).objs.size = s.heap.objs.size + 1 := by rw [size_push', Heap.size_update]
  show wpAny C.M A (ksk_rest a f false vs.toArray e1 (.ref ((s.heap.update a (Obj.mapSeq fun _ => (#[] : Array Value))).push (seqObj "tuple" vs.toArray 0)).objs.size)) P E { s with heap := ((s.heap.update a (Obj.mapSeq fun _ => (#[] : Array Value))).push (seqObj "tuple" vs.toArray 0)).push (seqObj "list" #[] 0) }
  have hx : Heap.ExtBut a s.heap (((s.heap.update a (Obj.mapSeq fun _ => (#[] : Array Value))).push (seqObj "tuple" vs.toArray 0)).push (seqObj "list" #[] 0)) := fun b o hb e => Heap.get?_push_of_some _ (Heap.get?_push_of_some _ (s1.extBut b o hb e))
  have ho6 : (((s.heap.update a (Obj.mapSeq fun _ => (#[] : Array Value))).push (seqObj "tuple" vs.toArray 0)).push (seqObj "list" #[] 0)).get? a = some (seqObj "list" #[] e1) := Heap.get?_push_of_some _ (Heap.get?_push_of_some _ ho1)
  have hk6 : (((s.heap.update a (Obj.mapSeq fun _ => (#[] : Array Value))).push (seqObj "tuple" vs.toArray 0)).push (seqObj "list" #[] 0)).get? ((s.heap.update a (Obj.mapSeq fun _ => (#[] : Array Value))).push (seqObj "tuple" vs.toArray 0)).objs.size = some (seqObj "list" #[] 0) := Heap.get?_push_size _ rfl
  have hkn : s.heap.get? (s.heap.objs.size + 1) = none := Heap.get?_none_of_le (by omega)
  rw [hkS] at hk6 ⊢
  have fk := hs.fresh hkn
  have hka : s.heap.objs.size + 1 ≠ a := Nat.ne_of_gt (Nat.lt_succ_of_lt ha)
  generalize ((s.heap.update a (Obj.mapSeq fun _ => (#[] : Array Value))).push (seqObj "tuple" vs.toArray 0)).push (seqObj "list" #[] 0) = h6 at *
  generalize hkS' : s.heap.objs.size + 1 = kS at *
  clear hkS
  have hs6 : St C L ρ H h6 := hs.off haH haB haL hx
  have st6 : StepX [a] L H H s { s with heap := h6 } := StepX.off (fun b o hb e => hx b o (fun q => hb (by simp [q])) e)
  unfold ksk_rest
  refine wpAny_bind (wpAny_rule ?_)
  first
    | rw [List.forIn_toArray]
    | (rw [← Array.forIn_toList]; simp only [List.toList_toArray])
    | rw [← Array.forIn_toList]
  refine wpAny_bind (ksk_fold (fun i s' => ∃ (kA : List Value) (e : Nat), St C L ρ H s'.heap ∧ StepX [a] L H H s s' ∧ s'.heap.get? a = some (seqObj "list" #[] e1) ∧ s'.heap.get? kS = some (seqObj "list" kA.toArray e) ∧ kA.map ab = vints (kz.take i)) vs 0 { s with heap := h6 } ⟨[], 0, hs6, st6, ho6, hk6, by simp [vints]⟩ ?step ?done)
  case step =>
    rintro j x s' hx' ⟨kA, e, q1, q2, q3, q4, q5⟩
    simp only [Nat.zero_add] at q5 ⊢
    have hj : j < vs.length := (List.getElem?_eq_some_iff.mp hx').1
    obtain ⟨k, hkj⟩ : ∃ k, kz[j]? = some k := ⟨_, List.getElem?_eq_getElem (by omega)⟩
    have hz : kA.length ≤ vs.length := by
      have h1 := congrArg List.length q5
      rw [List.length_map, ints_length, List.length_take] at h1
      omega
    refine wpAny_bind (wpAny_attempt (wpAny_mono (hkey j x k hx' hkj s' q1) (fun v s'' he => ?_) fun _ _ hF => hF.elim))
    obtain ⟨ρ2, H2, r1, r2, rfl, rfl, r3⟩ := he
    have na : s''.heap.get? a = some (seqObj "list" #[] e1) := r2.kept a _ q3 haH haL
    have nk : s''.heap.get? kS = some (seqObj "list" kA.toArray e) := r2.kept kS _ q4 fk.1 fk.2.2
    have u1 := Heap.SameBut.update s''.heap kS (Obj.mapSeq (·.push v))
    have ea : kA.toArray.push v = (kA ++ [v]).toArray := by simp
    have ek : kz.take (j + 1) = kz.take j ++ [k] := by rw [List.take_add_one, hkj]; simp
    refine wpAny_bind (listUpdate_at nk rfl ?_ (by rw [List.size_toArray, sizeLine_eq]; omega) (Nat.le_trans (Nat.le_of_eq (Array.size_push ..)) (by rw [List.size_toArray, sizeLine_eq]; omega)))
    refine wpAny_pure ⟨rfl, kA ++ [v], _, r1.off fk.1 fk.2.1 fk.2.2 (fun b o hb e => u1.extBut b o hb e), ?_, (u1.extBut a _ (Ne.symm hka) na), by rw [← ea]; exact get?_update_seq nk (·.push v), by rw [List.map_append, q5, ek]; simp [vints, r3]⟩
    have t2 : StepX [kS] L H2 H2 s'' { s'' with heap := s''.heap.update kS (Obj.mapSeq (·.push v)) } := StepX.off (fun b o hb e => u1.extBut b o (fun q => hb (by simp [q])) e)
    have t1 : StepX [a] L H2 H2 s s'' := q2.trans r2.toX
    have t3 : StepX [a, kS] L H2 H2 s { s'' with heap := s''.heap.update kS (Obj.mapSeq (·.push v)) } := (t1.mono (ex' := [a, kS]) (fun b hb o _ => by simp at hb; simp [hb])).trans (t2.mono (ex' := [a, kS]) (fun b hb o _ => by simp at hb; simp [hb]))
    exact t3.mono (ex' := [a]) (fun b hb o e => by
      simp at hb
      rcases hb with q | q
      · simp [q]
      · rw [q, hkn] at e; cases e)
  case done =>
    rintro s' ⟨kA, e, q1, q2, q3, q4, q5⟩
    rw [List.take_of_length_le (by omega)] at q5
    have hkl : kA.length = vs.length := by have := congrArg List.length q5; rw [List.length_map, ints_length] at this; omega
    refine wpAny_bind (listItems_at q4 rfl ?_)
    have hints : IntsAre kA kz := intsAre_of q5
    have fin : ∀ (p : Array Nat) (st' : SortSt), In vs.length p → SP (lx (zlt kz)) p vs.length → arrOf st' = p.map (kas_item (kA.toArray.zip vs.toArray)) → failedOf st' = none → wpAny C.M A (ksk_tail a false e1 (.ref kS) st') P E s' := by
      intro p st' hp hsp har hf
      have hout : (arrOf st').map (·.2) = List.toArray (p.toList.map fun i => vs.getD i Value.none) := by
        apply Array.toList_inj.mp
        rw [har, Array.map_map, Array.toList_map]
        exact List.map_congr_left fun i _ => by show (kas_item (kA.toArray.zip vs.toArray) i).2 = _; rw [zip_getD hkl]
      have hsz : (List.toArray (p.toList.map fun i => vs.getD i Value.none)).size = vs.length := by rw [List.size_toArray, List.length_map, Array.length_toList, hp.size]
      have u1 := Heap.SameBut.update s'.heap kS (Obj.mapSeq fun _ => (#[] : Array Value))
      have na1 := u1.extBut a _ (Ne.symm hka) q3
      have u2 := Heap.SameBut.update (s'.heap.update kS (Obj.mapSeq fun _ => (#[] : Array Value))) a (Obj.mapSeq fun _ => List.toArray (p.toList.map fun i => vs.getD i Value.none))
      unfold ksk_tail
      try dsimp only
      rw [hout]
      refine wpAny_bind (listUpdate_at q4 rfl ?_ (by rw [List.size_toArray, sizeLine_eq]; omega) (Nat.zero_le _))
      refine wpAny_bind (wpAny_letGo ?_)
      refine wpAny_bind (seqEpoch_at na1 rfl ?_)
      refine wpAny_bind (listUpdate_at na1 rfl ?_ (Nat.zero_le _) (Nat.le_trans (Nat.le_of_eq hsz) (by rw [sizeLine_eq]; omega)))
      rw [hf]
      simp only [bne_self_eq_false, Bool.false_eq_true, if_false]
      refine wpAny_pure (h p _ _ hp hsp ((q1.off fk.1 fk.2.1 fk.2.2 (fun b o hb e => u1.extBut b o hb e)).off haH haB haL (fun b o hb e => u2.extBut b o hb e)) ?_ (get?_update_seq na1 fun _ => List.toArray (p.toList.map fun i => vs.getD i Value.none)))
      have t2 : StepX [a, kS] L H H s' { s' with heap := ((s'.heap.update kS (Obj.mapSeq fun _ => (#[] : Array Value))).update a (Obj.mapSeq fun _ => List.toArray (p.toList.map fun i => vs.getD i Value.none))) } := StepX.off (fun b o hb e => u2.extBut b o (fun q => hb (by simp [q])) (u1.extBut b o (fun q => hb (by simp [q])) e))
      have t3 := (q2.mono (ex' := [a, kS]) (fun b hb o _ => by simp at hb; simp [hb])).trans t2
      exact t3.mono (ex' := [a]) (fun b hb o e => by
        simp at hb
        rcases hb with q | q
        · simp [q]
        · rw [q, hkn] at e; cases e)
    unfold ksk_end
    try dsimp only
    show wpAny C.M A (do
      let kind ← if vs.toArray.size < 2 then pure general' else keyKind' kA.toArray
      let ((), s) ← (if vs.toArray.size < 2 then pure () else sortRuns').run (SortSt.mk' kind (kA.toArray.zip vs.toArray) #[] 7 none)
      ksk_tail a false e1 (.ref kS) s) P E s'
    have hzs : (kA.toArray.zip vs.toArray).size = vs.length := by simp; omega
    by_cases h2 : vs.toArray.size < 2
    · rw [if_pos h2, if_pos h2]
      refine wpAny_bind (wpAny_pure ?_)
      dsimp only
      rw [StateT.run_pure]
      refine wpAny_bind (wpAny_pure ?_)
      rw [List.size_toArray] at h2
      refine fin (List.toArray (List.range vs.length)) (SortSt.mk' general' (kA.toArray.zip vs.toArray) #[] 7 none) (in_range _) (sp_small (zlt_ord kz) h2) ?_ rfl
      have e := kas_range (kA.toArray.zip vs.toArray)
      rw [hzs] at e
      exact e.symm
    · rw [if_neg h2, if_neg h2]
      rw [List.size_toArray] at h2
      rw [ksk_kind (keys := kA.toArray) (kz := kz) (by simpa using hints) (by rw [List.size_toArray]; omega)]
      refine wpAny_bind (wpAny_pure ?_)
      dsimp only
      refine wpAny_bind (runs_small (N := vs.length) (lt := zlt kz) (by omega) h64 hzs (zlt_ord kz) (fun i j Q hi hj hq => ?_) fun p st' b1 b2 b3 b4 => fin p st' b1 b2 b3 b4)
      rw [zip_getD hkl, zip_getD hkl]
      have gi : ∀ i, i < vs.length → ∃ t, kA.getD i Value.none = .int (kz.getD i 0) t := fun i hi => by
        obtain ⟨t, ht⟩ := hints.get i (kz.getD i 0) (by rw [List.getD_eq_getElem?_getD, List.getElem?_eq_getElem (by omega : i < kz.length)]; rfl)
        exact ⟨t, by rw [List.getD_eq_getElem?_getD, ht]; rfl⟩
      obtain ⟨t, ht⟩ := gi i hi
      obtain ⟨u, hu⟩ := gi j hj
      show wpAny C.M A (keyLt' oneType' (kA.getD i Value.none) (kA.getD j Value.none)) Q _ _
      rw [ht, hu, keyLt'_oneType]
      exact oneLt_int hq
end
end Mine

set_option maxHeartbeats 1000000
namespace Mine
open PySem PySem.W PyProof.Rows PySem.Calls

/-- the same frame, some units deeper -/
noncomputable def Nr (A A' : Around) : Prop := A'.depth = A.depth ∧ A'.handled = A.handled ∧ A.units ≤ A'.units ∧ A'.units ≤ A.units + 8
theorem Nr.one (A : Around) : Nr A A.in1 := ⟨rfl, rfl, Nat.le_succ _, by show A.units + 1 ≤ _; omega⟩
theorem Nr.two (A : Around) : Nr A A.in1.in1 := ⟨rfl, rfl, by show _ ≤ A.units + 1 + 1; omega, by show A.units + 1 + 1 ≤ _; omega⟩

/-- what list(v) holds -/
noncomputable def Coll (C : Cx) (A : Around) (H : AH) (x : V) (R : List V → Prop) : Prop :=
  ∀ L ρ (v : Value) (s : Shared) (E : Value → Shared → Prop) (Q : List Value → Shared → Prop), ab v = x → St C L ρ H s.heap →
    (∀ us s', R (us.map ab) → us.length ≤ sizeLine → St C L ρ H s'.heap → Step L H H s s' → Q us s') → wpAny C.M A (collect v) Q E s
section
variable {C : Cx} {A : Around} {env : Env} {ρ : Lo} {H : AH}

theorem map_getD {us : List Value} {p : Array Nat} {n : Nat} (hp : In n p) (hn : us.length = n) : ((p.toList.map fun i => us.getD i Value.none).map ab) = p.toList.map fun i => (us.map ab).getD i V.none := by
  rw [List.map_map]
  apply List.map_congr_left
  intro i hi
  have hi' : i < us.length := by rw [hn]; simpa using hp.perm.mem_iff.mp hi
  show ab (us.getD i Value.none) = _
  rw [List.getD_eq_getElem?_getD, List.getD_eq_getElem?_getD, List.getElem?_map, List.getElem?_eq_getElem hi']; rfl
/-- sorted(v, key=f) -/
theorem WCall.sortedKeyC {x : V} {g : Addr} {R : List V → Prop} {kf : V → Int} {Q : V → AH → Prop} (hcol : ∀ A', Nr A A' → Coll C A' H x R) (h64 : ∀ us, R us → us.length < 128)
    (hkey : ∀ A', Nr A A' → ∀ us, R us → ∀ v ∈ us, KeyOk C A' H g v (.int (kf v)))
    (h : ∀ us D p, R us → H D = none → In us.length p → SP (lx (zlt (us.map kf))) p us.length → Q (.ref D) (H.set D (.list (p.toList.map fun i => us.getD i .none)))) : WCall C A (.bi "sorted") [x] [("key", .ref g)] H Q := by
  intro L ρ fv vals kvs e1 e2 e3
  cases ab_bi e1
  obtain ⟨xv, rfl, ex⟩ := vals1 e2
  obtain ⟨⟨kn, kv⟩, rfl, ek⟩ : ∃ q, kvs = [q] ∧ (q.1, ab q.2) = (("key" : Str), V.ref g) := by
    have hl := congrArg List.length e3
    rw [List.length_map] at hl
    obtain ⟨q, rfl⟩ := List.length_eq_one_iff.mp hl
    exact ⟨q, rfl, (List.cons.inj e3).1⟩
  simp only [Prod.mk.injEq] at ek
  obtain ⟨rfl, ek⟩ := ek
  cases ab_ref ek
  intro s hs
  refine call_function_entry_kw kind_sorted plain_sorted entry_sorted (ksk_s1 xv (.ref g)) ?_
  unfold Builtin.«sorted»
  refine wpAny_bind (m := checkCount "sorted" 1 1 _) (wpAny_pure ?_)
  refine wpAny_bind (hcol _ (Nr.one A) L ρ xv s _ _ ex hs fun us s1 hR hsz hs1 st1 => ?_)
  have hl64 := h64 _ hR
  rw [List.length_map] at hl64
  refine wpAny_bind (wpAny_newList ?_ (by rw [sizeLine_eq]; omega))
  have k2 : ∀ b o, s1.heap.get? b = some o → (s1.heap.push (seqObj "list" us.toArray 0)).get? b = some o := fun b o e => Heap.get?_push_of_some _ e
  have hn := get?_size_none s1.heap
  have hf := hs1.fresh hn
  have hs2 : St C L ρ H (s1.heap.push (seqObj "list" us.toArray 0)) := hs1.ext k2
  have hoL : (s1.heap.push (seqObj "list" us.toArray 0)).get? s1.heap.objs.size = some (seqObj "list" us.toArray 0) := Heap.get?_push_size _ rfl
  have hnS : s.heap.get? s1.heap.objs.size = none := by
    cases q : s.heap.get? s1.heap.objs.size with
    | none => rfl
    | some o => obtain ⟨o', e'⟩ := st1.live _ o q; rw [hn] at e'; cases e'
  show wpAny C.M _ _ _ _ { s1 with heap := s1.heap.push (seqObj "list" us.toArray 0) }
  refine wpAny_bind (wpAny_holding (wpAny_call_entry_kw slot_list_sort ⟨_, hoL, rfl⟩ entry_list_sort ?body (ksk_l1 _ (.ref g))))
  case body =>
    show wpAny C.M A.in1.in1 (Builtin.«list.sort» ⟨[.ref s1.heap.objs.size], [(Str.ofString "key", .ref g)]⟩) _ _ _
    rw [ksk_t1]
    refine sort_keyed (C := C) (L := L) (ρ := ρ) (H := H) (kz := (us.map ab).map kf) (vs := us) (s := { s1 with heap := s1.heap.push (seqObj "list" us.toArray 0) }) hs2 hoL hf.1 hf.2.1 hf.2.2 (by simp) hl64 (fun i v k hv hk => ?_) fun p s' c hp hsp hs' st' hD => ⟨.none, rfl, wpAny_pure ⟨.ref s1.heap.objs.size, rfl, ?_⟩⟩
    · have hk' : k = kf (ab v) := by
        rw [List.getElem?_map, List.getElem?_map, hv] at hk
        exact (Option.some.inj hk).symm
      subst hk'
      refine W.mono (hkey _ (Nr.two A) _ hR (ab v) (List.mem_map.mpr ⟨v, List.mem_of_getElem? hv, rfl⟩) L ρ (.ref g) [v] [] rfl rfl rfl) ?_
      rintro r ρ' H' ⟨rfl, e, rfl⟩
      exact ⟨rfl, rfl, e⟩
    · have hlen : (us.map ab).length = us.length := by simp
      refine ⟨ρ, H.set s1.heap.objs.size (.list (p.toList.map fun i => (us.map ab).getD i V.none)), hs'.track hf.1 hf.2.1 hf.2.2 hD ⟨_, _, rfl, by rw [List.toList_toArray]; exact map_getD hp rfl, by rw [List.length_map, Array.length_toList, hp.size]; exact hsz⟩, ?_, rfl, h _ _ p hR hf.1 (by rw [hlen]; exact hp) (by rw [hlen]; exact hsp)⟩
      have t1 : StepX [s1.heap.objs.size] L H H s s' := ((st1.trans (Step.ext (tk := s1.toks) k2) (fun _ _ => hs1.nl)).toX).trans st'
      have ne : ∀ b o, s.heap.get? b = some o → b ∉ [s1.heap.objs.size] := fun b o e q => by rw [List.mem_singleton.mp q, hnS] at e; cases e
      refine ⟨t1.same, fun b o e eb eL => t1.kept b o (ne b o e) e eb eL, fun b o e eb => ?_, fun b o e => t1.live b o (ne b o e) e⟩
      rw [AH.set_ne _ _ (fun q => ne b o e (by simp [q]))]; exact t1.new b o (ne b o e) e eb
end
end Mine

set_option maxHeartbeats 1000000
namespace Mine
open PySem PySem.W PyProof.Rows PySem.Calls

section
variable {C : Cx} {A : Around} {env : Env} {ρ : Lo} {H : AH}
/-! ## and, or as values (of truth) -/
theorem Ev.and2 {e1 e2 : Expr} {pos : Pos} {a b : Bool} (h1 : Ev C A env ρ H e1 (.bool a)) (h2 : a = true → Ev C A env ρ H e2 (.bool b)) : Ev C A env ρ H (.BoolOp .And [e1, e2] pos) (.bool (a && b)) := fun s hs => by
  refine BoolOp_and (wpAny_mono (h1 s hs) (fun v s1 ⟨ρ1, H1, a1, b1, c1, c2, c3⟩ => ?_) fun _ _ e => e)
  subst c1 c2
  cases ab_bool c3
  refine wpAny_truthy_bool ?_
  cases a with
  | false => exact ⟨_, _, a1, b1, rfl, rfl, rfl⟩
  | true => exact BoolOp_one ((h2 rfl).at a1 b1)
/-! ## type(x) is not int -/
theorem WCall.typeInt {k : Int} {Q : V → AH → Prop} (h : Q (.ty "int") H) : WCall C A (.ty "type") [.int k] [] H Q := by
  intro L ρ fv vals kvs e1 e2 e3
  cases ab_ty e1
  obtain ⟨x, rfl, ex⟩ := vals1 e2
  cases ab_nil e3
  obtain ⟨t, rfl⟩ := ab_int ex
  intro s hs
  exact call_type_of (Tx := "int") rfl (by decide +kernel) ⟨_, _, hs, .refl .., rfl, h⟩
theorem EvT.typeIsNotInt {e r : Expr} {id : Str} {p pp pos : Pos} {k : Int} (hf : Ev C A env ρ H (.Name id p) (.ty "type")) (he : Ev C A env ρ H e (.int k)) (hr : Ev C A env ρ H r (.ty "int")) (hn : noStar [e] = true := by rfl) (hm : behindInMarks .IsNot r = false := by with_unfolding_all rfl) :
    EvT C A env ρ H (.Compare (.Call (.Name id p) [e] [] pp) [.IsNot] [r] pos) false :=
  Ev.any (v := .ty "int") (WE.ev (WE.callTy hf (WEs.of (.cons he .nil) (WCall.typeInt ⟨rfl, rfl⟩)) hn)) hr (fun x y ex ey => by
    cases ab_ty ex; cases ab_ty ey
    exact fun s hs => isnot_type_same ⟨ρ, H, hs, .refl .., rfl, rfl, rfl⟩) hm
/-! ## a range, as a thing; what list(range) holds -/
noncomputable def RangeFact (c : Obj) (a : Int) (n : Nat) : Prop := ∃ b t u v, c = { cls := .type "range", data := .fields #[.int a t, .int b u, .int 1 v] } ∧ Builtin.Range.small a b 1 = true ∧ Builtin.Range.rangeSize a b 1 = n
theorem WE.rangeObj {e : Expr} {id : Str} {p pos : Pos} {b : Int} {Q : V → AH → Prop} (hf : Ev C A env ρ H (.Name id p) (.ty "range")) (he : Ev C A env ρ H e (.int b)) (hb : -(2 ^ 62) ≤ b) (hb' : b < 2 ^ 62)
    (h : ∀ r c, H r = none → RangeFact c 0 b.toNat → Q (.ref r) (H.set r (.raw c))) (hn : noStar [e] = true := by rfl) : WE C A env (.Call (.Name id p) [e] [] pos) ρ H Q := by
  refine WE.callTy hf (WEs.of (.cons he .nil) ?_) hn
  intro L ρ' fv vals kvs e1 e2 e3
  cases ab_ty e1
  obtain ⟨x, rfl, ex⟩ := vals1 e2
  cases ab_nil e3
  obtain ⟨t, rfl⟩ := ab_int ex
  intro s hs
  have ha := get?_size_none s.heap
  have k : ∀ b' o, s.heap.get? b' = some o → (s.heap.push { cls := .type "range", data := .fields #[.int 0 s.toks, .int b t, .int 1 (s.toks + 1)] }).get? b' = some o := fun b' o e => Heap.get?_push_of_some _ e
  refine call_range_1 ⟨_, _, hs.alloc (o := .raw _) ha (Heap.get?_push_size _ rfl) rfl k, Step.alloc ha k, rfl, h _ _ (hs.fresh ha).1 ⟨b, _, _, _, rfl, small_one (by decide) (by decide) hb hb', by rw [rangeSize_nat]; simp⟩⟩
theorem Coll.range {r : Addr} {c : Obj} {n : Nat} {a : Int} (hh : A.handled = none) (hH : H r = some (.raw c)) (hf : RangeFact c a n) (hn : n ≤ 1000) : Coll C A H (.ref r) (fun us => us = (List.range n).map fun (i : Nat) => V.int (a + i)) := fun L ρ v s E Q ev hs hq => by
  cases ab_ref ev
  obtain ⟨b, t, u, w, rfl, hsm, hsz⟩ := hf
  obtain ⟨c', ho, e⟩ := hs.rep r _ hH
  have e' : c' = _ := e
  subst e'
  unfold collect
  refine wpAny_bind (wpAny_runValue (codeAny_builtin PySem.F.entry_proto_collect ?_))
  rw [Around.under_plainId PySem.F.plain_proto_collect _]
  show wpAny _ A.in1 (newList [] >>= fun l => again (.builtin "list.__iadd__" ⟨[l, .ref r], []⟩)) _ _ s
  refine wpAny_bind (wpAny_newObj_type ?_ (by size_fits))
  refine wpAny_pure ⟨plainId_quiet PySem.F.plain_list_iadd _, codeAny_builtin PySem.F.entry_list_iadd ?_⟩
  rw [Around.under_plainId PySem.F.plain_list_iadd _]
  have hS0 : (s.heap.push { cls := .type "list", data := .seq ([] : List Value).toArray }).get? s.heap.objs.size = some { cls := .type "list", data := .seq #[] 0 } := Heap.get?_push_size _ rfl
  have k0 : ∀ b o, s.heap.get? b = some o → (s.heap.push { cls := .type "list", data := .seq ([] : List Value).toArray }).get? b = some o := fun b o e => Heap.get?_push_of_some _ e
  have hn0 := get?_size_none s.heap
  show wpAny _ A.in1 (Builtin.List.listExtendWith (.ref s.heap.objs.size) (.ref r) (.ref s.heap.objs.size)) _ _ _
  refine wpAny_extend_range (R := fun r s' => match r with
              | Except.ok (Flow.ret v) =>
                wpAny C.M A
                  (match v with
                  | Value.ref a => do
                    let __do_lift ← load a
                    match __do_lift.data with
                      | Data.seq xs epoch => pure xs.toList
                      | x => unsupported "internal:collect"
                  | x => unsupported "internal:collect")
                  Q E s'
              | Except.ok a => False
              | Except.error e => E e s') (A := A) (s := { s with heap := s.heap.push { cls := .type "list", data := .seq ([] : List Value).toArray } }) hh (k0 _ _ ho) hsm hsz (by omega) _ _ 0 hS0 fun h' tk acc' c' hk hS' hacc => ?_
  show wpAny _ A (load s.heap.objs.size >>= _) _ _ _
  refine wpAny_bind (wpAny_load hS' ?_)
  have kk : ∀ b o, s.heap.get? b = some o → h'.get? b = some o := fun b o e => hk b o (fun q => by rw [q, hn0] at e; cases e) (k0 _ _ e)
  have hlen : acc'.toList.length = n := by rw [Array.length_toList]; exact hacc.1
  refine wpAny_pure (hq acc'.toList _ ?_ (by rw [hlen, sizeLine_eq]; omega) (hs.ext kk) (Step.ext kk))
  apply List.ext_getElem?
  intro i
  by_cases hi : i < n
  · have hi' : i < acc'.size := by rw [hacc.1]; exact hi
    obtain ⟨t', h1⟩ := hacc.2 i _ (Array.getElem?_eq_getElem hi')
    rw [List.getElem?_map, Array.getElem?_toList, Array.getElem?_eq_getElem hi', List.getElem?_map, List.getElem?_range hi, Option.map_some, Option.map_some, h1]
    simp [ab]
  · rw [List.getElem?_eq_none (by rw [List.length_map, hlen]; omega), List.getElem?_eq_none (by rw [List.length_map, List.length_range]; omega)]
end
end Mine

set_option maxHeartbeats 4000000
namespace Mine
open PySem PySem.W PyProof.Rows

/-! ## two lists, item by item -/
noncomputable def Zip {α β : Type} (R : α → β → Prop) : List α → List β → Prop
  | [], [] => True
  | a :: as, b :: bs => R a b ∧ Zip R as bs
  | _, _ => False
section
variable {α β : Type} {R R' : α → β → Prop}
theorem Zip.length : ∀ {as : List α} {bs : List β}, Zip R as bs → as.length = bs.length
  | [], [], _ => rfl
  | _ :: _, _ :: _, h => by rw [List.length_cons, List.length_cons, Zip.length h.2]
  | [], _ :: _, h => h.elim
  | _ :: _, [], h => h.elim
theorem Zip.append : ∀ {as : List α} {bs : List β} {cs : List α} {ds : List β}, Zip R as bs → Zip R cs ds → Zip R (as ++ cs) (bs ++ ds)
  | [], [], _, _, _, h => h
  | _ :: _, _ :: _, _, _, h, k => ⟨h.1, Zip.append h.2 k⟩
  | [], _ :: _, _, _, h, _ => h.elim
  | _ :: _, [], _, _, h, _ => h.elim
theorem Zip.take : ∀ {as : List α} {bs : List β} (n : Nat), Zip R as bs → Zip R (as.take n) (bs.take n)
  | _, _, 0, _ => by rw [List.take_zero, List.take_zero]; trivial
  | [], [], _ + 1, _ => trivial
  | _ :: _, _ :: _, n + 1, h => ⟨h.1, Zip.take n h.2⟩
  | [], _ :: _, _ + 1, h => h.elim
  | _ :: _, [], _ + 1, h => h.elim
theorem Zip.drop : ∀ {as : List α} {bs : List β} (n : Nat), Zip R as bs → Zip R (as.drop n) (bs.drop n)
  | _, _, 0, h => h
  | [], [], _ + 1, _ => trivial
  | _ :: _, _ :: _, n + 1, h => Zip.drop n h.2
  | [], _ :: _, _ + 1, h => h.elim
  | _ :: _, [], _ + 1, h => h.elim
theorem Zip.mono : ∀ {as : List α} {bs : List β}, Zip R as bs → (∀ a ∈ as, ∀ b, R a b → R' a b) → Zip R' as bs
  | [], [], _, _ => trivial
  | a :: _, b :: _, h, k => ⟨k a (List.mem_cons_self ..) b h.1, Zip.mono h.2 fun x hx => k x (List.mem_cons_of_mem _ hx)⟩
  | [], _ :: _, h, _ => h.elim
  | _ :: _, [], h, _ => h.elim
theorem Zip.get : ∀ {as : List α} {bs : List β} (j : Nat) (a : α) (b : β), Zip R as bs → as[j]? = some a → bs[j]? = some b → R a b
  | [], _, _, _, _, _, e, _ => by simp at e
  | _ :: _, [], _, _, _, h, _, _ => h.elim
  | x :: _, y :: _, 0, a, b, h, e, e' => by simp at e e'; subst e e'; exact h.1
  | _ :: _, _ :: _, j + 1, a, b, h, e, e' => by
    rw [List.getElem?_cons_succ] at e e'
    exact Zip.get j a b h.2 e e'
end

/-! ## rows on the heap -/
structure RowsAt (R0 : Addr) (ra : List Addr) (rows : List (List Int)) (H : AH) : Prop where
  hR : H R0 = some (.list (ra.map .ref))
  hX : Zip (fun a row => H a = some (.list (vints row))) ra rows
  ne : R0 ∉ ra
  nd : ra.Nodup
theorem RowsAt.keep {R0 : Addr} {ra : List Addr} {rows : List (List Int)} {H H' : AH} (h : RowsAt R0 ra rows H) (k : ∀ a, a = R0 ∨ a ∈ ra → ∀ o, H a = some o → H' a = some o) : RowsAt R0 ra rows H' :=
  ⟨k _ (.inl rfl) _ h.hR, h.hX.mono fun a ha row e => k _ (.inr ha) _ e, h.ne, h.nd⟩
theorem RowsAt.mem {R0 : Addr} {ra : List Addr} {rows : List (List Int)} {H : AH} (h : RowsAt R0 ra rows H) {a : Addr} (ha : a ∈ ra) : ∃ row, H a = some (.list (vints row)) := by
  obtain ⟨j, hj⟩ := List.getElem?_of_mem ha
  have hjl : j < ra.length := (List.getElem?_eq_some_iff.mp hj).1
  have := Zip.get j _ _ h.hX hj (List.getElem?_eq_getElem (by rw [← h.hX.length]; exact hjl))
  exact ⟨_, this⟩
/-- one row changed -/
theorem RowsAt.upd {R0 a : Addr} {ra : List Addr} {rows : List (List Int)} {H : AH} {k : Nat} {row : List Int} (h : RowsAt R0 ra rows H) (hk : ra[k]? = some a) : RowsAt R0 ra (rows.set k row) (H.set a (.list (vints row))) := by
  have ha := List.mem_of_getElem? hk
  have hkl : k < ra.length := (List.getElem?_eq_some_iff.mp hk).1
  refine ⟨by rw [AH.set_ne _ _ (fun q : R0 = a => h.ne (q ▸ ha))]; exact h.hR, ?_, h.ne, h.nd⟩
  have hkr : k < rows.length := by rw [← h.hX.length]; exact hkl
  have hra : ra = ra.take k ++ a :: ra.drop (k + 1) := by
    have := List.take_append_drop k ra
    rw [List.drop_eq_getElem_cons hkl, (List.getElem?_eq_some_iff.mp hk).2] at this
    exact this.symm
  have hrows : rows.set k row = rows.take k ++ row :: rows.drop (k + 1) := List.set_eq_take_append_cons_drop.trans (if_pos hkr)
  have hnd := h.nd
  rw [hra, List.nodup_append] at hnd
  obtain ⟨n1, n2, n3⟩ := hnd
  obtain ⟨n4, n5⟩ := List.nodup_cons.mp n2
  rw [hrows]
  conv => arg 2; rw [hra]
  refine Zip.append ((h.hX.take k).mono fun b hb r e => ?_) ⟨AH.set_same .., (h.hX.drop (k + 1)).mono fun b hb r e => ?_⟩
  · rw [AH.set_ne _ _ (fun q => n3 b hb a (List.mem_cons_self ..) q)]; exact e
  · rw [AH.set_ne _ _ (fun q : b = a => n4 (q ▸ hb))]; exact e
/-- one row more -/
theorem RowsAt.add {R0 a : Addr} {ra : List Addr} {rows : List (List Int)} {H : AH} {row : List Int} (h : RowsAt R0 ra rows H) (ha : H a = none) : RowsAt R0 (ra ++ [a]) (rows ++ [row]) ((H.set a (.list (vints row))).set R0 (.list ((ra ++ [a]).map .ref))) := by
  have haR : a ≠ R0 := fun q => by rw [q, h.hR] at ha; cases ha
  have hara : a ∉ ra := fun q => by obtain ⟨r, e⟩ := h.mem q; rw [ha] at e; cases e
  refine ⟨AH.set_same .., Zip.append (h.hX.mono fun b hb r e => ?_) ⟨?_, trivial⟩, ?_, ?_⟩
  · rw [AH.set_ne _ _ (fun q : b = R0 => h.ne (q ▸ hb))]; exact AH.get_of_set e ha
  · show ((H.set a _).set R0 _) a = _
    rw [AH.set_ne _ _ haR]; exact AH.set_same ..
  · intro q
    rcases List.mem_append.mp q with q | q
    · exact h.ne q
    · exact haR (List.mem_singleton.mp q).symm
  · rw [List.nodup_append]
    exact ⟨h.nd, by simp, fun b hb c hc q => by rw [List.mem_singleton.mp hc] at q; exact hara (q ▸ hb)⟩

end Mine

set_option maxHeartbeats 4000000
namespace Mine
open PySem PySem.W PyProof.Rows
open_top hd for PySem.Challenge.rw_dm0010_01
end Mine

set_option maxHeartbeats 4000000
namespace Mine
open PySem PySem.W PyProof.Rows

/-- bisect_right, all shapes of call -/
theorem br_core {C : Cx} {A : Around} {H : AH} {P : Params} (hK : (hd.heap_39 P).In C.base) (hlen : C.gl "len" = some (.builtin "len")) (hh : A.handled = none) (hdep : A.depth < recursionLimit)
    {args : List V} {kw : List (Str × V)} {a : Addr} {ob : O} {vs : List V} {x hiV keyV : V} {lo hi : Nat} (f : Nat → Bool)
    (hbind : ∀ vals kvs, vals.map ab = args → kvs.map (fun p => (p.1, ab p.2)) = kw → ∃ binds, (∀ s, Keep C s → BindsTo s (fdOf (hd.heap_39 P) 23) ⟨vals, kvs⟩ binds) ∧ binds.map (fun p => (p.1, ab p.2)) = ([("a", .ref a), ("x", x), ("lo", .int lo), ("hi", hiV), ("key", keyV)] : List (Str × V)))
    (ha : H a = some ob) (hl : lst ob = some vs) (hhi : (hiV = .none ∧ hi = vs.length) ∨ (hiV = .int hi ∧ hi ≤ vs.length))
    (hkey : ∀ A', Nx A A' → (keyV = .none ∧ ∀ i v, lo ≤ i → i < hi → vs[i]? = some v → LtOk C A' H x v (f i)) ∨ (∃ g o fd, keyV = .ref g ∧ FnAt C H g o fd ∧ ∀ i v, lo ≤ i → i < hi → vs[i]? = some v → ∃ kv, KeyOk C A' H g v kv ∧ LtOk C A' H x kv (f i)))
    {Q : V → AH → Prop} (hQ : Q (.int (bis f lo hi)) H) : WCall C A (.ref 23) args kw H Q := by
  refine WCall.def (fn_in hK 23 rfl) hdep rfl (noCell rfl) (fun h k => codeRec_of (hK.keeps k) rfl) (bs := [("a", .ref a), ("x", x), ("lo", .int lo), ("hi", hiV), ("key", keyV)]) hbind (allLocal rfl) ?_
  intro L hL
  have hNx := Nx.of A (callEnv (fdOf (hd.heap_39 P) 23) L 23)
  generalize hA' : A.deeper (callEnv (fdOf (hd.heap_39 P) 23) L 23) = A' at *
  have F : Fx C A' (callEnv (fdOf (hd.heap_39 P) 23) L 23) := ⟨rfl, rfl, rfl, hNx.2.2.trans hh⟩
  generalize hρ : (fun y => List.lookup y (([("a", .ref a), ("x", x), ("lo", .int lo), ("hi", hiV), ("key", keyV)] : List (Str × V)).reverse)) = ρ
  have ra : ρ "a" = some (.ref a) := by rw [← hρ]; rfl
  have rx : ρ "x" = some x := by rw [← hρ]; rfl
  have rlo : ρ "lo" = some (.int lo) := by rw [← hρ]; rfl
  have rhi : ρ "hi" = some hiV := by rw [← hρ]; rfl
  have rk : ρ "key" = some keyV := by rw [← hρ]; rfl
  have hhl : hi ≤ vs.length := by rcases hhi with ⟨_, q⟩ | ⟨_, q⟩ <;> omega
  refine WS.seq (W1.if (WT.of (b := false) (EvT.icmp (Ev.local F rfl rlo) Ev.int (by simp [icmp])) ⟨fun e => by simp at e, fun _ => WS.nil ⟨rfl, ?_⟩⟩))
  refine WS.seq (W1.if (WT.of (EvT.isNone (Ev.local F rfl rhi)) ?_))
  suffices goal : ∀ ρ : Lo, ρ "a" = some (.ref a) → ρ "x" = some x → ρ "lo" = some (.int lo) → ρ "hi" = some (.int hi) → ρ "key" = some keyV → WS C A' (callEnv (fdOf (hd.heap_39 P) 23) L 23) ((bodyOf (fdOf (hd.heap_39 P) 23)).drop 2) ρ H (fun f _ H' => Q (retv f) H') by
    refine ⟨fun e => ?_, fun e => ?_⟩
    · have hn : hiV = .none := by simpa using e
      rcases hhi with ⟨_, q⟩ | ⟨q, _⟩
      · refine WS.seq (W1.asgLocal F rfl (WE.of (Ev.len (Ev.glob F rfl hlen) (Ev.local F rfl ra) ha hl) ⟨rfl, WS.nil ⟨rfl, ?_⟩⟩))
        rw [← q]
        exact goal _ ra rx rlo rfl rk
      · rw [hn] at q; cases q
    · rcases hhi with ⟨q, _⟩ | ⟨q, _⟩
      · rw [q] at e; simp at e
      · refine WS.nil ⟨rfl, ?_⟩
        exact goal _ ra rx rlo (by rw [rhi, q]) rk
  clear rlo rhi ra rx rk hρ
  intro ρ ra rx rlo rhi rk
  have hkey' := hkey A' hNx
  refine WS.seq (W1.if (WT.of (EvT.isNone (Ev.local F rfl rk)) ⟨fun e => ?_, fun e => ?_⟩))
  · have hn : keyV = .none := by simpa using e
    obtain ⟨_, hlt⟩ : keyV = .none ∧ ∀ i v, lo ≤ i → i < hi → vs[i]? = some v → LtOk C A' H x v (f i) := by
      rcases hkey' with q | ⟨g, o, fd, q, _⟩
      · exact q
      · rw [hn] at q; cases q
    refine WS.seq (W1.while F (fun n ρ1 H1 => ∃ l h : Nat, n = h - l ∧ lo ≤ l ∧ h ≤ hi ∧ H1 = H ∧ ρ1 "a" = some (.ref a) ∧ ρ1 "x" = some x ∧ ρ1 "lo" = some (.int l) ∧ ρ1 "hi" = some (.int h) ∧ bis f l h = bis f lo hi) _ ⟨lo, hi, rfl, Nat.le_refl _, Nat.le_refl _, rfl, ra, rx, rlo, rhi, rfl⟩ ?_)
    rintro n ρ1 H1 ⟨l, h, rfl, hle, hhi', rfl, ra, rx, rlo, rhi, hb⟩
    refine WT.of (EvT.icmp (Ev.local F rfl rlo) (Ev.local F rfl rhi) rfl) ⟨fun e => ?_, fun e => ?_⟩
    · have hlt' : l < h := by simpa using e
      have hmid : ((l : Int) + (h : Int)).fdiv 2 = ((l + h) / 2 : Nat) := by
        rw [Int.fdiv_eq_ediv_of_nonneg _ (by decide)]; omega
      refine WS.seq (W1.asgLocal F rfl (WE.of (Ev.fdiv (Ev.add (Ev.local F rfl rlo) (Ev.local F rfl rhi)) Ev.int (by decide) (by decide)) ?_))
      rw [hmid]
      refine ⟨rfl, ?_⟩
      have hm : (l + h) / 2 < vs.length := by omega
      refine WS.seq (W1.if (WT.of (EvT.ltOk (Ev.local F rfl rx) (Ev.item (v := vs[(l + h) / 2]) (Ev.local F rfl ra) (Ev.local F rfl rfl) ha hl (by omega) (by rw [Int.toNat_natCast]; exact List.getElem?_eq_getElem hm)) (hlt _ _ (by omega) (by omega) (List.getElem?_eq_getElem hm))) ⟨fun e2 => ?_, fun e2 => ?_⟩))
      · refine WS.seq (W1.asgLocal F rfl (WE.of (Ev.local F rfl rfl) ⟨rfl, WS.nil ⟨rfl, WS.nil ⟨(l + h) / 2 - l, by omega, l, (l + h) / 2, rfl, by omega, by omega, rfl, ra, rx, rlo, rfl, ?_⟩⟩⟩))
        rw [← hb, bis_true hlt' e2]
      · refine WS.seq (W1.asgLocal F rfl (WE.of (Ev.add (Ev.local F rfl rfl) Ev.int) ⟨rfl, WS.nil ⟨rfl, WS.nil ⟨h - ((l + h) / 2 + 1), by omega, (l + h) / 2 + 1, h, rfl, by omega, by omega, rfl, ra, rx, rfl, rhi, ?_⟩⟩⟩))
        rw [← hb, bis_false hlt' e2]
    · have hge : ¬ l < h := by simpa using e
      rw [← hb, bis_cross (by omega)] at hQ
      exact ⟨rfl, WS.nil ⟨rfl, WS.cons (W1.ret (WE.of (Ev.local F rfl rlo) hQ))⟩⟩
  · have hn : keyV ≠ .none := by simpa using e
    obtain ⟨g, o, fd, rfl, hfn, hlt⟩ : ∃ g o fd, keyV = .ref g ∧ FnAt C H g o fd ∧ ∀ i v, lo ≤ i → i < hi → vs[i]? = some v → ∃ kv, KeyOk C A' H g v kv ∧ LtOk C A' H x kv (f i) := by
      rcases hkey' with ⟨q, _⟩ | q
      · exact absurd q hn
      · exact q
    refine WS.seq (W1.while F (fun n ρ1 H1 => ∃ l h : Nat, n = h - l ∧ lo ≤ l ∧ h ≤ hi ∧ H1 = H ∧ ρ1 "a" = some (.ref a) ∧ ρ1 "x" = some x ∧ ρ1 "key" = some (.ref g) ∧ ρ1 "lo" = some (.int l) ∧ ρ1 "hi" = some (.int h) ∧ bis f l h = bis f lo hi) _ ⟨lo, hi, rfl, Nat.le_refl _, Nat.le_refl _, rfl, ra, rx, rk, rlo, rhi, rfl⟩ ?_)
    rintro n ρ1 H1 ⟨l, h, rfl, hle, hhi', rfl, ra, rx, rk, rlo, rhi, hb⟩
    refine WT.of (EvT.icmp (Ev.local F rfl rlo) (Ev.local F rfl rhi) rfl) ⟨fun e => ?_, fun e => ?_⟩
    · have hlt' : l < h := by simpa using e
      have hmid : ((l : Int) + (h : Int)).fdiv 2 = ((l + h) / 2 : Nat) := by
        rw [Int.fdiv_eq_ediv_of_nonneg _ (by decide)]; omega
      refine WS.seq (W1.asgLocal F rfl (WE.of (Ev.fdiv (Ev.add (Ev.local F rfl rlo) (Ev.local F rfl rhi)) Ev.int (by decide) (by decide)) ?_))
      rw [hmid]
      refine ⟨rfl, ?_⟩
      have hm : (l + h) / 2 < vs.length := by omega
      obtain ⟨kv, hkv, hlk⟩ := hlt _ _ (by omega) (by omega) (List.getElem?_eq_getElem hm)
      refine WS.seq (W1.if (WT.of (EvT.ltOk (Ev.local F rfl rx) (Ev.key (Ev.local F rfl rk) hfn (Ev.item (v := vs[(l + h) / 2]) (Ev.local F rfl ra) (Ev.local F rfl rfl) ha hl (by omega) (by rw [Int.toNat_natCast]; exact List.getElem?_eq_getElem hm)) hkv) hlk) ⟨fun e2 => ?_, fun e2 => ?_⟩))
      · refine WS.seq (W1.asgLocal F rfl (WE.of (Ev.local F rfl rfl) ⟨rfl, WS.nil ⟨rfl, WS.nil ⟨(l + h) / 2 - l, by omega, l, (l + h) / 2, rfl, by omega, by omega, rfl, ra, rx, rk, rlo, rfl, ?_⟩⟩⟩))
        rw [← hb, bis_true hlt' e2]
      · refine WS.seq (W1.asgLocal F rfl (WE.of (Ev.add (Ev.local F rfl rfl) Ev.int) ⟨rfl, WS.nil ⟨rfl, WS.nil ⟨h - ((l + h) / 2 + 1), by omega, (l + h) / 2 + 1, h, rfl, by omega, by omega, rfl, ra, rx, rk, rfl, rhi, ?_⟩⟩⟩))
        rw [← hb, bis_false hlt' e2]
    · have hge : ¬ l < h := by simpa using e
      rw [← hb, bis_cross (by omega)] at hQ
      exact ⟨rfl, WS.nil ⟨rfl, WS.cons (W1.ret (WE.of (Ev.local F rfl rlo) hQ))⟩⟩

end Mine

set_option maxHeartbeats 1000000
namespace Mine

/-! ## tables: rows in order, columns rising -/
noncomputable def Col (R S : List Int) : Prop := S.length ≤ R.length ∧ ∀ j, j < S.length → R.getD j 0 < S.getD j 0
noncomputable def RowS (R : List Int) : Prop := R.Pairwise (fun a b => a ≤ b)
noncomputable def Tb : List (List Int) → Prop
  | [] => True
  | R :: rows => RowS R ∧ (match rows with | [] => True | S :: _ => Col R S) ∧ Tb rows
theorem RowS.at {R : List Int} (h : RowS R) {i j : Nat} (hij : i ≤ j) (hj : j < R.length) : R.getD i 0 ≤ R.getD j 0 := by
  rw [List.getD_eq_getElem?_getD, List.getD_eq_getElem?_getD, List.getElem?_eq_getElem (by omega : i < R.length), List.getElem?_eq_getElem hj]
  show R[i] ≤ R[j]
  rcases Nat.lt_or_ge i j with q | q
  · exact List.pairwise_iff_getElem.mp h i j (by omega) hj q
  · have : i = j := by omega
    subst this; omega
/-- the place: what lies ahead is not greater, what lies behind is -/
theorem plc_iff {R : List Int} (h : RowS R) (b : Int) {j : Nat} (hj : j < R.length) : R.getD j 0 ≤ b ↔ j < plc R b := by
  obtain ⟨h1, h2⟩ := plc_split h b
  have e : R.getD j 0 = R[j] := by rw [List.getD_eq_getElem?_getD, List.getElem?_eq_getElem hj]; rfl
  rw [e]
  constructor
  · intro q
    rcases Nat.lt_or_ge j (plc R b) with w | w
    · exact w
    · have := h2 R[j] (by rw [List.mem_drop_iff_getElem]; exact ⟨j - plc R b, by omega, by congr 1; omega⟩)
      omega
  · intro q
    exact h1 R[j] (by rw [List.mem_take_iff_getElem]; exact ⟨j, by omega, rfl⟩)
theorem getD_set {R : List Int} {p j : Nat} {b : Int} (hp : p < R.length) : (R.set p b).getD j 0 = if j = p then b else R.getD j 0 := by
  rw [List.getD_eq_getElem?_getD, List.getElem?_set, List.getD_eq_getElem?_getD]
  by_cases q : p = j
  · subst q; simp [hp]
  · rw [if_neg q, if_neg (fun w => q w.symm)]
theorem RowS.of {R : List Int} (h : ∀ i j, i < j → j < R.length → R.getD i 0 ≤ R.getD j 0) : RowS R := by
  unfold RowS
  rw [List.pairwise_iff_getElem]
  intro i j hi hj hij
  have := h i j hij hj
  rwa [List.getD_eq_getElem?_getD, List.getD_eq_getElem?_getD, List.getElem?_eq_getElem hi, List.getElem?_eq_getElem hj] at this
theorem RowS.set {R : List Int} (h : RowS R) {b : Int} (hp : plc R b < R.length) : RowS (R.set (plc R b) b) := by
  refine RowS.of fun i j hij hj => ?_
  rw [List.length_set] at hj
  rw [getD_set hp, getD_set hp]
  split
  · next q =>
    rw [if_neg (by omega)]
    have := mt (plc_iff h b hj).mp (by omega); omega
  · split
    · next q => exact (plc_iff h b (by omega)).mpr (by omega)
    · exact h.at (by omega) hj
theorem RowS.app {R : List Int} (h : RowS R) {b : Int} (hp : plc R b = R.length) : RowS (R ++ [b]) := by
  unfold RowS
  rw [List.pairwise_append]
  refine ⟨h, by simp, fun a ha c hc => ?_⟩
  obtain ⟨h1, _⟩ := plc_split h b
  rw [hp, List.take_length] at h1
  rw [List.mem_singleton.mp hc]; exact h1 a ha
/-- a row whose number is pushed out, above the next row -/
theorem Col.bump {R S : List Int} {b : Int} (hR : RowS R) (hS : RowS S) (hc : Col R S) (hp : plc R b < R.length) :
    (plc S (R.getD (plc R b) 0) = S.length → Col (R.set (plc R b) b) (S ++ [R.getD (plc R b) 0])) ∧ (plc S (R.getD (plc R b) 0) < S.length → Col (R.set (plc R b) b) (S.set (plc S (R.getD (plc R b) 0)) (R.getD (plc R b) 0))) := by
  have hy : b < R.getD (plc R b) 0 := by have := mt (plc_iff hR b hp).mp (by omega); omega
  have hlt : ∀ j, j ≤ plc R b → (R.set (plc R b) b).getD j 0 < R.getD (plc R b) 0 := fun j hj => by
    rw [getD_set hp]
    split
    · exact hy
    · have := (plc_iff hR b (j := j) (by omega)).mpr (by omega); omega
  have hle : ∀ j, (R.set (plc R b) b).getD j 0 ≤ R.getD j 0 := fun j => by
    rw [getD_set hp]
    split
    · next q => subst q; omega
    · omega
  generalize hpp : plc R b = p at *
  generalize hyy : R.getD p 0 = y at *
  have hq : plc S y ≤ p := by
    rcases Nat.lt_or_ge p (plc S y) with w | w
    · have hps : p < S.length := by have := plc_le S y; omega
      have h1 := (plc_iff hS y hps).mpr w
      have h2 := hc.2 p hps
      omega
    · exact w
  constructor
  · intro e
    refine ⟨by rw [List.length_append, List.length_set]; simp; omega, fun j hj => ?_⟩
    rw [List.length_append] at hj
    by_cases q : j < S.length
    · have h1 := hc.2 j q
      have h2 := hle j
      have : (S ++ [y]).getD j 0 = S.getD j 0 := by rw [List.getD_eq_getElem?_getD, List.getD_eq_getElem?_getD, List.getElem?_append_left q]
      omega
    · have hj' : j = S.length := by simp at hj; omega
      have : (S ++ [y]).getD j 0 = y := by rw [hj', List.getD_eq_getElem?_getD]; simp
      have := hlt j (by omega)
      omega
  · intro e
    refine ⟨by rw [List.length_set, List.length_set]; exact hc.1, fun j hj => ?_⟩
    rw [List.length_set] at hj
    rw [getD_set e]
    split
    · next q => exact hlt j (by omega)
    · have h1 := hc.2 j hj
      have h2 := hle j
      omega
theorem putR_head (S : List Int) (rows : List (List Int)) (y : Int) : ∃ rows', (putR (S :: rows) y).1 = (if plc S y = S.length then S ++ [y] else S.set (plc S y) y) :: rows' := by
  unfold putR
  split
  · exact ⟨_, rfl⟩
  · exact ⟨_, rfl⟩
theorem Tb.put : ∀ {rows : List (List Int)} (b : Int), Tb rows → Tb (putR rows b).1
  | [], b, _ => ⟨by unfold RowS; simp, trivial, trivial⟩
  | R :: rows, b, ⟨h1, h2, h3⟩ => by
    unfold putR
    split
    · next q =>
      refine ⟨h1.app q, ?_, h3⟩
      cases rows with
      | nil => trivial
      | cons S r =>
        obtain ⟨a1, a2⟩ := h2
        refine ⟨by rw [List.length_append]; omega, fun j hj => ?_⟩
        have := a2 j hj
        rw [List.getD_eq_getElem?_getD, List.getElem?_append_left (by omega)]
        rw [List.getD_eq_getElem?_getD] at this
        exact this
    · next q =>
      have hp : plc R b < R.length := by have := plc_le R b; omega
      refine ⟨h1.set hp, ?_, Tb.put _ h3⟩
      have hy : b < R.getD (plc R b) 0 := by have := mt (plc_iff h1 b hp).mp (by omega); omega
      cases rows with
      | nil =>
        refine ⟨by rw [List.length_set]; show 1 ≤ _; omega, fun j hj => ?_⟩
        have : j = 0 := by have : j < 1 := hj; omega
        subst this
        rw [getD_set hp]
        show _ < R.getD (plc R b) 0
        split
        · exact hy
        · have := (plc_iff h1 b (j := 0) (by omega)).mpr (by omega); omega
      | cons S r =>
        obtain ⟨r', hr'⟩ := putR_head S r (R.getD (plc R b) 0)
        show (match (putR (S :: r) (R.getD (plc R b) 0)).1 with | [] => True | S' :: _ => Col (R.set (plc R b) b) S')
        rw [hr']
        have hb := Col.bump h1 h3.1 h2 hp
        show Col (R.set (plc R b) b) (if plc S (R.getD (plc R b) 0) = S.length then S ++ [R.getD (plc R b) 0] else S.set (plc S (R.getD (plc R b) 0)) (R.getD (plc R b) 0))
        split
        · next e => exact hb.1 e
        · next e => exact hb.2 (by have := plc_le S (R.getD (plc R b) 0); omega)
theorem putR_len : ∀ (rows : List (List Int)) (b : Int), ((putR rows b).1.getD (putR rows b).2 []).length = (rows.getD (putR rows b).2 []).length + 1
  | [], b => rfl
  | R :: rows, b => by
    unfold putR
    split
    · simp
    · exact putR_len rows _
theorem Tb.lens : ∀ {rows : List (List Int)} {j : Nat}, Tb rows → (rows.getD j []).length ≤ (rows.getD 0 []).length
  | [], j, _ => by simp
  | R :: rows, 0, _ => Nat.le_refl _
  | R :: rows, j + 1, ⟨h1, h2, h3⟩ => by
    have := Tb.lens (j := j) h3
    cases rows with
    | nil => simp
    | cons S r =>
      show ((S :: r).getD j []).length ≤ R.length
      have h4 : ((S :: r).getD 0 []).length ≤ R.length := h2.1
      omega
/-- of two numbers put in one behind the other: where the cells grow -/
theorem bump2 : ∀ {rows : List (List Int)} (b b' : Int), Tb rows →
    (b ≤ b' → (putR (putR rows b).1 b').2 ≤ (putR rows b).2 ∧ (rows.getD (putR rows b).2 []).length < ((putR rows b).1.getD (putR (putR rows b).1 b').2 []).length) ∧
    (b' < b → (putR rows b).2 < (putR (putR rows b).1 b').2 ∧ ((putR rows b).1.getD (putR (putR rows b).1 b').2 []).length ≤ (rows.getD (putR rows b).2 []).length)
  | [], b, b', _ => by
    have e : putR [] b = ([[b]], 0) := rfl
    rw [e]
    show (b ≤ b' → (putR [[b]] b').2 ≤ 0 ∧ 0 < (([[b]] : List (List Int)).getD (putR [[b]] b').2 []).length) ∧ (b' < b → 0 < (putR [[b]] b').2 ∧ (([[b]] : List (List Int)).getD (putR [[b]] b').2 []).length ≤ 0)
    constructor
    · intro h
      have : plc [b] b' = 1 := by unfold plc; simp [h]
      have e2 : putR [[b]] b' = ([[b, b']], 0) := by unfold putR; rw [if_pos (show plc [b] b' = [b].length from this)]; rfl
      rw [e2]; simp
    · intro h
      have : plc [b] b' = 0 := by unfold plc; simp; omega
      have e2 : (putR [[b]] b').2 = 1 := by unfold putR; rw [this, if_neg (by simp)]; rfl
      rw [e2]; simp
  | R :: rows, b, b', hT => by
    have hT1 := Tb.put b hT
    have hT2 := Tb.put b' hT1
    obtain ⟨h1, h2, h3⟩ := hT
    by_cases q : plc R b = R.length
    · have e1 : putR (R :: rows) b = ((R ++ [b]) :: rows, 0) := by rw [putR, if_pos q]
      rw [e1] at hT1 hT2 ⊢
      have hS := h1.app q
      constructor
      · intro h
        have hp : plc (R ++ [b]) b' = (R ++ [b]).length := by
          have hn := plc_le (R ++ [b]) b'
          rcases Nat.lt_or_ge (plc (R ++ [b]) b') (R ++ [b]).length with w | w
          · exfalso
            have := mt (plc_iff hS b' (j := R.length) (by simp)).mp (by simp at w; omega)
            rw [List.getD_eq_getElem?_getD] at this
            simp at this; omega
          · omega
        have e2 : (putR ((R ++ [b]) :: rows) b').2 = 0 := by rw [putR, if_pos hp]
        rw [e2]; simp
      · intro h
        have hp : ¬ plc (R ++ [b]) b' = (R ++ [b]).length := fun w => by
          have := (plc_iff hS b' (j := R.length) (by simp)).mpr (by rw [w]; simp)
          rw [List.getD_eq_getElem?_getD] at this
          simp at this; omega
        have hl := Tb.lens (j := (putR ((R ++ [b]) :: rows) b').2) hT2
        rw [putR_len] at hl
        have e0 : ((putR ((R ++ [b]) :: rows) b').1.getD 0 []).length = R.length + 1 := by rw [putR, if_neg hp]; simp
        rw [e0] at hl
        refine ⟨by rw [putR, if_neg hp]; simp, ?_⟩
        show _ ≤ R.length
        omega
    · have hp : plc R b < R.length := by have := plc_le R b; omega
      have hy : b < R.getD (plc R b) 0 := by have := mt (plc_iff h1 b hp).mp (by omega); omega
      have e1 : putR (R :: rows) b = (R.set (plc R b) b :: (putR rows (R.getD (plc R b) 0)).1, (putR rows (R.getD (plc R b) 0)).2 + 1) := by rw [putR, if_neg q]
      have hl1 := Tb.lens (j := (putR (R :: rows) b).2) hT1
      rw [putR_len] at hl1
      rw [e1] at hT1 hT2 hl1 ⊢
      have hS := h1.set hp
      generalize hyy : R.getD (plc R b) 0 = y at *
      have ih := bump2 (rows := rows) y
      by_cases q2 : plc (R.set (plc R b) b) b' = (R.set (plc R b) b).length
      · have e2 : (putR (R.set (plc R b) b :: (putR rows y).1) b').2 = 0 := by rw [putR, if_pos q2]
        rw [e2]
        constructor
        · intro h
          refine ⟨Nat.zero_le _, ?_⟩
          show (rows.getD (putR rows y).2 []).length < (R.set (plc R b) b).length
          have : ((R.set (plc R b) b :: (putR rows y).1).getD 0 []).length = (R.set (plc R b) b).length := rfl
          rw [this] at hl1
          have : ((R :: rows).getD ((putR rows y).2 + 1) []).length = (rows.getD (putR rows y).2 []).length := rfl
          rw [this] at hl1
          omega
        · intro h
          exfalso
          have := (plc_iff hS b' (j := plc R b) (by rw [List.length_set]; exact hp)).mpr (by rw [q2, List.length_set]; exact hp)
          rw [getD_set hp, if_pos rfl] at this
          omega
      · have hp2 : plc (R.set (plc R b) b) b' < R.length := by have := plc_le (R.set (plc R b) b) b'; rw [List.length_set] at this q2; omega
        have e2 : (putR (R.set (plc R b) b :: (putR rows y).1) b').2 = (putR (putR rows y).1 ((R.set (plc R b) b).getD (plc (R.set (plc R b) b) b') 0)).2 + 1 := by rw [putR, if_neg q2]
        rw [e2]
        generalize hy' : (R.set (plc R b) b).getD (plc (R.set (plc R b) b) b') 0 = y' at *
        have ih' := ih y' h3
        show (b ≤ b' → (putR (putR rows y).1 y').2 + 1 ≤ (putR rows y).2 + 1 ∧ (rows.getD (putR rows y).2 []).length < ((putR rows y).1.getD (putR (putR rows y).1 y').2 []).length) ∧ (b' < b → (putR rows y).2 + 1 < (putR (putR rows y).1 y').2 + 1 ∧ ((putR rows y).1.getD (putR (putR rows y).1 y').2 []).length ≤ (rows.getD (putR rows y).2 []).length)
        rw [getD_set hp] at hy'
        have hi := plc_iff hS b' (j := plc R b) (by rw [List.length_set]; exact hp)
        rw [getD_set hp, if_pos rfl] at hi
        constructor
        · intro h
          have hlt := hi.mp h
          rw [if_neg (by omega)] at hy'
          have := h1.at (i := plc R b) (j := plc (R.set (plc R b) b) b') (by omega) hp2
          obtain ⟨a1, a2⟩ := ih'.1 (by omega)
          exact ⟨by omega, a2⟩
        · intro h
          have hge := mt hi.mpr (by omega)
          have : y' < y := by
            split at hy'
            · omega
            · have := (plc_iff h1 b (j := plc (R.set (plc R b) b) b') hp2).mpr (by omega)
              omega
          obtain ⟨a1, a2⟩ := ih'.2 this
          exact ⟨by omega, a2⟩
end Mine

set_option maxHeartbeats 1000000
namespace Mine

/-! ## names beside numbers -/
/-- put a name in: the place is told by the names' numbers -/
noncomputable def putN (x : Int → Int) : List (List Int) → Int → List (List Int) × Nat
  | [], t => ([[t]], 0)
  | R :: rows, t => if plc (R.map x) (x t) = R.length then ((R ++ [t]) :: rows, 0) else (R.set (plc (R.map x) (x t)) t :: (putN x rows (R.getD (plc (R.map x) (x t)) 0)).1, (putN x rows (R.getD (plc (R.map x) (x t)) 0)).2 + 1)
/-- of names of one number those below are the smaller ones -/
noncomputable def InvJ (x : Int → Int) : List (List Int) → Prop
  | [] => True
  | R :: rows => (∀ u ∈ R, ∀ S ∈ rows, ∀ s ∈ S, x s = x u → s < u) ∧ InvJ x rows
theorem putN_numbers (x : Int → Int) : ∀ (rows : List (List Int)) (t : Int), ((putN x rows t).1.map (·.map x), (putN x rows t).2) = putR (rows.map (·.map x)) (x t)
  | [], t => rfl
  | R :: rows, t => by
    show _ = putR (R.map x :: rows.map (·.map x)) (x t)
    rw [putN, putR, List.length_map]
    split
    · simp
    · next q =>
      have hp : plc (R.map x) (x t) < R.length := by have := plc_le (R.map x) (x t); rw [List.length_map] at this; omega
      have e : (R.map x).getD (plc (R.map x) (x t)) 0 = x (R.getD (plc (R.map x) (x t)) 0) := by
        rw [List.getD_eq_getElem?_getD, List.getD_eq_getElem?_getD, List.getElem?_map, List.getElem?_eq_getElem hp]; rfl
      have ih := putN_numbers x rows (R.getD (plc (R.map x) (x t)) 0)
      rw [e, ← ih]
      simp [List.map_set]
theorem putN_mem (x : Int → Int) : ∀ (rows : List (List Int)) (t : Int) (S : List Int), S ∈ (putN x rows t).1 → ∀ s ∈ S, s = t ∨ ∃ S' ∈ rows, s ∈ S'
  | [], t, S, hS, s, hs => by
    have : S = [t] := by simpa [putN] using hS
    subst this; exact .inl (by simpa using hs)
  | R :: rows, t, S, hS, s, hs => by
    rw [putN] at hS
    split at hS
    · rcases List.mem_cons.mp hS with rfl | hS
      · rcases List.mem_append.mp hs with w | w
        · exact .inr ⟨R, by simp, w⟩
        · exact .inl (by simpa using w)
      · exact .inr ⟨S, List.mem_cons_of_mem _ hS, hs⟩
    · next q =>
      have hp : plc (R.map x) (x t) < R.length := by have := plc_le (R.map x) (x t); rw [List.length_map] at this; omega
      rcases List.mem_cons.mp hS with rfl | hS
      · rcases List.mem_or_eq_of_mem_set hs with w | w
        · exact .inr ⟨R, by simp, w⟩
        · exact .inl w
      · rcases putN_mem x rows _ S hS s hs with w | ⟨S', w1, w2⟩
        · refine .inr ⟨R, by simp, ?_⟩
          rw [w, List.getD_eq_getElem?_getD, List.getElem?_eq_getElem hp]; exact List.getElem_mem hp
        · exact .inr ⟨S', List.mem_cons_of_mem _ w1, w2⟩
section
variable {x rk : Int → Int} {D : Int → Prop} (hrk : ∀ s t, D s → D t → (rk s ≤ rk t ↔ x s < x t ∨ (x s = x t ∧ s ≤ t)))
include hrk
/-- names are put in as their ranks are -/
theorem putN_ranks : ∀ (rows : List (List Int)) (t : Int), InvJ x rows → (∀ S ∈ rows, ∀ s ∈ S, x s = x t → s < t) → (∀ S ∈ rows, RowS (S.map rk)) → (∀ S ∈ rows, S.Nodup) → (∀ S ∈ rows, ∀ s ∈ S, D s) → D t →
    ((putN x rows t).1.map (·.map rk), (putN x rows t).2) = putR (rows.map (·.map rk)) (rk t) ∧ InvJ x (putN x rows t).1
  | [], t, _, _, _, _, _, _ => ⟨rfl, by simp [putN, InvJ]⟩
  | R :: rows, t, ⟨j1, j2⟩, hlt, hs, hnd, hD, ht => by
    have hpl : plc (R.map x) (x t) = plc (R.map rk) (rk t) := by
      unfold plc
      rw [List.countP_map, List.countP_map]
      apply List.countP_congr
      intro s hs'
      have h1 := hlt R (by simp) s hs'
      have h2 := hrk s t (hD R (by simp) s hs') ht
      simp only [Function.comp, decide_eq_true_eq]
      rw [h2]
      constructor
      · intro w
        rcases Int.lt_or_le (x s) (x t) with q | q
        · exact .inl q
        · have : x s = x t := by omega
          exact .inr ⟨this, by have := h1 this; omega⟩
      · rintro (w | ⟨w, _⟩) <;> omega
    have hRS := hs R (by simp)
    show _ = putR (R.map rk :: rows.map (·.map rk)) (rk t) ∧ _
    rw [putN, putR, List.length_map, ← hpl]
    split
    · next q =>
      refine ⟨by simp, fun u hu S hS s hs' e => ?_, j2⟩
      rcases List.mem_append.mp hu with w | w
      · exact j1 u w S hS s hs' e
      · have : u = t := by simpa using w
        subst this
        exact hlt S (List.mem_cons_of_mem _ hS) s hs' e
    · next q =>
      have hp : plc (R.map x) (x t) < R.length := by have := plc_le (R.map x) (x t); rw [List.length_map] at this; omega
      have e : (R.map rk).getD (plc (R.map x) (x t)) 0 = rk (R.getD (plc (R.map x) (x t)) 0) := by
        rw [List.getD_eq_getElem?_getD, List.getD_eq_getElem?_getD, List.getElem?_map, List.getElem?_eq_getElem hp]; rfl
      have hum : R.getD (plc (R.map x) (x t)) 0 ∈ R := by rw [List.getD_eq_getElem?_getD, List.getElem?_eq_getElem hp]; exact List.getElem_mem hp
      have hgt : rk t < rk (R.getD (plc (R.map x) (x t)) 0) := by
        have := mt (plc_iff hRS (rk t) (j := plc (R.map x) (x t)) (by rw [List.length_map]; exact hp)).mp (by rw [← hpl]; omega)
        rw [e] at this; omega
      obtain ⟨a1, a2⟩ := putN_ranks rows (R.getD (plc (R.map x) (x t)) 0) j2 (fun S hS s hs' e => j1 _ hum S hS s hs' e) (fun S hS => hs S (List.mem_cons_of_mem _ hS)) (fun S hS => hnd S (List.mem_cons_of_mem _ hS)) (fun S hS => hD S (List.mem_cons_of_mem _ hS)) (hD R (by simp) _ hum)
      refine ⟨?_, ?_, a2⟩
      · rw [e, ← a1]; simp [List.map_set]
      · intro u hu S hS s hs' exs
        generalize hpp : plc (R.map x) (x t) = p at *
        generalize hvv : R.getD p 0 = v at *
        have hvt : ¬ (x v = x t) := fun w => by
          have h1 := hlt R (by simp) v hum w
          have h2 := hrk v t (hD R (by simp) v hum) ht
          have : rk v ≤ rk t := h2.mpr (.inr ⟨w, by omega⟩)
          omega
        have hcase : u = t ∨ (u ∈ R ∧ u ≠ v ∧ (x u ≤ x t ∨ rk v ≤ rk u)) := by
          obtain ⟨i, hi, rfl⟩ := List.getElem_of_mem hu
          rw [List.length_set] at hi
          rw [List.getElem_set]
          split
          · exact .inl rfl
          · next w =>
            have hne : R[i] ≠ v := fun z => by
              have ev : v = R[p] := by rw [← hvv, List.getD_eq_getElem?_getD, List.getElem?_eq_getElem hp]; rfl
              rw [ev] at z
              have pa := List.pairwise_iff_getElem.mp (hnd R (by simp))
              rcases Nat.lt_trichotomy i p with y | y | y
              · exact pa i p hi hp y z
              · exact w y.symm
              · exact pa p i hp hi y z.symm
            refine .inr ⟨List.getElem_mem hi, hne, ?_⟩
            have ei : (R.map rk).getD i 0 = rk R[i] := by rw [List.getD_eq_getElem?_getD, List.getElem?_map, List.getElem?_eq_getElem hi]; rfl
            rcases Nat.lt_or_ge i p with z | z
            · have h1 := (plc_iff hRS (rk t) (j := i) (by rw [List.length_map]; exact hi)).mpr (by rw [← hpl]; exact z)
              rw [ei] at h1
              rcases (hrk _ _ (hD R (by simp) _ (List.getElem_mem hi)) ht).mp h1 with y | y
              · exact .inl (by omega)
              · exact .inl (by omega)
            · have h1 := hRS.at (i := p) (j := i) z (by rw [List.length_map]; exact hi)
              rw [ei, e] at h1
              exact .inr h1
        have hgx : x t < x v := by
          have h2 := hrk v t (hD R (by simp) v hum) ht
          rcases Int.lt_or_le (x t) (x v) with y | y
          · exact y
          · exfalso
            have : rk v ≤ rk t := h2.mpr (.inl (by omega))
            omega
        rcases putN_mem x rows v S hS s hs' with w | ⟨S', w1, w2⟩
        · rw [w] at exs ⊢
          rcases hcase with rfl | ⟨hu1, hu2⟩
          · omega
          · obtain ⟨hne, hu2⟩ := hu2
            rcases hu2 with y | y
            · omega
            · rcases (hrk _ _ (hD R (by simp) v hum) (hD R (by simp) u hu1)).mp y with z | z <;> omega
        · rcases hcase with rfl | ⟨hu1, _⟩
          · exact hlt S' (List.mem_cons_of_mem _ w1) s w2 exs
          · exact j1 u hu1 S' w1 s w2 exs
end
theorem set_perm {R : List Int} {p : Nat} {t : Int} (hp : p < R.length) : (R.getD p 0 :: R.set p t).Perm (t :: R) := by
  rw [set_split hp]
  have e : R = R.take p ++ R.getD p 0 :: R.drop (p + 1) := by
    rw [List.getD_eq_getElem?_getD, List.getElem?_eq_getElem hp]
    show R = R.take p ++ R[p] :: R.drop (p + 1)
    rw [List.getElem_cons_drop, List.take_append_drop]
  conv => rhs; rw [e]
  refine (List.Perm.cons _ List.perm_middle).trans ?_
  refine (List.Perm.swap _ _ _).trans ?_
  exact List.Perm.cons _ List.perm_middle.symm
theorem putN_perm (x : Int → Int) : ∀ (rows : List (List Int)) (t : Int), (putN x rows t).1.flatten.Perm (t :: rows.flatten)
  | [], t => by simp [putN]
  | R :: rows, t => by
    rw [putN]
    split
    · simp only [List.flatten_cons, List.append_assoc]
      exact List.perm_middle
    · next q =>
      have hp : plc (R.map x) (x t) < R.length := by have := plc_le (R.map x) (x t); rw [List.length_map] at this; omega
      simp only [List.flatten_cons]
      refine (List.Perm.append_left _ (putN_perm x rows _)).trans ?_
      refine List.perm_middle.trans ?_
      exact List.Perm.append_right rows.flatten (set_perm hp)
end Mine

set_option maxHeartbeats 1000000
namespace Mine

/-! ## cells -/
noncomputable def AtC (rows : List (List Int)) (c : Nat × Nat) (v : Int) : Prop := (rows.getD c.1 [])[c.2]? = some v
noncomputable def cellR (rows : List (List Int)) (b : Int) : Nat × Nat := ((putR rows b).2, (rows.getD (putR rows b).2 []).length)
theorem getD_putS {steps : List (List Int)} {k : Nat} {a : Int} (hk : k ≤ steps.length) (j : Nat) : (putS steps k a).getD j [] = if j = k then steps.getD k [] ++ [a] else steps.getD j [] := by
  unfold putS
  split
  · next q =>
    subst q
    rw [List.getD_eq_getElem?_getD, List.getElem?_append, List.getD_eq_getElem?_getD, List.getD_eq_getElem?_getD]
    by_cases w : j < steps.length
    · rw [if_pos w, if_neg (by omega)]
    · rw [if_neg w]
      by_cases z : j = steps.length
      · subst z; simp
      · rw [if_neg z]
        have h1 : ([[a]] : List (List Int))[j - steps.length]? = none := List.getElem?_eq_none (by simp; omega)
        have h2 : steps[j]? = none := List.getElem?_eq_none (by omega)
        rw [h1, h2]
  · next q =>
    rw [List.getD_eq_getElem?_getD, List.getElem?_set, List.getD_eq_getElem?_getD, List.getD_eq_getElem?_getD]
    by_cases w : k = j
    · subst w
      rw [if_pos rfl, if_pos (by omega), if_pos rfl]; rfl
    · rw [if_neg w, if_neg (fun z => w z.symm)]
theorem putS_new {steps : List (List Int)} {k : Nat} {a : Int} (hk : k ≤ steps.length) : AtC (putS steps k a) (k, (steps.getD k []).length) a := by
  unfold AtC
  rw [getD_putS hk, if_pos rfl]; simp
theorem putS_old {steps : List (List Int)} {k : Nat} {a v : Int} {c : Nat × Nat} (hk : k ≤ steps.length) (h : AtC steps c v) : AtC (putS steps k a) c v := by
  unfold AtC at *
  rw [getD_putS hk]
  split
  · next q =>
    rw [← q, List.getElem?_append_left (List.getElem?_eq_some_iff.mp h).1]; exact h
  · exact h
theorem putR_lens : ∀ (rows : List (List Int)) (b : Int) (j : Nat), ((putR rows b).1.getD j []).length = if j = (putR rows b).2 then (rows.getD j []).length + 1 else (rows.getD j []).length
  | [], b, 0 => rfl
  | [], b, j + 1 => rfl
  | R :: rows, b, j => by
    rw [putR]
    split
    · cases j with
      | zero => simp
      | succ j => rw [if_neg (by simp)]; rfl
    · cases j with
      | zero => rw [if_neg (by simp)]; simp
      | succ j =>
        have := putR_lens rows (R.getD (plc R b) 0) j
        show ((putR rows (R.getD (plc R b) 0)).1.getD j []).length = _
        rw [this]
        simp
theorem snoc_ind {α : Type} {P : List α → Prop} (h0 : P []) (h1 : ∀ L e, P L → P (L ++ [e])) (L : List α) : P L := by
  have : ∀ (n : Nat) (L : List α), L.length = n → P L := by
    intro n
    induction n with
    | zero => intro L h; rw [List.length_eq_zero_iff.mp h]; exact h0
    | succ n ih =>
      intro L h
      have hne : L ≠ [] := fun q => by rw [q] at h; simp at h
      rw [← List.dropLast_concat_getLast hne]
      exact h1 _ _ (ih _ (by simp [h]))
  exact this _ L rfl
theorem table_rows (L : List Pr) : (table L).1.length = (table L).2.length := by unfold table; exact tabs_len _ _
/-- the two tables have one shape -/
theorem table_shape (L : List Pr) : ∀ j, ((table L).1.getD j []).length = ((table L).2.getD j []).length := by
  refine snoc_ind (P := fun L => ∀ j, ((table L).1.getD j []).length = ((table L).2.getD j []).length) (fun j => rfl) (fun L e ih j => ?_) L
  rw [table_snoc]
  have hk : (putR (table L).1 e.2).2 ≤ (table L).2.length := by rw [← table_rows]; exact putR_le _ _
  show ((putR (table L).1 e.2).1.getD j []).length = ((putS (table L).2 (putR (table L).1 e.2).2 e.1).getD j []).length
  rw [putR_lens, getD_putS hk]
  split
  · next q => rw [q, List.length_append, ih]; simp
  · exact ih j
theorem table_tb (L : List Pr) : Tb (table L).1 := by
  refine snoc_ind (P := fun L => Tb (table L).1) trivial (fun L e ih => ?_) L
  rw [table_snoc]; exact Tb.put _ ih
/-- each step keeps its cell -/
theorem table_cell (L M : List Pr) (e : Pr) : AtC (table (L ++ [e] ++ M)).2 (cellR (table L).1 e.2) e.1 := by
  refine snoc_ind (P := fun M => AtC (table (L ++ [e] ++ M)).2 (cellR (table L).1 e.2) e.1) ?_ (fun M f ih => ?_) M
  · rw [List.append_nil, table_snoc]
    have hk : (putR (table L).1 e.2).2 ≤ (table L).2.length := by rw [← table_rows]; exact putR_le _ _
    have := putS_new (a := e.1) hk
    unfold cellR
    rw [table_shape]; exact this
  · rw [← List.append_assoc, table_snoc]
    exact putS_old (by rw [← table_rows]; exact putR_le _ _) ih
end Mine

set_option maxHeartbeats 1000000
namespace Mine

/-- names after the turns below t -/
noncomputable def nm (x : Int → Int) : Nat → List (List Int)
  | 0 => []
  | t + 1 => (putN x (nm x t) t).1
noncomputable def LT (rk : Int → Int) (t : Nat) : List Pr := (List.range t).map fun (s : Nat) => ((s : Int), rk s)
section
variable {x rk : Int → Int} {n : Nat} (hrk : ∀ s t : Int, (0 ≤ s ∧ s < n) → (0 ≤ t ∧ t < n) → (rk s ≤ rk t ↔ x s < x t ∨ (x s = x t ∧ s ≤ t)))
include hrk
theorem nm_ok : ∀ (t : Nat), t ≤ n → (nm x t).map (·.map rk) = (table (LT rk t)).1 ∧ InvJ x (nm x t) ∧ (nm x t).flatten.Perm ((List.range t).map fun (s : Nat) => (s : Int))
  | 0, _ => ⟨rfl, trivial, by simp [nm]⟩
  | t + 1, ht => by
    obtain ⟨h1, h2, h3⟩ := nm_ok t (by omega)
    have hmem : ∀ S ∈ nm x t, ∀ s ∈ S, 0 ≤ s ∧ s < t := fun S hS s hs => by
      have := h3.mem_iff.mp (List.mem_flatten.mpr ⟨S, hS, hs⟩)
      obtain ⟨i, hi, rfl⟩ := List.mem_map.mp this
      have : i < t := by simpa using hi
      omega
    have hnd : ((List.range t).map fun (s : Nat) => (s : Int)).Nodup := by
      show List.Pairwise _ _
      rw [List.pairwise_map]
      exact List.Pairwise.imp (fun {a b} w e => w (by omega)) (List.nodup_range (n := t))
    have hfl := h3.nodup_iff.mpr hnd
    have htb := table_tb (LT rk t)
    rw [← h1] at htb
    have hrow : ∀ {rows : List (List Int)}, Tb rows → ∀ S ∈ rows, RowS S := by
      intro rows
      induction rows with
      | nil => intro _ S hS; cases hS
      | cons R r ih => intro hT S hS; rcases List.mem_cons.mp hS with rfl | w; exact hT.1; exact ih hT.2.2 S w
    obtain ⟨a1, a2⟩ := putN_ranks (D := fun s => 0 ≤ s ∧ s < n) hrk (nm x t) t h2 (fun S hS s hs _ => (hmem S hS s hs).2) (fun S hS => hrow htb _ (List.mem_map_of_mem hS)) (fun S hS => List.Pairwise.sublist (List.sublist_flatten_of_mem hS) hfl) (fun S hS s hs => by have := hmem S hS s hs; omega) (by omega)
    have e : LT rk (t + 1) = LT rk t ++ [((t : Int), rk t)] := by unfold LT; rw [List.range_succ]; simp
    refine ⟨?_, a2, ?_⟩
    · rw [e, table_snoc, ← h1]
      exact congrArg Prod.fst a1
    · refine (putN_perm x (nm x t) t).trans ?_
      refine (List.Perm.cons _ h3).trans ?_
      rw [List.range_succ, List.map_append]
      exact (List.perm_append_comm (l₁ := [(t : Int)])).trans (List.Perm.of_eq (by simp))
end
end Mine

set_option maxHeartbeats 1000000
namespace Mine

theorem SL_of {n : Nat} (f : Nat → Int) : SL ((List.range n).map fun (s : Nat) => ((s : Int), f s)) := by
  unfold SL
  rw [List.pairwise_map]
  exact List.Pairwise.imp (fun {a b} w => .inl (by show (a : Int) < (b : Int); omega)) List.pairwise_lt_range
/-- the turns in order of their numbers, step by step -/
noncomputable def LO (od : Nat → Int) (r : Nat) : List Pr := (List.range r).map fun (s : Nat) => ((s : Int), od s)
section
variable {x rk : Int → Int} {od : Nat → Int} {n : Nat} (hrk : ∀ s t : Int, (0 ≤ s ∧ s < n) → (0 ≤ t ∧ t < n) → (rk s ≤ rk t ↔ x s < x t ∨ (x s = x t ∧ s ≤ t)))
  (hod : ∀ r, r < n → 0 ≤ od r ∧ od r < n ∧ rk (od r) = r) (hperm : (LO od n).Perm ((LT rk n).map swp))
include hrk hod hperm
/-- the turn of rank r stands where step r's cell grew -/
theorem stands_at {r : Nat} (hr : r < n) : AtC (nm x n) (cellR (table (LO od r)).1 (od r)) (od r) := by
  obtain ⟨h1, h2, h3⟩ := nm_ok hrk n (Nat.le_refl _)
  have hs := sym_table (SL_of (n := n) fun s => rk s) (SL_of (n := n) od) hperm
  have hsplit : LO od n = LO od r ++ [((r : Int), od r)] ++ ((List.range' (r + 1) (n - (r + 1))).map fun (s : Nat) => ((s : Int), od s)) := by
    unfold LO
    have : List.range n = List.range r ++ [r] ++ List.range' (r + 1) (n - (r + 1)) := by
      rw [← List.range_succ, List.range_eq_range', List.range_eq_range']
      have := List.range'_append (s := 0) (m := r + 1) (n := n - (r + 1)) (step := 1)
      rw [show 0 + 1 * (r + 1) = r + 1 by omega] at this
      rw [this]; congr 1; omega
    rw [this]; simp
  have hc := table_cell (LO od r) ((List.range' (r + 1) (n - (r + 1))).map fun (s : Nat) => ((s : Int), od s)) ((r : Int), od r)
  rw [← hsplit] at hc
  have e : (table (LO od n)).2 = (nm x n).map (·.map rk) := by rw [h1]; exact congrArg Prod.snd hs
  rw [e] at hc
  generalize cellR (table (LO od r)).1 (od r) = c at *
  unfold AtC at *
  have e2 : ((nm x n).map (·.map rk)).getD c.1 [] = ((nm x n).getD c.1 []).map rk := by
    rw [List.getD_eq_getElem?_getD, List.getElem?_map, List.getD_eq_getElem?_getD]
    cases (nm x n)[c.1]? <;> rfl
  rw [e2, List.getElem?_map] at hc
  cases q : ((nm x n).getD c.1 [])[c.2]? with
  | none => rw [q] at hc; cases hc
  | some s =>
    rw [q] at hc
    have hs' : rk s = r := Option.some.inj hc
    have hm : s ∈ (nm x n).flatten := by
      rw [List.mem_flatten]
      refine ⟨(nm x n).getD c.1 [], ?_, List.mem_of_getElem? q⟩
      rw [List.getD_eq_getElem?_getD] at q ⊢
      cases w : (nm x n)[c.1]? with
      | none => rw [w] at q; simp at q
      | some R => exact List.mem_of_getElem? w
    obtain ⟨i, hi, rfl⟩ := List.mem_map.mp (h3.mem_iff.mp hm)
    have hi' : i < n := by simpa using hi
    obtain ⟨o1, o2, o3⟩ := hod r hr
    have k1 := (hrk (i : Int) (od r) (by omega) ⟨o1, o2⟩).mp (by omega)
    have k2 := (hrk (od r) (i : Int) ⟨o1, o2⟩ (by omega)).mp (by omega)
    congr 1
    omega
end
end Mine

set_option maxHeartbeats 4000000
namespace Mine
open PySem PySem.W PyProof.Rows

noncomputable abbrev put01 (P : Params) : FuncData := fdOf (hd.heap_39 P) 30
noncomputable abbrev step01 (P : Params) : FuncData := fdOf (hd.heap_39 P) 37
noncomputable abbrev law01 (P : Params) : FuncData := fdOf (hd.heap_39 P) 42
noncomputable def whileBody : Stmt → List Stmt
  | .While _ b _ _ => b
  | _ => []
structure Gl01 (C : Cx) : Prop where
  len : C.gl "len" = some (.builtin "len")
  range : C.gl "range" = some (.type "range")
  sorted : C.gl "sorted" = some (.builtin "sorted")
  type : C.gl "type" = some (.type "type")
  int : C.gl "int" = some (.type "int")
  enum : C.gl "enumerate" = some (.type "enumerate")
  br : C.gl "bisect_right" = some (.ref 23)
  put : C.gl "_law_put" = some (.ref 30)
  step : C.gl "_law_in_step" = some (.ref 37)
/-- the rows of numbers and the rows of names -/
structure TwoAt (R0 N0 : Addr) (ra na : List Addr) (x : Int → Int) (names : List (List Int)) (H : AH) : Prop where
  r : RowsAt R0 ra (names.map (·.map x)) H
  n : RowsAt N0 na names H
  d : ∀ a, a = R0 ∨ a ∈ ra → a ≠ N0 ∧ a ∉ na
theorem TwoAt.keep {R0 N0 : Addr} {ra na : List Addr} {x : Int → Int} {names : List (List Int)} {H H' : AH} (h : TwoAt R0 N0 ra na x names H) (k : ∀ a o, H a = some o → H' a = some o) : TwoAt R0 N0 ra na x names H' :=
  ⟨h.r.keep fun a _ o e => k a o e, h.n.keep fun a _ o e => k a o e, h.d⟩
/-- one row changed in both -/
theorem TwoAt.upd {R0 N0 a b : Addr} {ra na : List Addr} {x : Int → Int} {names : List (List Int)} {H : AH} {k : Nat} {row : List Int} (h : TwoAt R0 N0 ra na x names H) (ha : ra[k]? = some a) (hb : na[k]? = some b) :
    TwoAt R0 N0 ra na x (names.set k row) ((H.set a (.list (vints (row.map x)))).set b (.list (vints row))) := by
  have hA := List.mem_of_getElem? ha
  have hB := List.mem_of_getElem? hb
  have h1 := h.r.upd (row := row.map x) ha
  have n1 : RowsAt N0 na names (H.set a (.list (vints (row.map x)))) := h.n.keep fun c hc o e => by
    rw [AH.set_ne _ _ (fun q => by
      have := h.d a (.inr hA)
      rw [← q] at this
      rcases hc with w | w
      · exact this.1 w
      · exact this.2 w)]; exact e
  refine ⟨?_, n1.upd hb, h.d⟩
  rw [List.map_set]
  exact h1.keep fun c hc o e => by
    rw [AH.set_ne _ _ (fun q => by
      have := h.d c hc
      rw [q] at this
      exact this.2 hB)]; exact e
/-- one empty row more in both -/
theorem TwoAt.grow {R0 N0 a b : Addr} {ra na : List Addr} {x : Int → Int} {names : List (List Int)} {H : AH} (h : TwoAt R0 N0 ra na x names H) (ha : H a = none) (hb : ((H.set a (.list [])).set R0 (.list ((ra ++ [a]).map .ref))) b = none) :
    TwoAt R0 N0 (ra ++ [a]) (na ++ [b]) x (names ++ [[]]) ((((H.set a (.list [])).set R0 (.list ((ra ++ [a]).map .ref))).set b (.list [])).set N0 (.list ((na ++ [b]).map .ref))) := by
  have hRN : R0 ≠ N0 := (h.d R0 (.inl rfl)).1
  obtain ⟨hb1, hb2⟩ := AH.none_of_set hb
  obtain ⟨hb3, hb4⟩ := AH.none_of_set hb1
  have haN : a ≠ N0 := fun q => by have := h.n.hR; rw [← q, ha] at this; cases this
  have hana : a ∉ na := fun q => by obtain ⟨r, e⟩ := h.n.mem q; rw [ha] at e; cases e
  have hbN : b ≠ N0 := fun q => by have := h.n.hR; rw [← q, hb3] at this; cases this
  have hbra : b ∉ ra := fun q => by obtain ⟨r, e⟩ := h.r.mem q; rw [hb3] at e; cases e
  have r1 := h.r.add (row := []) ha
  have n1 : RowsAt N0 na names ((H.set a (.list [])).set R0 (.list ((ra ++ [a]).map .ref))) := h.n.keep fun c hc o e => by
    rw [AH.set_ne _ _ (fun q : c = R0 => by
      have := h.d R0 (.inl rfl)
      rw [← q] at this
      rcases hc with w | w
      · exact this.1 w
      · exact this.2 w)]
    exact AH.get_of_set e ha
  have n2 := n1.add (row := []) hb
  refine ⟨?_, n2, fun c hc => ?_⟩
  · have : (names ++ [[]]).map (fun r : List Int => r.map x) = names.map (fun r : List Int => r.map x) ++ [[]] := by simp
    rw [this]
    exact r1.keep fun c hc o e => by
      have hcN : c ≠ N0 := by
        rcases hc with w | w
        · rw [w]; exact hRN
        · rcases List.mem_append.mp w with w | w
          · exact (h.d c (.inr w)).1
          · rw [List.mem_singleton.mp w]; exact haN
      rw [AH.set_ne _ _ hcN]
      exact AH.get_of_set e hb
  · have h1 : c ≠ N0 ∧ c ∉ na := by
      rcases hc with w | w
      · exact h.d c (.inl w)
      · rcases List.mem_append.mp w with w | w
        · exact h.d c (.inr w)
        · rw [List.mem_singleton.mp w]; exact ⟨haN, hana⟩
    refine ⟨h1.1, fun q => ?_⟩
    rcases List.mem_append.mp q with w | w
    · exact h1.2 w
    · rw [List.mem_singleton.mp w] at hc
      rcases hc with z | z
      · exact hb2 z
      · rcases List.mem_append.mp z with z | z
        · exact hbra z
        · exact hb4 (List.mem_singleton.mp z)
section
variable {C : Cx} {A : Around} {ρ : Lo} {H : AH} {P : Params}
theorem br_ints (hK : (hd.heap_39 P).In C.base) (hlen : C.gl "len" = some (.builtin "len")) (hh : A.handled = none) (hdep : A.depth < recursionLimit) {a : Addr} {ns : List Int} {x : Int} (ha : H a = some (.list (vints ns))) (hs : ns.Pairwise fun p q => p ≤ q) :
    WCall C A (.ref 23) [.ref a, .int x] [] H (fun r H' => r = .int (plc ns x : Nat) ∧ H' = H) := by
  have hb : bis (fun i => !decide (ns.getD i 0 ≤ x)) 0 ns.length = plc ns x := by
    have := bis_part (f := fun i => !decide (ns.getD i 0 ≤ x)) (lo := 0) (hi := ns.length) ((srt_ints hs).le x) (by simp) (fun j y hj => by show (!decide (ns.getD (0 + j) 0 ≤ x)) = _; rw [List.getD_eq_getElem?_getD, Nat.zero_add, hj]; rfl)
    rw [this, Nat.zero_add]; rfl
  have hbind : ∀ (vals : List Value) (kvs : List (Str × Value)), vals.map ab = [.ref a, .int x] → kvs.map (fun p => (p.1, ab p.2)) = ([] : List (Str × V)) → ∃ binds, (∀ s, Keep C s → BindsTo s (fdOf (hd.heap_39 P) 23) ⟨vals, kvs⟩ binds) ∧ binds.map (fun p => (p.1, ab p.2)) = ([("a", .ref a), ("x", .int x), ("lo", .int (0 : Nat)), ("hi", .none), ("key", .none)] : List (Str × V)) := by
    intro vals kvs e1 e2
    obtain ⟨x1, x2, rfl, y1, y2⟩ := vals2 e1
    cases ab_nil e2
    refine ⟨[("a", x1), ("x", x2), ("lo", .int 0 189), ("hi", .none), ("key", .none)], fun s hs => kp_binds (hK.keeps hs) (fun S => by kernel_rfl), ?_⟩
    show [(_, ab x1), (_, ab x2), _, _, _] = _
    rw [y1, y2]; rfl
  refine br_core hK hlen hh hdep (fun i => !decide (ns.getD i 0 ≤ x)) hbind (hi := ns.length) ha rfl (.inl ⟨rfl, by rw [ints_length]⟩) (fun A' hA' => .inl ⟨rfl, fun i v _ _ hv => ?_⟩) ⟨by rw [hb], rfl⟩
  obtain ⟨rfl, hi⟩ := vints_at hv
  show LtOk C A' H _ _ (!decide (ns.getD i 0 ≤ x))
  rw [show (!decide (ns.getD i 0 ≤ x)) = decide (x < ns.getD i 0) by rw [← decide_not]; congr 1; apply propext; omega]
  exact LtOk.int
/-- the cell that grows -/
noncomputable def cellN (x : Int → Int) (names : List (List Int)) (t : Int) : Nat × Nat := ((putN x names t).2, (names.getD (putN x names t).2 []).length)
noncomputable def cellV (c : Nat × Nat) : O := .list [.int (c.1 : Nat), .int (c.2 : Nat)]
theorem put_spec {R0 N0 : Addr} {ra na : List Addr} {names : List (List Int)} {x : Int → Int} {t : Int} (hK : (hd.heap_39 P).In C.base) (G : Gl01 C) (hh : A.handled = none) (hdep : A.depth + 4 < recursionLimit) (hu : A.units + 100 < cLine) (h : TwoAt R0 N0 ra na x names H) (hs : ∀ R ∈ names, RowS (R.map x)) (hz : names.length ≤ 900 ∧ ∀ R ∈ names, R.length ≤ 900)
    {Q : V → AH → Prop} (hQ : ∀ H1 ra' na' c, TwoAt R0 N0 ra' na' x (putN x names t).1 H1 → (∀ a o, H a = some o → a ≠ R0 → a ∉ ra → a ≠ N0 → a ∉ na → H1 a = some o) → (∀ a, a ∈ ra' ∨ a ∈ na' → a ∈ ra ∨ a ∈ na ∨ H a = none) → (∀ a, H1 a = none → H a = none) → H1 c = none → Q (.ref c) (H1.set c (cellV (cellN x names t)))) :
    WCall C A (.ref 30) [.ref R0, .ref N0, .int (x t), .int t] [] H Q := by
  have hsz : 1000 ≤ sizeLine := by decide
  refine WCall.def (fn_in hK 30 rfl) (by omega) rfl (noCell rfl) (fun h k => codeRec_of (hK.keeps k) rfl) (bs := [("rows", .ref R0), ("names", .ref N0), ("x", .int (x t)), ("name", .int t)]) ?_ (allLocal rfl) ?_
  · intro vals kvs e1 e2
    obtain ⟨x1, x2, x3, x4, rfl, y1, y2, y3, y4⟩ : ∃ x1 x2 x3 x4, vals = [x1, x2, x3, x4] ∧ ab x1 = .ref R0 ∧ ab x2 = .ref N0 ∧ ab x3 = .int (x t) ∧ ab x4 = .int t := by
      cases vals with
      | nil => simp at e1
      | cons x1 r =>
        simp only [List.map_cons, List.cons.injEq] at e1
        obtain ⟨x2, x3, x4, rfl, h⟩ := vals3 e1.2
        exact ⟨x1, x2, x3, x4, rfl, e1.1, h⟩
    cases ab_nil e2
    refine ⟨[("rows", x1), ("names", x2), ("x", x3), ("name", x4)], fun s hs => kp_binds (hK.keeps hs) (fun S => by kernel_rfl), ?_⟩
    show [(_, ab x1), (_, ab x2), (_, ab x3), (_, ab x4)] = _
    rw [y1, y2, y3, y4]
  intro L hL
  have hNx := Nx.of A (callEnv (put01 P) L 30)
  generalize hA' : A.deeper (callEnv (put01 P) L 30) = A' at *
  have F : Fx C A' (callEnv (put01 P) L 30) := ⟨rfl, rfl, rfl, hNx.2.2.trans hh⟩
  have hd1 := hNx.1
  have hu1 := hNx.2.1
  generalize hρ : (fun y => List.lookup y (([("rows", .ref R0), ("names", .ref N0), ("x", .int (x t)), ("name", .int t)] : List (Str × V)).reverse)) = ρ
  have rr : ρ "rows" = some (.ref R0) := by rw [← hρ]; rfl
  have rn : ρ "names" = some (.ref N0) := by rw [← hρ]; rfl
  have rx : ρ "x" = some (.int (x t)) := by rw [← hρ]; rfl
  have rm : ρ "name" = some (.int t) := by rw [← hρ]; rfl
  clear hρ
  have hlr : ra.length = names.length := by have := h.r.hX.length; simpa using this
  have hln : na.length = names.length := h.n.hX.length
  refine WS.seq (W1.asgLocal F rfl (WE.of Ev.int ⟨rfl, ?_⟩))
  refine WS.cons (W1.while F (fun n ρ1 H1 => ∃ done k t', n = names.length + 1 - k ∧ done.length = k ∧ k ≤ names.length ∧ TwoAt R0 N0 ra na x (done ++ names.drop k) H1 ∧ putN x names t = (done ++ (putN x (names.drop k) t').1, k + (putN x (names.drop k) t').2)
      ∧ (∀ a o, H a = some o → a ≠ R0 → a ∉ ra → a ≠ N0 → a ∉ na → H1 a = some o) ∧ (∀ a, H1 a = none → H a = none) ∧ ρ1 "rows" = some (.ref R0) ∧ ρ1 "names" = some (.ref N0) ∧ ρ1 "x" = some (.int (x t')) ∧ ρ1 "name" = some (.int t') ∧ ρ1 "k" = some (.int (k : Nat))) (names.length + 1)
    ⟨[], 0, t, rfl, rfl, Nat.zero_le _, h, by simp, fun a o e _ _ _ _ => e, fun a e => e, rr, rn, rx, rm, rfl⟩ ?_)
  rintro n ρ1 H1 ⟨done, k, t', rfl, hdl, hkl, h1, hput, hfr, hnn, r1, r2, r3, r4, r5⟩
  refine WT.of (b := true) (EvT.of Ev.bool rfl (by intro x e; cases e)) ⟨fun _ => ?_, fun e => by cases e⟩
  -- from the search on, with a row R to put into
  suffices tail : ∀ (ra' na' : List Addr) (R : List Int) (rest : List (List Int)) (H2 : AH), TwoAt R0 N0 ra' na' x (done ++ R :: rest) H2 → (rest ≠ [] ∨ plc (R.map x) (x t') ≠ R.length → ra' = ra ∧ na' = na ∧ R :: rest = names.drop k) → RowS (R.map x) → R.length ≤ 900 →
      putN x (names.drop k) t' = putN x (R :: rest) t' → R.length = (names.getD k []).length → (∀ a o, H a = some o → a ≠ R0 → a ∉ ra → a ≠ N0 → a ∉ na → H2 a = some o) → (∀ a, a ∈ ra' ∨ a ∈ na' → a ∈ ra ∨ a ∈ na ∨ H a = none) → (∀ a, H2 a = none → H a = none) →
      WS C A' (callEnv (put01 P) L 30) ((whileBody (stAt (bodyOf (put01 P)) 1)).drop 1) ρ1 H2 (fun f ρ3 H3 => match f with
        | .next => ∃ m, m < names.length + 1 - k ∧ ∃ done k t', m = names.length + 1 - k ∧ done.length = k ∧ k ≤ names.length ∧ TwoAt R0 N0 ra na x (done ++ names.drop k) H3 ∧ putN x names t = (done ++ (putN x (names.drop k) t').1, k + (putN x (names.drop k) t').2)
          ∧ (∀ a o, H a = some o → a ≠ R0 → a ∉ ra → a ≠ N0 → a ∉ na → H3 a = some o) ∧ (∀ a, H3 a = none → H a = none) ∧ ρ3 "rows" = some (.ref R0) ∧ ρ3 "names" = some (.ref N0) ∧ ρ3 "x" = some (.int (x t')) ∧ ρ3 "name" = some (.int t') ∧ ρ3 "k" = some (.int (k : Nat))
        | .cont => False
        | .brk => False
        | .ret v => Q v H3) by
    refine WS.seq (W1.if (WT.of (EvT.icmp (op := .Eq) (Ev.local F rfl r5) (Ev.len (Ev.glob F rfl G.len) (Ev.local F rfl r1) h1.r.hR rfl) rfl) ⟨fun e => ?_, fun e => WS.nil ⟨rfl, ?_⟩⟩))
    · have hk : k = names.length := by
        have : (k : Int) = ((ra.map V.ref).length : Int) := by simpa using e
        rw [List.length_map, hlr] at this; omega
      have hdrop : names.drop k = [] := by rw [hk]; exact List.drop_length ..
      have hgd : names.getD k [] = [] := by rw [List.getD_eq_getElem?_getD, List.getElem?_eq_none (by omega)]; rfl
      rw [hdrop, List.append_nil] at h1
      refine WS.seq (W1.expr F (WE.listMeth PySem.F.slot_list_append rfl (WE.of (Ev.local F rfl r1) ⟨R0, _, rfl, h1.r.hR, WEs.cons (WE.list rfl (by decide) (WEs.nil fun a ha => WEs.nil (WCall.append (AH.get_of_set h1.r.hR ha) (by simp; omega) ⟨(by intro a e; cases e), rfl, ?_⟩)))⟩)))
      rw [show (ra.map V.ref) ++ [V.ref a] = (ra ++ [a]).map V.ref by simp]
      have hRN : R0 ≠ N0 := (h1.d R0 (.inl rfl)).1
      have hn1 : ((H1.set a (.list [])).set R0 (.list ((ra ++ [a]).map V.ref))) N0 = some (.list (na.map .ref)) := by
        rw [AH.set_ne _ _ hRN.symm]; exact AH.get_of_set h1.n.hR ha
      refine WS.seq (W1.expr F (WE.listMeth PySem.F.slot_list_append rfl (WE.of (Ev.local F rfl r2) ⟨N0, _, rfl, hn1, WEs.cons (WE.list rfl (by decide) (WEs.nil fun b hb => WEs.nil (WCall.append (AH.get_of_set hn1 hb) (by simp; omega) ⟨(by intro a e; cases e), rfl, ?_⟩)))⟩)))
      rw [show (na.map V.ref) ++ [V.ref b] = (na ++ [b]).map V.ref by simp]
      have hg := h1.grow ha hb
      refine WS.nil ⟨rfl, WS.mono (tail (ra ++ [a]) (na ++ [b]) [] [] _ hg (fun q => ?_) List.Pairwise.nil (by simp) (by rw [hdrop]; rfl) (by rw [hgd]) (fun c o e n1 n2 n3 n4 => ?_) (fun c hc => ?_) (fun c hc => ?_)) fun f ρ3 H3 q => ?_⟩
      · rcases q with q | q
        · exact absurd rfl q
        · exact absurd rfl q
      · rw [AH.set_ne _ _ n3]
        refine AH.get_of_set ?_ hb
        rw [AH.set_ne _ _ n1]
        exact AH.get_of_set (hfr c o e n1 n2 n3 n4) ha
      · rcases hc with w | w
        · rcases List.mem_append.mp w with w | w
          · exact .inl w
          · rw [List.mem_singleton.mp w]; exact .inr (.inr (hnn _ ha))
        · rcases List.mem_append.mp w with w | w
          · exact .inr (.inl w)
          · rw [List.mem_singleton.mp w]; exact .inr (.inr (hnn _ (AH.none_of_set (AH.none_of_set hb).1).1))
      · exact hnn c (AH.none_of_set (AH.none_of_set (AH.none_of_set (AH.none_of_set hc).1).1).1).1
      · cases f with
        | next => exact q
        | cont => exact q.elim
        | brk => exact q.elim
        | ret v => exact q
    · have hk : k < names.length := by
        have : ¬ (k : Int) = ((ra.map V.ref).length : Int) := by simpa using e
        rw [List.length_map, hlr] at this; omega
      have hdrop : names.drop k = names[k] :: names.drop (k + 1) := List.drop_eq_getElem_cons hk
      have hm := List.getElem_mem hk
      refine WS.mono (tail ra na names[k] (names.drop (k + 1)) H1 (by rw [← hdrop]; exact h1) (fun _ => ⟨rfl, rfl, hdrop.symm⟩) (hs _ hm) (hz.2 _ hm) (by rw [hdrop]) (by rw [List.getD_eq_getElem?_getD, List.getElem?_eq_getElem hk]; rfl) hfr (fun a ha => by rcases ha with w | w; exact .inl w; exact .inr (.inl w)) hnn) fun f ρ3 H3 q => ?_
      cases f with
      | next => exact q
      | cont => exact q.elim
      | brk => exact q.elim
      | ret v => exact q
  clear hkl h1 hfr hnn
  intro ra' na' R rest H2 h2 hsame hRs hRl hput2 hlen2 hfr hown hnn
  have hlra : k < ra'.length := by have := h2.r.hX.length; simp at this; omega
  have hlna : k < na'.length := by have := h2.n.hX.length; simp at this; omega
  obtain ⟨a, hai⟩ : ∃ a, ra'[k]? = some a := ⟨_, List.getElem?_eq_getElem hlra⟩
  obtain ⟨b, hbi⟩ : ∃ b, na'[k]? = some b := ⟨_, List.getElem?_eq_getElem hlna⟩
  have hgk : (done ++ R :: rest)[k]? = some R := by rw [List.getElem?_append_right (by omega), hdl, Nat.sub_self]; rfl
  have haH : H2 a = some (.list (vints (R.map x))) := Zip.get (R := fun a row => H2 a = some (.list (vints row))) k a (R.map x) h2.r.hX hai (by rw [List.getElem?_map, hgk]; rfl)
  have hbH : H2 b = some (.list (vints R)) := Zip.get (R := fun a row => H2 a = some (.list (vints row))) k b R h2.n.hX hbi hgk
  have hab : a ≠ b := fun q => (h2.d a (.inr (List.mem_of_getElem? hai))).2 (q ▸ List.mem_of_getElem? hbi)
  have haN : a ≠ N0 := (h2.d a (.inr (List.mem_of_getElem? hai))).1
  have hsets : ∀ row, (done ++ R :: rest).set k row = done ++ row :: rest := fun row => by
    rw [List.set_append_right _ _ (by omega), hdl, Nat.sub_self]; rfl
  have rowE : ∀ {ρ' : Lo} {H' : AH} {p1 p2 p3 : Pos}, ρ' "rows" = some (.ref R0) → ρ' "k" = some (.int k) → H' R0 = some (.list (ra'.map .ref)) → Ev C A' (callEnv (put01 P) L 30) ρ' H' (.Subscript (.Name "rows" p1) (.Name "k" p2) p3) (.ref a) := fun q1 q2 q3 =>
    Ev.item (Ev.local F rfl q1) (Ev.local F rfl q2) q3 rfl (by omega) (by rw [Int.toNat_natCast, List.getElem?_map, hai]; rfl)
  have namE : ∀ {ρ' : Lo} {H' : AH} {p1 p2 p3 : Pos}, ρ' "names" = some (.ref N0) → ρ' "k" = some (.int k) → H' N0 = some (.list (na'.map .ref)) → Ev C A' (callEnv (put01 P) L 30) ρ' H' (.Subscript (.Name "names" p1) (.Name "k" p2) p3) (.ref b) := fun q1 q2 q3 =>
    Ev.item (Ev.local F rfl q1) (Ev.local F rfl q2) q3 rfl (by omega) (by rw [Int.toNat_natCast, List.getElem?_map, hbi]; rfl)
  have hpl : plc (R.map x) (x t') ≤ R.length := by have := plc_le (R.map x) (x t'); rwa [List.length_map] at this
  refine WS.seq (W1.asgLocal F rfl (WE.callB (fun _ => fn_in hK 23 rfl) (Ev.glob F rfl G.br) (WEs.of (.cons (rowE (by exact r1) (by exact r5) h2.r.hR) (.cons (Ev.local F rfl (by exact r3)) .nil)) (WKs.nil (WCall.mono (br_ints hK G.len F.hh (by omega) haH hRs) ?_)))))
  rintro v H3 ⟨rfl, rfl⟩
  refine ⟨rfl, ?_⟩
  generalize hpp : plc (R.map x) (x t') = p at *
  refine WS.seq (W1.if (WT.of (b := false) (EvT.boolop (AllT.or_cons (b := false) (EvT.typeIsNotInt (Ev.glob F rfl G.type) (Ev.local F rfl rfl) (Ev.glob F rfl G.int)) fun _ => AllT.or_cons (b := false) (EvT.icmp (op := .Lt) (Ev.local F rfl rfl) Ev.int (by simp [icmp])) fun _ => AllT.or_cons (b := false) (c := false) (EvT.icmp (op := .Gt) (Ev.local F rfl rfl) (Ev.len (Ev.glob F rfl G.len) (rowE (by exact r1) (by exact r5) h2.r.hR) haH rfl) (by simp [icmp, ints_length]; omega)) fun _ => AllT.or_nil)) ⟨fun e => (by cases e), fun _ => WS.nil ⟨rfl, ?_⟩⟩))
  refine WS.cons (W1.if (WT.of (EvT.icmp (op := .Eq) (Ev.local F rfl rfl) (Ev.len (Ev.glob F rfl G.len) (rowE (by exact r1) (by exact r5) h2.r.hR) haH rfl) rfl) ⟨fun e => ?_, fun e => WS.nil ?_⟩))
  · have hk : p = R.length := by
      have : (p : Int) = ((vints (R.map x)).length : Int) := by simpa using e
      rw [ints_length, List.length_map] at this; omega
    have hp : putN x (R :: rest) t' = ((R ++ [t']) :: rest, 0) := by rw [putN, if_pos (hpp.trans hk)]
    refine WS.seq (W1.expr F (WE.listMeth PySem.F.slot_list_append rfl (WE.of (rowE (by exact r1) (by exact r5) h2.r.hR) ⟨a, _, rfl, haH, WEs.of (.cons (Ev.local F rfl (by exact r3)) .nil) (WCall.append haH (by rw [ints_length, List.length_map]; omega) ⟨(by intro a e; cases e), rfl, ?_⟩)⟩)))
    rw [show vints (R.map x) ++ [V.int (x t')] = vints ((R ++ [t']).map x) by simp [vints]]
    have hn0 : (H3.set a (.list (vints ((R ++ [t']).map x)))) N0 = some (.list (na'.map .ref)) := by rw [AH.set_ne _ _ haN.symm]; exact h2.n.hR
    have hbH' : (H3.set a (.list (vints ((R ++ [t']).map x)))) b = some (.list (vints R)) := by rw [AH.set_ne _ _ hab.symm]; exact hbH
    refine WS.seq (W1.expr F (WE.listMeth PySem.F.slot_list_append rfl (WE.of (namE (by exact r2) (by exact r5) hn0) ⟨b, _, rfl, hbH', WEs.of (.cons (Ev.local F rfl (by exact r4)) .nil) (WCall.append hbH' (by rw [ints_length]; omega) ⟨(by intro a e; cases e), rfl, ?_⟩)⟩)))
    rw [show vints R ++ [V.int t'] = vints (R ++ [t']) by simp [vints]]
    have hu2 := h2.upd (row := R ++ [t']) hai hbi
    rw [hsets] at hu2
    have e1 : (putN x names t).1 = done ++ (R ++ [t']) :: rest := by rw [hput, hput2, hp]
    have e2 : (putN x names t).2 = k := by rw [hput, hput2, hp]; simp
    rw [← e1] at hu2
    refine WS.cons (W1.ret (WE.list rfl (by decide) (WEs.of (.cons (Ev.local F rfl (by exact r5)) (.cons (Ev.local F rfl rfl) .nil)) fun c hc => ?_)))
    have := hQ _ ra' na' c hu2 (fun c' o e n1 n2 n3 n4 => ?_) hown (fun c' e => hnn c' (AH.none_of_set (AH.none_of_set e).1).1) hc
    · have e3 : cellN x names t = (k, p) := by unfold cellN; rw [e2, ← hlen2, hk]
      rw [e3] at this
      exact this
    · have ha' : c' ≠ a := fun q => by
        rcases hown a (.inl (List.mem_of_getElem? hai)) with w | w | w
        · exact n2 (q ▸ w)
        · exact n4 (q ▸ w)
        · rw [q, w] at e; cases e
      have hb' : c' ≠ b := fun q => by
        rcases hown b (.inr (List.mem_of_getElem? hbi)) with w | w | w
        · exact n2 (q ▸ w)
        · exact n4 (q ▸ w)
        · rw [q, w] at e; cases e
      rw [AH.set_ne _ _ hb', AH.set_ne _ _ ha']; exact hfr c' o e n1 n2 n3 n4
  · have hk : ¬ p = R.length := by
      have : ¬ (p : Int) = ((vints (R.map x)).length : Int) := by simpa using e
      rw [ints_length, List.length_map] at this; omega
    have hpl' : p < R.length := by omega
    obtain ⟨rfl, rfl, hdr⟩ := hsame (.inr hk)
    have hp : putN x (R :: rest) t' = (R.set p t' :: (putN x rest (R.getD p 0)).1, (putN x rest (R.getD p 0)).2 + 1) := by rw [putN, hpp, if_neg hk]
    have hgv : (vints (R.map x))[p]? = some (.int (x (R.getD p 0))) := by rw [List.getD_eq_getElem?_getD]; simp [vints, hpl']
    have hgn : (vints R)[p]? = some (.int (R.getD p 0)) := by rw [List.getD_eq_getElem?_getD]; simp [vints, hpl']
    refine WS.seq (W1.asgTup F (WEs.of (.cons (Ev.item (rowE (by exact r1) (by exact r5) h2.r.hR) (Ev.local F rfl rfl) haH rfl (by omega) (by rw [Int.toNat_natCast]; exact hgv)) (.cons (Ev.local F rfl (by exact r3)) .nil)) (Asg.local F rfl (Asg.item (k := p) (rowE (by exact r1) (by exact r5) h2.r.hR) (Ev.local F rfl rfl) haH (by rw [ints_length, List.length_map]; exact hpl') ?_))))
    simp only [AsgL]
    refine ⟨trivial, ?_⟩
    rw [show (vints (R.map x)).set p (V.int (x t')) = vints ((R.set p t').map x) by simp [vints, List.map_set]]
    have hn0 : (H3.set a (.list (vints ((R.set p t').map x)))) N0 = some (.list (na'.map .ref)) := by rw [AH.set_ne _ _ haN.symm]; exact h2.n.hR
    have hbH' : (H3.set a (.list (vints ((R.set p t').map x)))) b = some (.list (vints R)) := by rw [AH.set_ne _ _ hab.symm]; exact hbH
    refine WS.seq (W1.asgTup F (WEs.of (.cons (Ev.item (namE (by exact r2) (by exact r5) hn0) (Ev.local F rfl rfl) hbH' rfl (by omega) (by rw [Int.toNat_natCast]; exact hgn)) (.cons (Ev.local F rfl (by exact r4)) .nil)) (Asg.local F rfl (Asg.item (k := p) (namE (by exact r2) (by exact r5) hn0) (Ev.local F rfl rfl) hbH' (by rw [ints_length]; exact hpl') ?_))))
    simp only [AsgL]
    refine ⟨trivial, ?_⟩
    rw [show (vints R).set p (V.int t') = vints (R.set p t') by simp [vints, List.map_set]]
    have hu2 := h2.upd (row := R.set p t') hai hbi
    rw [hsets] at hu2
    have hdl1 : (done ++ [R.set p t']).length = k + 1 := by simp [hdl]
    have hkl : k < names.length := by
      rcases Nat.lt_or_ge k names.length with w | w
      · exact w
      · rw [List.drop_eq_nil_of_le w] at hdr; cases hdr
    have hrest : rest = names.drop (k + 1) := by
      rw [List.drop_eq_getElem_cons hkl] at hdr
      exact (List.cons.inj hdr).2
    refine WS.seq (W1.augAdd F rfl (by exact r5) Ev.int ⟨rfl, WS.nil ⟨names.length + 1 - (k + 1), by omega, done ++ [R.set p t'], k + 1, R.getD p 0, rfl, hdl1, by omega, ?_, ?_, fun c' o e n1 n2 n3 n4 => ?_, fun c' e => hnn c' (AH.none_of_set (AH.none_of_set e).1).1, r1, r2, rfl, rfl, rfl⟩⟩)
    · rw [← hrest]; simpa using hu2
    · rw [hput, hput2, hp, ← hrest]; simp; omega
    · rw [AH.set_ne _ _ (fun q : c' = b => n4 (q ▸ List.mem_of_getElem? hbi)), AH.set_ne _ _ (fun q : c' = a => n2 (q ▸ List.mem_of_getElem? hai))]; exact hfr c' o e n1 n2 n3 n4
end
end Mine

set_option maxHeartbeats 4000000
namespace Mine
open PySem PySem.W PyProof.Rows

/-! ## plain facts -/
noncomputable def inStep (p q : Nat × Nat) (f : Bool) : Bool := if f = true then decide (p.1 < q.1) && decide (q.2 ≤ p.2) else decide (q.1 ≤ p.1) && decide (p.2 < q.2)
theorem nm_tb (x : Int → Int) : ∀ i, Tb ((nm x i).map (fun r : List Int => r.map x))
  | 0 => trivial
  | i + 1 => by
    have h := congrArg Prod.fst (putN_numbers x (nm x i) i)
    show Tb ((putN x (nm x i) i).1.map _)
    have h' : (putN x (nm x i) i).1.map (fun r : List Int => r.map x) = (putR ((nm x i).map fun r : List Int => r.map x) (x i)).1 := h
    rw [h']
    exact (nm_tb x i).put _
theorem tb_rows {rows : List (List Int)} : Tb rows → ∀ S ∈ rows, RowS S := by
  induction rows with
  | nil => intro _ S hS; cases hS
  | cons R r ih => intro hT S hS; rcases List.mem_cons.mp hS with rfl | w; exact hT.1; exact ih hT.2.2 S w
theorem cellN_R (x : Int → Int) (names : List (List Int)) (t : Int) : cellN x names t = cellR (names.map fun r : List Int => r.map x) (x t) := by
  have h0 := putN_numbers x names t
  have h : (putN x names t).2 = (putR (names.map fun r : List Int => r.map x) (x t)).2 := by rw [← h0]
  unfold cellN cellR
  rw [h]
  generalize (putR (names.map fun r : List Int => r.map x) (x t)).2 = k
  congr 1
  rw [List.getD_eq_getElem?_getD, List.getD_eq_getElem?_getD, List.getElem?_map]
  cases names[k]? <;> simp
theorem step_R {rows : List (List Int)} (h : Tb rows) (b b' : Int) : inStep (cellR rows b) (cellR (putR rows b).1 b') (decide (b' < b)) = true := by
  obtain ⟨h1, h2⟩ := bump2 b b' h
  unfold inStep cellR
  dsimp only
  by_cases q : b' < b
  · obtain ⟨a1, a2⟩ := h2 q
    rw [if_pos (decide_eq_true q), decide_eq_true a1, decide_eq_true a2]; rfl
  · obtain ⟨a1, a2⟩ := h1 (by omega)
    rw [if_neg (by simpa using q), decide_eq_true a1, decide_eq_true a2]; rfl
theorem nm_step (x : Int → Int) (i : Nat) : inStep (cellN x (nm x i) i) (cellN x (nm x (i + 1)) ((i + 1 : Nat) : Int)) (decide (x ((i + 1 : Nat) : Int) < x i)) = true := by
  have h := congrArg Prod.fst (putN_numbers x (nm x i) i)
  have h' : (nm x (i + 1)).map (fun r : List Int => r.map x) = (putR ((nm x i).map fun r : List Int => r.map x) (x i)).1 := h
  rw [cellN_R, cellN_R, h']
  exact step_R (nm_tb x i) _ _
theorem putN_len (x : Int → Int) : ∀ (rows : List (List Int)) (t : Int), (putN x rows t).1.length ≤ rows.length + 1
  | [], t => by simp [putN]
  | R :: rows, t => by
    rw [putN]
    split
    · simp
    · have := putN_len x rows (R.getD (plc (R.map x) (x t)) 0)
      rw [List.length_cons, List.length_cons]; omega
theorem nm_len (x : Int → Int) : ∀ i, (nm x i).length ≤ i
  | 0 => by simp [nm]
  | i + 1 => by
    have h1 := putN_len x (nm x i) i
    have h2 := nm_len x i
    show (putN x (nm x i) i).1.length ≤ _
    omega
theorem nm_flat (x : Int → Int) : ∀ i, (nm x i).flatten.length = i
  | 0 => rfl
  | i + 1 => by
    have := (putN_perm x (nm x i) i).length_eq
    show (putN x (nm x i) i).1.flatten.length = _
    rw [this, List.length_cons, nm_flat x i]
theorem nm_row (x : Int → Int) (i : Nat) : ∀ R ∈ nm x i, R.length ≤ i := fun R hR => by
  have := (List.sublist_flatten_of_mem hR).length_le
  rw [nm_flat] at this; exact this

section
variable {C : Cx} {A : Around} {ρ : Lo} {H : AH} {P : Params}
theorem step_spec {c d : Addr} {p q : Nat × Nat} {f : Bool} (hK : (hd.heap_39 P).In C.base) (hh : A.handled = none) (hdep : A.depth + 4 < recursionLimit) (hc : H c = some (cellV p)) (hd' : H d = some (cellV q)) :
    WCall C A (.ref 37) [.ref c, .ref d, .bool f] [] H (fun r H' => r = .bool (inStep p q f) ∧ H' = H) := by
  refine WCall.def (fn_in hK 37 rfl) (by omega) rfl (noCell rfl) (fun h k => codeRec_of (hK.keeps k) rfl) (bs := [("cell", .ref c), ("after", .ref d), ("falls", .bool f)]) ?_ (allLocal rfl) ?_
  · intro vals kvs e1 e2
    obtain ⟨x1, x2, x3, rfl, y1, y2, y3⟩ := vals3 e1
    cases ab_nil e2
    refine ⟨[("cell", x1), ("after", x2), ("falls", x3)], fun s hs => kp_binds (hK.keeps hs) (fun S => by kernel_rfl), ?_⟩
    show [(_, ab x1), (_, ab x2), (_, ab x3)] = _
    rw [y1, y2, y3]
  intro L hL
  have hNx := Nx.of A (callEnv (step01 P) L 37)
  generalize hA' : A.deeper (callEnv (step01 P) L 37) = A' at *
  have F : Fx C A' (callEnv (step01 P) L 37) := ⟨rfl, rfl, rfl, hNx.2.2.trans hh⟩
  generalize hρ : (fun y => List.lookup y (([("cell", .ref c), ("after", .ref d), ("falls", .bool f)] : List (Str × V)).reverse)) = ρ
  have r1 : ρ "cell" = some (.ref c) := by rw [← hρ]; rfl
  have r2 : ρ "after" = some (.ref d) := by rw [← hρ]; rfl
  have r3 : ρ "falls" = some (.bool f) := by rw [← hρ]; rfl
  clear hρ
  have c0 : ∀ {p1 p2 p3 : Pos} {k : Nat}, Ev C A' (callEnv (step01 P) L 37) ρ H (.Subscript (.Name "cell" p1) (.Constant (.int 0) k p2) p3) (.int p.1) := Ev.item (Ev.local F rfl r1) Ev.int hc rfl (by decide) rfl
  have c1 : ∀ {p1 p2 p3 : Pos} {k : Nat}, Ev C A' (callEnv (step01 P) L 37) ρ H (.Subscript (.Name "cell" p1) (.Constant (.int 1) k p2) p3) (.int p.2) := Ev.item (Ev.local F rfl r1) Ev.int hc rfl (by decide) rfl
  have d0 : ∀ {p1 p2 p3 : Pos} {k : Nat}, Ev C A' (callEnv (step01 P) L 37) ρ H (.Subscript (.Name "after" p1) (.Constant (.int 0) k p2) p3) (.int q.1) := Ev.item (Ev.local F rfl r2) Ev.int hd' rfl (by decide) rfl
  have d1 : ∀ {p1 p2 p3 : Pos} {k : Nat}, Ev C A' (callEnv (step01 P) L 37) ρ H (.Subscript (.Name "after" p1) (.Constant (.int 1) k p2) p3) (.int q.2) := Ev.item (Ev.local F rfl r2) Ev.int hd' rfl (by decide) rfl
  refine WS.cons (W1.if (WT.of (EvT.of (Ev.local F rfl r3) rfl (by intro x e; cases e)) ⟨fun e => ?_, fun e => WS.nil ?_⟩))
  · refine WS.cons (W1.ret (WE.of (Ev.and2 (Ev.icmp (op := .Gt) d0 c0 rfl) fun _ => Ev.icmp (op := .LtE) d1 c1 rfl) ⟨?_, rfl⟩))
    unfold inStep
    rw [if_pos e]
    show V.bool (decide ((p.1 : Int) < (q.1 : Int)) && decide ((q.2 : Int) ≤ (p.2 : Int))) = _
    congr 2 <;> (congr 1; apply propext; omega)
  · refine WS.cons (W1.ret (WE.of (Ev.and2 (Ev.icmp (op := .LtE) d0 c0 rfl) fun _ => Ev.icmp (op := .Gt) d1 c1 rfl) ⟨?_, rfl⟩))
    unfold inStep
    rw [if_neg (by simp [e])]
    show V.bool (decide ((q.1 : Int) ≤ (p.1 : Int)) && decide ((p.2 : Int) < (q.2 : Int))) = _
    congr 2 <;> (congr 1; apply propext; omega)

noncomputable abbrev env01 (P : Params) (L : Addr) : Env := callEnvC (law01 P) L 42
/-- what the law holds while it puts -/
structure J01 (P : Params) (L R0 N0 G0 NA : Addr) (ra na gs : List Addr) (xs : List Int) (x : Int → Int) (i : Nat) (H : AH) : Prop where
  two : TwoAt R0 N0 ra na x (nm x i) H
  g : H G0 = some (.list (gs.map .ref))
  gl : gs.length = i
  gc : ∀ (j : Nat) g, gs[j]? = some g → H g = some (cellV (cellN x (nm x j) j))
  nums : H NA = some (.list (vints xs))
  c1 : H (L + 1) = some (.cell (some (.ref N0)))
  c2 : H (L + 2) = some (.cell (some (.ref NA)))
  t : H 39 = some (.tab [])
  s1 : ∀ a, (a = R0 ∨ a ∈ ra) ∨ (a = N0 ∨ a ∈ na) → a ≠ G0 ∧ a ≠ NA ∧ a ∉ gs
  s2 : G0 ∉ gs ∧ G0 ≠ NA
theorem J01.cellNe {L R0 N0 G0 NA : Addr} {ra na gs : List Addr} {xs : List Int} {x : Int → Int} {i : Nat} (h : J01 P L R0 N0 G0 NA ra na gs xs x i H) {b : Addr} {o : O} (hb : H b = some o) (ho : ∀ vs, o ≠ .list vs) : b ≠ R0 ∧ b ∉ ra ∧ b ≠ N0 ∧ b ∉ na ∧ b ≠ G0 ∧ b ∉ gs := by
  refine ⟨fun q => ?_, fun q => ?_, fun q => ?_, fun q => ?_, fun q => ?_, fun q => ?_⟩
  · rw [q, h.two.r.hR] at hb; exact ho _ (Option.some.inj hb).symm
  · obtain ⟨r, e⟩ := h.two.r.mem q; rw [e] at hb; exact ho _ (Option.some.inj hb).symm
  · rw [q, h.two.n.hR] at hb; exact ho _ (Option.some.inj hb).symm
  · obtain ⟨r, e⟩ := h.two.n.mem q; rw [e] at hb; exact ho _ (Option.some.inj hb).symm
  · rw [q, h.g] at hb; exact ho _ (Option.some.inj hb).symm
  · obtain ⟨j, hj⟩ := List.getElem?_of_mem q
    rw [h.gc j b hj] at hb; exact ho _ (Option.some.inj hb).symm
variable {L R0 N0 G0 NA : Addr} {ra na gs : List Addr} {xs : List Int} {x : Int → Int}
theorem loop1 (hK : (hd.heap_39 P).In C.base) (G : Gl01 C) (F : Fx C A (env01 P L)) (hdep : A.depth + 20 < recursionLimit) (hu : A.units + 300 < cLine) (hx : x = fun s => xs.getD s.toNat 0) (hxl : xs.length ≤ 64)
    (h : J01 P L R0 N0 G0 NA [] [] [] xs x 0 H) (rr : ρ "rows" = some (.ref R0)) (rg : ρ "grown" = some (.ref G0))
    {Q : Fl → Lo → AH → Prop} (hQ : ∀ ρ' H' ra na gs, J01 P L R0 N0 G0 NA ra na gs xs x xs.length H' → ρ' "grown" = some (.ref G0) → Q .next ρ' H') :
    W1 C A (env01 P L) (stAt (bodyOf (law01 P)) 2) ρ H Q := by
  have hsz : 1000 ≤ sizeLine := by decide
  refine W1.for (WIt.range1 F (Ev.glob F rfl G.range) (Ev.len (Ev.glob F rfl G.len) (Ev.cell F rfl rfl h.c2) h.nums rfl) (by omega) (by rw [ints_length]; omega) ?_)
  refine ⟨fun i ρ1 H1 => i ≤ xs.length ∧ (∃ ra na gs, J01 P L R0 N0 G0 NA ra na gs xs x i H1) ∧ ρ1 "rows" = some (.ref R0) ∧ ρ1 "grown" = some (.ref G0), ⟨Nat.zero_le _, ⟨_, _, _, h⟩, rr, rg⟩, ?_, ?_⟩
  · rintro i ρ1 H1 hi ⟨hil, ⟨ra, na, gs, h1⟩, r1, r2⟩
    refine ⟨trivial, ?_⟩
    rintro d rfl
    refine Asg.local F rfl ?_
    have hi' : i < xs.length := by rw [ints_length] at hi; simpa using hi
    have hxi : (vints xs)[((i : Nat) : Int).toNat]? = some (.int (x i)) := by
      rw [hx, Int.toNat_natCast]; simp [vints, hi', List.getD_eq_getElem?_getD]
    refine WS.seq (W1.asgLocal F rfl (WE.callB (fun _ => fn_in hK 30 rfl) (Ev.glob F rfl G.put) (WEs.of (.cons (Ev.local F rfl (by exact r1)) (.cons (Ev.cell F rfl rfl h1.c1) (.cons (Ev.item (Ev.cell F rfl rfl h1.c2) (Ev.local F rfl rfl) h1.nums rfl (by omega) hxi) (.cons (Ev.local F rfl rfl) .nil)))) (WKs.nil (put_spec hK G F.hh (by omega) (by omega) h1.two (fun R hR => tb_rows (nm_tb x i) _ (List.mem_map_of_mem hR)) ⟨by have := nm_len x i; omega, fun R hR => by have := nm_row x i R hR; omega⟩ fun H2 ra' na' c k1 k2 k3 k4 k5 => ⟨rfl, ?_⟩)))))
    have up : ∀ {a : Addr} {o : O}, H1 a = some o → a ≠ R0 → a ∉ ra → a ≠ N0 → a ∉ na → (H2.set c (cellV (cellN x (nm x i) i))) a = some o := fun {a o} e n1 n2 n3 n4 => AH.get_of_set (k2 a o e n1 n2 n3 n4) k5
    have hcH1 : H1 c = none := k4 c k5
    have e1 : (H2.set c (cellV (cellN x (nm x i) i))) c = some (cellV (cellN x (nm x i) i)) := AH.set_same ..
    have f2 : TwoAt R0 N0 ra' na' x (nm x (i + 1)) (H2.set c (cellV (cellN x (nm x i) i))) := k1.keep fun a o e => AH.get_of_set e k5
    have sG := h1.s1
    have nG : G0 ≠ R0 ∧ G0 ∉ ra ∧ G0 ≠ N0 ∧ G0 ∉ na := ⟨fun q => (sG G0 (.inl (.inl q))).1 rfl, fun q => (sG G0 (.inl (.inr q))).1 rfl, fun q => (sG G0 (.inr (.inl q))).1 rfl, fun q => (sG G0 (.inr (.inr q))).1 rfl⟩
    have nN : NA ≠ R0 ∧ NA ∉ ra ∧ NA ≠ N0 ∧ NA ∉ na := ⟨fun q => (sG NA (.inl (.inl q))).2.1 rfl, fun q => (sG NA (.inl (.inr q))).2.1 rfl, fun q => (sG NA (.inr (.inl q))).2.1 rfl, fun q => (sG NA (.inr (.inr q))).2.1 rfl⟩
    have ng : ∀ g ∈ gs, g ≠ R0 ∧ g ∉ ra ∧ g ≠ N0 ∧ g ∉ na := fun g hg => ⟨fun q => (sG g (.inl (.inl q))).2.2 hg, fun q => (sG g (.inl (.inr q))).2.2 hg, fun q => (sG g (.inr (.inl q))).2.2 hg, fun q => (sG g (.inr (.inr q))).2.2 hg⟩
    have fG := up h1.g nG.1 nG.2.1 nG.2.2.1 nG.2.2.2
    have fN := up h1.nums nN.1 nN.2.1 nN.2.2.1 nN.2.2.2
    have fg : ∀ (j : Nat) g, gs[j]? = some g → (H2.set c (cellV (cellN x (nm x i) i))) g = some (cellV (cellN x (nm x j) j)) := fun j g hj => by
      obtain ⟨a1, a2, a3, a4⟩ := ng g (List.mem_of_getElem? hj)
      exact up (h1.gc j g hj) a1 a2 a3 a4
    have z1 := h1.cellNe h1.c1 (by simp)
    have z2 := h1.cellNe h1.c2 (by simp)
    have z3 := h1.cellNe h1.t (by simp)
    have fc1 := up h1.c1 z1.1 z1.2.1 z1.2.2.1 z1.2.2.2.1
    have fc2 := up h1.c2 z2.1 z2.2.1 z2.2.2.1 z2.2.2.2.1
    have ft := up h1.t z3.1 z3.2.1 z3.2.2.1 z3.2.2.2.1
    have hcG : c ≠ G0 := fun q => by rw [q, h1.g] at hcH1; cases hcH1
    have hcN : c ≠ NA := fun q => by rw [q, h1.nums] at hcH1; cases hcH1
    have hcgs : c ∉ gs := fun q => by obtain ⟨j, hj⟩ := List.getElem?_of_mem q; rw [h1.gc j c hj] at hcH1; cases hcH1
    have s1' : ∀ a, (a = R0 ∨ a ∈ ra') ∨ (a = N0 ∨ a ∈ na') → a ≠ G0 ∧ a ≠ NA ∧ a ∉ gs ++ [c] := fun a ha => by
      have hac : a ≠ c := fun q => by
        have : ∃ o, H2 c = some o := by
          rw [← q]
          rcases ha with (w | w) | (w | w)
          · exact ⟨_, w ▸ k1.r.hR⟩
          · obtain ⟨r, e⟩ := k1.r.mem w; exact ⟨_, e⟩
          · exact ⟨_, w ▸ k1.n.hR⟩
          · obtain ⟨r, e⟩ := k1.n.mem w; exact ⟨_, e⟩
        obtain ⟨o, e⟩ := this
        rw [k5] at e; cases e
      have base : a ≠ G0 ∧ a ≠ NA ∧ a ∉ gs := by
        have hold : ((a = R0 ∨ a ∈ ra) ∨ (a = N0 ∨ a ∈ na)) ∨ H1 a = none := by
          rcases ha with (w | w) | (w | w)
          · exact .inl (.inl (.inl w))
          · rcases k3 a (.inl w) with z | z | z
            · exact .inl (.inl (.inr z))
            · exact .inl (.inr (.inr z))
            · exact .inr z
          · exact .inl (.inr (.inl w))
          · rcases k3 a (.inr w) with z | z | z
            · exact .inl (.inl (.inr z))
            · exact .inl (.inr (.inr z))
            · exact .inr z
        rcases hold with w | w
        · exact sG a w
        · exact ⟨fun q => (by rw [q, h1.g] at w; cases w), fun q => (by rw [q, h1.nums] at w; cases w), fun q => (by obtain ⟨j, hj⟩ := List.getElem?_of_mem q; rw [h1.gc j a hj] at w; cases w)⟩
      exact ⟨base.1, base.2.1, fun q => by rcases List.mem_append.mp q with w | w; exact base.2.2 w; exact hac (List.mem_singleton.mp w)⟩
    generalize H2.set c (cellV (cellN x (nm x i) i)) = H3 at *
    refine WS.seq (W1.if (WT.of (b := false) (EvT.eqNilRaw (by omega) (Ev.local F rfl rfl) e1) ⟨fun e => (by cases e), fun _ => WS.nil ⟨rfl, ?_⟩⟩))
    refine WS.seq (W1.expr F (WE.listMeth PySem.F.slot_list_append rfl (WE.of (Ev.local F rfl (by exact r2)) ⟨G0, _, rfl, fG, WEs.of (.cons (Ev.local F rfl rfl) .nil) (WCall.append fG (by simp [h1.gl]; omega) ⟨(by intro a e; cases e), rfl, ?_⟩)⟩)))
    rw [show (gs.map V.ref) ++ [V.ref c] = (gs ++ [c]).map V.ref by simp]
    have keepG : ∀ {a : Addr} {o : O}, H3 a = some o → a ≠ G0 → (H3.set G0 (.list ((gs ++ [c]).map V.ref))) a = some o := fun {a o} e hn => by rw [AH.set_ne _ _ hn]; exact e
    refine WS.nil ⟨by omega, ⟨ra', na', gs ++ [c], ?_⟩, r1, r2⟩
    have nGc : ∀ {b : Addr} {o : O}, H3 b = some o → (∀ vs, o ≠ .list vs) → b ≠ G0 := fun hb ho q => by rw [q, fG] at hb; exact ho _ (Option.some.inj hb).symm
    exact
      { two := ⟨f2.r.keep fun a ha o e => keepG e (s1' a (.inl ha)).1, f2.n.keep fun a ha o e => keepG e (s1' a (.inr ha)).1, f2.d⟩
        g := AH.set_same ..
        gl := by simp [h1.gl]
        gc := fun j g hj => by
          by_cases q : j < i
          · rw [List.getElem?_append_left (by rw [h1.gl]; exact q)] at hj
            exact keepG (fg j g hj) (fun w => h1.s2.1 (w ▸ List.mem_of_getElem? hj))
          · have hjl : j < (gs ++ [c]).length := (List.getElem?_eq_some_iff.mp hj).1
            have hji : j = i := by simp [h1.gl] at hjl; omega
            subst hji
            rw [List.getElem?_append_right (by rw [h1.gl]; exact Nat.le_refl _), h1.gl, Nat.sub_self] at hj
            cases hj
            exact keepG e1 hcG
        nums := keepG fN h1.s2.2.symm
        c1 := keepG fc1 z1.2.2.2.2.1
        c2 := keepG fc2 z2.2.2.2.2.1
        t := keepG ft z3.2.2.2.2.1
        s1 := s1'
        s2 := ⟨fun q => by rcases List.mem_append.mp q with w | w; exact h1.s2.1 w; exact hcG (List.mem_singleton.mp w).symm, h1.s2.2⟩ }
  · rintro ρ1 H1 ⟨hil, ⟨ra, na, gs, h1⟩, r1, r2⟩
    refine ⟨trivial, ?_⟩
    have hn : ((vints xs).length : Int).toNat = xs.length := by rw [ints_length]; simp
    rw [hn] at h1
    exact hQ ρ1 H1 ra na gs h1 r2
/-- of two steps one behind the other -/
theorem loop2 (hK : (hd.heap_39 P).In C.base) (G : Gl01 C) (F : Fx C A (env01 P L)) (hdep : A.depth + 20 < recursionLimit) (hu : A.units + 300 < cLine) (hx : x = fun s => xs.getD s.toNat 0) (hxl : xs.length ≤ 64) (hx1 : 1 ≤ xs.length)
    (h : J01 P L R0 N0 G0 NA ra na gs xs x xs.length H) (rg : ρ "grown" = some (.ref G0))
    {Q : Fl → Lo → AH → Prop} (hQ : ∀ ρ', Q .next ρ' H) :
    W1 C A (env01 P L) (stAt (bodyOf (law01 P)) 3) ρ H Q := by
  refine W1.for (WIt.range2 F (Ev.glob F rfl G.range) Ev.int (Ev.len (Ev.glob F rfl G.len) (Ev.cell F rfl rfl h.c2) h.nums rfl) (by decide) (by decide) (by omega) (by rw [ints_length]; omega) ?_)
  refine ⟨fun i ρ1 H1 => H1 = H ∧ ρ1 "grown" = some (.ref G0), ⟨rfl, rg⟩, ?_, ?_⟩
  · rintro i ρ1 H1 hi ⟨rfl, r2⟩
    refine ⟨trivial, ?_⟩
    rintro d rfl
    refine Asg.local F rfl ?_
    have hi' : i + 1 < xs.length := by rw [ints_length] at hi; omega
    have hgi : i < gs.length := by rw [h.gl]; omega
    have hgi1 : i + 1 < gs.length := by rw [h.gl]; omega
    obtain ⟨g1, hg1⟩ : ∃ g, gs[i]? = some g := ⟨_, List.getElem?_eq_getElem hgi⟩
    obtain ⟨g2, hg2⟩ : ∃ g, gs[i + 1]? = some g := ⟨_, List.getElem?_eq_getElem hgi1⟩
    have vx : ∀ j : Nat, j < xs.length → (vints xs)[j]? = some (.int (x j)) := fun j hj => by rw [hx]; simp [vints, hj, List.getD_eq_getElem?_getD]
    have t1 : ((1 : Int) + (i : Int) - 1).toNat = i := by omega
    have t2 : ((1 : Int) + (i : Int)).toNat = i + 1 := by omega
    have e1 : ∀ {p1 p2 p3 p4 p5 : Pos}, Ev C A (env01 P L) (ρ1.set "turn" (.int (1 + (i : Int)))) H1 (.Subscript (.Name "grown" p1) (.BinOp (.Name "turn" p2) .Sub (.Constant (.int 1) 0 p3) p4) p5) (.ref g1) := Ev.item (Ev.local F rfl (by exact r2)) (Ev.sub (Ev.local F rfl rfl) Ev.int) h.g rfl (by omega) (by rw [t1, List.getElem?_map, hg1]; rfl)
    have e2 : ∀ {p1 p2 p3 : Pos}, Ev C A (env01 P L) (ρ1.set "turn" (.int (1 + (i : Int)))) H1 (.Subscript (.Name "grown" p1) (.Name "turn" p2) p3) (.ref g2) := Ev.item (Ev.local F rfl (by exact r2)) (Ev.local F rfl rfl) h.g rfl (by omega) (by rw [t2, List.getElem?_map, hg2]; rfl)
    refine WS.cons (W1.if (WT.of (b := false) (EvT.not (b := true) (EvT.of (v := .bool true) (WE.ev (WE.callB (fun _ => fn_in hK 37 rfl) (Ev.glob F rfl G.step) (WEs.of (.cons e1 (.cons e2 (.cons (Ev.icmp (op := .Lt) (Ev.item (Ev.cell F rfl rfl h.c2) (Ev.local F rfl rfl) h.nums rfl (by omega) (by rw [t2]; exact vx (i + 1) hi')) (Ev.item (Ev.cell F rfl rfl h.c2) (Ev.sub (Ev.local F rfl rfl) Ev.int) h.nums rfl (by omega) (by rw [t1]; exact vx i (by omega))) rfl) .nil))) (WKs.nil (WCall.mono (step_spec hK F.hh (by omega) (h.gc i g1 hg1) (h.gc (i + 1) g2 hg2)) ?_))))) rfl (by intro x e; cases e))) ⟨fun e => (by cases e), fun _ => WS.nil (WS.nil ⟨rfl, r2⟩)⟩))
    rintro v H2 ⟨rfl, rfl⟩
    exact ⟨by rw [nm_step], rfl⟩
  · rintro ρ1 H1 ⟨rfl, r2⟩
    exact ⟨trivial, hQ ρ1⟩
end
end Mine

set_option maxHeartbeats 1000000
namespace Mine
open PySem PySem.W PyProof.Rows

section
variable {n : Nat} {p : Array Nat} {kz : List Int}
noncomputable def odF (p : Array Nat) (r : Nat) : Int := ((gP p r : Nat) : Int)
noncomputable def rkF (p : Array Nat) (s : Int) : Int := ((p.toList.idxOf s.toNat : Nat) : Int)
theorem In.nodup (hp : In n p) : p.toList.Nodup := hp.perm.nodup_iff.mpr List.nodup_range
theorem gP_list (hp : In n p) {r : Nat} (hr : r < n) : p.toList[r]? = some (gP p r) := by
  have : r < p.size := by rw [hp.size]; exact hr
  simp [gP, this]
theorem idx_of (hp : In n p) {r : Nat} (hr : r < n) : p.toList.idxOf (gP p r) = r := by
  have h := gP_list hp hr
  obtain ⟨h1, h2⟩ := List.getElem?_eq_some_iff.mp h
  rw [← h2]
  exact List.Nodup.idxOf_getElem hp.nodup r h1
theorem at_idx (hp : In n p) {s : Nat} (hs : s < n) : p.toList.idxOf s < n ∧ gP p (p.toList.idxOf s) = s := by
  obtain ⟨r, hr, e⟩ := hp.at hs
  have := idx_of hp hr
  rw [e] at this
  rw [this]; exact ⟨hr, e⟩
theorem rk_iff (hp : In n p) (hsp : SP (lx (zlt kz)) p n) (s t : Int) (hs : 0 ≤ s ∧ s < n) (ht : 0 ≤ t ∧ t < n) : rkF p s ≤ rkF p t ↔ kz.getD s.toNat 0 < kz.getD t.toNat 0 ∨ (kz.getD s.toNat 0 = kz.getD t.toNat 0 ∧ s ≤ t) := by
  obtain ⟨a1, a2⟩ := at_idx hp (s := s.toNat) (by omega)
  obtain ⟨b1, b2⟩ := at_idx hp (s := t.toNat) (by omega)
  unfold rkF
  generalize p.toList.idxOf s.toNat = i at *
  generalize p.toList.idxOf t.toNat = j at *
  constructor
  · intro hij
    have h := hsp i j (by omega) b1
    rw [a2, b2, lx_false] at h
    unfold zlt at h
    simp at h
    simp
    omega
  · intro h
    rcases Nat.lt_or_ge j i with q | q
    · exfalso
      have h' := hsp j i (by omega) a1
      rw [a2, b2, lx_false] at h'
      unfold zlt at h'
      simp at h' h
      have hne : i ≠ j := by omega
      have hst : s.toNat ≠ t.toNat := fun w => by
        rw [← a2, ← b2] at w
        exact hne (hp.inj a1 b1 w)
      omega
    · omega
theorem od_ok (hp : In n p) (r : Nat) (hr : r < n) : 0 ≤ odF p r ∧ odF p r < n ∧ rkF p (odF p r) = r := by
  have hb := hp.bd hr
  unfold odF rkF
  refine ⟨by omega, by omega, ?_⟩
  rw [Int.toNat_natCast, idx_of hp hr]
theorem od_perm (hp : In n p) : (LO (odF p) n).Perm ((LT (rkF p) n).map swp) := by
  have h1 : (LT (rkF p) n).map swp = (List.range n).map fun (s : Nat) => (rkF p (s : Int), (s : Int)) := by
    unfold LT; rw [List.map_map]; rfl
  have h2 : LO (odF p) n = p.toList.map fun (s : Nat) => (rkF p (s : Int), (s : Int)) := by
    unfold LO
    apply List.ext_getElem?
    intro r
    by_cases hr : r < n
    · rw [List.getElem?_map, List.getElem?_range hr, List.getElem?_map, gP_list hp hr]
      show some (((r : Nat) : Int), odF p r) = some (rkF p ((gP p r : Nat) : Int), ((gP p r : Nat) : Int))
      have := (od_ok hp r hr).2.2
      unfold odF at this ⊢
      rw [this]
    · rw [List.getElem?_eq_none (by simp; omega), List.getElem?_eq_none (by simp [hp.size]; omega)]
  rw [h1, h2]
  exact hp.perm.map _
/-- where the number of rank r stands -/
noncomputable def stC (p : Array Nat) (r : Nat) : Nat × Nat := cellR (table (LO (odF p) r)).1 (odF p r)
theorem st_at (hp : In n p) (hsp : SP (lx (zlt kz)) p n) {r : Nat} (hr : r < n) : AtC (nm (fun s => kz.getD s.toNat 0) n) (stC p r) (odF p r) :=
  stands_at (x := fun s => kz.getD s.toNat 0) (rk := rkF p) (od := odF p) (n := n) (fun s t hs ht => rk_iff hp hsp s t hs ht) (fun r hr => od_ok hp r hr) (od_perm hp) hr
theorem st_step (p : Array Nat) (r : Nat) : inStep (stC p r) (stC p (r + 1)) (decide (odF p (r + 1) < odF p r)) = true := by
  have h : LO (odF p) (r + 1) = LO (odF p) r ++ [((r : Int), odF p r)] := by unfold LO; rw [List.range_succ]; simp
  have := step_R (table_tb (LO (odF p) r)) (odF p r) (odF p (r + 1))
  unfold stC
  rw [h, table_snoc]
  exact this
theorem nm_nodup (x : Int → Int) : ∀ i : Nat, (nm x i).flatten.Perm ((List.range i).map fun (s : Nat) => (s : Int))
  | 0 => by simp [nm]
  | t + 1 => by
    refine (putN_perm x (nm x t) t).trans ((List.Perm.cons _ (nm_nodup x t)).trans ?_)
    rw [List.range_succ, List.map_append]
    exact (List.perm_append_comm (l₁ := [(t : Int)])).trans (List.Perm.of_eq (by simp))
theorem ints_nodup (n : Nat) : ((List.range n).map fun (s : Nat) => (s : Int)).Nodup := by
  show List.Pairwise _ _
  rw [List.pairwise_map]
  exact List.Pairwise.imp (fun {a b} w e => w (by omega)) (List.nodup_range (n := n))
theorem row_at {rows : List (List Int)} (hn : rows.flatten.Nodup) {c : Nat × Nat} {v : Int} (h : AtC rows c v) {k : Nat} {R : List Int} (hk : rows[k]? = some R) : (v ∈ R ↔ k = c.1) ∧ (k = c.1 → R.idxOf? v = some c.2) := by
  obtain ⟨n1, n2⟩ := List.pairwise_flatten.mp hn
  unfold AtC at h
  obtain ⟨S, hS⟩ : ∃ S, rows[c.1]? = some S := by
    cases q : rows[c.1]? with
    | none => rw [List.getD_eq_getElem?_getD, q] at h; simp at h
    | some S => exact ⟨S, rfl⟩
  rw [List.getD_eq_getElem?_getD, hS] at h
  have h' : S[c.2]? = some v := h
  have hvS : v ∈ S := List.mem_of_getElem? h'
  obtain ⟨k1, rfl⟩ := List.getElem?_eq_some_iff.mp hk
  obtain ⟨c1, e2⟩ := List.getElem?_eq_some_iff.mp hS
  subst e2
  refine ⟨⟨fun hv => ?_, fun e => ?_⟩, fun e => ?_⟩
  · rcases Nat.lt_trichotomy k c.1 with q | q | q
    · exact absurd rfl (List.pairwise_iff_getElem.mp n2 k c.1 k1 c1 q v hv v hvS)
    · exact q
    · exact absurd rfl (List.pairwise_iff_getElem.mp n2 c.1 k c1 k1 q v hvS v hv)
  · subst e; exact hvS
  · subst e
    obtain ⟨d1, d2⟩ := List.getElem?_eq_some_iff.mp h'
    unfold List.idxOf?
    rw [List.findIdx?_eq_some_iff_getElem]
    refine ⟨d1, by simp [d2], fun j hj => ?_⟩
    have := n1 _ (List.getElem_mem k1)
    have hne := List.pairwise_iff_getElem.mp this j c.2 (by omega) d1 hj
    rw [d2] at hne
    simpa using hne
end
end Mine

set_option maxHeartbeats 4000000
namespace Mine
open PySem PySem.W PyProof.Rows

theorem WKs.one {C : Cx} {A : Around} {env : Env} {ρ : Lo} {H : AH} {n : Str} {e : Expr} {p : Pos} {Q : List (Str × V) → AH → Prop} (h : WE C A env e ρ H (fun v H1 => Q [(n, v)] H1)) : WKs C A env [⟨some n, e, p⟩] ρ H Q := h
theorem Sm.nr {A A' : Around} (h : Nr A A') (hh : A.handled = none) (hd : A.depth < recursionLimit) (hu : A.units + 100 < cLine) : Sm A' := ⟨h.2.1.trans hh, by rw [h.1]; exact hd, by have := h.2.2.2; omega⟩
noncomputable def kwE : Expr → Expr
  | .Call _ _ (k :: _) _ => k.value
  | _ => .Constant .none 0 ⟨0, 0, 0, 0⟩
noncomputable def stE : Stmt → Expr
  | .Assign _ e _ => e
  | _ => .Constant .none 0 ⟨0, 0, 0, 0⟩
noncomputable def lamFc (C : Cx) (env : Env) (e : Expr) (clos : List (Str × Addr)) (c' : Addr) (ctv : Value) : FuncData := match e with
  | .Lambda params body scope pos => lamFd C env params body scope clos c' ctv
  | _ => default
noncomputable def lamK (P : Params) : Expr := kwE (stE (stAt (bodyOf (law01 P)) 4))
section
variable {C : Cx} {A : Around} {ρ : Lo} {H : AH} {P : Params}
theorem key01 {L g c' NA : Addr} {ctv : Value} {xs : List Int} {s : Nat} (hS : Sm A) (hg : H g = some (.fn (lamFc C (env01 P L) (lamK P) [("numbers", L + 2)] c' ctv))) (hc : H c' = some (.code ((env01 P L).qual ++ "<lambda>"))) (h2 : H (L + 2) = some (.cell (some (.ref NA)))) (hN : H NA = some (.list (vints xs))) (hs : s < xs.length) : KeyOk C A H g (.int (s : Int)) (.int (xs.getD s 0)) := by
  refine WCall.lam (bs := [("turn", .int (s : Int))]) hg hS.2.1 rfl rfl hc (noCell rfl) ?_ (allLocal rfl) ?_
  · intro vals e
    obtain ⟨x, rfl, ex⟩ := vals1 e
    exact ⟨[("turn", x)], by kernel_rfl, by show [(_, ab x)] = _; rw [ex]⟩
  · intro L' hL'
    exact WE.of (Ev.item (k := (s : Int)) (Ev.free ⟨rfl, rfl, rfl, hS.1⟩ rfl rfl h2) (Ev.local ⟨rfl, rfl, rfl, hS.1⟩ rfl rfl) hN rfl (by omega) (by rw [Int.toNat_natCast]; simp [vints, hs, List.getD_eq_getElem?_getD])) ⟨rfl, rfl⟩
variable {L R0 N0 G0 NA : Addr} {ra na gs : List Addr} {xs : List Int} {x : Int → Int}
/-- the last question -/
theorem last01 (hK : (hd.heap_39 P).In C.base) (G : Gl01 C) (F : Fx C A (env01 P L)) (hdep : A.depth + 20 < recursionLimit) {p : Array Nat} {n : Nat} (hn : n ≤ 64) {OD SA : Addr} {ss : List Addr} {es : List (Nat × Nat × Addr)}
    (ho : H OD = some (.list ((List.range n).map fun r => .int (odF p r)))) (hst : H SA = some (.list (ss.map .ref))) (hsl : ss.length = n) (hsc : ∀ (j : Nat) a, ss[j]? = some a → H a = some (cellV (stC p j))) (ht : H 39 = some (.tab es))
    (ro : ρ "order" = some (.ref OD)) (rs : ρ "stands" = some (.ref SA)) :
    WS C A (env01 P L) ((bodyOf (law01 P)).drop 6) ρ H (fun f _ H' => retv f = .bool true ∧ ∃ es, H' 39 = some (.tab es)) := by
  refine WS.cons (W1.for (WIt.range2 F (Ev.glob F rfl G.range) Ev.int (Ev.len (Ev.glob F rfl G.len) (Ev.local F rfl ro) ho rfl) (by decide) (by decide) (by omega) (by simp; omega) ?_))
  refine ⟨fun i ρ1 H1 => H1 = H ∧ ρ1 "order" = some (.ref OD) ∧ ρ1 "stands" = some (.ref SA), ⟨rfl, ro, rs⟩, ?_, ?_⟩
  · rintro i ρ1 H1 hi ⟨rfl, r1, r2⟩
    refine ⟨trivial, ?_⟩
    rintro d rfl
    refine Asg.local F rfl ?_
    have hi' : i + 1 < n := by simp at hi; omega
    obtain ⟨g1, hg1⟩ : ∃ g, ss[i]? = some g := ⟨_, List.getElem?_eq_getElem (by omega)⟩
    obtain ⟨g2, hg2⟩ : ∃ g, ss[i + 1]? = some g := ⟨_, List.getElem?_eq_getElem (by omega)⟩
    have vx : ∀ j : Nat, j < n → ((List.range n).map fun r => V.int (odF p r))[j]? = some (.int (odF p j)) := fun j hj => by rw [List.getElem?_map, List.getElem?_range hj]; rfl
    have t1 : ((1 : Int) + (i : Int) - 1).toNat = i := by omega
    have t2 : ((1 : Int) + (i : Int)).toNat = i + 1 := by omega
    have e1 : ∀ {p1 p2 p3 p4 p5 : Pos}, Ev C A (env01 P L) (ρ1.set "k" (.int (1 + (i : Int)))) H1 (.Subscript (.Name "stands" p1) (.BinOp (.Name "k" p2) .Sub (.Constant (.int 1) 0 p3) p4) p5) (.ref g1) := Ev.item (Ev.local F rfl (by exact r2)) (Ev.sub (Ev.local F rfl rfl) Ev.int) hst rfl (by omega) (by rw [t1, List.getElem?_map, hg1]; rfl)
    have e2 : ∀ {p1 p2 p3 : Pos}, Ev C A (env01 P L) (ρ1.set "k" (.int (1 + (i : Int)))) H1 (.Subscript (.Name "stands" p1) (.Name "k" p2) p3) (.ref g2) := Ev.item (Ev.local F rfl (by exact r2)) (Ev.local F rfl rfl) hst rfl (by omega) (by rw [t2, List.getElem?_map, hg2]; rfl)
    refine WS.cons (W1.if (WT.of (b := false) (EvT.not (b := true) (EvT.of (v := .bool true) (WE.ev (WE.callB (fun _ => fn_in hK 37 rfl) (Ev.glob F rfl G.step) (WEs.of (.cons e1 (.cons e2 (.cons (Ev.icmp (op := .Lt) (Ev.item (Ev.local F rfl (by exact r1)) (Ev.local F rfl rfl) ho rfl (by omega) (by rw [t2]; exact vx (i + 1) hi')) (Ev.item (Ev.local F rfl (by exact r1)) (Ev.sub (Ev.local F rfl rfl) Ev.int) ho rfl (by omega) (by rw [t1]; exact vx i (by omega))) rfl) .nil))) (WKs.nil (WCall.mono (step_spec hK F.hh (by omega) (hsc i g1 hg1) (hsc (i + 1) g2 hg2)) ?_))))) rfl (by intro x e; cases e))) ⟨fun e => (by cases e), fun _ => WS.nil (WS.nil ⟨rfl, r1, r2⟩)⟩))
    rintro v H2 ⟨rfl, rfl⟩
    exact ⟨by rw [st_step], rfl⟩
  · rintro ρ1 H1 ⟨rfl, r1, r2⟩
    exact ⟨trivial, WS.cons (W1.ret (WE.of Ev.bool ⟨rfl, es, ht⟩))⟩
/-- from the order on -/
theorem rest01 (hK : (hd.heap_39 P).In C.base) (G : Gl01 C) (F : Fx C A (env01 P L)) (hdep : A.depth + 20 < recursionLimit) (hu : A.units + 300 < cLine) (hbm : Bm C) (hC : CodeHd C.base 41 39) (hx : x = fun s => xs.getD s.toNat 0) (hxl : xs.length ≤ 64) (hx1 : 1 ≤ xs.length)
    (h : J01 P L R0 N0 G0 NA ra na gs xs x xs.length H) :
    WS C A (env01 P L) ((bodyOf (law01 P)).drop 4) ρ H (fun f _ H' => retv f = .bool true ∧ ∃ es, H' 39 = some (.tab es)) := by
  have hsz : 1000 ≤ sizeLine := by decide
  refine WS.seq (W1.asgLocal F rfl (WE.callBi (Ev.glob F rfl G.sorted) (WEs.cons (WE.rangeObj (Ev.glob F rfl G.range) (Ev.len (Ev.glob F rfl G.len) (Ev.cell F rfl rfl h.c2) h.nums rfl) (by omega) (by rw [ints_length]; omega) fun r c hr hf => WEs.nil (WKs.one (WE.lamT (clos := [("numbers", L + 2)]) F hbm rfl hC ⟨[], AH.get_of_set h.t hr, by simp⟩ fun H1 g c' ctv up tb hg hc' hgn nn => ?_))))))
  have hnn : ((vints xs).length : Int).toNat = xs.length := by rw [ints_length]; simp
  rw [hnn] at hf
  have up1 : ∀ {a : Addr} {o : O}, H a = some o → a ≠ 39 → H1 a = some o := fun {a o} e hn => up a o (AH.get_of_set e hr) hn
  have hr1 : H1 r = some (.raw c) := up r _ (AH.set_same ..) (fun q => by rw [q, h.t] at hr; cases hr)
  have n39 : ∀ {b : Addr} {o : O}, H b = some o → (∀ es, o ≠ .tab es) → b ≠ 39 := fun hb ho q => by rw [q, h.t] at hb; exact ho _ (Option.some.inj hb).symm
  have c1 := up1 h.c1 (n39 h.c1 (by simp))
  have c2 := up1 h.c2 (n39 h.c2 (by simp))
  have cN := up1 h.nums (n39 h.nums (by simp))
  have two1 : RowsAt N0 na (nm x xs.length) H1 := h.two.n.keep fun a ha o e => up1 e (by
    rcases ha with w | w
    · rw [w]; exact n39 h.two.n.hR (by simp)
    · obtain ⟨R, e'⟩ := h.two.n.mem w; exact n39 e' (by simp))
  refine WCall.sortedKeyC (R := fun us => us = (List.range xs.length).map fun (i : Nat) => V.int (0 + i)) (kf := fun v => match v with | .int s => xs.getD s.toNat 0 | _ => 0) (fun A' hA' => Coll.range (hA'.2.1.trans F.hh) hr1 hf (by omega)) (fun us hus => by rw [hus]; simp; omega) (fun A' hA' us hus v hv => ?_) fun us OD p hus hOD hp hsp => ?_
  · subst hus
    obtain ⟨s, hs, rfl⟩ := List.mem_map.mp hv
    have hs' : s < xs.length := by simpa using hs
    have := key01 (P := P) (Sm.nr hA' F.hh (by omega) (by omega)) hg hc' c2 cN hs'
    simpa using this
  subst hus
  have hul : ((List.range xs.length).map fun (i : Nat) => V.int (0 + i)).length = xs.length := by simp
  rw [hul] at hp hsp
  have hkz : (((List.range xs.length).map fun (i : Nat) => V.int (0 + i)).map fun v => match v with | .int s => xs.getD s.toNat 0 | _ => 0) = xs := by
    apply List.ext_getElem?
    intro i
    rw [List.map_map, List.getElem?_map]
    by_cases hi : i < xs.length
    · rw [List.getElem?_range hi, List.getElem?_eq_getElem hi]
      simp [List.getD_eq_getElem?_getD, hi]
    · rw [List.getElem?_eq_none (by simp; omega), List.getElem?_eq_none (by omega)]; rfl
  rw [hkz] at hsp
  have hol : (p.toList.map fun i => ((List.range xs.length).map fun (i : Nat) => V.int (0 + i)).getD i V.none) = (List.range xs.length).map fun r => V.int (odF p r) := by
    apply List.ext_getElem?
    intro i
    by_cases hi : i < xs.length
    · rw [List.getElem?_map, gP_list hp hi, List.getElem?_map, List.getElem?_range hi]
      have hb := hp.bd hi
      simp only [Option.map_some]
      rw [List.getD_eq_getElem?_getD, List.getElem?_map, List.getElem?_range hb]
      simp [odF]
    · rw [List.getElem?_eq_none (by simp [hp.size]; omega), List.getElem?_eq_none (by simp; omega)]
  rw [hol]
  have up2 : ∀ {a : Addr} {o : O}, H1 a = some o → (H1.set OD (.list ((List.range xs.length).map fun r => V.int (odF p r)))) a = some o := fun e => AH.get_of_set e hOD
  have eO : (H1.set OD (.list ((List.range xs.length).map fun r => V.int (odF p r)))) OD = some (.list ((List.range xs.length).map fun r => V.int (odF p r))) := AH.set_same ..
  have d1 := up2 c1
  have two2 := two1.keep (H' := H1.set OD (.list ((List.range xs.length).map fun r => V.int (odF p r)))) fun a _ o e => up2 e
  obtain ⟨es, tb1, _⟩ := tb
  have t2 := up2 tb1
  generalize H1.set OD (.list ((List.range xs.length).map fun r => V.int (odF p r))) = HH at *
  refine ⟨rfl, ?_⟩
  have hnd : (nm x xs.length).flatten.Nodup := (nm_nodup x xs.length).nodup_iff.mpr (ints_nodup _)
  have hat : ∀ r, r < xs.length → AtC (nm x xs.length) (stC p r) (odF p r) := fun r hr => by rw [hx]; exact st_at hp hsp hr
  -- where they stand
  refine WS.seq (W1.asgComp F rfl (cl := [("names", L + 1)]) rfl (WIt.list F (WE.of (Ev.local F rfl rfl) ⟨OD, _, _, rfl, eO, rfl, fun Cn hCn => ?_⟩)) rfl (hgs := by intro g hg; simp only [List.mem_singleton] at hg; subst hg; exact ⟨rfl, fun _ _ => rfl⟩))
  refine ⟨fun i ρ1 H2 zs => ∃ ss : List Addr, zs = ss.map .ref ∧ ss.length = i ∧ HH.le H2 ∧ ∀ (j : Nat) a, ss[j]? = some a → H2 a = some (cellV (stC p j)), ⟨[], rfl, rfl, AH.le_refl _, by simp⟩, ?_, ?_⟩
  · rintro i ρ1 H2 zs hi ⟨ss, rfl, hsl, hle, hsc⟩
    refine ⟨hle _ _ eO, ?_⟩
    rintro d ⟨v, hv, rfl⟩
    have hi' : i < xs.length := by simpa using hi
    have hv' : v = .int (odF p i) := by rw [List.getElem?_map, List.getElem?_range hi'] at hv; exact (Option.some.inj hv).symm
    subst hv'
    refine Asg.local (F.comp rfl) rfl ⟨fun _ => ?_, fun e => by cases e⟩
    refine WIt.enum (F.comp rfl) (Ev.glob (F.comp rfl) rfl G.enum) (WE.of (Ev.cell (F.comp rfl) rfl rfl (hle _ _ d1)) ⟨N0, _, _, rfl, hle _ _ two2.hR, rfl, ?_⟩)
    have hnl : na.length = (nm x xs.length).length := two2.hX.length
    have hc1 : (stC p i).1 < (nm x xs.length).length := by
      have := hat i hi'
      unfold AtC at this
      rcases Nat.lt_or_ge (stC p i).1 (nm x xs.length).length with w | w
      · exact w
      · rw [List.getD_eq_getElem?_getD, List.getElem?_eq_none w] at this; simp at this
    refine ⟨fun j ρ3 H3 us => ρ3 "turn" = some (.int (odF p i)) ∧ ∃ ss : List Addr, us = ss.map .ref ∧ (ss.length = if (stC p i).1 < j then i + 1 else i) ∧ HH.le H3 ∧ ∀ (m : Nat) a, ss[m]? = some a → H3 a = some (cellV (stC p m)), ⟨rfl, ss, rfl, by simp [hsl], hle, hsc⟩, ?_, ?_⟩
    · rintro j ρ3 H3 us hj ⟨r3, ss, rfl, hsl, hle3, hsc⟩
      refine ⟨hle3 _ _ two2.hR, ?_⟩
      rintro d ⟨v, hv, rfl⟩
      have hj' : j < na.length := by simpa using hj
      obtain ⟨b, hb⟩ : ∃ b, na[j]? = some b := ⟨_, List.getElem?_eq_getElem hj'⟩
      have hv' : v = .ref b := by rw [List.getElem?_map, hb] at hv; exact (Option.some.inj hv).symm
      subst hv'
      obtain ⟨R, hR⟩ : ∃ R, (nm x xs.length)[j]? = some R := ⟨_, List.getElem?_eq_getElem (by omega)⟩
      have hbH : HH b = some (.list (vints R)) := Zip.get (R := fun a row => HH a = some (.list (vints row))) j b R two2.hX hb hR
      obtain ⟨k1, k2⟩ := row_at hnd (hat i hi') hR
      refine Asg.tuple (F.comp rfl) rfl rfl (Asg.local (F.comp rfl) rfl (Asg.local (F.comp rfl) rfl ?_))
      refine WT.of (EvT.inInts (by omega) (Ev.local (F.comp rfl) rfl (by exact r3)) (Ev.local (F.comp rfl) rfl rfl) (hle3 _ _ hbH) rfl) ⟨fun e => ⟨fun _ => ?_, fun e => (by cases e)⟩, fun e => ⟨fun e => (by cases e), fun _ => ⟨r3, ss, rfl, ?_, hle3, hsc⟩⟩⟩
      · have hin : odF p i ∈ R := by simpa using e
        have hjc := k1.mp hin
        rw [if_neg (by omega)] at hsl
        refine WE.list rfl (by decide) (WEs.cons (WE.of (Ev.local (F.comp rfl) rfl rfl) (WEs.cons (WE.listMeth PySem.F.slot_list_index rfl (WE.of (Ev.local (F.comp rfl) rfl rfl) ⟨b, _, rfl, hle3 _ _ hbH, WEs.of (.cons (Ev.local (F.comp rfl) rfl (by exact r3)) .nil) (WCall.index (hle3 _ _ hbH) (k2 hjc) (WEs.nil fun a ha => ⟨?_, r3, ss ++ [a], by simp, ?_, AH.le_trans hle3 (AH.le_set (AH.le_refl _) ha), fun m a' hm => ?_⟩))⟩)))))
        · rw [List.length_map]; omega
        · rw [if_pos (by omega)]; simp [hsl]
        · by_cases q : m < i
          · rw [List.getElem?_append_left (by omega)] at hm
            exact AH.get_of_set (hsc m a' hm) ha
          · have hml : m < (ss ++ [a]).length := (List.getElem?_eq_some_iff.mp hm).1
            have hmi : m = i := by simp at hml; omega
            subst hmi
            rw [List.getElem?_append_right (by omega), hsl, Nat.sub_self] at hm
            cases hm
            rw [AH.set_same, hjc]; rfl
      · have hin : ¬ odF p i ∈ R := by simpa using e
        have hjc : ¬ j = (stC p i).1 := fun q => hin (k1.mpr q)
        rw [hsl]
        by_cases q : (stC p i).1 < j
        · rw [if_pos q, if_pos (by omega)]
        · rw [if_neg q, if_neg (by omega)]
    · rintro ρ3 H3 us ⟨r3, ss, rfl, hsl, hle3, hsc⟩
      refine ⟨hle3 _ _ two2.hR, ss, rfl, ?_, hle3, hsc⟩
      rw [hsl, if_pos (by rw [List.length_map]; omega)]
  · rintro ρ1 H2 zs ⟨ss, rfl, hsl, hle, hsc⟩
    refine ⟨hle _ _ eO, fun SA hSA => ⟨rfl, ?_⟩⟩
    have hsl' : ss.length = xs.length := by rw [hsl]; simp
    exact last01 (es := es) hK G F hdep hxl (AH.get_of_set (hle _ _ eO) hSA) (AH.set_same ..) hsl' (fun j a hj => AH.get_of_set (hsc j a hj) hSA) (AH.get_of_set (hle _ _ t2) hSA) rfl rfl
end
end Mine

set_option maxHeartbeats 4000000
namespace Mine
open PySem PySem.W PyProof.Rows

section
variable {C : Cx} {A : Around} {ρ : Lo} {H : AH} {P : Params} {L : Addr}
theorem law_body (hK : (hd.heap_39 P).In C.base) (G : Gl01 C) {L : Addr} (F : Fx C A (env01 P L)) (hdep : A.depth + 20 < recursionLimit) (hu : A.units + 300 < cLine) (hbm : Bm C) (hC : CodeHd C.base 41 39)
    {sc : Addr} {ns : List Int} {ρ : Lo} (rs : ρ "script" = some (.ref sc)) (hsc : H sc = some (.scr (vints ns))) (hns : ns.length ≤ 63) (hT1 : H 39 = some (.tab []))
    (c1 : H (L + 1) = some (.cell none)) (c2 : H (L + 2) = some (.cell none)) :
    WS C A (env01 P L) (bodyOf (law01 P)) ρ H (fun f _ H' => retv f = .bool true ∧ (∃ es, H' 39 = some (.tab es))) := by
  have hsz : 1000 ≤ sizeLine := by decide
  refine WS.seq (W1.asg (WE.addList (WE.of (Ev.local F rfl rs) (WE.list rfl (by decide) (WEs.of (.cons Ev.int .nil) fun l0 hl0 => ⟨sc, l0, _, _, _, _, rfl, rfl, AH.get_of_set hsc hl0, AH.set_same .., rfl, rfl, ?_, fun NA hNA => ?_⟩)))))
  · rw [ints_length]; simp; omega
  have hvs : vints ns ++ [V.int 0] = vints (ns ++ [0]) := by simp [vints]
  rw [hvs] at *
  have le1 : H.le ((H.set l0 (.list [.int 0])).set NA (.list (vints (ns ++ [0])))) := AH.le_trans (AH.le_set (AH.le_refl _) hl0) (AH.le_set (AH.le_refl _) hNA)
  have eN : ((H.set l0 (.list [.int 0])).set NA (.list (vints (ns ++ [0])))) NA = some (.list (vints (ns ++ [0]))) := AH.set_same ..
  generalize (H.set l0 (.list [.int 0])).set NA (.list (vints (ns ++ [0]))) = H1 at *
  have hxl : (ns ++ [0]).length ≤ 64 := by simp; omega
  have hx1 : 1 ≤ (ns ++ [0]).length := by simp
  generalize ns ++ [0] = xs at *
  have d1 := le1 _ _ c1
  have d2 := le1 _ _ c2
  have dT := le1 _ _ hT1
  refine Asg.cell F rfl rfl d2 ⟨rfl, ?_⟩
  have e2 : (H1.set (L + 2) (.cell (some (.ref NA)))) (L + 2) = some (.cell (some (.ref NA))) := AH.set_same ..
  have e1 : (H1.set (L + 2) (.cell (some (.ref NA)))) (L + 1) = some (.cell none) := by rw [AH.set_ne _ _ (addr_ne L 1 2 rfl)]; exact d1
  have eN2 := set_at (o2 := .cell (some (.ref NA))) eN d2 (by simp)
  have eT2 := set_at (o2 := .cell (some (.ref NA))) dT d2 (by simp)
  generalize H1.set (L + 2) (.cell (some (.ref NA))) = H2 at *
  refine WS.seq (W1.asgTup F (WEs.cons (WE.list rfl (by decide) (WEs.nil fun R0 hR0 => WEs.cons (WE.list rfl (by decide) (WEs.nil fun N0 hN0 => WEs.cons (WE.list rfl (by decide) (WEs.nil fun G0 hG0 => WEs.nil ?_))))))))
  have le2 : H2.le (((H2.set R0 (.list [])).set N0 (.list [])).set G0 (.list [])) := AH.le_trans (AH.le_set (AH.le_refl _) hR0) (AH.le_trans (AH.le_set (AH.le_refl _) hN0) (AH.le_set (AH.le_refl _) hG0))
  have eR : (((H2.set R0 (.list [])).set N0 (.list [])).set G0 (.list [])) R0 = some (.list []) := AH.get_of_set (AH.get_of_set (AH.set_same ..) hN0) hG0
  have eM : (((H2.set R0 (.list [])).set N0 (.list [])).set G0 (.list [])) N0 = some (.list []) := AH.get_of_set (AH.set_same ..) hG0
  have eG : (((H2.set R0 (.list [])).set N0 (.list [])).set G0 (.list [])) G0 = some (.list []) := AH.set_same ..
  have n1 : R0 ≠ N0 := fun q => (AH.none_of_set hN0).2 q.symm
  have n2 : N0 ≠ G0 := fun q => (AH.none_of_set hG0).2 q.symm
  have n3 : R0 ≠ G0 := fun q => (AH.none_of_set (AH.none_of_set hG0).1).2 q.symm
  have n4 : R0 ≠ NA := fun q => by rw [q, eN2] at hR0; cases hR0
  have n5 : N0 ≠ NA := fun q => by have := (AH.none_of_set hN0).1; rw [q, eN2] at this; cases this
  have n6 : G0 ≠ NA := fun q => by have := (AH.none_of_set (AH.none_of_set hG0).1).1; rw [q, eN2] at this; cases this
  have f1 := le2 _ _ e1
  have f2 := le2 _ _ e2
  have fN := le2 _ _ eN2
  have fT := le2 _ _ eT2
  generalize ((H2.set R0 (.list [])).set N0 (.list [])).set G0 (.list []) = H3 at *
  refine Asg.local F rfl (Asg.cell F rfl rfl f1 (Asg.local F rfl ⟨rfl, ?_⟩))
  have g2 : (H3.set (L + 1) (.cell (some (.ref N0)))) (L + 2) = some (.cell (some (.ref NA))) := by rw [AH.set_ne _ _ (addr_ne L 2 1 rfl)]; exact f2
  have hJ : J01 P L R0 N0 G0 NA [] [] [] xs (fun s => xs.getD s.toNat 0) 0 (H3.set (L + 1) (.cell (some (.ref N0)))) :=
    { two := ⟨⟨set_at eR f1 (by simp), trivial, by simp, by simp⟩, ⟨set_at eM f1 (by simp), trivial, by simp, by simp⟩, fun a ha => by
        rcases ha with w | w
        · exact ⟨fun q => n1 (w.symm.trans q), by simp⟩
        · cases w⟩
      g := set_at eG f1 (by simp)
      gl := rfl
      gc := by simp
      nums := set_at fN f1 (by simp)
      c1 := AH.set_same ..
      c2 := g2
      t := set_at fT f1 (by simp)
      s1 := fun a ha => by
        rcases ha with (w | w) | (w | w)
        · subst w; exact ⟨n3, n4, by simp⟩
        · cases w
        · subst w; exact ⟨n2, n5, by simp⟩
        · cases w
      s2 := ⟨by simp, n6⟩ }
  refine WS.seq (loop1 hK G F hdep hu rfl hxl hJ rfl rfl fun ρ' H' ra na gs h' rg => ⟨rfl, ?_⟩)
  refine WS.seq (loop2 hK G F hdep hu rfl hxl hx1 h' rg fun ρ'' => ⟨rfl, ?_⟩)
  exact rest01 hK G F hdep hu hbm hC rfl hxl hx1 h'
end
end Mine

open PySem PySem.W PyProof.Rows Mine in
set_option maxRecDepth 100000 in
set_option maxHeartbeats 8000000 in
theorem PySem.Challenge.cw_dm0010_01_holds : PySem.Challenge.rw_dm0010_01.Holds :=
  Mine.hd (by
  w_strict (
  k_fill
  intro w s₀ s₁ mg mb G Y fa o pm cd doc dV kV ho hd hcd hD hmg hg args vals as hpre hlay hrd hwl hlo
  have KX := km_in_of Y
  refine Ground.open G ?_
  intro T B D TE TW
  clear ho hd hcd hD
  wrow_args hpre hlay hrd hwl hlo
  rename_i ns _ _ _ _ _ _ _ sc vs _ hL _ _ _ hI _ hlen _
  have hfa : fa = 42 := by
    have h1 : mg "law" = some (.ref 42) := mg_of KX T.g rfl
    have h2 : mg "law" = some (.ref fa) := hmg
    rw [h1] at h2; cases h2; rfl
  subst hfa
  have hTb1 : CodeHd s₁.heap 41 39 ∧ s₁.heap.get? 39 = some (tabObj #[]) := ⟨codeHd_of_K KX (by kernel_rfl), km_tabs_of Y 39 (by simp)⟩
  have hTA : TabsAt [(41, 39)] s₁.heap := fun q hq => by
    rw [List.mem_singleton.mp hq]; exact hTb1
  have hTt : ∀ b ∈ ([39] : List Addr), s₁.heap.get? b = some (tabObj #[]) ∧ ∃ c, CodeHd s₁.heap c b := fun b hb => by
    rw [List.mem_singleton.mp hb]; exact ⟨hTb1.2, _, hTb1.1⟩
  let C : Cx := { prog := Challenge.rw_dm0010_01.row.prog, w := w, base := ghostOf s₁.heap [(41, 39)], mg := mg, mb := mb, hg := ghost_ns hTA T.g, hb := ghost_ns hTA T.b, lim := (ghost_top hTA T).nolimit }
  have KX' : (Mine.hd.heap_39 w.params).In C.base := ghost_K hTA KX rfl
  have bt : ∀ x : Str, x ≠ "__name__" → C.mb x = bootBuiltins x := T.builtins
  have hBm : Bm C := by
    obtain ⟨bm, ob, b1, b2, b3, b4, b5, b6⟩ := (ghost_top hTA T).bmain
    refine ⟨bm, ob, b1, b2, fun q => ?_, b3, b4, b5, b6⟩
    obtain ⟨o, es, ep, e, hd, _⟩ := C.hg
    have b3' : C.base.get? mainGlobals = some ob := q ▸ b3
    rw [b3'] at e; cases e; rw [b6] at hd; cases hd
  have hns : ns.length ≤ 63 := by omega
  have hmap : vs.map ab = vints ns := ints_of hI
  have hscT : ∀ b ∈ ([39] : List Addr), sc ≠ b := fun b hb q => by
    obtain ⟨o, ho, hc, _⟩ := hL
    rw [q, (hTt b hb).1] at ho; cases ho; cases hc
  have key := top_call2 (C := C) (A := callerA) (H := (fun b => if b = sc then some (.scr (vints ns)) else if b ∈ ([39] : List Addr) then some (.tab []) else none)) (Q := fun v H' => v = .bool true ∧ (∃ es, H' 39 = some (.tab es))) (s := s₁) (a := 42) (fd := fdOf (Mine.hd.heap_39 w.params) 42) (vals := [.ref sc]) (bs := [("script", .ref sc)]) (fun b o e => of_hideAll _ e) ?_ ?_ (KX 42 ⟨.type "function", none, .func (fdOf (Mine.hd.heap_39 w.params) 42), #[]⟩ rfl) rfl (by decide) rfl rfl (codeRec_of KX rfl) (binds := [("script", .ref sc)]) rfl rfl rfl (show (["numbers", "names"] : List Str).Nodup by decide) (aL (kinds (fdOf (Mine.hd.heap_39 w.params) 42)) [("script", .ref sc)] fun _ => none) (aC (kinds (fdOf (Mine.hd.heap_39 w.params) 42)) [("script", .ref sc)] fun _ => none) (fun L x => bindL_ab (fun _ => rfl) x) (fun L x => bindC_ab (fun _ => rfl) x) ?_
  · refine wpAny_mono key (fun v s' ⟨⟨H', ⟨hv, hes1⟩, hrep⟩, hbk, hk, hlv, hgn, hos⟩ => ?_) fun _ _ e => e.elim
    cases ab_bool hv
    refine law_end2 (H := H') (H' := H') (tabs := [39]) rfl (by wrow_post) (fun P hP => ?_) hrep (fun b o hb e => hbk b o (ghost_ne e hb)) hlv (hgn.trans hg) hos
    refine ⟨?_, ?_⟩
    · obtain ⟨h1, c, h2⟩ := hTt P hP
      exact ⟨c, h2.tab h1⟩
    · skip
      rw [List.mem_singleton.mp hP]; exact hes1
  · intro b ob hb
    by_cases q : b = sc
    · subst q
      rw [if_pos rfl] at hb; cases hb
      obtain ⟨o, ho, hc, n, hd⟩ := hL
      exact ⟨o, ho, hc, _, n, hd, hmap, by rw [ints_length]; exact Nat.le_trans hns (by decide)⟩
    · rw [if_neg q] at hb
      by_cases q2 : b ∈ ([39] : List Addr)
      · rw [if_pos q2] at hb; cases hb
        exact ⟨_, (hTt b q2).1, rfl⟩
      · rw [if_neg q2] at hb; cases hb
  · intro b ob hb hm
    by_cases q : b = sc
    · subst q
      rw [if_pos rfl] at hb; cases hb; cases hm
    · rw [if_neg q] at hb
      by_cases q2 : b ∈ ([39] : List Addr)
      · exact hideAll_none _ q2
      · rw [if_neg q2] at hb; cases hb
  · intro L hL0 hcs
    have hscL : ∀ p ∈ cellsFrom (L + 1) (fdOf (Mine.hd.heap_39 w.params) 42).scope.names [], sc ≠ p.2 ∧ p.2 ∉ ([39] : List Addr) := fun p hp => by
      have := (hcs p hp).1
      refine ⟨fun q => ?_, fun q => ?_⟩
      · rw [if_pos q.symm] at this; cases this
      · have hne : ¬ p.2 = sc := fun e => hscT p.2 q e.symm
        rw [if_neg hne, if_pos q] at this; cases this
    have hTH : ∀ b ∈ ([39] : List Addr), ((fun b => if b = sc then some (.scr (vints ns)) else if b ∈ ([39] : List Addr) then some (.tab []) else none) : AH) b = some (.tab []) := fun b hb => (if_neg (fun e => hscT b hb e.symm)).trans (if_pos hb)
    obtain ⟨n1, t1⟩ := hscL ("names", L + 1) (.tail _ (.head _))
    obtain ⟨n2, t2⟩ := hscL ("numbers", L + 2) (.head _)
    refine law_body (C := C) (sc := sc) (ns := ns) KX' ⟨(gl_boot KX' rfl ((bt _ (by decide)).trans (by decide +kernel))), (gl_boot KX' rfl ((bt _ (by decide)).trans (by decide +kernel))), (gl_boot KX' rfl ((bt _ (by decide)).trans (by decide +kernel))), (gl_boot KX' rfl ((bt _ (by decide)).trans (by decide +kernel))), (gl_boot KX' rfl ((bt _ (by decide)).trans (by decide +kernel))), (gl_boot KX' rfl ((bt _ (by decide)).trans (by decide +kernel))), (gl_own KX' rfl), (gl_own KX' rfl), (gl_own KX' rfl)⟩ ⟨rfl, rfl, rfl, rfl⟩ (show callerA.depth + 1 + 20 < recursionLimit by decide) (show callerA.units + 3 + 300 < cLine by decide) hBm (ghost_code hTA).1 rfl ?_ hns ?_ ?_ ?_
    · show ((AH.set (AH.set _ (L + 1) (.cell none)) (L + 2) (.cell none)) sc) = _
      rw [AH.set_ne _ _ n2, AH.set_ne _ _ n1]; exact if_pos rfl
    · show ((AH.set (AH.set _ (L + 1) (.cell none)) (L + 2) (.cell none)) 39) = _
      rw [AH.set_ne _ _ (fun e : 39 = L + 2 => t2 (e ▸ by simp)), AH.set_ne _ _ (fun e : 39 = L + 1 => t1 (e ▸ by simp))]; exact hTH 39 (by simp)
    · show ((AH.set (AH.set _ (L + 1) (.cell none)) (L + 2) (.cell none)) (L + 1)) = _
      rw [AH.set_ne _ _ (addr_ne L 1 2 rfl), AH.set_same]
    · show ((AH.set (AH.set _ (L + 1) (.cell none)) (L + 2) (.cell none)) (L + 2)) = _
      rw [AH.set_same]))

