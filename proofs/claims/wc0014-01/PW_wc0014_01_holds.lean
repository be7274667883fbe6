import PyProof.Rows.All
import Wide.All
import OpenK.AllK
import Wide.FinOn
import KE.KNest
import PyProof.FactsBase
import PyProof.TableTree
import PyProof.FactsTree
import PyProof.PlainAttrs
import KE.KPairComp
import PyProof.DictKinds
import PySem.Challenge.RW_wc0014_01
set_option Elab.async false
section -- H
set_option tactic.hygienic false
open PySem PySem.W PyProof.Rows
namespace Mine
set_option maxRecDepth 100000 in
set_option maxHeartbeats 8000000 in
open_top hd for PySem.Challenge.rw_wc0014_01
end Mine
end -- H
section -- Fw1
set_option tactic.hygienic false
open PySem PySem.W PySem.Calls PyProof.Rows
set_option linter.unusedVariables false
set_option linter.unusedSimpArgs false
set_option autoImplicit false
namespace Mine

/-! values of the abstract machine -/
structure Rg where
  P : Heap → Value → Prop
  mono : ∀ (h h' : Heap) (v : Value), (∀ b o, h.get? b = some o → h'.get? b = some o) → P h v → P h' v

inductive V where
  | e (wk : Bool) (x : PyData)
  | r (i : Nat)
  | p (v : Value)
  | hr (i : Nat)
  | h (x : PyData)
  | rng (a b : Int)
  | slc (lo hi : Option Int)
  | ob (R : Rg)
noncomputable abbrev V.d (x : PyData) : V := .e false x
noncomputable abbrev V.w (x : PyData) : V := .e true x

noncomputable abbrev TokMap := Tok → Option PyData
/-- the tracked lists' places and what stands behind a token -/
structure Phi where
  l : List Addr
  τ : TokMap
noncomputable def Phi.reg (φ : Phi) (t : Tok) (x : PyData) : Phi := ⟨φ.l, fun u => if u = t then some x else φ.τ u⟩

mutual
/-- data read in a heap; where wk is false each number's and text's token is known -/
inductive Rd (wk : Bool) (τ : TokMap) (h : Heap) : Value → PyData → Prop
  | none : Rd wk τ h .none .none
  | bool (b : Bool) : Rd wk τ h (.bool b) (.bool b)
  | int {i : Int} {t : Tok} : (wk = false → τ t = some (.int i)) → Rd wk τ h (.int i t) (.int i)
  | str {x : Str} {t : Tok} : (wk = false → τ t = some (.str x)) → Rd wk τ h (.str x t) (.str x)
  | list {a : Addr} {o : Obj} {vs : Array Value} {n : Nat} {xs : List PyData} : h.get? a = some o → o.cls = .type "list" → o.data = .seq vs n → RdAll wk τ h vs.toList xs → Rd wk τ h (.ref a) (.list xs)
  | tuple {a : Addr} {o : Obj} {vs : Array Value} {n : Nat} {xs : List PyData} : h.get? a = some o → o.cls = .type "tuple" → o.data = .seq vs n → RdAll wk τ h vs.toList xs → Rd wk τ h (.ref a) (.tuple xs)
inductive RdAll (wk : Bool) (τ : TokMap) (h : Heap) : List Value → List PyData → Prop
  | nil : RdAll wk τ h [] []
  | cons {v : Value} {x : PyData} {vs : List Value} {xs : List PyData} : Rd wk τ h v x → RdAll wk τ h vs xs → RdAll wk τ h (v :: vs) (x :: xs)
end

noncomputable def TauLe (τ τ' : TokMap) : Prop := ∀ t x, τ t = some x → τ' t = some x
theorem TauLe.refl {τ : TokMap} : TauLe τ τ := fun _ _ e => e
theorem TauLe.trans {τ τ' τ'' : TokMap} (a : TauLe τ τ') (b : TauLe τ' τ'') : TauLe τ τ'' := fun t x e => b t x (a t x e)

mutual
theorem Rd.keeps {wk : Bool} {τ τ' : TokMap} {h h' : Heap} (ht : TauLe τ τ') (hk : ∀ b o, h.get? b = some o → h'.get? b = some o) : ∀ {v : Value} {x : PyData}, Rd wk τ h v x → Rd wk τ' h' v x
  | _, _, .none => .none
  | _, _, .bool b => .bool b
  | _, _, .int e => .int fun q => ht _ _ (e q)
  | _, _, .str e => .str fun q => ht _ _ (e q)
  | _, _, .list a b c d => .list (hk _ _ a) b c (RdAll.keeps ht hk d)
  | _, _, .tuple a b c d => .tuple (hk _ _ a) b c (RdAll.keeps ht hk d)
theorem RdAll.keeps {wk : Bool} {τ τ' : TokMap} {h h' : Heap} (ht : TauLe τ τ') (hk : ∀ b o, h.get? b = some o → h'.get? b = some o) : ∀ {vs : List Value} {xs : List PyData}, RdAll wk τ h vs xs → RdAll wk τ' h' vs xs
  | _, _, .nil => .nil
  | _, _, .cons a b => .cons (Rd.keeps ht hk a) (RdAll.keeps ht hk b)
end
mutual
theorem Rd.reads {wk : Bool} {τ : TokMap} {h : Heap} : ∀ {v : Value} {x : PyData}, Rd wk τ h v x → ∃ as, Reads h v x as
  | _, _, .none => ⟨_, .none⟩
  | _, _, .bool b => ⟨_, .bool b⟩
  | _, _, .int _ => ⟨_, .int _ _⟩
  | _, _, .str _ => ⟨_, .str _ _⟩
  | _, _, .list a b c d => let ⟨as, r⟩ := RdAll.reads d; ⟨_, .list a b c r⟩
  | _, _, .tuple a b c d => let ⟨as, r⟩ := RdAll.reads d; ⟨_, .tuple a b c r⟩
theorem RdAll.reads {wk : Bool} {τ : TokMap} {h : Heap} : ∀ {vs : List Value} {xs : List PyData}, RdAll wk τ h vs xs → ∃ as, ReadsAll h vs xs as
  | _, _, .nil => ⟨_, .nil⟩
  | _, _, .cons a b => let ⟨as, r⟩ := Rd.reads a; let ⟨bs, q⟩ := RdAll.reads b; ⟨_, .cons r q⟩
end
mutual
theorem Rd.weak {wk : Bool} {τ τ' : TokMap} {h : Heap} : ∀ {v : Value} {x : PyData}, Rd wk τ h v x → Rd true τ' h v x
  | _, _, .none => .none
  | _, _, .bool b => .bool b
  | _, _, .int e => .int fun q => by cases q
  | _, _, .str e => .str fun q => by cases q
  | _, _, .list a b c d => .list a b c (RdAll.weak d)
  | _, _, .tuple a b c d => .tuple a b c (RdAll.weak d)
theorem RdAll.weak {wk : Bool} {τ τ' : TokMap} {h : Heap} : ∀ {vs : List Value} {xs : List PyData}, RdAll wk τ h vs xs → RdAll true τ' h vs xs
  | _, _, .nil => .nil
  | _, _, .cons a b => .cons (Rd.weak a) (RdAll.weak b)
end
theorem RdAll.get {wk : Bool} {τ : TokMap} {h : Heap} : ∀ {vs : List Value} {ds : List PyData}, RdAll wk τ h vs ds → ∀ {k : Nat} {d : PyData}, ds[k]? = some d → ∃ v, vs[k]? = some v ∧ Rd wk τ h v d
  | vs, ds, h, k, d, e => by
    induction ds generalizing vs k with
    | nil => cases e
    | cons x ds ih =>
      cases h with
      | cons r rs =>
        cases k with
        | zero => cases e; exact ⟨_, rfl, r⟩
        | succ k => exact ih _ rs _ e
theorem RdAll.pos {wk : Bool} {τ : TokMap} {h : Heap} : ∀ {vs : List Value} {ds : List PyData}, RdAll wk τ h vs ds → ∀ {k : Nat} {v : Value} {d : PyData}, vs[k]? = some v → ds[k]? = some d → Rd wk τ h v d
  | vs, ds, h, k, v, d, e, e' => by
    induction ds generalizing vs k with
    | nil => cases e'
    | cons x ds ih =>
      cases h with
      | cons r rs =>
        cases k with
        | zero => cases e; cases e'; exact r
        | succ k => exact ih _ rs _ e e'
theorem RdAll.length_eq {wk : Bool} {τ : TokMap} {h : Heap} : ∀ {vs : List Value} {ds : List PyData}, RdAll wk τ h vs ds → vs.length = ds.length
  | vs, ds, h => by
    induction ds generalizing vs with
    | nil => cases h; rfl
    | cons x ds ih =>
      cases h with
      | cons r rs => exact congrArg (· + 1) (ih _ rs)
theorem RdAll.app {wk : Bool} {τ : TokMap} {h : Heap} : ∀ {vs : List Value} {ds : List PyData}, RdAll wk τ h vs ds → ∀ {vs' : List Value} {ds' : List PyData}, RdAll wk τ h vs' ds' → RdAll wk τ h (vs ++ vs') (ds ++ ds')
  | vs, ds, h, vs', ds', q => by
    induction ds generalizing vs with
    | nil => cases h; exact q
    | cons x ds ih =>
      cases h with
      | cons r rs => exact .cons r (ih _ rs)
theorem RdAll.take {wk : Bool} {τ : TokMap} {h : Heap} : ∀ {vs : List Value} {ds : List PyData}, RdAll wk τ h vs ds → ∀ k, RdAll wk τ h (vs.take k) (ds.take k)
  | vs, ds, h => by
    induction ds generalizing vs with
    | nil => cases h; intro k; cases k <;> exact .nil
    | cons x ds ih =>
      cases h with
      | cons r rs =>
        intro k
        cases k with
        | zero => exact .nil
        | succ k => exact .cons r (ih _ rs k)
theorem RdAll.drop {wk : Bool} {τ : TokMap} {h : Heap} : ∀ {vs : List Value} {ds : List PyData}, RdAll wk τ h vs ds → ∀ k, RdAll wk τ h (vs.drop k) (ds.drop k)
  | vs, ds, h => by
    induction ds generalizing vs with
    | nil => cases h; intro k; cases k <;> exact .nil
    | cons x ds ih =>
      cases h with
      | cons r rs =>
        intro k
        cases k with
        | zero => exact .cons r rs
        | succ k => exact ih _ rs k
theorem RdAll.rep {wk : Bool} {τ : TokMap} {h : Heap} {v : Value} {x : PyData} (r : Rd wk τ h v x) : ∀ n : Nat, RdAll wk τ h (List.replicate n v) (List.replicate n x)
  | 0 => .nil
  | n + 1 => .cons r (RdAll.rep r n)

noncomputable def gone : Obj := { cls := .none, data := .freed }
noncomputable def cut (h : Heap) (M : List Addr) : Heap := ⟨h.objs.mapIdx fun i o => if i ∈ M then gone else o, {}⟩

theorem cut_get {h : Heap} {M : List Addr} {a : Addr} {o : Obj} : (cut h M).get? a = some o ↔ h.get? a = some o ∧ a ∉ M := by
  rw [Heap.get?_some_iff, Heap.get?_some_iff]
  unfold cut
  simp only [Array.getElem?_mapIdx, Option.map_eq_some_iff]
  constructor
  · rintro ⟨⟨o', h1, h2⟩, h3⟩
    by_cases hm : a ∈ M
    · rw [if_pos hm] at h2; subst h2; cases h3
    · rw [if_neg hm] at h2; subst h2; exact ⟨⟨h1, h3⟩, hm⟩
  · rintro ⟨⟨h1, h2⟩, h3⟩
    exact ⟨⟨o, h1, if_neg h3⟩, h2⟩

/-- the code tables of the two functions that hold a function -/
noncomputable abbrev tabs : List Addr := [188, 195]
noncomputable def tabQual (b : Addr) : Str := if b = 188 then Str.ofString "_int2digits.<locals>.inner" else Str.ofString "_digits2int.<locals>.inner"
noncomputable def TabIs (G h : Heap) (b : Addr) : Prop := ∃ ps, h.get? b = some (tabObj ps) ∧ TriplesOk ps.toList ∧ ∀ pos cv, codeAmong pos ps.toList = some cv → G.CodeRec cv (tabQual b)
theorem TabIs.keeps {G G' h h' : Heap} {b : Addr} (x : TabIs G h b) (hg : ∀ b o, G.get? b = some o → G'.get? b = some o) (hh : ∀ o, h.get? b = some o → h'.get? b = some o) : TabIs G' h' b := by
  obtain ⟨ps, h1, h2, h3⟩ := x
  refine ⟨ps, hh _ h1, h2, fun pos cv e => ?_⟩
  obtain ⟨c, oc, vs, t, e1, e2, e3, e4⟩ := h3 pos cv e
  exact ⟨c, oc, vs, t, e1, hg _ _ e2, e3, e4⟩
noncomputable abbrev Tabs (X : List Addr) (h : Heap) : Prop := ∀ b ∈ tabs, b ∈ X ∧ ∃ ps, h.get? b = some (tabObj ps)
theorem Tabs.not {X : List Addr} {h : Heap} (t : Tabs X h) {b : Addr} (hb : b ∉ X) : b ∉ tabs := fun q => hb (t b q).1
theorem Tabs.fresh {X : List Addr} {h : Heap} (t : Tabs X h) {b : Addr} (hb : h.get? b = none) : b ∉ tabs := fun q => by
  obtain ⟨ps, e⟩ := (t b q).2
  rw [hb] at e; cases e

theorem cut_sub {h : Heap} {M : List Addr} {a : Addr} {o : Obj} (e : (cut h M).get? a = some o) : h.get? a = some o := (cut_get.mp e).1

noncomputable abbrev hdrKey : Str := Str.ofString "_headers"
/-- a Headers object at a, its dict at dx, its list at l -/
noncomputable def HdrAt (h : Heap) (a : Addr) (l : Addr) : Prop :=
  ∃ dx e t n, h.get? a = some (instObj 182 dx) ∧ h.get? dx = some (dictOf [⟨e, .str hdrKey t, .ref l⟩] n)
theorem HdrAt.keeps {h h' : Heap} {a l : Addr} (x : HdrAt h a l) (hk : ∀ b o, h.get? b = some o → h'.get? b = some o) : HdrAt h' a l := by
  obtain ⟨dx, e, t, n, h1, h2⟩ := x
  exact ⟨dx, e, t, n, hk _ _ h1, hk _ _ h2⟩

/-- how a value of the abstract machine stands in a heap: X what is no ground to stand on -/
noncomputable def VRep (h : Heap) (φ : Phi) (X : List Addr) : V → Value → Prop
  | .e wk x, v => Rd wk φ.τ (cut h (φ.l ++ X)) v x
  | .r i, v => ∃ a, φ.l[i]? = some a ∧ v = .ref a
  | .p w, v => v = w
  | .hr i, v => ∃ a l, v = .ref a ∧ φ.l[i]? = some l ∧ HdrAt (cut h (φ.l ++ X)) a l
  | .h x, v => ∃ a l, v = .ref a ∧ HdrAt (cut h (φ.l ++ X)) a l ∧ Rd false φ.τ (cut h (φ.l ++ X)) (.ref l) x
  | .rng x y, v => ∃ a t u w, v = .ref a ∧ IsRange (cut h (φ.l ++ X)) a x y 1 t u w
  | .slc lo hi, v => ∃ a l u, v = .ref a ∧ lo = l.map (·.1) ∧ hi = u.map (·.1) ∧ (cut h (φ.l ++ X)).IsSlice a l u none
  | .ob R, v => R.P (cut h (φ.l ++ X)) v

structure Cx where
  prog : Program
  w : World
  K : Frag
  base : Heap
  s0 : Shared
  loose : List Str
  mean : ExcName → Option Value
  mg : Str → Option Value
  mb : Str → Option Value
  pin : Phi

structure Cx.Ok (c : Cx) : Prop where
  X : c.K.In c.base
  T : Top topProg c.loose c.mean c.mg c.mb c.base

/-- a tracked list -/
noncomputable def LRep (h : Heap) (τ : TokMap) (M : List Addr) (a : Addr) (xs : List PyData) : Prop := ∃ items, h.PlainList a items ∧ RdAll false τ (cut h M) items.toList xs

structure TkOk (τ : TokMap) (n : Nat) : Prop where
  pos : 0 < n
  z : τ 0 = none
  top : ∀ t, n ≤ t → τ t = none

/-- the tables of names that the frames around hold -/
structure Rel (c : Cx) (φ : Phi) (X : List Addr) (σ : List (List PyData)) (s : Shared) : Prop where
  len : φ.l.length = σ.length
  nd : φ.l.Nodup
  dj : ∀ a ∈ φ.l, a ∉ X
  ob : ∀ (i : Nat) a xs, φ.l[i]? = some a → σ[i]? = some xs → LRep s.heap φ.τ (φ.l ++ X) a xs
  xs : ∀ a ∈ X, ∃ o, s.heap.get? a = some o
  bs : ∀ b o, c.base.get? b = some o → s.heap.get? b = some o ∧ b ∉ φ.l ∧ b ∉ X
  tb : ∀ b ∈ tabs, b ∈ X ∧ TabIs (cut s.heap (φ.l ++ X)) s.heap b
  env : ∃ h tk, s = { c.s0 with heap := h, toks := tk }
  tk : TkOk φ.τ s.toks
  pl : c.pin.l <+: φ.l
  pt : TauLe c.pin.τ φ.τ

theorem Rel.tbs {c : Cx} {φ : Phi} {X : List Addr} {σ : List (List PyData)} {s : Shared} (R : Rel c φ X σ s) : Tabs X s.heap := fun b hb =>
  let ⟨h1, ps, h2, _⟩ := R.tb b hb; ⟨h1, ps, h2⟩
theorem Rel.tbn {c : Cx} {φ : Phi} {X : List Addr} {σ : List (List PyData)} {s : Shared} (R : Rel c φ X σ s) {b : Addr} (hb : b ∉ X) : b ∉ tabs := R.tbs.not hb
theorem Rel.tbf {c : Cx} {φ : Phi} {X : List Addr} {σ : List (List PyData)} {s : Shared} (R : Rel c φ X σ s) {b : Addr} (hb : s.heap.get? b = none) : b ∉ tabs := R.tbs.fresh hb

structure Step (φ φ' : Phi) (W : List Addr) (s s' : Shared) : Prop where
  pre : φ.l <+: φ'.l
  keep : ∀ b o, s.heap.get? b = some o → b ∉ φ.l → b ∉ W → b ∉ tabs → s'.heap.get? b = some o
  fresh : ∀ a ∈ φ'.l, a ∉ φ.l → a ∉ W ∧ s.heap.get? a = none
  alive : ∀ b o, s.heap.get? b = some o → ∃ o', s'.heap.get? b = some o'
  tau : TauLe φ.τ φ'.τ

theorem get_none {h : Heap} {a : Addr} (e : h.objs.size ≤ a) : h.get? a = none := by
  cases q : h.get? a with
  | none => rfl
  | some o => exact absurd (Heap.lt_size q) (Nat.not_lt.mpr e)

theorem Step.refl {φ : Phi} {W : List Addr} {s : Shared} : Step φ φ W s s := ⟨List.prefix_refl _, fun _ _ e _ _ _ => e, fun a h1 h2 => absurd h1 h2, fun _ o e => ⟨o, e⟩, .refl⟩
theorem Step.trans {φ φ' φ'' : Phi} {W : List Addr} {s s' s'' : Shared} (x : Step φ φ' W s s') (y : Step φ' φ'' W s' s'') : Step φ φ'' W s s'' where
  pre := x.pre.trans y.pre
  keep := fun b o e h1 h2 h9 => by
    refine y.keep b o (x.keep b o e h1 h2 h9) (fun h3 => ?_) h2 h9
    have := (x.fresh b h3 h1).2
    rw [this] at e; cases e
  fresh := fun a h1 h2 => by
    by_cases h3 : a ∈ φ'.l
    · exact x.fresh a h3 h2
    · obtain ⟨h4, h5⟩ := y.fresh a h1 h3
      refine ⟨h4, ?_⟩
      cases q : s.heap.get? a with
      | none => rfl
      | some o => obtain ⟨o', e'⟩ := x.alive a o q; rw [h5] at e'; cases e'
  alive := fun b o e => by
    obtain ⟨o', e'⟩ := x.alive b o e
    exact y.alive b o' e'
  tau := x.tau.trans y.tau
theorem Step.wide {φ φ' : Phi} {W W' : List Addr} {s s' : Shared} (x : Step φ φ' W s s') (h : ∀ a ∈ W, a ∈ W') (hW : ∀ a ∈ W', a ∉ W → ∃ o, s.heap.get? a = some o) : Step φ φ' W' s s' where
  pre := x.pre
  keep := fun b o e h1 h2 => x.keep b o e h1 (fun h3 => h2 (h _ h3))
  fresh := fun a h1 h2 => by
    obtain ⟨h3, h4⟩ := x.fresh a h1 h2
    refine ⟨fun h5 => ?_, h4⟩
    obtain ⟨o, e⟩ := hW a h5 h3
    rw [h4] at e
    cases e
  alive := x.alive
  tau := x.tau

/-- the ground that stands grows -/
theorem Step.cut {φ φ' : Phi} {W X X' : List Addr} {s s' : Shared} (x : Step φ φ' W s s') (hW : ∀ a ∈ W, a ∈ X) (hX : ∀ a ∈ X', (∃ o, s.heap.get? a = some o) → a ∈ X) {b : Addr} {o : Obj} (e : (cut s.heap (φ.l ++ X)).get? b = some o) (hT : Tabs X s.heap := by first | assumption | exact Rel.tbs (by assumption)) :
    (Mine.cut s'.heap (φ'.l ++ X')).get? b = some o := by
  obtain ⟨e1, e2⟩ := cut_get.mp e
  rw [List.mem_append, not_or] at e2
  refine cut_get.mpr ⟨x.keep b o e1 e2.1 (fun h => e2.2 (hW _ h)) (hT.not e2.2), ?_⟩
  rw [List.mem_append, not_or]
  refine ⟨fun h => ?_, fun h => e2.2 (hX b h ⟨o, e1⟩)⟩
  have := (x.fresh b h e2.1).2
  rw [this] at e1; cases e1

theorem prefix_get {α : Type} {l l' : List α} (h : l <+: l') {i : Nat} {a : α} (e : l[i]? = some a) : l'[i]? = some a := by
  obtain ⟨t, rfl⟩ := h
  have hi : i < l.length := (List.getElem?_eq_some_iff.mp e).1
  rw [List.getElem?_append_left hi]; exact e

theorem VRep.mono {h h' : Heap} {φ φ' : Phi} {X X' : List Addr} (hφ : φ.l <+: φ'.l) (ht : TauLe φ.τ φ'.τ) (hk : ∀ b o, (cut h (φ.l ++ X)).get? b = some o → (cut h' (φ'.l ++ X')).get? b = some o) {v : V} {cv : Value} (r : VRep h φ X v cv) : VRep h' φ' X' v cv := by
  cases v with
  | e wk q => exact Rd.keeps ht hk r
  | r i => obtain ⟨a, h1, h2⟩ := r; exact ⟨a, prefix_get hφ h1, h2⟩
  | p w => exact r
  | hr i => obtain ⟨a, l, h1, h2, h3⟩ := r; exact ⟨a, l, h1, prefix_get hφ h2, h3.keeps hk⟩
  | h q => obtain ⟨a, l, h1, h2, h3⟩ := r; exact ⟨a, l, h1, h2.keeps hk, Rd.keeps ht hk h3⟩
  | rng x y => obtain ⟨a, t, u, w, h1, h2⟩ := r; exact ⟨a, t, u, w, h1, hk _ _ h2⟩
  | slc lo hi => obtain ⟨a, l, u, h1, h2, h3, o, h4, h5⟩ := r; exact ⟨a, l, u, h1, h2, h3, o, hk _ _ h4, h5⟩
  | ob R => exact R.mono _ _ _ hk r
theorem VRep.step {φ φ' : Phi} {W X X' : List Addr} {s s' : Shared} (x : Step φ φ' W s s') (hW : ∀ a ∈ W, a ∈ X) (hX : ∀ a ∈ X', (∃ o, s.heap.get? a = some o) → a ∈ X) {v : V} {cv : Value} (r : VRep s.heap φ X v cv) (hT : Tabs X s.heap := by first | assumption | exact Rel.tbs (by assumption)) : VRep s'.heap φ' X' v cv :=
  r.mono x.pre x.tau fun b o e => x.cut hW hX e hT

/-! names -/
/-- a scope, and which of its cells it may write -/
structure Sc where
  s : Scope
  own : List Str
noncomputable abbrev Sc.names (sc : Sc) : List (Str × NameKind) := sc.s.names

structure EnvOk (env : Env) (sc : Sc) : Prop where
  s : env.scope = sc.s
  fn : sc.s.kind = .function
  nd : (sc.names.map (·.1)).Nodup
  gl : env.globals = mainGlobals
  bu : env.builtins = builtinsNs
  cn : (env.cells.map (·.2)).Nodup
  lc : env.locals ∉ env.cells.map (·.2)

noncomputable abbrev own (env : Env) (sc : Sc) : List Addr := env.locals :: sc.own.filterMap fun x => env.cells.lookup x

structure Loc (env : Env) (sc : Sc) (ρ : List (Option V)) (φ : Phi) (X : List Addr) (h : Heap) : Prop where
  len : ρ.length = sc.names.length
  ns : ∃ m, h.Ns env.locals m ∧ ∀ (k : Nat) x v, sc.names[k]? = some (x, .local) → ρ[k]? = some (some v) → ∃ cv, m x = some cv ∧ VRep h φ X v cv
  cl : ∀ (k : Nat) x kd, sc.names[k]? = some (x, kd) → (kd = .cell ∨ kd = .free) → ∃ c ov, env.cells.lookup x = some c ∧ h.IsCell c ov ∧ c ∉ φ.l ∧ ∀ v, ρ[k]? = some (some v) → ∃ cv, ov = some cv ∧ VRep h φ X v cv

theorem lookup_of_get {α : Type} : ∀ {l : List (Str × α)} (_ : (l.map (·.1)).Nodup) {k : Nat} {x : Str} {v : α}, l[k]? = some (x, v) → l.lookup x = some v
  | [], _, k, x, v, h => by simp at h
  | (y, w) :: r, nd, 0, x, v, h => by simp at h; obtain ⟨rfl, rfl⟩ := h; simp [List.lookup_cons]
  | (y, w) :: r, nd, k + 1, x, v, h => by
    simp only [List.map_cons, List.nodup_cons] at nd
    have h' : r[k]? = some (x, v) := by simpa using h
    have hx : x ∈ r.map (·.1) := List.mem_map.mpr ⟨(x, v), List.mem_of_getElem? h', rfl⟩
    have hne : (x == y) = false := by
      rw [beq_eq_false_iff_ne]; rintro rfl; exact nd.1 hx
    rw [List.lookup_cons, hne]
    exact lookup_of_get nd.2 h'

theorem EnvOk.kind {env : Env} {sc : Sc} (e : EnvOk env sc) {k : Nat} {x : Str} {kd : NameKind} (h : sc.names[k]? = some (x, kd)) : env.kindOf x = some kd := by
  unfold Env.kindOf; rw [e.s]; exact lookup_of_get e.nd h

theorem mem_own_of_lookup {env : Env} {sc : Sc} {x : Str} {c : Addr} (hx : x ∈ sc.own) (h : env.cells.lookup x = some c) : c ∈ own env sc :=
  List.mem_cons_of_mem _ (List.mem_filterMap.mpr ⟨x, hx, h⟩)
theorem own_cell {env : Env} {sc : Sc} {c : Addr} (h : c ∈ own env sc) : c = env.locals ∨ ∃ x, x ∈ sc.own ∧ env.cells.lookup x = some c := by
  rcases List.mem_cons.mp h with h | h
  · exact .inl h
  · obtain ⟨x, h1, h2⟩ := List.mem_filterMap.mp h
    exact .inr ⟨x, h1, h2⟩

/-- the places that the names stand in -/
noncomputable def Uses (env : Env) (sc : Sc) (b : Addr) : Prop := b = env.locals ∨ ∃ (k : Nat) (x : Str) (kd : NameKind), sc.names[k]? = some (x, kd) ∧ (kd = .cell ∨ kd = .free) ∧ env.cells.lookup x = some b
theorem Loc.uses {env : Env} {sc : Sc} {ρ : List (Option V)} {φ : Phi} {X : List Addr} {h : Heap} (l : Loc env sc ρ φ X h) {b : Addr} (u : Uses env sc b) : ∃ o, h.get? b = some o := by
  rcases u with rfl | ⟨k, x, kd, h1, h2, h3⟩
  · obtain ⟨m, ⟨o, _, _, e, _⟩, _⟩ := l.ns; exact ⟨o, e⟩
  · obtain ⟨c, ov, q1, ⟨o, q2, _⟩, _⟩ := l.cl k x kd h1 h2
    rw [h3] at q1; cases q1; exact ⟨o, q2⟩
theorem Loc.notab {env : Env} {sc : Sc} {ρ : List (Option V)} {φ : Phi} {X Y : List Addr} {h : Heap} (l : Loc env sc ρ φ X h) {b : Addr} (u : Uses env sc b) (hT : Tabs Y h) : b ∉ tabs := fun hb => by
  obtain ⟨ps, e⟩ := (hT b hb).2
  rcases u with rfl | ⟨k, x, kd, h1, h2, h3⟩
  · obtain ⟨m, ⟨o, es, ep, e', hd, _⟩, _⟩ := l.ns
    rw [e] at e'; cases e'; cases hd
  · obtain ⟨c, ov, q1, ⟨o, q2, q2'⟩, _⟩ := l.cl k x kd h1 h2
    rw [h3] at q1; cases q1
    rw [e] at q2; cases q2; cases q2'
theorem Loc.mono {env : Env} {sc : Sc} {ρ : List (Option V)} {φ φ' : Phi} {X X' : List Addr} {h h' : Heap} (l : Loc env sc ρ φ X h) (hφ : φ.l <+: φ'.l) (ht : TauLe φ.τ φ'.τ) (hn : ∀ a ∈ φ'.l, a ∉ φ.l → h.get? a = none)
    (ho : ∀ b, Uses env sc b → b ∉ φ.l ∨ b = env.locals → ∀ o, h.get? b = some o → h'.get? b = some o)
    (hk : ∀ b o, (cut h (φ.l ++ X)).get? b = some o → (cut h' (φ'.l ++ X')).get? b = some o) : Loc env sc ρ φ' X' h' where
  len := l.len
  ns := by
    obtain ⟨m, h1, h2⟩ := l.ns
    refine ⟨m, h1.at' fun o e => ho _ (.inl rfl) (.inr rfl) o e, fun k y v e1 e2 => ?_⟩
    obtain ⟨cv, q1, q2⟩ := h2 k y v e1 e2
    exact ⟨cv, q1, q2.mono hφ ht hk⟩
  cl := fun k y kd e1 e2 => by
    obtain ⟨c, ov, q1, ⟨o, q2, q2'⟩, q0, q3⟩ := l.cl k y kd e1 e2
    refine ⟨c, ov, q1, ⟨o, ho _ (.inr ⟨k, y, kd, e1, e2, q1⟩) (.inl q0) _ q2, q2'⟩, fun q => ?_, fun v e3 => ?_⟩
    · have := hn c q q0; rw [this] at q2; cases q2
    · obtain ⟨cv, q4, q5⟩ := q3 v e3
      exact ⟨cv, q4, q5.mono hφ ht hk⟩
theorem Loc.step {env : Env} {sc : Sc} {ρ : List (Option V)} {φ φ' : Phi} {X X' : List Addr} {s s' : Shared} (l : Loc env sc ρ φ X s.heap) (x : Step φ φ' [] s s')
    (ho : env.locals ∉ φ.l) (hX : ∀ a ∈ X', (∃ o, s.heap.get? a = some o) → a ∈ X) (hT : Tabs X s.heap := by first | assumption | exact Rel.tbs (by assumption)) : Loc env sc ρ φ' X' s'.heap :=
  l.mono x.pre x.tau (fun a h1 h2 => (x.fresh a h1 h2).2) (fun b h1 h2 o e => x.keep b o e (h2.elim id fun q => q ▸ ho) (by simp) (l.notab h1 hT)) fun b o e => x.cut (by simp) hX e hT

/-- room below -/
structure AOk (A : Around) (d : Nat) : Prop where
  hd : A.handled = none
  dp : A.depth + 4 * d + 8 < recursionLimit
  un : A.units + 16 * d + 200 < cLine

theorem AOk.deeper {A : Around} {d : Nat} (a : AOk A (d + 1)) (env : Env) : AOk (A.deeper env) d :=
  ⟨a.hd, by show A.depth + 1 + 4 * d + 8 < _; have := a.dp; omega, by show A.units + 3 + 16 * d + 200 < _; have := a.un; omega⟩
theorem AOk.room {A : Around} {d : Nat} (a : AOk A d) : A.depth < recursionLimit := by have := a.dp; omega
theorem AOk.units {A : Around} {d : Nat} (a : AOk A d) : A.units + 64 < cLine := by have := a.un; omega
structure Ok (c : Cx) (d : Nat) (env : Env) (sc : Sc) (A : Around) (X : List Addr) : Prop where
  c : c.Ok
  a : AOk A d
  e : EnvOk env sc
  o : ∀ b ∈ own env sc, b ∈ X

/-- the continuation of an expression -/
noncomputable abbrev Cont (c : Cx) (X : List Addr) (φ : Phi) (s : Shared) (P : V → List (List PyData) → Prop) (Q : Value → Shared → Prop) : Prop :=
  ∀ v cv φ' σ' s', Step φ φ' [] s s' → Rel c φ' X σ' s' → VRep s'.heap φ' X v cv → P v σ' → Q cv s'

noncomputable def TE (c : Cx) (d : Nat) (e : Expr) (sc : Sc) (ρ : List (Option V)) (σ : List (List PyData)) (P : V → List (List PyData) → Prop) : Prop :=
  ∀ env A X φ s (Q : Value → Shared → Prop) (E : Value → Shared → Prop), Ok c d env sc A X → Rel c φ X σ s → Loc env sc ρ φ X s.heap →
    Cont c X φ s P Q → wpAny (model c.prog c.w) A (eval e env) Q E s

/-- a step on values -/
noncomputable def TV1 (c : Cx) (d : Nat) (m : Value → Sem Value) (a : V) (σ : List (List PyData)) (P : V → List (List PyData) → Prop) : Prop :=
  ∀ A X φ s ca (Q : Value → Shared → Prop) (E : Value → Shared → Prop), c.Ok → AOk A d → Rel c φ X σ s → VRep s.heap φ X a ca → Cont c X φ s P Q → wpAny (model c.prog c.w) A (m ca) Q E s
noncomputable def TV2 (c : Cx) (d : Nat) (m : Value → Value → Sem Value) (a b : V) (σ : List (List PyData)) (P : V → List (List PyData) → Prop) : Prop :=
  ∀ A X φ s ca cb (Q : Value → Shared → Prop) (E : Value → Shared → Prop), c.Ok → AOk A d → Rel c φ X σ s → VRep s.heap φ X a ca → VRep s.heap φ X b cb → Cont c X φ s P Q → wpAny (model c.prog c.w) A (m ca cb) Q E s

theorem Rel.own {c : Cx} {φ : Phi} {X : List Addr} {σ : List (List PyData)} {s : Shared} (R : Rel c φ X σ s) {env : Env} {sc : Sc} (h : ∀ b ∈ own env sc, b ∈ X) : env.locals ∉ φ.l :=
  fun hq => R.dj _ hq (h _ List.mem_cons_self)

theorem TkOk.mono {τ : TokMap} {n m : Nat} (x : TkOk τ n) (h : n ≤ m) : TkOk τ m := ⟨Nat.lt_of_lt_of_le x.pos h, x.z, fun t q => x.top t (Nat.le_trans h q)⟩
theorem TkOk.reg {φ : Phi} {n t m : Nat} {x : PyData} (k : TkOk φ.τ n) (h1 : n ≤ t) (h2 : t < m) : TkOk (φ.reg t x).τ m where
  pos := Nat.lt_of_le_of_lt (Nat.zero_le _) h2
  z := by
    show (if (0 : Nat) = t then _ else _) = _
    rw [if_neg (by have := k.pos; omega)]; exact k.z
  top := fun u hu => by
    show (if u = t then _ else _) = _
    rw [if_neg (by omega)]; exact k.top u (by omega)
theorem TauLe.reg {φ : Phi} {n t : Nat} {x : PyData} (k : TkOk φ.τ n) (h1 : n ≤ t) : TauLe φ.τ (φ.reg t x).τ := fun u y e => by
  show (if u = t then _ else _) = _
  by_cases h : u = t
  · subst h; rw [k.top u h1] at e; cases e
  · rw [if_neg h]; exact e
theorem Phi.reg_self {φ : Phi} {t : Tok} {x : PyData} : (φ.reg t x).τ t = some x := by show (if t = t then _ else _) = _; rw [if_pos rfl]

/-- a heap that keeps all, with no new tracked list -/
theorem Rel.growT {c : Cx} {φ : Phi} {X : List Addr} {σ : List (List PyData)} {s : Shared} (R : Rel c φ X σ s) {h' : Heap} {tk : Nat} (hk : ∀ b o, s.heap.get? b = some o → h'.get? b = some o) {τ' : TokMap} (ht : TauLe φ.τ τ') (hz : TkOk τ' tk) :
    Rel c ⟨φ.l, τ'⟩ X σ { s with heap := h', toks := tk } where
  len := R.len
  nd := R.nd
  dj := R.dj
  ob := fun i a xs e1 e2 => by
    obtain ⟨items, ⟨o, h1⟩, h3⟩ := R.ob i a xs e1 e2
    refine ⟨items, ⟨o, hk _ _ h1⟩, RdAll.keeps ht (fun b o' e => ?_) h3⟩
    obtain ⟨e3, e4⟩ := cut_get.mp e
    exact cut_get.mpr ⟨hk _ _ e3, e4⟩
  xs := fun a ha => let ⟨o, e⟩ := R.xs a ha; ⟨o, hk _ _ e⟩
  bs := fun b o e => ⟨hk _ _ (R.bs b o e).1, (R.bs b o e).2⟩
  tb := fun b hb => ⟨(R.tb b hb).1, (R.tb b hb).2.keeps (fun b o e => cut_get.mpr ⟨hk _ _ (cut_get.mp e).1, (cut_get.mp e).2⟩) fun o e => hk _ _ e⟩
  env := by obtain ⟨h, t, rfl⟩ := R.env; exact ⟨h', tk, rfl⟩
  tk := hz
  pl := R.pl
  pt := R.pt.trans ht
theorem Step.growT {φ : Phi} {W : List Addr} {s : Shared} {h' : Heap} {tk : Nat} (hk : ∀ b o, s.heap.get? b = some o → h'.get? b = some o) {τ' : TokMap} (ht : TauLe φ.τ τ') : Step φ ⟨φ.l, τ'⟩ W s { s with heap := h', toks := tk } :=
  ⟨List.prefix_refl _, fun _ _ e _ _ _ => hk _ _ e, fun _ h1 h2 => absurd h1 h2, fun _ o e => ⟨o, hk _ _ e⟩, ht⟩
theorem Rel.grow {c : Cx} {φ : Phi} {X : List Addr} {σ : List (List PyData)} {s : Shared} (R : Rel c φ X σ s) {h' : Heap} {tk : Nat} (hk : ∀ b o, s.heap.get? b = some o → h'.get? b = some o) (ht : s.toks ≤ tk) :
    Rel c φ X σ { s with heap := h', toks := tk } := R.growT hk .refl (R.tk.mono ht)
theorem Step.grow {φ : Phi} {W : List Addr} {s : Shared} {h' : Heap} {tk : Nat} (hk : ∀ b o, s.heap.get? b = some o → h'.get? b = some o) : Step φ φ W s { s with heap := h', toks := tk } := Step.growT hk .refl
/-- only the tokens turn -/
theorem Rel.tok {c : Cx} {φ : Phi} {X : List Addr} {σ : List (List PyData)} {s : Shared} (R : Rel c φ X σ s) {t : Nat} (h : s.toks ≤ t) : Rel c φ X σ { s with toks := t } := R.grow (fun _ _ e => e) h
theorem Step.tok {φ : Phi} {W : List Addr} {s : Shared} {t : Nat} : Step φ φ W s { s with toks := t } := Step.grow fun _ _ e => e
theorem Rel.reg {c : Cx} {φ : Phi} {X : List Addr} {σ : List (List PyData)} {s : Shared} (R : Rel c φ X σ s) {t n : Nat} {x : PyData} (h1 : s.toks ≤ t) (h2 : t < n) : Rel c (φ.reg t x) X σ { s with toks := n } :=
  R.growT (fun _ _ e => e) (TauLe.reg R.tk h1) (TkOk.reg R.tk h1 h2)
theorem Step.reg {c : Cx} {φ : Phi} {X W : List Addr} {σ : List (List PyData)} {s : Shared} (R : Rel c φ X σ s) {t n : Nat} {x : PyData} (h1 : s.toks ≤ t) : Step φ (φ.reg t x) W s { s with toks := n } :=
  Step.growT (fun _ _ e => e) (TauLe.reg R.tk h1)

theorem VRep.int_reg {h : Heap} {φ : Phi} {X : List Addr} {i : Int} {t : Tok} : VRep h (φ.reg t (.int i)) X (.d (.int i)) (.int i t) := Rd.int fun _ => Phi.reg_self
theorem VRep.str_reg {h : Heap} {φ : Phi} {X : List Addr} {x : Str} {t : Tok} : VRep h (φ.reg t (.str x)) X (.d (.str x)) (.str x t) := Rd.str fun _ => Phi.reg_self
theorem VRep.bool {h : Heap} {φ : Phi} {X : List Addr} {wk : Bool} {b : Bool} : VRep h φ X (.e wk (.bool b)) (.bool b) := Rd.bool b
theorem VRep.none {h : Heap} {φ : Phi} {X : List Addr} {wk : Bool} : VRep h φ X (.e wk .none) .none := Rd.none
theorem VRep.int_inv {h : Heap} {φ : Phi} {X : List Addr} {wk : Bool} {i : Int} {v : Value} (r : VRep h φ X (.e wk (.int i)) v) : ∃ t, v = .int i t := by
  cases r; exact ⟨_, rfl⟩
theorem VRep.str_inv {h : Heap} {φ : Phi} {X : List Addr} {wk : Bool} {x : Str} {v : Value} (r : VRep h φ X (.e wk (.str x)) v) : ∃ t, v = .str x t := by
  cases r; exact ⟨_, rfl⟩
theorem VRep.bool_inv {h : Heap} {φ : Phi} {X : List Addr} {wk : Bool} {b : Bool} {v : Value} (r : VRep h φ X (.e wk (.bool b)) v) : v = .bool b := by
  cases r; rfl
theorem VRep.none_inv {h : Heap} {φ : Phi} {X : List Addr} {wk : Bool} {v : Value} (r : VRep h φ X (.e wk .none) v) : v = .none := by
  cases r; rfl
theorem VRep.list_inv {h : Heap} {φ : Phi} {X : List Addr} {wk : Bool} {xs : List PyData} {v : Value} (r : VRep h φ X (.e wk (.list xs)) v) :
    ∃ a items, v = .ref a ∧ h.IsList a items ∧ a ∉ φ.l ++ X ∧ RdAll wk φ.τ (cut h (φ.l ++ X)) items.toList xs := by
  cases r with
  | list h1 h2 h3 h4 => exact ⟨_, _, rfl, ⟨_, cut_sub h1, h2, _, h3⟩, (cut_get.mp h1).2, h4⟩
theorem VRep.tuple_inv {h : Heap} {φ : Phi} {X : List Addr} {wk : Bool} {xs : List PyData} {v : Value} (r : VRep h φ X (.e wk (.tuple xs)) v) :
    ∃ a items, v = .ref a ∧ h.IsTuple a items ∧ a ∉ φ.l ++ X ∧ RdAll wk φ.τ (cut h (φ.l ++ X)) items.toList xs := by
  cases r with
  | tuple h1 h2 h3 h4 => exact ⟨_, _, rfl, ⟨_, cut_sub h1, h2, _, h3⟩, (cut_get.mp h1).2, h4⟩
theorem VRep.weak {h : Heap} {φ : Phi} {X : List Addr} {wk : Bool} {x : PyData} {v : Value} (r : VRep h φ X (.e wk x) v) : VRep h φ X (.w x) v := Rd.weak r

end Mine
end -- Fw1
section -- Fw2
set_option tactic.hygienic false
open PySem PySem.W PySem.Calls PyProof.Rows
set_option linter.unusedVariables false
set_option linter.unusedSimpArgs false
set_option autoImplicit false
namespace Mine
section
variable {c : Cx} {d : Nat} {sc : Sc} {ρ : List (Option V)} {σ : List (List PyData)} {P : V → List (List PyData) → Prop}

theorem Cont.here {X : List Addr} {φ : Phi} {s : Shared} {Q : Value → Shared → Prop} (k : Cont c X φ s P Q) (R : Rel c φ X σ s) {v : V} {cv : Value} (r : VRep s.heap φ X v cv) (p : P v σ) : Q cv s := k v cv φ σ s .refl R r p
theorem Cont.int {X : List Addr} {φ : Phi} {s : Shared} {Q : Value → Shared → Prop} (k : Cont c X φ s P Q) (R : Rel c φ X σ s) {t n : Nat} {i : Int} (h1 : s.toks ≤ t) (h2 : t < n) (p : P (.d (.int i)) σ) : Q (.int i t) { s with toks := n } :=
  k (.d (.int i)) _ (φ.reg t (.int i)) σ _ (Step.reg R h1) (R.reg h1 h2) VRep.int_reg p
theorem Cont.str {X : List Addr} {φ : Phi} {s : Shared} {Q : Value → Shared → Prop} (k : Cont c X φ s P Q) (R : Rel c φ X σ s) {t n : Nat} {x : Str} (h1 : s.toks ≤ t) (h2 : t < n) (p : P (.d (.str x)) σ) : Q (.str x t) { s with toks := n } :=
  k (.d (.str x)) _ (φ.reg t (.str x)) σ _ (Step.reg R h1) (R.reg h1 h2) VRep.str_reg p
theorem Cont.intN {X : List Addr} {φ : Phi} {s : Shared} {Q : Value → Shared → Prop} (k : Cont c X φ s P Q) (R : Rel c φ X σ s) {i : Int} (p : P (.d (.int i)) σ) : Q (.int i s.toks) { s with toks := s.toks + 1 } :=
  k.int R (Nat.le_refl _) (Nat.lt_succ_self _) p
theorem Cont.strN {X : List Addr} {φ : Phi} {s : Shared} {Q : Value → Shared → Prop} (k : Cont c X φ s P Q) (R : Rel c φ X σ s) {x : Str} (p : P (.d (.str x)) σ) : Q (.str x s.toks) { s with toks := s.toks + 1 } :=
  k.str R (Nat.le_refl _) (Nat.lt_succ_self _) p
/-- go on behind a step -/
theorem Cont.step {X : List Addr} {φ φ₁ : Phi} {s s₁ : Shared} {Q : Value → Shared → Prop} (k : Cont c X φ s P Q) (x : Step φ φ₁ [] s s₁) : Cont c X φ₁ s₁ P Q :=
  fun v cv φ' σ' s' y R r p => k v cv φ' σ' s' (x.trans y) R r p

theorem TE.int {i : Int} {k : Nat} {pos : Pos} (p : P (.d (.int i)) σ) : TE c d (.Constant (.int i) k pos) sc ρ σ P := by
  intro env A X φ s Q E O R L K
  exact wpAny_Constant_int (K.intN R p)
theorem TE.str {x : Str} {k : Nat} {pos : Pos} (p : P (.d (.str x)) σ) : TE c d (.Constant (.str x) k pos) sc ρ σ P := by
  intro env A X φ s Q E O R L K
  exact wpAny_mkText (K.strN R p)
theorem TE.boolc {b : Bool} {k : Nat} {pos : Pos} (p : P (.d (.bool b)) σ) : TE c d (.Constant (.bool b) k pos) sc ρ σ P := by
  intro env A X φ s Q E O R L K
  exact wpAny_pure (K.here R VRep.bool p)
theorem TE.nonec {k : Nat} {pos : Pos} (p : P (.d .none) σ) : TE c d (.Constant .none k pos) sc ρ σ P := by
  intro env A X φ s Q E O R L K
  exact wpAny_pure (K.here R VRep.none p)

theorem TE.loc (k : Nat) {x : Str} {pos : Pos} {v : V} (hv : ρ[k]? = some (some v)) (p : P v σ) (hk : sc.names[k]? = some (x, .local) := by rfl) (hd : (x == ("__debug__" : Str)) = false := by rfl) : TE c d (.Name x pos) sc ρ σ P := by
  intro env A X φ s Q E O R L K
  obtain ⟨m, h1, h2⟩ := L.ns
  obtain ⟨cv, h3, h4⟩ := h2 k x v hk hv
  refine wpAny_Name (wpAny_loadName_local (by rw [O.e.s]; exact O.e.fn) (O.e.kind hk) h1 h3 (K.here R h4 p)) hd
theorem TE.cell (k : Nat) {x : Str} {pos : Pos} {v : V} (hv : ρ[k]? = some (some v)) (p : P v σ) (hk : sc.names[k]? = some (x, .cell) := by rfl) (hd : (x == ("__debug__" : Str)) = false := by rfl) : TE c d (.Name x pos) sc ρ σ P := by
  intro env A X φ s Q E O R L K
  obtain ⟨a, ov, h1, h2, _, h3⟩ := L.cl k x _ hk (.inl rfl)
  obtain ⟨cv, rfl, h4⟩ := h3 v hv
  refine wpAny_Name (wpAny_loadName_cell (by rw [O.e.s]; exact O.e.fn) (O.e.kind hk) h1 h2 (K.here R h4 p)) hd
theorem TE.free (k : Nat) {x : Str} {pos : Pos} {v : V} (hv : ρ[k]? = some (some v)) (p : P v σ) (hk : sc.names[k]? = some (x, .free) := by rfl) (hd : (x == ("__debug__" : Str)) = false := by rfl) (hn : (x == ("__classdict__" : Str)) = false := by rfl) :
    TE c d (.Name x pos) sc ρ σ P := by
  intro env A X φ s Q E O R L K
  obtain ⟨a, ov, h1, h2, _, h3⟩ := L.cl k x _ hk (.inr rfl)
  obtain ⟨cv, rfl, h4⟩ := h3 v hv
  refine wpAny_Name (wpAny_loadName_free (by rw [O.e.s]; exact O.e.fn) (O.e.kind hk) h1 h2 (K.here R h4 p) hn) hd

theorem Rel.mainNs {φ : Phi} {X : List Addr} {s : Shared} (R : Rel c φ X σ s) (C : c.Ok) : s.heap.Ns mainGlobals c.mg := C.T.g.at' fun o e => (R.bs _ o e).1
theorem Rel.builtNs {φ : Phi} {X : List Addr} {s : Shared} (R : Rel c φ X σ s) (C : c.Ok) : s.heap.Ns builtinsNs c.mb := C.T.b.at' fun o e => (R.bs _ o e).1
theorem Rel.inK {φ : Phi} {X : List Addr} {s : Shared} (R : Rel c φ X σ s) (C : c.Ok) : c.K.In s.heap := fun a o e => (R.bs _ o (C.X a o e)).1

theorem TE.glob {x : Str} {pos : Pos} {v : Value} (e : nsIn c.K mainGlobals x = some (some v)) (p : P (.p v) σ) (hk : sc.names.lookup x = some .globalImplicit := by rfl) (hd : (x == ("__debug__" : Str)) = false := by rfl) : TE c d (.Name x pos) sc ρ σ P := by
  intro env A X φ s Q E O R L K
  have G := R.mainNs O.c
  rw [← O.e.gl] at G
  exact Name_function_global (by rw [O.e.s]; exact O.e.fn) (by unfold Env.kindOf; rw [O.e.s]; exact hk) (loadGlobal_global G (mg_of O.c.X O.c.T.g e) (K.here R (v := .p v) rfl p)) hd
theorem TE.bltn {x : Str} {pos : Pos} {v : Value} (e : nsIn c.K mainGlobals x = some none) (hv : bootBuiltins x = some v) (hn : x ≠ "__name__") (p : P (.p v) σ) (hk : sc.names.lookup x = some .globalImplicit := by rfl) (hd : (x == ("__debug__" : Str)) = false := by rfl) :
    TE c d (.Name x pos) sc ρ σ P := by
  intro env A X φ s Q E O R L K
  have G := R.mainNs O.c
  have B := R.builtNs O.c
  rw [← O.e.gl] at G
  rw [← O.e.bu] at B
  exact Name_function_global (by rw [O.e.s]; exact O.e.fn) (by unfold Env.kindOf; rw [O.e.s]; exact hk) (loadGlobal_builtin G (mg_none_of O.c.X O.c.T.g e) B ((O.c.T.builtins x hn).trans hv) (K.here R (v := .p v) rfl p)) hd

noncomputable abbrev kTwo1 (c : Cx) (d : Nat) (m : Value → Value → Sem Value) (a : V) (P : V → List (List PyData) → Prop) : V → List (List PyData) → Prop := fun b σ₂ => TV2 c d m a b σ₂ P
noncomputable abbrev kTwo (c : Cx) (d : Nat) (r : Expr) (sc : Sc) (ρ : List (Option V)) (m : Value → Value → Sem Value) (P : V → List (List PyData) → Prop) : V → List (List PyData) → Prop := fun a σ₁ => TE c d r sc ρ σ₁ (kTwo1 c d m a P)
theorem TE.binop {l r : Expr} {op : Operator} {pos : Pos}
    (h : TE c d l sc ρ σ (kTwo c d r sc ρ (binaryOp op) P)) : TE c d (.BinOp l op r pos) sc ρ σ P := by
  intro env A X φ s Q E O R L K
  refine wpAny_BinOp (h env A X φ s _ E O R L fun a ca φ₁ σ₁ s₁ x₁ R₁ r₁ h₁ => ?_)
  have L₁ := L.step x₁ (R.own O.o) (fun a h _ => h)
  refine h₁ env A X φ₁ s₁ _ E O R₁ L₁ fun b cb φ₂ σ₂ s₂ x₂ R₂ r₂ h₂ => ?_
  exact h₂ A X φ₂ s₂ ca cb Q E O.c O.a R₂ (r₁.step x₂ (by simp) (fun a h _ => h)) r₂ (K.step (x₁.trans x₂))

theorem TE.cmp {l r : Expr} {op : CmpOp} {pos : Pos} (h : TE c d l sc ρ σ (kTwo c d r sc ρ (compareOp op) P))
    (hm : behindInMarks op r = false := by rfl) : TE c d (.Compare l [op] [r] pos) sc ρ σ P := by
  intro env A X φ s Q E O R L K
  refine wpAny_Compare1 (h env A X φ s _ E O R L fun a ca φ₁ σ₁ s₁ x₁ R₁ r₁ h₁ => ?_) hm
  have L₁ := L.step x₁ (R.own O.o) (fun a h _ => h)
  refine h₁ env A X φ₁ s₁ _ E O R₁ L₁ fun b cb φ₂ σ₂ s₂ x₂ R₂ r₂ h₂ => ?_
  exact h₂ A X φ₂ s₂ ca cb Q E O.c O.a R₂ (r₁.step x₂ (by simp) (fun a h _ => h)) r₂ (K.step (x₁.trans x₂))

/-- a test -/
noncomputable def TB (c : Cx) (d : Nat) (e : Expr) (sc : Sc) (ρ : List (Option V)) (σ : List (List PyData)) (P : Bool → List (List PyData) → Prop) : Prop :=
  ∀ env A X φ s (Q : Bool → Shared → Prop) (E : Value → Shared → Prop), Ok c d env sc A X → Rel c φ X σ s → Loc env sc ρ φ X s.heap →
    (∀ b φ' σ' s', Step φ φ' [] s s' → Rel c φ' X σ' s' → P b σ' → Q b s') → wpAny (model c.prog c.w) A (isTrue e env (eval e env)) Q E s
/-- truth of a value -/
noncomputable def TT (c : Cx) (d : Nat) (v : V) (σ : List (List PyData)) (P : Bool → List (List PyData) → Prop) : Prop :=
  ∀ A X φ s cv (Q : Bool → Shared → Prop) (E : Value → Shared → Prop), c.Ok → AOk A d → Rel c φ X σ s → VRep s.heap φ X v cv →
    (∀ b φ' σ' s', Step φ φ' [] s s' → Rel c φ' X σ' s' → P b σ' → Q b s') → wpAny (model c.prog c.w) A (truthy cv) Q E s

noncomputable abbrev kTT (c : Cx) (d : Nat) (P : Bool → List (List PyData) → Prop) : V → List (List PyData) → Prop := fun v σ₃ => TT c d v σ₃ P
theorem TT.bool {b : Bool} {P : Bool → List (List PyData) → Prop} (p : P b σ) : TT c d (.d (.bool b)) σ P := by
  intro A X φ s cv Q E C a R r K
  rw [r.bool_inv]
  exact wpAny_truthy_bool (K b φ σ s .refl R p)

theorem TB.cmp {l r : Expr} {op : CmpOp} {pos : Pos} {P : Bool → List (List PyData) → Prop} (h : TE c d l sc ρ σ (kTwo c d r sc ρ (compareOp op) (kTT c d P)))
    (hm : behindInMarks op r = false := by rfl) : TB c d (.Compare l [op] [r] pos) sc ρ σ P := by
  intro env A X φ s Q E O R L K
  refine wpAny_isTrue_Compare1 (h env A X φ s _ E O R L fun a ca φ₁ σ₁ s₁ x₁ R₁ r₁ h₁ => ?_) hm
  have L₁ := L.step x₁ (R.own O.o) (fun a h _ => h)
  refine h₁ env A X φ₁ s₁ _ E O R₁ L₁ fun b cb φ₂ σ₂ s₂ x₂ R₂ r₂ h₂ => ?_
  refine h₂ A X φ₂ s₂ ca cb _ E O.c O.a R₂ (r₁.step x₂ (by simp) (fun a h _ => h)) r₂ fun v cv φ₃ σ₃ s₃ x₃ R₃ r₃ h₃ => ?_
  exact h₃ A X φ₃ s₃ cv Q E O.c O.a R₃ r₃ fun b φ' σ' s' y R' p => K b φ' σ' s' (((x₁.trans x₂).trans x₃).trans y) R' p

/-- tests that are evaluated and asked -/
noncomputable def plainTest : Expr → Bool
  | .UnaryOp .Not _ _ | .BoolOp .. | .IfExp .. | .Compare .. => false
  | _ => true
set_option tactic.hygienic true in
theorem isTrue_plainTest {e : Expr} (h : plainTest e = true) (env : Env) (m : Sem Value) : isTrue e env m = (do let v ← m; standAt e.pos; holding [v] (truthy v)) := by
  unfold PySem.isTrue
  cases e <;> first | rfl | (cases h; done) | (rename_i op _ _; cases op <;> first | rfl | (cases h; done))
theorem TB.plain {e : Expr} {P : Bool → List (List PyData) → Prop} (h : TE c d e sc ρ σ (kTT c d P)) (hp : plainTest e = true := by rfl) : TB c d e sc ρ σ P := by
  intro env A X φ s Q E O R L K
  rw [isTrue_plainTest hp]
  refine wpAny_bind (h env A X φ s _ E O R L fun v cv φ₁ σ₁ s₁ x₁ R₁ r₁ h₁ => ?_)
  refine wpAny_bind (wpAny_standAt (wpAny_holding ?_))
  exact h₁ A X φ₁ s₁ cv Q E O.c O.a R₁ r₁ fun b φ' σ' s' y R' p => K b φ' σ' s' (x₁.trans y) R' p

noncomputable abbrev kIfE (c : Cx) (d : Nat) (b o : Expr) (sc : Sc) (ρ : List (Option V)) (P : V → List (List PyData) → Prop) : Bool → List (List PyData) → Prop := fun x σ₁ => if x then TE c d b sc ρ σ₁ P else TE c d o sc ρ σ₁ P
theorem TE.ifexp {t b o : Expr} {pos : Pos} (h : TB c d t sc ρ σ (kIfE c d b o sc ρ P)) : TE c d (.IfExp t b o pos) sc ρ σ P := by
  intro env A X φ s Q E O R L K
  show wpAny _ A (do if ← isTrue t env (eval t env) then eval b env else eval o env) Q E s
  refine wpAny_bind (h env A X φ s _ E O R L fun x φ₁ σ₁ s₁ x₁ R₁ h₁ => ?_)
  have L₁ := L.step x₁ (R.own O.o) (fun a h _ => h)
  cases x with
  | true => exact h₁ env A X φ₁ s₁ Q E O R₁ L₁ (K.step x₁)
  | false => exact h₁ env A X φ₁ s₁ Q E O R₁ L₁ (K.step x₁)

/-! values -/
theorem TV2.addII {wa wb : Bool} {i j : Int} (p : P (.d (.int (i + j))) σ) : TV2 c d (binaryOp .Add) (.e wa (.int i)) (.e wb (.int j)) σ P := by
  intro A X φ s ca cb Q E C a R ra rb K
  obtain ⟨t, rfl⟩ := ra.int_inv
  obtain ⟨u, rfl⟩ := rb.int_inv
  exact add_int (K.intN R p)
theorem TV2.subII {wa wb : Bool} {i j : Int} (p : P (.d (.int (i - j))) σ) : TV2 c d (binaryOp .Sub) (.e wa (.int i)) (.e wb (.int j)) σ P := by
  intro A X φ s ca cb Q E C a R ra rb K
  obtain ⟨t, rfl⟩ := ra.int_inv
  obtain ⟨u, rfl⟩ := rb.int_inv
  exact sub_int (K.intN R p)
theorem TV2.mulII {wa wb : Bool} {i j : Int} (hs : IntMulOk i j) (p : P (.d (.int (i * j))) σ) : TV2 c d (binaryOp .Mult) (.e wa (.int i)) (.e wb (.int j)) σ P := by
  intro A X φ s ca cb Q E C a R ra rb K
  obtain ⟨t, rfl⟩ := ra.int_inv
  obtain ⟨u, rfl⟩ := rb.int_inv
  exact mul_int (K.intN R p) hs
theorem TV2.modII {wa wb : Bool} {i j : Int} (hj : j ≠ 0) (p : P (.d (.int (i.fmod j))) σ) : TV2 c d (binaryOp .Mod) (.e wa (.int i)) (.e wb (.int j)) σ P := by
  intro A X φ s ca cb Q E C a R ra rb K
  obtain ⟨t, rfl⟩ := ra.int_inv
  obtain ⟨u, rfl⟩ := rb.int_inv
  exact mod_int' hj (K.intN R p)
theorem TV2.divII {wa wb : Bool} {i j : Int} (hj : j ≠ 0) (hp : Builtin.divisionGoesByPylong i j = false) (p : P (.d (.int (i.fdiv j))) σ) : TV2 c d (binaryOp .FloorDiv) (.e wa (.int i)) (.e wb (.int j)) σ P := by
  intro A X φ s ca cb Q E C a R ra rb K
  obtain ⟨t, rfl⟩ := ra.int_inv
  obtain ⟨u, rfl⟩ := rb.int_inv
  exact floordiv_int_or a.hd (fun e => absurd e hj) (fun _ => K.intN R p) (fun _ => .inl hp)
theorem TV2.shlII {wa wb : Bool} {i j : Int} (h0 : 0 ≤ j) (h1 : j ≤ 1000000) (hi : i.natAbs < 2 ^ 64) (p : P (.d (.int (i * 2 ^ j.toNat))) σ) : TV2 c d (binaryOp .LShift) (.e wa (.int i)) (.e wb (.int j)) σ P := by
  intro A X φ s ca cb Q E C a R ra rb K
  obtain ⟨t, rfl⟩ := ra.int_inv
  obtain ⟨u, rfl⟩ := rb.int_inv
  exact lshift_int_small h0 h1 hi (K.intN R p)
theorem TV2.andII {wa wb : Bool} {i j : Int} (p : P (.d (.int (Builtin.bitAnd i j))) σ) : TV2 c d (binaryOp .BitAnd) (.e wa (.int i)) (.e wb (.int j)) σ P := by
  intro A X φ s ca cb Q E C a R ra rb K
  obtain ⟨t, rfl⟩ := ra.int_inv
  obtain ⟨u, rfl⟩ := rb.int_inv
  exact and_int (K.intN R p)
theorem TV2.xorII {wa wb : Bool} {i j : Int} (p : P (.d (.int (Builtin.bitXor i j))) σ) : TV2 c d (binaryOp .BitXor) (.e wa (.int i)) (.e wb (.int j)) σ P := by
  intro A X φ s ca cb Q E C a R ra rb K
  obtain ⟨t, rfl⟩ := ra.int_inv
  obtain ⟨u, rfl⟩ := rb.int_inv
  exact xor_int (K.intN R p)
set_option tactic.hygienic true in
theorem TV2.addSS {x y : Str} (hs : x.length + y.length ≤ sizeLine) (p : P (.d (.str (x ++ y))) σ) : TV2 c d (binaryOp .Add) (.d (.str x)) (.d (.str y)) σ P := by
  intro A X φ s ca cb Q E C a R ra rb K
  obtain ⟨t, rfl⟩ := ra.str_inv
  obtain ⟨u, rfl⟩ := rb.str_inv
  refine PySem.P.add_str ?_
  split
  · rename_i h
    have : x ++ y = y := by
      have h0 : x.cps.size = 0 := by simpa [Str.length] using h
      obtain ⟨xc⟩ := x; obtain ⟨yc⟩ := y
      have : xc = #[] := Array.eq_empty_of_size_eq_zero h0
      subst this
      show (⟨#[] ++ yc⟩ : Str) = _
      simp
    rw [this] at p
    exact K.here R rb p
  · split
    · rename_i h
      have : x ++ y = x := by
        have h0 : y.cps.size = 0 := by simpa [Str.length] using h
        obtain ⟨xc⟩ := x; obtain ⟨yc⟩ := y
        have : yc = #[] := Array.eq_empty_of_size_eq_zero h0
        subst this
        show (⟨xc ++ #[]⟩ : Str) = _
        simp
      rw [this] at p
      exact K.here R ra p
    · exact ⟨by show (x.cps ++ y.cps).size ≤ sizeLine; rw [Array.size_append]; exact hs, K.strN R p⟩
theorem TV2.ltII {wa wb : Bool} {i j : Int} (p : P (.d (.bool (decide (i < j)))) σ) : TV2 c d (compareOp .Lt) (.e wa (.int i)) (.e wb (.int j)) σ P := by
  intro A X φ s ca cb Q E C a R ra rb K
  obtain ⟨t, rfl⟩ := ra.int_inv
  obtain ⟨u, rfl⟩ := rb.int_inv
  exact lt_int (K.here R VRep.bool p)

theorem VRep.reads {h : Heap} {φ : Phi} {X : List Addr} {wk : Bool} {x : PyData} {v : Value} (r : VRep h φ X (.e wk x) v) : ∃ as, Reads h v x as := by
  obtain ⟨as, r⟩ := Rd.reads r
  exact ⟨as, Reads.keeps (fun b o e => cut_sub e) r⟩
theorem TV2.eqDD {wa wb : Bool} {x y : PyData} (hx : SeqAt.shaped x = true) (hy : SeqAt.shaped y = true) (p : P (.d (.bool (x.eqv y))) σ) : TV2 c d (compareOp .Eq) (.e wa x) (.e wb y) σ P := by
  intro A X φ s ca cb Q E C a R ra rb K
  obtain ⟨as, ra⟩ := ra.reads
  obtain ⟨bs, rb⟩ := rb.reads
  exact eq_dataH ra rb hx hy a.units (K.here R VRep.bool p)
theorem TV2.neDD {wa wb : Bool} {x y : PyData} (hx : SeqAt.shaped x = true) (hy : SeqAt.shaped y = true) (p : P (.d (.bool (!x.eqv y))) σ) : TV2 c d (compareOp .NotEq) (.e wa x) (.e wb y) σ P := by
  intro A X φ s ca cb Q E C a R ra rb K
  obtain ⟨as, ra⟩ := ra.reads
  obtain ⟨bs, rb⟩ := rb.reads
  exact ne_dataH ra rb hx hy a.units (K.here R VRep.bool p)
end
end Mine
end -- Fw2
section -- Fw3
set_option tactic.hygienic false
open PySem PySem.W PySem.Calls PyProof.Rows
set_option linter.unusedVariables false
set_option linter.unusedSimpArgs false
set_option autoImplicit false
namespace Mine

inductive Fl where
  | next | brk | cont
  | ret (v : V)

noncomputable def FRep (h : Heap) (φ : Phi) (X : List Addr) : Fl → Flow → Prop
  | .next, .next => True
  | .brk, .brk => True
  | .cont, .cont => True
  | .ret v, .ret cv => VRep h φ X v cv
  | _, _ => False

noncomputable abbrev ContS (c : Cx) (env : Env) (sc : Sc) (X : List Addr) (φ : Phi) (s : Shared) (P : Fl → List (Option V) → List (List PyData) → Prop) (Q : Flow → Shared → Prop) : Prop :=
  ∀ fl f φ' ρ' σ' s', Step φ φ' (own env sc) s s' → Rel c φ' X σ' s' → Loc env sc ρ' φ' X s'.heap → FRep s'.heap φ' X fl f → P fl ρ' σ' → Q f s'

noncomputable def TSS (c : Cx) (d : Nat) (st : List Stmt) (sc : Sc) (ρ : List (Option V)) (σ : List (List PyData)) (P : Fl → List (Option V) → List (List PyData) → Prop) : Prop :=
  ∀ env A X φ s (Q : Flow → Shared → Prop) (E : Value → Shared → Prop), Ok c d env sc A X → Rel c φ X σ s → Loc env sc ρ φ X s.heap →
    ContS c env sc X φ s P Q → wpAny (model c.prog c.w) A (execs st env) Q E s
noncomputable def TS (c : Cx) (d : Nat) (st : Stmt) (sc : Sc) (ρ : List (Option V)) (σ : List (List PyData)) (P : Fl → List (Option V) → List (List PyData) → Prop) : Prop :=
  ∀ env A X φ s (Q : Flow → Shared → Prop) (E : Value → Shared → Prop), Ok c d env sc A X → Rel c φ X σ s → Loc env sc ρ φ X s.heap →
    ContS c env sc X φ s P Q → wpAny (model c.prog c.w) A (exec st env) Q E s

/-- a store -/
noncomputable def TA (c : Cx) (d : Nat) (t : Expr) (sc : Sc) (ρ : List (Option V)) (σ : List (List PyData)) (v : V) (P : List (Option V) → List (List PyData) → Prop) : Prop :=
  ∀ env A X φ s cv (Q : Unit → Shared → Prop) (E : Value → Shared → Prop), Ok c d env sc A X → Rel c φ X σ s → Loc env sc ρ φ X s.heap → VRep s.heap φ X v cv →
    (∀ φ' ρ' σ' s', Step φ φ' (own env sc) s s' → Rel c φ' X σ' s' → Loc env sc ρ' φ' X s'.heap → P ρ' σ' → Q () s') → wpAny (model c.prog c.w) A (assign t env cv) Q E s

section
variable {c : Cx} {d : Nat} {sc : Sc} {ρ : List (Option V)} {σ : List (List PyData)} {P : Fl → List (Option V) → List (List PyData) → Prop}

theorem Step.own {φ φ' : Phi} {X : List Addr} {s s' : Shared} (x : Step φ φ' [] s s') {env : Env} (R : Rel c φ X σ s) (h : ∀ b ∈ own env sc, b ∈ X) : Step φ φ' (own env sc) s s' :=
  x.wide (fun _ h => nomatch h) fun a ha _ => R.xs a (h a ha)
theorem ContS.step {env : Env} {X : List Addr} {φ φ₁ : Phi} {s s₁ : Shared} {Q : Flow → Shared → Prop} (k : ContS c env sc X φ s P Q) (x : Step φ φ₁ (own env sc) s s₁) : ContS c env sc X φ₁ s₁ P Q :=
  fun fl f φ' ρ' σ' s' y R L r p => k fl f φ' ρ' σ' s' (x.trans y) R L r p

theorem TSS.nil (p : P .next ρ σ) : TSS c d [] sc ρ σ P := by
  intro env A X φ s Q E O R L K
  exact wpAny_execs_nil (K .next .next φ ρ σ s .refl R L trivial p)
noncomputable abbrev kSeq (c : Cx) (d : Nat) (rest : List Stmt) (sc : Sc) (P : Fl → List (Option V) → List (List PyData) → Prop) : Fl → List (Option V) → List (List PyData) → Prop := fun fl ρ₁ σ₁ => match fl with | .next => TSS c d rest sc ρ₁ σ₁ P | fl => P fl ρ₁ σ₁
theorem TSS.cons {st : Stmt} {rest : List Stmt} (h : TS c d st sc ρ σ (kSeq c d rest sc P)) : TSS c d (st :: rest) sc ρ σ P := by
  intro env A X φ s Q E O R L K
  refine wpAny_execs_cons (h env A X φ s _ E O R L fun fl f φ₁ ρ₁ σ₁ s₁ x₁ R₁ L₁ r₁ h₁ => ?_)
  cases fl <;> cases f <;> first | (exact r₁.elim) | skip
  · exact h₁ env A X φ₁ s₁ Q E O R₁ L₁ (K.step x₁)
  · exact K .brk .brk φ₁ ρ₁ σ₁ s₁ x₁ R₁ L₁ trivial h₁
  · exact K .cont .cont φ₁ ρ₁ σ₁ s₁ x₁ R₁ L₁ trivial h₁
  · exact K (.ret _) (.ret _) φ₁ ρ₁ σ₁ s₁ x₁ R₁ L₁ r₁ h₁

theorem TS.mono {st : Stmt} {P' : Fl → List (Option V) → List (List PyData) → Prop} (h : TS c d st sc ρ σ P) (hp : ∀ fl ρ' σ', P fl ρ' σ' → P' fl ρ' σ') : TS c d st sc ρ σ P' :=
  fun env A X φ s Q E O R L K => h env A X φ s Q E O R L fun fl f φ' ρ' σ' s' x R L r p => K fl f φ' ρ' σ' s' x R L r (hp _ _ _ p)
theorem TSS.mono {st : List Stmt} {P' : Fl → List (Option V) → List (List PyData) → Prop} (h : TSS c d st sc ρ σ P) (hp : ∀ fl ρ' σ', P fl ρ' σ' → P' fl ρ' σ') : TSS c d st sc ρ σ P' :=
  fun env A X φ s Q E O R L K => h env A X φ s Q E O R L fun fl f φ' ρ' σ' s' x R L r p => K fl f φ' ρ' σ' s' x R L r (hp _ _ _ p)
theorem TE.mono {e : Expr} {P P' : V → List (List PyData) → Prop} (h : TE c d e sc ρ σ P) (hp : ∀ v σ', P v σ' → P' v σ') : TE c d e sc ρ σ P' :=
  fun env A X φ s Q E O R L K => h env A X φ s Q E O R L fun v cv φ' σ' s' x R r p => K v cv φ' σ' s' x R r (hp _ _ p)
theorem TA.mono {t : Expr} {v : V} {P P' : List (Option V) → List (List PyData) → Prop} (h : TA c d t sc ρ σ v P) (hp : ∀ ρ' σ', P ρ' σ' → P' ρ' σ') : TA c d t sc ρ σ v P' :=
  fun env A X φ s cv Q E O R L r K => h env A X φ s cv Q E O R L r fun φ' ρ' σ' s' x R L p => K φ' ρ' σ' s' x R L (hp _ _ p)

/-- one place of ground that is none turns -/
theorem Rel.wr {φ : Phi} {X : List Addr} {s : Shared} (R : Rel c φ X σ s) {a : Addr} (ha : a ∈ X) {h' : Heap} {tk : Nat} (hs : Heap.SameBut a s.heap h') (hl : ∃ o, h'.get? a = some o) (ht : s.toks ≤ tk) (hn : a ∉ tabs) : Rel c φ X σ { s with heap := h', toks := tk } where
  len := R.len
  nd := R.nd
  dj := R.dj
  ob := fun i b xs e1 e2 => by
    obtain ⟨items, ⟨o, h1⟩, h3⟩ := R.ob i b xs e1 e2
    have hb : b ≠ a := fun e => R.dj b (List.mem_of_getElem? e1) (e ▸ ha)
    refine ⟨items, ⟨o, (hs.2 b hb).trans h1⟩, RdAll.keeps .refl (fun b' o' e => ?_) h3⟩
    obtain ⟨e3, e4⟩ := cut_get.mp e
    exact cut_get.mpr ⟨(hs.2 b' fun e => e4 (List.mem_append.mpr (.inr (e ▸ ha)))).trans e3, e4⟩
  xs := fun b hb => by
    by_cases e : b = a
    · subst e; exact hl
    · obtain ⟨o, h⟩ := R.xs b hb; exact ⟨o, (hs.2 b e).trans h⟩
  bs := fun b o e => by
    obtain ⟨h1, h2, h3⟩ := R.bs b o e
    exact ⟨(hs.2 b fun e => h3 (e ▸ ha)).trans h1, h2, h3⟩
  tb := fun b hb => ⟨(R.tb b hb).1, (R.tb b hb).2.keeps (fun b' o' e => by
    obtain ⟨e3, e4⟩ := cut_get.mp e
    exact cut_get.mpr ⟨(hs.2 b' fun e => e4 (List.mem_append.mpr (.inr (e ▸ ha)))).trans e3, e4⟩) fun o e => (hs.2 b fun q => hn (q ▸ hb)).trans e⟩
  env := by obtain ⟨h, t, rfl⟩ := R.env; exact ⟨h', tk, rfl⟩
  tk := R.tk.mono ht
  pl := R.pl
  pt := R.pt
theorem Step.wr {φ : Phi} {W : List Addr} {s : Shared} {a : Addr} (ha : a ∈ W) {h' : Heap} {tk : Nat} (hs : Heap.SameBut a s.heap h') (hl : ∃ o, h'.get? a = some o) : Step φ φ W s { s with heap := h', toks := tk } where
  pre := List.prefix_refl _
  keep := fun b o e _ h2 _ => (hs.2 b fun q => h2 (q ▸ ha)).trans e
  fresh := fun _ h1 h2 => absurd h1 h2
  alive := fun b o e => by
    by_cases q : b = a
    · subst q; exact hl
    · exact ⟨o, (hs.2 b q).trans e⟩
  tau := .refl

theorem nodup_inj {α : Type} : ∀ {l : List α}, l.Nodup → ∀ {i j : Nat} {x : α}, l[i]? = some x → l[j]? = some x → i = j
  | [], _, i, j, x, h, _ => by simp at h
  | y :: r, nd, 0, 0, x, _, _ => rfl
  | y :: r, nd, 0, j + 1, x, h1, h2 => by
    simp at h1; subst h1
    rw [List.nodup_cons] at nd
    exact absurd (List.mem_of_getElem? (by simpa using h2)) nd.1
  | y :: r, nd, i + 1, 0, x, h1, h2 => by
    simp at h2; subst h2
    rw [List.nodup_cons] at nd
    exact absurd (List.mem_of_getElem? (by simpa using h1)) nd.1
  | y :: r, nd, i + 1, j + 1, x, h1, h2 => by
    rw [List.nodup_cons] at nd
    rw [nodup_inj nd.2 (i := i) (j := j) (by simpa using h1) (by simpa using h2)]
theorem names_inj {l : List (Str × NameKind)} (nd : (l.map (·.1)).Nodup) {k k' : Nat} {x : Str} {a b : NameKind} (h1 : l[k]? = some (x, a)) (h2 : l[k']? = some (x, b)) : k = k' := by
  have e1 : (l.map (·.1))[k]? = some x := by rw [List.getElem?_map, h1]; rfl
  have e2 : (l.map (·.1))[k']? = some x := by rw [List.getElem?_map, h2]; rfl
  exact nodup_inj nd e1 e2

theorem Heap.Ns.is {h : Heap} {a : Addr} {m : Str → Option Value} (n : h.Ns a m) : ∃ o, h.get? a = some o := let ⟨o, _, _, e, _⟩ := n; ⟨o, e⟩
theorem Heap.IsCell.is {h : Heap} {a : Addr} {m : Option Value} (n : h.IsCell a m) : ∃ o, h.get? a = some o := let ⟨o, e, _⟩ := n; ⟨o, e⟩

theorem set_get_self {ρ : List (Option V)} {k : Nat} {v w : V} (h : (ρ.set k (some v))[k]? = some (some w)) : w = v := by
  rw [List.getElem?_set] at h
  simp at h
  exact h.2.symm
theorem set_get_other {ρ : List (Option V)} {k k' : Nat} {v w : V} (hk : k' ≠ k) (h : (ρ.set k (some v))[k']? = some (some w)) : ρ[k']? = some (some w) := by
  rwa [List.getElem?_set_ne (Ne.symm hk)] at h

/-- a store into a name -/
noncomputable def TN (c : Cx) (d : Nat) (x : Str) (sc : Sc) (ρ : List (Option V)) (σ : List (List PyData)) (v : V) (P : List (Option V) → List (List PyData) → Prop) : Prop :=
  ∀ env A X φ s cv (Q : Unit → Shared → Prop) (E : Value → Shared → Prop), Ok c d env sc A X → Rel c φ X σ s → Loc env sc ρ φ X s.heap → VRep s.heap φ X v cv →
    (∀ φ' ρ' σ' s', Step φ φ' (own env sc) s s' → Rel c φ' X σ' s' → Loc env sc ρ' φ' X s'.heap → P ρ' σ' → Q () s') → wpAny (model c.prog c.w) A (storeName env x cv) Q E s
theorem TA.name {x : Str} {pos : Pos} {v : V} {P : List (Option V) → List (List PyData) → Prop} (h : TN c d x sc ρ σ v P) : TA c d (.Name x pos) sc ρ σ v P := by
  intro env A X φ s cv Q E O R L r K
  exact wpAny_assign_Name (h env A X φ s cv Q E O R L r K)
theorem TN.loc (k : Nat) {x : Str} {v : V} {P : List (Option V) → List (List PyData) → Prop} (p : P (ρ.set k (some v)) σ) (hk : sc.names[k]? = some (x, .local) := by rfl) : TN c d x sc ρ σ v P := by
  intro env A X φ s cv Q E O R L r K
  obtain ⟨m, h1, h2⟩ := L.ns
  have hX : env.locals ∈ X := O.o _ List.mem_cons_self
  have hW : env.locals ∈ own env sc := List.mem_cons_self
  refine wpAny_storeName_local (O.e.kind hk) h1 (fun h' hn hs => ?_) (by rw [O.e.s, O.e.fn]; rfl)
  have st : Step φ φ (own env sc) s { s with heap := h', toks := s.toks + 1 } := Step.wr hW hs (Heap.Ns.is hn)
  refine K φ (ρ.set k (some v)) σ _ st (R.wr hX hs (Heap.Ns.is hn) (Nat.le_succ _) (L.notab (.inl rfl) R.tbs)) ⟨by rw [List.length_set]; exact L.len, ⟨_, hn, fun k' y w e1 e2 => ?_⟩, fun k' y kd e1 e2 => ?_⟩ p
  · by_cases hkk : k' = k
    · subst hkk
      rw [hk] at e1; cases e1
      rw [set_get_self e2]
      exact ⟨cv, by simp, r.step st O.o (fun a h _ => h)⟩
    · obtain ⟨cw, q1, q2⟩ := h2 k' y w e1 (set_get_other hkk e2)
      have hne : y ≠ x := fun e => hkk (names_inj O.e.nd (e ▸ e1) hk)
      exact ⟨cw, by simp [hne, q1], q2.step st O.o (fun a h _ => h)⟩
  · obtain ⟨a, ov, q1, ⟨o, q2, q2'⟩, q0, q3⟩ := L.cl k' y kd e1 e2
    have hne : a ≠ env.locals := fun e => O.e.lc (e ▸ List.mem_map.mpr ⟨(y, a), PySem.mem_of_lookup q1, rfl⟩)
    refine ⟨a, ov, q1, ⟨o, (hs.2 a hne).trans q2, q2'⟩, q0, fun w e3 => ?_⟩
    have hkk : k' ≠ k := by
      rintro rfl
      rw [hk] at e1; cases e1
      rcases e2 with e2 | e2 <;> cases e2
    obtain ⟨cw, q4, q5⟩ := q3 w (set_get_other hkk e3)
    exact ⟨cw, q4, q5.step st O.o (fun a h _ => h)⟩

theorem TA.loc (k : Nat) {x : Str} {pos : Pos} {v : V} {P : List (Option V) → List (List PyData) → Prop} (p : P (ρ.set k (some v)) σ) (hk : sc.names[k]? = some (x, .local) := by rfl) : TA c d (.Name x pos) sc ρ σ v P := TA.name (TN.loc k p hk)

theorem cell_addr_inj {l : List (Str × Addr)} (nd : (l.map (·.2)).Nodup) {x y : Str} {a : Addr} (h1 : l.lookup x = some a) (h2 : l.lookup y = some a) : x = y := by
  have m1 := PySem.mem_of_lookup h1
  have m2 := PySem.mem_of_lookup h2
  obtain ⟨i, e1⟩ := List.mem_iff_getElem?.mp m1
  obtain ⟨j, e2⟩ := List.mem_iff_getElem?.mp m2
  have : i = j := nodup_inj nd (x := a) (by rw [List.getElem?_map, e1]; rfl) (by rw [List.getElem?_map, e2]; rfl)
  subst this
  rw [e1] at e2; cases e2; rfl

theorem TN.cell (k : Nat) {x : Str} {v : V} {P : List (Option V) → List (List PyData) → Prop} (p : P (ρ.set k (some v)) σ) (hk : sc.names[k]? = some (x, .cell) := by rfl) (ho : x ∈ sc.own := by decide) : TN c d x sc ρ σ v P := by
  intro env A X φ s cv Q E O R L r K
  obtain ⟨m, h1, h2⟩ := L.ns
  obtain ⟨a, ov, a1, a2, a0, _⟩ := L.cl k x _ hk (.inl rfl)
  have hW : a ∈ own env sc := mem_own_of_lookup ho a1
  have hX : a ∈ X := O.o _ hW
  refine wpAny_storeName_cell (by rw [O.e.s]; exact O.e.fn) (O.e.kind hk) a1 a2 fun h' hn hs => ?_
  have st : Step φ φ (own env sc) s { s with heap := h', toks := s.toks } := Step.wr hW hs (Heap.IsCell.is hn)
  have hLa : env.locals ≠ a := fun e => O.e.lc (e ▸ List.mem_map.mpr ⟨(x, a), PySem.mem_of_lookup a1, rfl⟩)
  refine K φ (ρ.set k (some v)) σ _ st (R.wr (tk := s.toks) hX hs (Heap.IsCell.is hn) (Nat.le_refl _) (L.notab (.inr ⟨k, x, _, hk, .inl rfl, a1⟩) R.tbs)) ⟨by rw [List.length_set]; exact L.len, ⟨m, h1.sameBut hs hLa, fun k' y w e1 e2 => ?_⟩, fun k' y kd e1 e2 => ?_⟩ p
  · have hkk : k' ≠ k := by rintro rfl; rw [hk] at e1; cases e1
    obtain ⟨cw, q1, q2⟩ := h2 k' y w e1 (set_get_other hkk e2)
    exact ⟨cw, q1, q2.step st O.o (fun a h _ => h)⟩
  · obtain ⟨b, ov', q1, ⟨o, q2, q2'⟩, q0, q3⟩ := L.cl k' y kd e1 e2
    by_cases hkk : k' = k
    · subst hkk
      rw [hk] at e1; cases e1
      rw [q1] at a1; cases a1
      refine ⟨_, _, q1, hn, q0, fun w e3 => ?_⟩
      rw [set_get_self e3]
      exact ⟨cv, rfl, r.step st O.o (fun a h _ => h)⟩
    · have hne : b ≠ a := by
        rintro rfl
        have := cell_addr_inj O.e.cn q1 a1
        subst this
        exact hkk (names_inj O.e.nd e1 hk)
      refine ⟨b, ov', q1, ⟨o, (hs.2 b hne).trans q2, q2'⟩, q0, fun w e3 => ?_⟩
      obtain ⟨cw, q4, q5⟩ := q3 w (set_get_other hkk e3)
      exact ⟨cw, q4, q5.step st O.o (fun a h _ => h)⟩

theorem TA.cell (k : Nat) {x : Str} {pos : Pos} {v : V} {P : List (Option V) → List (List PyData) → Prop} (p : P (ρ.set k (some v)) σ) (hk : sc.names[k]? = some (x, .cell) := by rfl) (ho : x ∈ sc.own := by decide) : TA c d (.Name x pos) sc ρ σ v P := TA.name (TN.cell k p hk ho)

/-- an environment of a scope, to reckon what a scope tells -/
noncomputable def envS (sc : Sc) : Env := { scope := sc.s, locals := 0, globals := 0, cells := [], qual := Str.empty, func := none, code := .none, frame := none, builtins := 0 }
theorem swapsWith_env {value : Expr} {t : Option Expr} {line : Nat} {env env' : Env} (h : env.scope = env'.scope) : swapsWith value t line env = swapsWith value t line env' := by
  unfold swapsWith Env.blockKind Env.kindOf
  rw [h]
theorem swappedStores_env {ts : List Expr} {value : Expr} {env env' : Env} (h : env.scope = env'.scope) : swappedStores ts value env = swappedStores ts value env' := by
  unfold swappedStores Env.blockKind Env.kindOf
  rw [h]
noncomputable def noStarT : Expr → Bool
  | .Starred .. => false
  | _ => true
theorem assignEach_one {t : Expr} (h : noStarT t = true) (env : Env) : (assignEach [t] env).map (·.2) = [assign t env] := by
  cases t <;> first | rfl | (cases h; done)
noncomputable abbrev kAsg (c : Cx) (d : Nat) (t : Expr) (sc : Sc) (ρ : List (Option V)) (P : List (Option V) → List (List PyData) → Prop) : V → List (List PyData) → Prop := fun v σ₁ => TA c d t sc ρ σ₁ v P
theorem TS.assign {t value : Expr} {pos : Pos} (h : TE c d value sc ρ σ (kAsg c d t sc ρ (P .next)))
    (hs : swapsWith value (some t) pos.line (envS sc) = pure false := by rfl) (hw : swappedStores [t] value (envS sc) = pure none := by rfl) (ht : noStarT t = true := by rfl) : TS c d (.Assign [t] value pos) sc ρ σ P := by
  intro env A X φ s Q E O R L K
  have es : env.scope = (envS sc).scope := O.e.s
  refine wpAny_Assign_stores (h env A X φ s _ E O R L fun v cv φ₁ σ₁ s₁ x₁ R₁ r₁ h₁ => ?_) ((swapsWith_env es).trans hs) ((swappedStores_env es).trans hw)
  have L₁ := L.step x₁ (R.own O.o) (fun a h _ => h)
  rw [assignEach_one ht env]
  exact h₁ env A X φ₁ s₁ cv _ E O R₁ L₁ r₁ fun φ' ρ' σ' s' y R' L' p => K .next .next φ' ρ' σ' s' ((x₁.own R O.o).trans y) R' L' trivial p

noncomputable abbrev kRet (ρ : List (Option V)) (P : Fl → List (Option V) → List (List PyData) → Prop) : V → List (List PyData) → Prop := fun v σ₁ => P (.ret v) ρ σ₁
theorem TS.ret {e : Expr} {pos : Pos} (h : TE c d e sc ρ σ (kRet ρ P)) : TS c d (.Return (some e) pos) sc ρ σ P := by
  intro env A X φ s Q E O R L K
  refine wpAny_Return_some (h env A X φ s _ E O R L fun v cv φ₁ σ₁ s₁ x₁ R₁ r₁ h₁ => ?_)
  exact K (.ret v) (.ret cv) φ₁ ρ σ₁ s₁ (x₁.own R O.o) R₁ (L.step x₁ (R.own O.o) (fun a h _ => h)) r₁ h₁

noncomputable abbrev kIte (c : Cx) (d : Nat) (b o : List Stmt) (sc : Sc) (ρ : List (Option V)) (P : Fl → List (Option V) → List (List PyData) → Prop) : Bool → List (List PyData) → Prop := fun x σ₁ => if x then TSS c d b sc ρ σ₁ P else TSS c d o sc ρ σ₁ P
theorem TS.ite {t : Expr} {b o : List Stmt} {pos : Pos} (h : TB c d t sc ρ σ (kIte c d b o sc ρ P)) : TS c d (.If t b o pos) sc ρ σ P := by
  intro env A X φ s Q E O R L K
  refine wpAny_If (h env A X φ s _ E O R L fun x φ₁ σ₁ s₁ x₁ R₁ h₁ => ?_)
  have L₁ := L.step x₁ (R.own O.o) (fun a h _ => h)
  cases x with
  | true => exact h₁ env A X φ₁ s₁ Q E O R₁ L₁ (K.step (x₁.own R O.o))
  | false => exact h₁ env A X φ₁ s₁ Q E O R₁ L₁ (K.step (x₁.own R O.o))

theorem wpAny_dropValue {prog : Program} {w : World} {A : Around} {E : Value → Shared → Prop} {s : Shared} {e : Expr} {pos : Pos} {v : Value} {Q : Flow → Shared → Prop} (h : Q .next s) : wpAny (model prog w) A (dropValue e pos v) Q E s := by
  unfold dropValue
  split
  · exact wpAny_pure h
  · exact wpAny_bind (wpAny_standAt (wpAny_bind (wpAny_runValue (codeAny_builtin entry_let_go (show wpAny _ _ (PySem.ret .none) _ _ s from wpAny_pure (wpAny_pure h))))))
  · exact wpAny_pure h
noncomputable abbrev kExp (ρ : List (Option V)) (P : Fl → List (Option V) → List (List PyData) → Prop) : V → List (List PyData) → Prop := fun _ σ₁ => P .next ρ σ₁
theorem TS.expr {e : Expr} {pos : Pos} (h : TE c d e sc ρ σ (kExp ρ P)) (hs : swapsWith e none pos.line (envS sc) = pure false := by rfl) : TS c d (.Expr e pos) sc ρ σ P := by
  intro env A X φ s Q E O R L K
  rw [exec_Expr env e pos (by unfold interactive; rw [O.e.s, O.e.fn]; rfl) ((swapsWith_env (env' := envS sc) O.e.s).trans hs)]
  refine wpAny_bind (wpAny_standAt (wpAny_bind (h env A X φ s _ E O R L fun v cv φ₁ σ₁ s₁ x₁ R₁ r₁ h₁ => ?_)))
  exact wpAny_dropValue (K .next .next φ₁ ρ σ₁ s₁ (x₁.own R O.o) R₁ (L.step x₁ (R.own O.o) (fun a h _ => h)) trivial h₁)
end
end Mine
end -- Fw3
section -- Fw4
set_option tactic.hygienic false
open PySem PySem.W PySem.Calls PyProof.Rows
set_option linter.unusedVariables false
set_option linter.unusedSimpArgs false
set_option autoImplicit false
namespace Mine

/-- what stands since a point -/
structure Gnd (φ₀ : Phi) (G : Heap) (φ : Phi) (X : List Addr) (h : Heap) : Prop where
  pre : φ₀.l <+: φ.l
  tau : TauLe φ₀.τ φ.τ
  keep : ∀ b o, G.get? b = some o → (cut h (φ.l ++ X)).get? b = some o

/-- an iterator that gives xs: wr what it writes -/
structure ItOk (c : Cx) (A : Around) (target : Expr) (it : Value) (wr : List Addr) (wk : Bool) (xs : List PyData) (Good : List (List PyData) → Prop) (St : Nat → Heap → Prop) (φ₀ : Phi) (G : Heap) : Prop where
  frame : ∀ i h h', St i h → (∀ b ∈ wr, ∀ o, h.get? b = some o → h'.get? b = some o) → St i h'
  al : ∀ i h, St i h → ∀ b ∈ wr, ∃ o, h.get? b = some o
  item : ∀ (i : Nat) x (X : List Addr) φ σ (s : Shared) (Q : Value → Shared → Prop) (E : Value → Shared → Prop), xs[i]? = some x → St i s.heap → Rel c φ (wr ++ X) σ s → Good σ → Gnd φ₀ G φ (wr ++ X) s.heap →
    (∀ cv h' tk τ', St (i + 1) h' → (∀ b o, b ∉ wr → s.heap.get? b = some o → h'.get? b = some o) → s.toks ≤ tk → TauLe φ.τ τ' → TkOk τ' tk → Rd wk τ' (cut h' (φ.l ++ (wr ++ X))) cv x → Q cv { s with heap := h', toks := tk }) →
    wpAny (model c.prog c.w) A (pyNext it) (fun r s₁ => match r with | none => False | some cv => wpAny (model c.prog c.w) A (letOwnedTupleGo target it cv) (fun _ s₂ => Q cv s₂) E s₁) E s
  done : ∀ (X : List Addr) φ σ (s : Shared) (Q : Option Value → Shared → Prop) (E : Value → Shared → Prop), St xs.length s.heap → Rel c φ (wr ++ X) σ s → Good σ → Gnd φ₀ G φ (wr ++ X) s.heap →
    (∀ h' tk, (∀ b o, b ∉ wr → s.heap.get? b = some o → h'.get? b = some o) → s.toks ≤ tk → Q none { s with heap := h', toks := tk }) → wpAny (model c.prog c.w) A (pyNext it) Q E s
  self : ∀ (i : Nat) (s : Shared) (Q : Value → Shared → Prop) (E : Value → Shared → Prop), St i s.heap → Q it s → wpAny (model c.prog c.w) A (pyIter it) Q E s

/-- an iterable, evaluated and begun -/
noncomputable def TIter (c : Cx) (d : Nat) (target iter : Expr) (sc : Sc) (ρ : List (Option V)) (σ : List (List PyData)) (P : List PyData → Bool → (List (List PyData) → Prop) → List (List PyData) → Prop) : Prop :=
  ∀ env A X φ s (Q : Value → Shared → Prop) (E : Value → Shared → Prop), Ok c d env sc A X → Rel c φ X σ s → Loc env sc ρ φ X s.heap →
    (∀ it xs wk Good wr St φ' σ' s', Step φ φ' [] s s' → Rel c φ' (wr ++ X) σ' s' → (∀ b ∈ wr, s.heap.get? b = none) → ItOk c A target it wr wk xs Good St φ' (cut s'.heap (φ'.l ++ (wr ++ X))) → St 0 s'.heap → Good σ' → P xs wk Good σ' → Q it s') →
    wpAny (model c.prog c.w) A (eval iter env) (fun x s₁ => wpAny (model c.prog c.w) A (pyIter x) Q E s₁) E s

/-- an iterable value -/
noncomputable def TItr (c : Cx) (d : Nat) (target : Expr) (v : V) (xs : List PyData) (wk : Bool) (Good : List (List PyData) → Prop) (σ : List (List PyData)) : Prop :=
  Good σ ∧ ∀ A X φ s cv (Q : Value → Shared → Prop) (E : Value → Shared → Prop), c.Ok → AOk A d → Rel c φ X σ s → VRep s.heap φ X v cv →
    (∀ it wr St h' tk, (∀ b o, s.heap.get? b = some o → h'.get? b = some o) → s.toks ≤ tk → (∀ b ∈ wr, s.heap.get? b = none) → ItOk c A target it wr wk xs Good St φ (cut s.heap (φ.l ++ X)) → St 0 h' → Q it { s with heap := h', toks := tk }) →
    wpAny (model c.prog c.w) A (pyIter cv) Q E s

theorem Gnd.mono {φ₀ φ₁ φ : Phi} {G G' h : Heap} {X : List Addr} (g : Gnd φ₁ G' φ X h) (hp : φ₀.l <+: φ₁.l) (ht : TauLe φ₀.τ φ₁.τ) (hk : ∀ b o, G.get? b = some o → G'.get? b = some o) : Gnd φ₀ G φ X h :=
  ⟨hp.trans g.pre, ht.trans g.tau, fun b o e => g.keep b o (hk b o e)⟩
theorem ItOk.ground {c : Cx} {A : Around} {φ₀ φ₁ : Phi} {G G' : Heap} {target : Expr} {it : Value} {wr : List Addr} {wk : Bool} {xs : List PyData} {Good : List (List PyData) → Prop} {St : Nat → Heap → Prop} (I : ItOk c A target it wr wk xs Good St φ₀ G)
    (hp : φ₀.l <+: φ₁.l) (ht : TauLe φ₀.τ φ₁.τ) (hk : ∀ b o, G.get? b = some o → G'.get? b = some o) : ItOk c A target it wr wk xs Good St φ₁ G' where
  frame := I.frame
  al := I.al
  item := fun i x X φ σ s Q E h1 h2 h3 h4 h5 h6 => I.item i x X φ σ s Q E h1 h2 h3 h4 (h5.mono hp ht hk) h6
  done := fun X φ σ s Q E h2 h3 h4 h5 h6 => I.done X φ σ s Q E h2 h3 h4 (h5.mono hp ht hk) h6
  self := I.self

noncomputable abbrev kTurnF (Good : List (List PyData) → Prop) (N : List (Option V) → List (List PyData) → Prop) (P : Fl → List (Option V) → List (List PyData) → Prop) : Fl → List (Option V) → List (List PyData) → Prop := fun fl ρ₂ σ₂ => match fl with
    | .next => Good σ₂ ∧ N ρ₂ σ₂
    | .cont => Good σ₂ ∧ N ρ₂ σ₂
    | .brk => P .next ρ₂ σ₂
    | .ret v => P (.ret v) ρ₂ σ₂
noncomputable abbrev kTurn (c : Cx) (d : Nat) (body : List Stmt) (sc : Sc) (Good : List (List PyData) → Prop) (N : List (Option V) → List (List PyData) → Prop) (P : Fl → List (Option V) → List (List PyData) → Prop) : List (Option V) → List (List PyData) → Prop := fun ρ₁ σ₁ => TSS c d body sc ρ₁ σ₁ (kTurnF Good N P)
noncomputable def TLoop (c : Cx) (d : Nat) (target : Expr) (body orelse : List Stmt) (sc : Sc) (wk : Bool) (Good : List (List PyData) → Prop) : List PyData → List (Option V) → List (List PyData) → (Fl → List (Option V) → List (List PyData) → Prop) → Prop
  | [], ρ, σ, P => TSS c d orelse sc ρ σ P
  | x :: xs, ρ, σ, P => TA c d target sc ρ σ (.e wk x) (kTurn c d body sc Good (fun ρ₂ σ₂ => TLoop c d target body orelse sc wk Good xs ρ₂ σ₂ P) P)

section
variable {c : Cx} {d : Nat} {sc : Sc} {ρ : List (Option V)} {σ : List (List PyData)} {P : Fl → List (Option V) → List (List PyData) → Prop}

theorem Rel.alive {φ : Phi} {X : List Addr} {s : Shared} (R : Rel c φ X σ s) {a : Addr} (h : a ∈ φ.l) : ∃ o, s.heap.get? a = some o := by
  obtain ⟨i, e⟩ := List.mem_iff_getElem?.mp h
  have hi : i < σ.length := R.len ▸ (List.getElem?_eq_some_iff.mp e).1
  obtain ⟨items, ⟨o, h1⟩, _⟩ := R.ob i a σ[i] e (by simp [hi])
  exact ⟨_, h1⟩

theorem cut_growX {φ : Phi} {X wr : List Addr} {h h' : Heap} (hk : ∀ b o, h.get? b = some o → h'.get? b = some o) (hw : ∀ b ∈ wr, h.get? b = none) {b : Addr} {o : Obj} (e : (cut h (φ.l ++ X)).get? b = some o) : (cut h' (φ.l ++ (wr ++ X))).get? b = some o := by
  obtain ⟨e3, e4⟩ := cut_get.mp e
  refine cut_get.mpr ⟨hk _ _ e3, fun q => ?_⟩
  rcases List.mem_append.mp q with q | q
  · exact e4 (List.mem_append.mpr (.inl q))
  · rcases List.mem_append.mp q with q | q
    · rw [hw b q] at e3; cases e3
    · exact e4 (List.mem_append.mpr (.inr q))
theorem cut_drop {φ : Phi} {X wr : List Addr} {h h' : Heap} (hk : ∀ b o, b ∉ wr → h.get? b = some o → h'.get? b = some o) {b : Addr} {o : Obj} (e : (cut h (φ.l ++ (wr ++ X))).get? b = some o) : (cut h' (φ.l ++ X)).get? b = some o := by
  obtain ⟨e3, e4⟩ := cut_get.mp e
  refine cut_get.mpr ⟨hk _ _ (fun q => e4 (List.mem_append.mpr (.inr (List.mem_append.mpr (.inl q))))) e3, fun q => ?_⟩
  rcases List.mem_append.mp q with q | q
  · exact e4 (List.mem_append.mpr (.inl q))
  · exact e4 (List.mem_append.mpr (.inr (List.mem_append.mpr (.inr q))))

theorem Rel.growX {φ : Phi} {X wr : List Addr} {s : Shared} (R : Rel c φ X σ s) {h' : Heap} {tk : Nat} (hk : ∀ b o, s.heap.get? b = some o → h'.get? b = some o) (hw : ∀ b ∈ wr, s.heap.get? b = none) (ha : ∀ b ∈ wr, ∃ o, h'.get? b = some o) (ht : s.toks ≤ tk) :
    Rel c φ (wr ++ X) σ { s with heap := h', toks := tk } where
  len := R.len
  nd := R.nd
  dj := fun a h1 h2 => by
    rcases List.mem_append.mp h2 with h2 | h2
    · obtain ⟨o, e⟩ := R.alive h1
      rw [hw a h2] at e; cases e
    · exact R.dj a h1 h2
  ob := fun i a xs e1 e2 => by
    obtain ⟨items, ⟨o, h1⟩, h3⟩ := R.ob i a xs e1 e2
    refine ⟨items, ⟨o, hk _ _ h1⟩, RdAll.keeps .refl (fun b o' e => ?_) h3⟩
    obtain ⟨e3, e4⟩ := cut_get.mp e
    refine cut_get.mpr ⟨hk _ _ e3, fun q => ?_⟩
    rcases List.mem_append.mp q with q | q
    · exact e4 (List.mem_append.mpr (.inl q))
    · rcases List.mem_append.mp q with q | q
      · rw [hw b q] at e3; cases e3
      · exact e4 (List.mem_append.mpr (.inr q))
  xs := fun a h => by
    rcases List.mem_append.mp h with h | h
    · exact ha a h
    · obtain ⟨o, e⟩ := R.xs a h; exact ⟨o, hk _ _ e⟩
  bs := fun b o e => by
    obtain ⟨h1, h2, h3⟩ := R.bs b o e
    refine ⟨hk _ _ h1, h2, fun q => ?_⟩
    rcases List.mem_append.mp q with q | q
    · rw [hw b q] at h1; cases h1
    · exact h3 q
  tb := fun b hb => ⟨List.mem_append.mpr (.inr (R.tb b hb).1), (R.tb b hb).2.keeps (fun b o e => cut_growX hk hw e) fun o e => hk _ _ e⟩
  env := by obtain ⟨h, t, rfl⟩ := R.env; exact ⟨h', tk, rfl⟩
  tk := R.tk.mono ht
  pl := R.pl
  pt := R.pt

theorem Rel.drop {φ : Phi} {X wr : List Addr} {s : Shared} (R : Rel c φ (wr ++ X) σ s) {h' : Heap} {tk : Nat} (hk : ∀ b o, b ∉ wr → s.heap.get? b = some o → h'.get? b = some o) (hx : ∀ a ∈ X, a ∉ wr) (hT : ∀ b ∈ tabs, b ∈ X) (ht : s.toks ≤ tk) : Rel c φ X σ { s with heap := h', toks := tk } where
  len := R.len
  nd := R.nd
  dj := fun a h1 h2 => R.dj a h1 (List.mem_append.mpr (.inr h2))
  ob := fun i a xs e1 e2 => by
    obtain ⟨items, ⟨o, h1⟩, h3⟩ := R.ob i a xs e1 e2
    refine ⟨items, ⟨o, hk _ _ (fun q => R.dj a (List.mem_of_getElem? e1) (List.mem_append.mpr (.inl q))) h1⟩, RdAll.keeps .refl (fun b o' e => cut_drop hk e) h3⟩
  xs := fun a h => by
    obtain ⟨o, e⟩ := R.xs a (List.mem_append.mpr (.inr h))
    exact ⟨o, hk _ _ (hx a h) e⟩
  bs := fun b o e => by
    obtain ⟨h1, h2, h3⟩ := R.bs b o e
    exact ⟨hk _ _ (fun q => h3 (List.mem_append.mpr (.inl q))) h1, h2, fun q => h3 (List.mem_append.mpr (.inr q))⟩
  tb := fun b hb => ⟨hT b hb, (R.tb b hb).2.keeps (fun b o e => cut_drop hk e) fun o e => hk _ _ (hx b (hT b hb)) e⟩
  env := by obtain ⟨h, t, rfl⟩ := R.env; exact ⟨h', tk, rfl⟩
  tk := R.tk.mono ht
  pl := R.pl
  pt := R.pt

theorem Step.narrow {φ φ' : Phi} {W wr : List Addr} {s s' : Shared} (x : Step φ φ' (W ++ wr) s s') (hw : ∀ b ∈ wr, s.heap.get? b = none) : Step φ φ' W s s' where
  pre := x.pre
  keep := fun b o e h1 h2 => x.keep b o e h1 (fun h3 => (List.mem_append.mp h3).elim h2 fun h4 => by rw [hw b h4] at e; cases e)
  fresh := fun a h1 h2 => ⟨fun h3 => (x.fresh a h1 h2).1 (List.mem_append.mpr (.inl h3)), (x.fresh a h1 h2).2⟩
  alive := x.alive
  tau := x.tau
theorem Step.nexts {φ : Phi} {W wr : List Addr} {s : Shared} {h' : Heap} {tk : Nat} (hk : ∀ b o, b ∉ wr → s.heap.get? b = some o → h'.get? b = some o) (ha : ∀ b ∈ wr, ∃ o, h'.get? b = some o) : Step φ φ (W ++ wr) s { s with heap := h', toks := tk } where
  pre := List.prefix_refl _
  keep := fun b o e _ h2 _ => hk b o (fun q => h2 (List.mem_append.mpr (.inr q))) e
  fresh := fun _ h1 h2 => absurd h1 h2
  alive := fun b o e => by
    by_cases q : b ∈ wr
    · exact ha b q
    · exact ⟨o, hk b o q e⟩
  tau := .refl

theorem Rel.nexts {φ : Phi} {X wr : List Addr} {s : Shared} (R : Rel c φ (wr ++ X) σ s) {h' : Heap} {tk : Nat} (hk : ∀ b o, b ∉ wr → s.heap.get? b = some o → h'.get? b = some o) (ha : ∀ b ∈ wr, ∃ o, h'.get? b = some o) (hT : ∀ b ∈ tabs, b ∉ wr) (ht : s.toks ≤ tk) : Rel c φ (wr ++ X) σ { s with heap := h', toks := tk } where
  len := R.len
  nd := R.nd
  dj := R.dj
  ob := fun i a xs e1 e2 => by
    obtain ⟨items, ⟨o, h1⟩, h3⟩ := R.ob i a xs e1 e2
    refine ⟨items, ⟨o, hk _ _ (fun q => R.dj a (List.mem_of_getElem? e1) (List.mem_append.mpr (.inl q))) h1⟩, RdAll.keeps .refl (fun b o' e => ?_) h3⟩
    obtain ⟨e3, e4⟩ := cut_get.mp e
    exact cut_get.mpr ⟨hk _ _ (fun q => e4 (List.mem_append.mpr (.inr (List.mem_append.mpr (.inl q))))) e3, e4⟩
  xs := fun a h => by
    by_cases q : a ∈ wr
    · exact ha a q
    · obtain ⟨o, e⟩ := R.xs a h
      exact ⟨o, hk _ _ q e⟩
  bs := fun b o e => by
    obtain ⟨h1, h2, h3⟩ := R.bs b o e
    exact ⟨hk _ _ (fun q => h3 (List.mem_append.mpr (.inl q))) h1, h2, h3⟩
  tb := fun b hb => ⟨(R.tb b hb).1, (R.tb b hb).2.keeps (fun b o e => by
    obtain ⟨e3, e4⟩ := cut_get.mp e
    exact cut_get.mpr ⟨hk _ _ (fun q => e4 (List.mem_append.mpr (.inr (List.mem_append.mpr (.inl q))))) e3, e4⟩) fun o e => hk _ _ (hT b hb) e⟩
  env := by obtain ⟨h, t, rfl⟩ := R.env; exact ⟨h', tk, rfl⟩
  tk := R.tk.mono ht
  pl := R.pl
  pt := R.pt

theorem Rel.tauUp {φ : Phi} {X : List Addr} {s : Shared} (R : Rel c φ X σ s) {τ' : TokMap} (ht : TauLe φ.τ τ') (hz : TkOk τ' s.toks) : Rel c ⟨φ.l, τ'⟩ X σ s := by
  have := R.growT (h' := s.heap) (tk := s.toks) (fun _ _ e => e) ht hz
  exact this
theorem Step.tauUp {φ φ' : Phi} {W : List Addr} {s s' : Shared} (x : Step φ φ' W s s') {τ' : TokMap} (ht : TauLe φ'.τ τ') : Step φ ⟨φ'.l, τ'⟩ W s s' := ⟨x.pre, x.keep, x.fresh, x.alive, x.tau.trans ht⟩

noncomputable abbrev kItr (c : Cx) (d : Nat) (target : Expr) (P : List PyData → Bool → (List (List PyData) → Prop) → List (List PyData) → Prop) : V → List (List PyData) → Prop := fun v σ₁ => ∃ xs wk Good, TItr c d target v xs wk Good σ₁ ∧ P xs wk Good σ₁
theorem TIter.of {target iter : Expr} {P : List PyData → Bool → (List (List PyData) → Prop) → List (List PyData) → Prop} (h : TE c d iter sc ρ σ (kItr c d target P)) : TIter c d target iter sc ρ σ P := by
  intro env A X φ s Q E O R L K
  refine h env A X φ s _ E O R L fun v cv φ₁ σ₁ s₁ x₁ R₁ r₁ h₁ => ?_
  obtain ⟨xs, wk, Good, ⟨hg, hit⟩, p⟩ := h₁
  refine hit A X φ₁ s₁ cv _ E O.c O.a R₁ r₁ fun it wr St h' tk hk ht hw I st => ?_
  refine K it xs wk Good wr St φ₁ σ₁ _ (x₁.trans (Step.grow hk)) (R₁.growX hk hw (I.al 0 _ st) ht) (fun b hb => ?_) (I.ground (List.prefix_refl _) .refl fun b o e => cut_growX hk hw e) st hg p
  cases q : s.heap.get? b with
  | none => rfl
  | some o =>
    obtain ⟨o', e'⟩ := x₁.alive b o q
    rw [hw b hb] at e'; cases e'

theorem Loc.nexts {env : Env} {φ : Phi} {X wr : List Addr} {h h' : Heap} (L : Loc env sc ρ φ (wr ++ X) h) {τ' : TokMap} (ht : TauLe φ.τ τ') (ho : ∀ b, Uses env sc b → b ∉ wr) (hk : ∀ b o, b ∉ wr → h.get? b = some o → h'.get? b = some o) :
    Loc env sc ρ ⟨φ.l, τ'⟩ (wr ++ X) h' :=
  L.mono (φ' := ⟨φ.l, τ'⟩) (List.prefix_refl _) ht (fun a h1 h2 => absurd h1 h2) (fun b hb _ o e => hk b o (ho b hb) e) fun b o e => by
    obtain ⟨e3, e4⟩ := cut_get.mp e
    exact cut_get.mpr ⟨hk _ _ (fun q => e4 (List.mem_append.mpr (.inr (List.mem_append.mpr (.inl q))))) e3, e4⟩
theorem Loc.drop {env : Env} {φ : Phi} {X wr : List Addr} {h h' : Heap} (L : Loc env sc ρ φ (wr ++ X) h) (ho : ∀ b, Uses env sc b → b ∉ wr) (hk : ∀ b o, b ∉ wr → h.get? b = some o → h'.get? b = some o) :
    Loc env sc ρ φ X h' :=
  L.mono (List.prefix_refl _) .refl (fun a h1 h2 => absurd h1 h2) (fun b hb _ o e => hk b o (ho b hb) e) fun b o e => cut_drop hk e

noncomputable abbrev kFor (c : Cx) (d : Nat) (target : Expr) (body orelse : List Stmt) (sc : Sc) (ρ : List (Option V)) (P : Fl → List (Option V) → List (List PyData) → Prop) : List PyData → Bool → (List (List PyData) → Prop) → List (List PyData) → Prop := fun xs wk Good σ₁ => TLoop c d target body orelse sc wk Good xs ρ σ₁ P
theorem TS.for_ {target iter : Expr} {body orelse : List Stmt} {pos : Pos}
    (h : TIter c d target iter sc ρ σ (kFor c d target body orelse sc ρ P)) (hs : ∀ env x, foldedSetIterable iter env x = pure x := by intros; rfl) : TS c d (.For target iter body orelse pos) sc ρ σ P := by
  intro env A X φ s Q E O R L K
  refine wpAny_For (h env A X φ s _ E O R L fun it xs wk Good wr St φ₁ σ₁ s₁ x₁ R₂ hw I st hg hl => ?_) (hs env)
  have hX : ∀ a ∈ X, a ∉ wr := fun a ha hq => by
    obtain ⟨o, e⟩ := R.xs a ha
    rw [hw a hq] at e; cases e
  have hTX : ∀ b ∈ tabs, b ∈ X := fun b hb => (R.tb b hb).1
  have hTw : ∀ b ∈ tabs, b ∉ wr := fun b hb => hX b (hTX b hb)
  have hU : ∀ b, Uses env sc b → b ∉ wr := fun b u q => by
    obtain ⟨o, e⟩ := L.uses u
    rw [hw b q] at e; cases e
  have x₂ : Step φ φ₁ (own env sc ++ wr) s s₁ := by
    refine ⟨x₁.pre, fun b o e h1 h2 => x₁.keep b o e h1 (fun q => nomatch q), fun a h1 h2 => ⟨fun q => ?_, (x₁.fresh a h1 h2).2⟩, x₁.alive, x₁.tau⟩
    rcases List.mem_append.mp q with q | q
    · obtain ⟨o, e⟩ := R.xs a (O.o a q)
      rw [(x₁.fresh a h1 h2).2] at e; cases e
    · exact R₂.dj a h1 (List.mem_append.mpr (.inl q))
  have O' : Ok c d env sc A (wr ++ X) := ⟨O.c, O.a, O.e, fun b hb => List.mem_append.mpr (.inr (O.o b hb))⟩
  have L₂ : Loc env sc ρ φ₁ (wr ++ X) s₁.heap := L.step x₁ (R.own O.o) (fun a ha ⟨o, e⟩ => (List.mem_append.mp ha).resolve_left fun q => by rw [hw a q] at e; cases e)
  refine codeAny_forLoop_any (fun n s' => ∃ (k : Nat) (φk : Phi) (ρk : List (Option V)) (σk : List (List PyData)), Step φ φk (own env sc ++ wr) s s' ∧ Rel c φk (wr ++ X) σk s' ∧ Loc env sc ρk φk (wr ++ X) s'.heap ∧ St k s'.heap ∧
      Gnd φ₁ (cut s₁.heap (φ₁.l ++ (wr ++ X))) φk (wr ++ X) s'.heap ∧ Good σk ∧ TLoop c d target body orelse sc wk Good (xs.drop k) ρk σk P ∧ k ≤ xs.length ∧ n = xs.length - k) ?_ xs.length
    ⟨0, φ₁, ρ, σ₁, x₂, R₂, L₂, st, ⟨List.prefix_refl _, .refl, fun _ _ e => e⟩, hg, by rw [List.drop_zero]; exact hl, Nat.zero_le _, rfl⟩
  rintro n s' ⟨k, φk, ρk, σk, xk, Rk, Lk, stk, Gk, hgk, hlk, hkl, rfl⟩
  by_cases hlt : k < xs.length
  · have hx : xs[k]? = some xs[k] := List.getElem?_eq_getElem hlt
    have hd : xs.drop k = xs[k] :: xs.drop (k + 1) := List.drop_eq_getElem_cons hlt
    rw [hd] at hlk
    have key := fun (q : Value → Shared → Prop) E' => I.item k xs[k] X φk σk s' q E' hx stk Rk hgk Gk
    refine wpAny_mono (key ?q _ ?g) (fun r s₂ h₂ => ?h) fun _ _ e => e
    case h =>
      cases r with
      | none => exact h₂.elim
      | some cv => exact h₂
    case g =>
      intro ci h₃ tk₃ τ₃ st₃ hk₃ ht₃ hτ₃ hz₃ rd
      have ha₃ := I.al _ _ st₃
      have R₃' := (Rk.nexts (tk := tk₃) hk₃ ha₃ hTw ht₃).tauUp hτ₃ hz₃
      have x₃ : Step φk ⟨φk.l, τ₃⟩ (own env sc ++ wr) s' { s' with heap := h₃, toks := tk₃ } := (Step.nexts hk₃ ha₃).tauUp hτ₃
      have hcut : ∀ b o, (cut s'.heap (φk.l ++ (wr ++ X))).get? b = some o → (cut h₃ (φk.l ++ (wr ++ X))).get? b = some o := fun b o e => by
        obtain ⟨e3, e4⟩ := cut_get.mp e
        exact cut_get.mpr ⟨hk₃ _ _ (fun q => e4 (List.mem_append.mpr (.inr (List.mem_append.mpr (.inl q))))) e3, e4⟩
      have L₃ : Loc env sc ρk ⟨φk.l, τ₃⟩ (wr ++ X) h₃ := Lk.nexts hτ₃ hU hk₃
      refine hlk env A (wr ++ X) ⟨φk.l, τ₃⟩ _ ci _ _ O' R₃' L₃ rd fun φ₄ ρ₄ σ₄ s₄ x₄ R₄ L₄ h₄ => ?_
      refine h₄ env A (wr ++ X) φ₄ s₄ _ _ O' R₄ L₄ fun fl f φ₅ ρ₅ σ₅ s₅ x₅ R₅ L₅ r₅ h₅ => ?_
      have x45 : Step ⟨φk.l, τ₃⟩ φ₅ (own env sc) { s' with heap := h₃, toks := tk₃ } s₅ := x₄.trans x₅
      have wrA : ∀ a ∈ own env sc ++ wr, a ∉ own env sc → ∃ o, h₃.get? a = some o := fun a ha hq => ha₃ a ((List.mem_append.mp ha).resolve_left hq)
      have xall : Step φ φ₅ (own env sc ++ wr) s s₅ := (xk.trans x₃).trans (x45.wide (fun a ha => List.mem_append.mpr (.inl ha)) wrA)
      have R₅' : Rel c φ₅ X σ₅ s₅ := by
        have := R₅.drop (h' := s₅.heap) (tk := s₅.toks) (fun _ _ _ e => e) hX hTX (Nat.le_refl _)
        exact this
      have L₅' : Loc env sc ρ₅ φ₅ X s₅.heap := L₅.drop hU (fun _ _ _ e => e)
      have xend : Step φ φ₅ (own env sc) s s₅ := xall.narrow hw
      have again : Good σ₅ ∧ TLoop c d target body orelse sc wk Good (xs.drop (k + 1)) ρ₅ σ₅ P → ∃ m, m < xs.length - k ∧ ∃ (k' : Nat) (φk : Phi) (ρk : List (Option V)) (σk : List (List PyData)), Step φ φk (own env sc ++ wr) s s₅ ∧ Rel c φk (wr ++ X) σk s₅ ∧ Loc env sc ρk φk (wr ++ X) s₅.heap ∧ St k' s₅.heap ∧
          Gnd φ₁ (cut s₁.heap (φ₁.l ++ (wr ++ X))) φk (wr ++ X) s₅.heap ∧ Good σk ∧ TLoop c d target body orelse sc wk Good (xs.drop k') ρk σk P ∧ k' ≤ xs.length ∧ m = xs.length - k' := fun ⟨hq1, hq⟩ => by
        refine ⟨xs.length - (k + 1), by omega, k + 1, φ₅, ρ₅, σ₅, xall, R₅, L₅, I.frame _ _ _ st₃ fun b hb o e => ?_, ⟨Gk.pre.trans x45.pre, (Gk.tau.trans hτ₃).trans x45.tau, fun b o e => ?_⟩, hq1, hq, hlt, rfl⟩
        · exact x45.keep b o e (fun q => Rk.dj b q (List.mem_append.mpr (.inl hb))) (fun q => hX b (O.o b q) hb) (fun q => hTw b q hb)
        · exact x45.cut (fun a ha => List.mem_append.mpr (.inr (O.o a ha))) (fun a ha _ => ha) (hcut _ _ (Gk.keep _ _ e))
      have rV : ∀ v cv, VRep s₅.heap φ₅ (wr ++ X) v cv → VRep s₅.heap φ₅ X v cv := fun v cv r => r.mono (List.prefix_refl _) .refl (fun b o e => cut_drop (fun _ _ _ e => e) e)
      cases fl <;> cases f <;> first | (exact r₅.elim) | skip
      · exact again h₅
      · exact K .next .next φ₅ ρ₅ σ₅ s₅ xend R₅' L₅' trivial h₅
      · exact again h₅
      · exact K (.ret _) (.ret _) φ₅ ρ₅ σ₅ s₅ xend R₅' L₅' (rV _ _ r₅) h₅
  · have hk' : k = xs.length := by omega
    subst hk'
    rw [List.drop_length] at hlk
    refine I.done X φk σk s' _ _ stk Rk hgk Gk fun h₃ tk₃ hk₃ ht₃ => ?_
    have R₃ := Rk.drop (tk := tk₃) hk₃ hX hTX ht₃
    have L₃ : Loc env sc ρk φk X h₃ := Lk.drop hU hk₃
    have x₃ : Step φ φk (own env sc) s { s' with heap := h₃, toks := tk₃ } := by
      have y := xk.narrow hw
      refine ⟨y.pre, fun b o e h1 h2 h9 => ?_, y.fresh, fun b o e => ?_, y.tau⟩
      · exact hk₃ b o (fun q => by rw [hw b q] at e; cases e) (y.keep b o e h1 h2 h9)
      · have hb : b ∉ wr := fun q => by rw [hw b q] at e; cases e
        obtain ⟨o', e'⟩ := y.alive b o e
        exact ⟨o', hk₃ b o' hb e'⟩
    refine hlk env A X φk _ _ _ O R₃ L₃ fun fl f φ₅ ρ₅ σ₅ s₅ x₅ R₅ L₅ r₅ h₅ => ?_
    exact K fl f φ₅ ρ₅ σ₅ s₅ (x₃.trans x₅) R₅ L₅ r₅ h₅
end
end Mine
end -- Fw4
section -- Fw5
set_option tactic.hygienic false
open PySem PySem.W PySem.Calls PyProof.Rows
set_option linter.unusedVariables false
set_option linter.unusedSimpArgs false
set_option autoImplicit false
namespace Mine

noncomputable def plainTarget : Expr → Bool
  | .Tuple .. => false
  | .List .. => false
  | _ => true
theorem letOwned_plain {t : Expr} (h : plainTarget t = true) (it v : Value) : letOwnedTupleGo t it v = pure () := by
  unfold letOwnedTupleGo
  cases t <;> first | rfl | (cases h; done)

theorem cut_but {h h' : Heap} {M wr : List Addr} (hw : ∀ b ∈ wr, b ∈ M) (hk : ∀ b o, b ∉ wr → h.get? b = some o → h'.get? b = some o) : ∀ b o, (cut h M).get? b = some o → (cut h' M).get? b = some o := fun b o e => by
  obtain ⟨e1, e2⟩ := cut_get.mp e
  exact cut_get.mpr ⟨hk b o (fun q => e2 (hw b q)) e1, e2⟩
theorem wr_mem {l wr X : List Addr} : ∀ b ∈ wr, b ∈ l ++ (wr ++ X) := fun b hb => List.mem_append.mpr (.inr (List.mem_append.mpr (.inl hb)))

/-- the ints from a on -/
noncomputable def rngL (a : Int) : Nat → List PyData
  | 0 => []
  | n + 1 => .int a :: rngL (a + 1) n
theorem rngL_length : ∀ (n : Nat) (a : Int), (rngL a n).length = n
  | 0, _ => rfl
  | n + 1, a => by simp [rngL, rngL_length n]
theorem rngL_get : ∀ (n : Nat) (a : Int) (i : Nat) (x : PyData), (rngL a n)[i]? = some x → x = .int (a + i)
  | 0, a, i, x, h => by simp [rngL] at h
  | n + 1, a, 0, x, h => by simp [rngL] at h; rw [← h]; simp
  | n + 1, a, i + 1, x, h => by
    have := rngL_get n (a + 1) i x (by simpa [rngL] using h)
    rw [this]; congr 1; push_cast; omega


/-- numbered -/
noncomputable def enumL : Nat → List PyData → List PyData
  | _, [] => []
  | i, x :: xs => .tuple [.int i, x] :: enumL (i + 1) xs
theorem enumL_length : ∀ (xs : List PyData) (i : Nat), (enumL i xs).length = xs.length
  | [], _ => rfl
  | x :: xs, i => by simp [enumL, enumL_length xs]
theorem enumL_get : ∀ (xs : List PyData) (k i : Nat) (y : PyData), (enumL k xs)[i]? = some y → ∃ x, xs[i]? = some x ∧ y = .tuple [.int ((k + i : Nat) : Int), x]
  | [], k, i, y, h => by simp [enumL] at h
  | x :: xs, k, 0, y, h => by simp [enumL] at h; exact ⟨x, by simp, by simp [← h]⟩
  | x :: xs, k, i + 1, y, h => by
    obtain ⟨z, h1, h2⟩ := enumL_get xs (k + 1) i y (by simpa [enumL] using h)
    exact ⟨z, by simpa using h1, by rw [h2]; congr 3; omega⟩

section
variable {c : Cx} {d : Nat} {sc : Sc} {ρ : List (Option V)} {σ : List (List PyData)} {P : List PyData → List (List PyData) → Prop}

theorem ItOk.lst {A : Around} {target : Expr} {I l : Addr} {wk : Bool} {xs : List PyData} {Good : List (List PyData) → Prop} {φ₀ : Phi} {G : Heap} (hh : A.handled = none) (ht : plainTarget target = true ∨ xs = [])
    (cur : ∀ X φ σ s, Rel c φ ([I] ++ X) σ s → Good σ → Gnd φ₀ G φ ([I] ++ X) s.heap → ∃ items, s.heap.IsList l items ∧ RdAll wk φ.τ (cut s.heap (φ.l ++ ([I] ++ X))) items.toList xs) :
    ItOk c A target (.ref I) [I] wk xs Good (fun i h => h.IsListIter I l i) φ₀ G where
  frame := fun i h h' st hk => st.at fun o e => hk I (by simp) o e
  al := fun i h st b hb => by rw [List.mem_singleton.mp hb]; obtain ⟨o, e, _⟩ := st; exact ⟨o, e⟩
  item := fun i x X φ σ s Q E hx st R hg g K => by
    have ht : plainTarget target = true := ht.resolve_right fun e => by rw [e] at hx; simp at hx
    obtain ⟨items, hl, rd⟩ := cur X φ σ s R hg g
    obtain ⟨v, hv, rv⟩ := RdAll.get rd hx
    refine wpAny_pyNext_list_item st hl (by simpa using hv) fun h' st' hs => ?_
    have hk : ∀ b o, b ∉ [I] → s.heap.get? b = some o → h'.get? b = some o := fun b o hb e => hs.extBut b o (fun q => hb (by simp [q])) e
    show wpAny _ A (letOwnedTupleGo target (.ref I) v) _ E _
    rw [letOwned_plain ht]
    exact wpAny_pure (K v h' s.toks φ.τ st' hk (Nat.le_refl _) .refl R.tk (Rd.keeps .refl (cut_but wr_mem hk) rv))
  done := fun X φ σ s Q E st R hg g K => by
    obtain ⟨items, hl, rd⟩ := cur X φ σ s R hg g
    have hlen : items.size = xs.length := by rw [← RdAll.length_eq rd]; simp
    refine wpAny_pyNext_list_end hh st hl (by simp [hlen]) fun h' he => ?_
    exact K h' s.toks (fun b o hb e => he b o (fun q => hb (by simp [q])) e) (Nat.le_refl _)
  self := fun i s Q E st q => wpAny_pyIter_listiter st q

theorem TItr.list {target : Expr} {wk : Bool} {xs : List PyData} (ht : plainTarget target = true ∨ xs = []) : TItr c d target (.e wk (.list xs)) xs wk (fun _ => True) σ := by
  refine ⟨trivial, ?_⟩
  intro A X φ s cv Q E C a R r K
  obtain ⟨l, items, rfl, hl, hm, rd⟩ := r.list_inv
  refine wpAny_pyIter_list hl ?_
  obtain ⟨o, e, hoc, n, hod⟩ := hl
  refine K _ [s.heap.objs.size] _ _ s.toks (fun b o e => Heap.get?_push_of_some _ e) (Nat.le_refl _) (fun b hb => ?_) (ItOk.lst (l := l) a.hd ht fun X' φ' σ' s' R' _ g => ?_) ⟨_, Heap.get?_push_size _ rfl, rfl, rfl⟩
  · rw [List.mem_singleton.mp hb]; exact get_none (Nat.le_refl _)
  · have e' : (cut s.heap (φ.l ++ X)).get? l = some o := cut_get.mpr ⟨e, hm⟩
    exact ⟨items, ⟨o, cut_sub (g.keep _ _ e'), hoc, n, hod⟩, RdAll.keeps g.tau g.keep rd⟩
/-- a tracked list that does not turn meanwhile -/
theorem TItr.ref {target : Expr} {i : Nat} {xs : List PyData} (ht : plainTarget target = true ∨ xs = []) (hi : σ[i]? = some xs) : TItr c d target (.r i) xs false (fun σ' => σ'[i]? = some xs) σ := by
  refine ⟨hi, ?_⟩
  intro A X φ s cv Q E C a R r K
  obtain ⟨l, h1, rfl⟩ := r
  obtain ⟨items, hl, rd⟩ := R.ob i l xs h1 hi
  refine wpAny_pyIter_list hl.isList ?_
  refine K _ [s.heap.objs.size] _ _ s.toks (fun b o e => Heap.get?_push_of_some _ e) (Nat.le_refl _) (fun b hb => ?_) (ItOk.lst (l := l) a.hd ht fun X' φ' σ' s' R' hg g => ?_) ⟨_, Heap.get?_push_size _ rfl, rfl, rfl⟩
  · rw [List.mem_singleton.mp hb]; exact get_none (Nat.le_refl _)
  · obtain ⟨items', hl', rd'⟩ := R'.ob i l xs (prefix_get g.pre h1) hg
    exact ⟨items', hl'.isList, rd'⟩

theorem TItr.tuple {target : Expr} {wk : Bool} {xs : List PyData} (ht : plainTarget target = true) : TItr c d target (.e wk (.tuple xs)) xs wk (fun _ => True) σ := by
  refine ⟨trivial, ?_⟩
  intro A X φ s cv Q E C a R r K
  obtain ⟨l, items, rfl, hl, hm, rd⟩ := r.tuple_inv
  have hlt : l < s.heap.objs.size := by obtain ⟨o, e, _⟩ := hl; exact Heap.lt_size e
  have hne : l ≠ s.heap.objs.size := Nat.ne_of_lt hlt
  have hlen : items.size = xs.length := by rw [← RdAll.length_eq rd]; simp
  refine wpAny_pyIter_tuple hl ?_
  have W := Walks.tuple (prog := c.prog) (w := c.w) (A := A) a.hd s.heap.objs.size l hne items
  obtain ⟨o, e, hoc, n, hod⟩ := hl
  have e' : (cut s.heap (φ.l ++ X)).get? l = some o := cut_get.mpr ⟨e, hm⟩
  refine K _ [s.heap.objs.size] (fun i h => h.IsTupleIter s.heap.objs.size l i) _ s.toks (fun b o e => Heap.get?_push_of_some _ e) (Nat.le_refl _) (fun b hb => ?_) ⟨?_, ?_, ?_, ?_, fun i s' Q' E' st q => ?_⟩ ⟨_, Heap.get?_push_size _ rfl, rfl, rfl⟩
  · rw [List.mem_singleton.mp hb]; exact get_none (Nat.le_refl _)
  · intro i h h' st hk
    exact st.at fun o e => hk _ (by simp) o e
  · intro i h st b hb
    rw [List.mem_singleton.mp hb]; obtain ⟨o, e, _⟩ := st; exact ⟨o, e⟩
  · intro i x X' φ' σ' s' Q' E' hx st R' _ g K'
    have hi : i < items.size := hlen ▸ (List.getElem?_eq_some_iff.mp hx).1
    refine wpAny_with_toks (Nat.le_refl _) (W.item i s' _ _ hi ⟨st, ⟨o, cut_sub (g.keep _ _ e'), hoc, n, hod⟩⟩ fun v h' tk hv st' hk => ?_)
    intro htk
    show wpAny _ A (letOwnedTupleGo target (.ref _) v) _ _ _
    rw [letOwned_plain ht]
    have rv : Rd wk φ.τ (cut s.heap (φ.l ++ X)) v x := RdAll.pos rd (by simpa using hv) hx
    exact wpAny_pure (K' v h' tk φ'.τ st'.1 hk htk .refl (R'.tk.mono htk) (Rd.keeps .refl (cut_but wr_mem hk) (Rd.keeps g.tau g.keep rv)))
  · intro X' φ' σ' s' Q' E' st R' _ g K'
    refine wpAny_with_toks (Nat.le_refl _) (W.done s' _ _ ⟨by rw [hlen]; exact st, ⟨o, cut_sub (g.keep _ _ e'), hoc, n, hod⟩⟩ fun h' tk hk => ?_)
    intro htk
    exact K' h' tk hk htk
  · exact wpAny_pyIter_tupleiter st q

theorem TItr.rng {target : Expr} {x y : Int} (ht : plainTarget target = true) (hs : Builtin.Range.small x y 1 = true) (hx : x ≤ y) : TItr c d target (.rng x y) (rngL x (y - x).toNat) false (fun _ => True) σ := by
  refine ⟨trivial, ?_⟩
  intro A X φ s cv Q E C a R r K
  obtain ⟨l, t, u, w, rfl, hr⟩ := r
  have hr' : IsRange s.heap l x y 1 t u w := cut_sub hr
  refine wpAny_pyIter_range hr' hs ?_
  have hrs : Builtin.Range.rangeSize x y 1 = ((y - x).toNat : Int) := by rw [rangeSize_one]; split <;> omega
  have W := Walks.range (prog := c.prog) (w := c.w) (A := A) a.hd s.heap.objs.size x 1 (y - x).toNat
  refine K _ [s.heap.objs.size] (fun i h => IsRangeIter h s.heap.objs.size (x + i) (((y - x).toNat : Int) - i) 1) _ s.toks (fun b o e => Heap.get?_push_of_some _ e) (Nat.le_refl _) (fun b hb => ?_) ⟨?_, ?_, ?_, ?_, fun i s' Q' E' st q => W.self i s' Q' E' (by rw [Int.mul_one]; exact st) q⟩ ?_
  · rw [List.mem_singleton.mp hb]; exact get_none (Nat.le_refl _)
  · intro i h h' st hk
    exact hk _ (by simp) _ st
  · intro i h st b hb
    rw [List.mem_singleton.mp hb]; exact ⟨_, st⟩
  · intro i z X' φ' σ' s' Q' E' hz st R' _ g K'
    have hi : i < (y - x).toNat := by have := (List.getElem?_eq_some_iff.mp hz).1; rwa [rngL_length] at this
    refine wpAny_pyNext_range_item st (by omega) fun h' st' hs' => ?_
    show wpAny _ A (letOwnedTupleGo target (.ref _) _) _ _ _
    rw [letOwned_plain ht]
    refine wpAny_pure (K' _ h' (s'.toks + 1) (φ'.reg s'.toks (.int (x + i))).τ ?_ (fun b o hb e => hs'.extBut b o (fun q => hb (by simp [q])) e) (Nat.le_succ _) (TauLe.reg R'.tk (Nat.le_refl _)) (TkOk.reg R'.tk (Nat.le_refl _) (Nat.lt_succ_self _)) ?_)
    · have e1 : x + ((i + 1 : Nat) : Int) = x + (i : Int) + 1 := by push_cast; omega
      have e2 : ((y - x).toNat : Int) - ((i + 1 : Nat) : Int) = ((y - x).toNat : Int) - (i : Int) - 1 := by push_cast; omega
      rw [e1, e2]; exact st'
    · rw [rngL_get _ _ _ _ hz]
      exact .int fun _ => Phi.reg_self
  · intro X' φ' σ' s' Q' E' st R' _ g K'
    rw [rngL_length] at st
    refine wpAny_pyNext_range_end a.hd st (by omega) fun h' he => ?_
    exact K' h' s'.toks (fun b o hb e => he b o (fun q => hb (by simp [q])) e) (Nat.le_refl _)
  · show IsRangeIter _ _ _ _ _
    rw [show x + ((0 : Nat) : Int) = x by simp, show (((y - x).toNat : Nat) : Int) - ((0 : Nat) : Int) = ((y - x).toNat : Int) by simp, ← hrs]
    exact Heap.get?_push_size _ rfl
end
end Mine
end -- Fw5
section -- Fw6
set_option tactic.hygienic false
open PySem PySem.W PySem.Calls PyProof.Rows
set_option linter.unusedVariables false
set_option linter.unusedSimpArgs false
set_option autoImplicit false
namespace Mine

inductive VReps (h : Heap) (φ : Phi) (X : List Addr) : List V → List Value → Prop
  | nil : VReps h φ X [] []
  | cons {v : V} {cv : Value} {vs : List V} {cvs : List Value} : VRep h φ X v cv → VReps h φ X vs cvs → VReps h φ X (v :: vs) (cv :: cvs)
theorem VReps.step {φ φ' : Phi} {W X X' : List Addr} {s s' : Shared} (x : Step φ φ' W s s') (hW : ∀ a ∈ W, a ∈ X) (hX : ∀ a ∈ X', (∃ o, s.heap.get? a = some o) → a ∈ X) (hT : Tabs X s.heap := by first | assumption | exact Rel.tbs (by assumption)) : ∀ {vs : List V} {cvs : List Value}, VReps s.heap φ X vs cvs → VReps s'.heap φ' X' vs cvs
  | _, _, h => by
    induction h with
    | nil => exact .nil
    | cons r _ ih => exact .cons (r.step x hW hX hT) ih
theorem VReps.append {h : Heap} {φ : Phi} {X : List Addr} : ∀ {vs : List V} {cvs : List Value}, VReps h φ X vs cvs → ∀ {ws : List V} {cws : List Value}, VReps h φ X ws cws → VReps h φ X (vs ++ ws) (cvs ++ cws)
  | _, _, h, _, _, q => by
    induction h with
    | nil => exact q
    | cons r _ ih => exact .cons r ih

/-- arguments -/
noncomputable def TEs (c : Cx) (d : Nat) (es : List Expr) (sc : Sc) (ρ : List (Option V)) (σ : List (List PyData)) (P : List V → List (List PyData) → Prop) : Prop :=
  ∀ env A X φ s pos (Q : List Value → Shared → Prop) (E : Value → Shared → Prop), Ok c d env sc A X → Rel c φ X σ s → Loc env sc ρ φ X s.heap →
    (∀ vs cvs φ' σ' s', Step φ φ' [] s s' → Rel c φ' X σ' s' → VReps s'.heap φ' X vs cvs → P vs σ' → Q cvs s') → wpAny (model c.prog c.w) A (spliced (backTo pos (starEach es env))) Q E s

/-- a call -/
noncomputable def TCall (c : Cx) (d : Nat) (cf : Value) (vs : List V) (kn : List Str) (kv : List V) (σ : List (List PyData)) (P : V → List (List PyData) → Prop) : Prop :=
  ∀ A X φ s cvs ckv (Q : Value → Shared → Prop) (E : Value → Shared → Prop), c.Ok → AOk A d → Rel c φ X σ s → VReps s.heap φ X vs cvs → VReps s.heap φ X kv ckv → Cont c X φ s P Q → wpAny (model c.prog c.w) A (call cf cvs (kn.zip ckv)) Q E s

noncomputable abbrev HIn (c : Cx) (h : Heap) : Prop := c.K.In h ∧ ∀ b o, c.base.get? b = some o → h.get? b = some o
noncomputable def KeepOk (c : Cx) (cf : Value) : Prop := ∀ h, HIn c h → ∃ k, (k = Keeper.frame ∨ k = Keeper.machine ∨ k = Keeper.boundFrame) ∧ Looks (model c.prog c.w) h (keeperOf cf) k

section
variable {c : Cx} {d : Nat} {sc : Sc} {ρ : List (Option V)} {σ : List (List PyData)}

theorem KeepOk.type {n : String} : KeepOk c (.type n) := fun h _ => ⟨.machine, .inr (.inl rfl), Looks.now⟩
theorem KeepOk.builtin {n : String} : KeepOk c (.builtin n) := fun h _ => ⟨.machine, .inr (.inl rfl), Looks.now⟩
theorem KeepOk.old {a : Value} (e : keepIn c.K a = true) : KeepOk c a := fun h X => keeps_K e h X.1
theorem KeepOk.fn {f : Addr} {oc : Value} {od : Option Addr} {fd : FuncData} {sl : Array (Option Value)} (e : c.base.get? f = some ⟨oc, od, .func fd, sl⟩) : KeepOk c (.ref f) := fun h X => keeps_F h ⟨oc, od, fd, sl, X.2 _ _ e⟩
theorem Rel.hin {φ : Phi} {X : List Addr} {s : Shared} (R : Rel c φ X σ s) (C : c.Ok) : HIn c s.heap := ⟨R.inK C, fun b o e => (R.bs b o e).1⟩

theorem TEs.nil {P : List V → List (List PyData) → Prop} (p : P [] σ) : TEs c d [] sc ρ σ P := by
  intro env A X φ s pos Q E O R L K
  exact spliced_nil (K [] [] φ σ s .refl R .nil p)
noncomputable abbrev kPush (v : V) (P : List V → List (List PyData) → Prop) : List V → List (List PyData) → Prop := fun vs σ₂ => P (v :: vs) σ₂
noncomputable abbrev kArg (c : Cx) (d : Nat) (es : List Expr) (sc : Sc) (ρ : List (Option V)) (P : List V → List (List PyData) → Prop) : V → List (List PyData) → Prop := fun v σ₁ => TEs c d es sc ρ σ₁ (kPush v P)
theorem TEs.cons {e : Expr} {es : List Expr} {P : List V → List (List PyData) → Prop} (h : TE c d e sc ρ σ (kArg c d es sc ρ P)) (he : ∀ env, starEach (e :: es) env = (false, eval e env) :: starEach es env := by intro; rfl) : TEs c d (e :: es) sc ρ σ P := by
  intro env A X φ s pos Q E O R L K
  refine spliced_more (h env A X φ s _ E O R L fun v cv φ₁ σ₁ s₁ x₁ R₁ r₁ h₁ => ?_) (he env)
  have L₁ := L.step x₁ (R.own O.o) (fun a h _ => h)
  refine h₁ env A X φ₁ s₁ pos _ E O R₁ L₁ fun vs cvs φ₂ σ₂ s₂ x₂ R₂ r₂ h₂ => ?_
  exact K (v :: vs) (cv :: cvs) φ₂ σ₂ s₂ (x₁.trans x₂) R₂ (.cons (r₁.step x₂ (by simp) (fun a h _ => h)) r₂) h₂
/-- the call behind its head: callWith over plain arguments -/
theorem callWith_T {env : Env} {A : Around} {X : List Addr} {φ : Phi} {s : Shared} {pos : Pos} {cf : Value} {fst : List V} {cfst : List Value} {args : List Expr} {P : V → List (List PyData) → Prop} {Q : Value → Shared → Prop} {E : Value → Shared → Prop}
    (O : Ok c d env sc A X) (R : Rel c φ X σ s) (L : Loc env sc ρ φ X s.heap) (kp : KeepOk c cf) (rf : VReps s.heap φ X fst cfst) (hpl : (backTo pos (starEach args env)).any (·.1) = false)
    (hst : ∀ e rest, args = e :: rest → starEach args env = (false, eval e env) :: starEach rest env)
    (h : TEs c d args sc ρ σ fun vs σ₁ => TCall c d cf (fst ++ vs) [] [] σ₁ P) (K : Cont c X φ s P Q) : wpAny (model c.prog c.w) A (callWith pos cf cfst (backTo pos (starEach args env)) []) Q E s := by
  have fin : ∀ vs cvs φ' σ' s', Step φ φ' [] s s' → Rel c φ' X σ' s' → VReps s'.heap φ' X vs cvs → TCall c d cf (fst ++ vs) [] [] σ' P → HIn c s'.heap ∧ wpAny (model c.prog c.w) A (call cf (cfst ++ cvs) []) Q E s' := by
    intro vs cvs φ' σ' s' x R' r h'
    exact ⟨R'.hin O.c, h' A X φ' s' (cfst ++ cvs) [] Q E O.c O.a R' ((rf.step x (by simp) (fun a h _ => h)).append r) .nil (K.step x)⟩
  cases args with
  | nil =>
    refine callWith_of (P := HIn c) hpl kp (evalArgs_nil3 ?_)
    have := h env A X φ s pos (fun cvs s' => HIn c s'.heap ∧ wpAny (model c.prog c.w) A (call cf (cfst ++ cvs) []) Q E s') E O R L fin
    have e : wpAny (model c.prog c.w) A (spliced []) (fun cvs s' => HIn c s'.heap ∧ wpAny (model c.prog c.w) A (call cf (cfst ++ cvs) []) Q E s') E s := this
    refine ⟨R.hin O.c, fun Γ p hΓ => (e Γ p hΓ).2 Γ p hΓ⟩
  | cons a rest =>
    refine callWith_of (P := HIn c) (by rw [hpl]; rfl) kp ?_
    have := h env A X φ s pos (fun cvs s' => HIn c s'.heap ∧ wpAny (model c.prog c.w) A (call cf (cfst ++ cvs) []) Q E s') E O R L fin
    rw [hst a rest rfl] at this ⊢
    exact evalArgs_plain this

noncomputable def noStar : List Expr → Bool
  | [] => true
  | .Starred .. :: _ => false
  | _ :: r => noStar r
theorem starEach_of {e : Expr} {rest : List Expr} (h : noStar (e :: rest) = true) (env : Env) : starEach (e :: rest) env = (false, eval e env) :: starEach rest env := by
  cases e <;> first | rfl | (cases h; done)
theorem noStar_tail {e : Expr} {rest : List Expr} (h : noStar (e :: rest) = true) : noStar rest = true := by
  cases e <;> first | exact h | (cases h; done)
theorem starEach_plain (env : Env) (pos : Pos) : ∀ {args : List Expr}, noStar args = true → (backTo pos (starEach args env)).any (·.1) = false
  | [], _ => rfl
  | e :: rest, h => by
    rw [starEach_of h]
    show (false || (backTo pos (starEach rest env)).any (·.1)) = false
    rw [starEach_plain env pos (noStar_tail h)]; rfl

noncomputable abbrev kCall (c : Cx) (d : Nat) (cf : Value) (P : V → List (List PyData) → Prop) : List V → List (List PyData) → Prop := fun vs σ₂ => TCall c d cf vs [] [] σ₂ P
noncomputable abbrev kFun (c : Cx) (d : Nat) (args : List Expr) (sc : Sc) (ρ : List (Option V)) (P : V → List (List PyData) → Prop) : V → List (List PyData) → Prop := fun fv σ₁ => ∃ cf, fv = .p cf ∧ KeepOk c cf ∧ TEs c d args sc ρ σ₁ (kCall c d cf P)
theorem TE.call {x : Str} {px pos : Pos} {args : List Expr} {P : V → List (List PyData) → Prop} (h : TE c d (.Name x px) sc ρ σ (kFun c d args sc ρ P)) (ha : noStar args = true := by rfl) : TE c d (.Call (.Name x px) args [] pos) sc ρ σ P := by
  intro env A X φ s Q E O R L K
  show wpAny _ A (do callWith pos (← eval (.Name x px) env) [] (backTo pos (starEach args env)) (backToKw pos (keywordEach [] env))) Q E s
  refine wpAny_bind (h env A X φ s _ E O R L fun fv cfv φ₁ σ₁ s₁ x₁ R₁ r₁ h₁ => ?_)
  obtain ⟨cf, rfl, kp, h₂⟩ := h₁
  obtain rfl : cfv = cf := r₁
  have L₁ := L.step x₁ (R.own O.o) (fun a h _ => h)
  exact callWith_T O R₁ L₁ kp .nil (starEach_plain env pos ha) (fun e rest q => by subst q; exact starEach_of ha env) h₂ (K.step x₁)

/-- the method of a value -/
noncomputable def TGet (c : Cx) (d : Nat) (ov : V) (name : Str) (cf : Value) (σ : List (List PyData)) : Prop :=
  ∀ A X φ s cv pl (Q : Value × List Value → Shared → Prop) (E : Value → Shared → Prop), c.Ok → AOk A d → Rel c φ X σ s → VRep s.heap φ X ov cv → Q (cf, [cv]) s → wpAny (model c.prog c.w) A (getMethod cv name pl) Q E s

noncomputable abbrev kCallM (c : Cx) (d : Nat) (cf : Value) (ov : V) (P : V → List (List PyData) → Prop) : List V → List (List PyData) → Prop := fun vs σ₂ => TCall c d cf (ov :: vs) [] [] σ₂ P
noncomputable abbrev kMeth (c : Cx) (d : Nat) (name : Str) (args : List Expr) (sc : Sc) (ρ : List (Option V)) (P : V → List (List PyData) → Prop) : V → List (List PyData) → Prop := fun ov σ₁ => ∃ cf, TGet c d ov name cf σ₁ ∧ KeepOk c cf ∧ TEs c d args sc ρ σ₁ (kCallM c d cf ov P)
theorem TE.meth {o : Expr} {name : Str} {apos pos : Pos} {args : List Expr} {P : V → List (List PyData) → Prop} (h : TE c d o sc ρ σ (kMeth c d name args sc ρ P))
    (ha : noStar args = true := by rfl) (hp : (apos.endLine == pos.line) = true := by rfl) (hl : (decide (args.length < 30)) = true := by rfl)
    (hb : ∀ env m, attributeBase o name env m = m := by intros; rfl) : TE c d (.Call (.Attribute o name apos) args [] pos) sc ρ σ P := by
  intro env A X φ s Q E O R L K
  show wpAny _ A (do
    let ov ← attributeBase o name env (eval o env)
    standAt apos.atName
    methodCall o name apos pos env ov (args.length + 0) (backTo pos (starEach args env)) (backToKw pos (keywordEach [] env))) Q E s
  rw [hb env]
  refine wpAny_bind (h env A X φ s _ E O R L fun ov cv φ₁ σ₁ s₁ x₁ R₁ r₁ h₁ => ?_)
  obtain ⟨cf, hg, kp, h₂⟩ := h₁
  have L₁ := L.step x₁ (R.own O.o) (fun a h _ => h)
  refine wpAny_bind (wpAny_standAt ?_)
  unfold methodCall
  have few : methodCallForm (args.length + 0) (backTo pos (starEach args env)) (backToKw pos (keywordEach [] env)) = true := by
    unfold methodCallForm
    have e1 := starEach_plain env pos ha
    have e2 : (backTo pos (starEach args env)).all (fun x => !x.1) = true := by
      rw [List.all_eq_true]
      intro y hy
      have := List.any_eq_false.mp e1 y hy
      simpa using this
    have e3 : args.length < 30 := by simpa using hl
    rw [e2]
    show (true && true && decide (args.length + 0 + 0 < 30)) = true
    simp [e3]
  rw [few]
  unfold calleeOf
  simp only [if_true]
  refine wpAny_bind (wpAny_holding (hg A X φ₁ s₁ cv _ _ E O.c O.a R₁ r₁ ?_))
  have hpos : methodCallPos true o env apos pos = pure pos := by
    unfold methodCallPos
    rw [hp]; rfl
  rw [hpos]
  refine wpAny_bind (wpAny_pure ?_)
  have := callWith_T (fst := [ov]) (P := P) (E := E) O R₁ L₁ kp (.cons r₁ .nil) (starEach_plain env pos ha) (fun e rest q => by subst q; exact starEach_of ha env) h₂ (K.step x₁)
  exact this
end
end Mine
end -- Fw6
section -- Fw7
set_option tactic.hygienic false
open PySem PySem.W PySem.Calls PyProof.Rows
set_option linter.unusedVariables false
set_option linter.unusedSimpArgs false
set_option autoImplicit false
namespace Mine

/-- a value as it stands when the lists from n on are let go -/
noncomputable def fz (n : Nat) (σ : List (List PyData)) : V → V
  | .r i => if i < n then .r i else match σ[i]? with | some xs => .d (.list xs) | none => .r i
  | .hr i => if i < n then .hr i else match σ[i]? with | some xs => .h (.list xs) | none => .hr i
  | v => v
theorem fz_r_lt {n i : Nat} {σ : List (List PyData)} (h : i < n) : fz n σ (.r i) = .r i := by show (if i < n then _ else _) = _; rw [if_pos h]
theorem fz_r_ge {n i : Nat} {σ : List (List PyData)} {xs : List PyData} (h : ¬ i < n) (e : σ[i]? = some xs) : fz n σ (.r i) = .d (.list xs) := by show (if i < n then _ else _) = _; rw [if_neg h, e]
theorem fz_hr_lt {n i : Nat} {σ : List (List PyData)} (h : i < n) : fz n σ (.hr i) = .hr i := by show (if i < n then _ else _) = _; rw [if_pos h]
theorem fz_hr_ge {n i : Nat} {σ : List (List PyData)} {xs : List PyData} (h : ¬ i < n) (e : σ[i]? = some xs) : fz n σ (.hr i) = .h (.list xs) := by show (if i < n then _ else _) = _; rw [if_neg h, e]
noncomputable def retC (f : Flow) : Value := match f with | .ret v => v | _ => .none
noncomputable def retV : Fl → V
  | .ret v => v
  | _ => .d .none

theorem VReps.length_eq {h : Heap} {φ : Phi} {X : List Addr} : ∀ {vs : List V} {cvs : List Value}, VReps h φ X vs cvs → cvs.length = vs.length
  | _, _, h => by
    induction h with
    | nil => rfl
    | cons _ _ ih => exact congrArg (· + 1) ih

theorem VReps.mono {h h' : Heap} {φ φ' : Phi} {X X' : List Addr} (hφ : φ.l <+: φ'.l) (ht : TauLe φ.τ φ'.τ) (hk : ∀ b o, (cut h (φ.l ++ X)).get? b = some o → (cut h' (φ'.l ++ X')).get? b = some o) : ∀ {vs : List V} {cvs : List Value}, VReps h φ X vs cvs → VReps h' φ' X' vs cvs
  | _, _, h => by
    induction h with
    | nil => exact .nil
    | cons r _ ih => exact .cons (r.mono hφ ht hk) ih

noncomputable def Phi.take (φ : Phi) (n : Nat) : Phi := ⟨φ.l.take n, φ.τ⟩
section
variable {c : Cx} {d : Nat} {σ : List (List PyData)}

theorem cut_take {l X X' : List Addr} (hX : ∀ a ∈ X, a ∈ X') {h : Heap} {n : Nat} {b : Addr} {o : Obj} (e : (cut h (l ++ X')).get? b = some o) : (cut h (l.take n ++ X)).get? b = some o := by
  obtain ⟨e3, e4⟩ := cut_get.mp e
  refine cut_get.mpr ⟨e3, fun q => ?_⟩
  rcases List.mem_append.mp q with q | q
  · exact e4 (List.mem_append.mpr (.inl (List.mem_of_mem_take q)))
  · exact e4 (List.mem_append.mpr (.inr (hX _ q)))

theorem Rel.fzV {φ : Phi} {X X' : List Addr} (hX : ∀ a ∈ X, a ∈ X') {s : Shared} (R : Rel c φ X' σ s) {n : Nat} {v : V} {cv : Value} (r : VRep s.heap φ X' v cv) : VRep s.heap (φ.take n) X (fz n σ v) cv := by
  have hk : ∀ b o, (cut s.heap (φ.l ++ X')).get? b = some o → (cut s.heap ((φ.take n).l ++ X)).get? b = some o := fun b o e => cut_take hX e
  have tk : ∀ {i : Nat} {a : Addr}, i < n → φ.l[i]? = some a → (φ.take n).l[i]? = some a := fun h e => by show (φ.l.take n)[_]? = _; rw [List.getElem?_take, if_pos h]; exact e
  have gone : ∀ {i : Nat} {a : Addr}, ¬ i < n → φ.l[i]? = some a → a ∉ φ.l.take n := fun {i a} h e q => by
    obtain ⟨j, ej⟩ := List.mem_iff_getElem?.mp q
    rw [List.getElem?_take] at ej
    by_cases hj : j < n
    · rw [if_pos hj] at ej
      have := nodup_inj R.nd ej e
      omega
    · rw [if_neg hj] at ej; cases ej
  have lst : ∀ {i : Nat} {a : Addr} {xs : List PyData}, ¬ i < n → φ.l[i]? = some a → σ[i]? = some xs → Rd false φ.τ (cut s.heap ((φ.take n).l ++ X)) (.ref a) (.list xs) := fun {i a xs} h e e' => by
    obtain ⟨items, ⟨k, h1⟩, h4⟩ := R.ob i a xs e e'
    refine Rd.list (cut_get.mpr ⟨h1, fun q => ?_⟩) rfl rfl (RdAll.keeps .refl hk h4)
    rcases List.mem_append.mp q with q | q
    · exact gone h e q
    · exact R.dj a (List.mem_of_getElem? e) (hX _ q)
  cases v with
  | e wk q => exact Rd.keeps .refl hk r
  | r i =>
    obtain ⟨a, h1, rfl⟩ := r
    by_cases hi : i < n
    · rw [fz_r_lt hi]; exact ⟨a, tk hi h1, rfl⟩
    · have hlt : i < σ.length := R.len ▸ (List.getElem?_eq_some_iff.mp h1).1
      rw [fz_r_ge hi (List.getElem?_eq_getElem hlt)]
      exact lst hi h1 (List.getElem?_eq_getElem hlt)
  | p w => exact r
  | hr i =>
    obtain ⟨a, l, rfl, h1, h2⟩ := r
    by_cases hi : i < n
    · rw [fz_hr_lt hi]; exact ⟨a, l, rfl, tk hi h1, h2.keeps hk⟩
    · have hlt : i < σ.length := R.len ▸ (List.getElem?_eq_some_iff.mp h1).1
      rw [fz_hr_ge hi (List.getElem?_eq_getElem hlt)]
      exact ⟨a, l, rfl, h2.keeps hk, lst hi h1 (List.getElem?_eq_getElem hlt)⟩
  | h q => obtain ⟨a, l, rfl, h1, h2⟩ := r; exact ⟨a, l, rfl, h1.keeps hk, Rd.keeps .refl hk h2⟩
  | rng x y => obtain ⟨a, t, u, w, rfl, h1⟩ := r; exact ⟨a, t, u, w, rfl, hk _ _ h1⟩
  | slc lo hi => obtain ⟨a, l, u, rfl, h2, h3, o, h4, h5⟩ := r; exact ⟨a, l, u, rfl, h2, h3, o, hk _ _ h4, h5⟩
  | ob R => exact R.mono _ _ _ hk r

theorem Rel.fzFl {φ : Phi} {X X' : List Addr} (hX : ∀ a ∈ X, a ∈ X') {s : Shared} (R : Rel c φ X' σ s) {n : Nat} {fl : Fl} {f : Flow} (r : FRep s.heap φ X' fl f) : VRep s.heap (φ.take n) X (fz n σ (retV fl)) (retC f) := by
  cases fl with
  | next => cases f <;> first | exact Rd.none | exact r.elim
  | brk => cases f <;> first | exact Rd.none | exact r.elim
  | cont => cases f <;> first | exact Rd.none | exact r.elim
  | ret v =>
    cases f with
    | ret cv => exact R.fzV hX (n := n) r
    | _ => exact r.elim
theorem Rel.cutTo {φ : Phi} {X X' : List Addr} (hX : ∀ a ∈ X, a ∈ X') {s : Shared} (R : Rel c φ X' σ s) (n : Nat) (hp : c.pin.l <+: (φ.take n).l) (hT : ∀ b ∈ tabs, b ∈ X) : Rel c (φ.take n) X (σ.take n) s where
  len := by show (φ.l.take n).length = _; rw [List.length_take, List.length_take, R.len]
  nd := R.nd.sublist (List.take_sublist n φ.l)
  dj := fun a h1 h2 => R.dj a (List.mem_of_mem_take h1) (hX _ h2)
  ob := fun i a xs e1 e2 => by
    replace e1 : (φ.l.take n)[i]? = some a := e1
    rw [List.getElem?_take] at e1 e2
    by_cases hi : i < n
    · rw [if_pos hi] at e1 e2
      obtain ⟨items, h1, h3⟩ := R.ob i a xs e1 e2
      exact ⟨items, h1, RdAll.keeps .refl (fun b o e => cut_take hX e) h3⟩
    · rw [if_neg hi] at e1; cases e1
  xs := fun a h => R.xs a (hX _ h)
  bs := fun b o e => by
    obtain ⟨h1, h2, h3⟩ := R.bs b o e
    exact ⟨h1, fun q => h2 (List.mem_of_mem_take q), fun q => h3 (hX _ q)⟩
  tb := fun b hb => ⟨hT b hb, (R.tb b hb).2.keeps (fun b o e => cut_take hX e) fun _ e => e⟩
  env := R.env
  tk := R.tk
  pl := hp
  pt := R.pt

/-- how a call's arguments are bound: the names, and what stands under them -/
noncomputable def TBind (c : Cx) (d : Nat) (fd : FuncData) (vs : List V) (kn : List Str) (kv : List V) (σ : List (List PyData)) (ps : List Str) (ws : List V) : Prop :=
  ∀ A X φ s cvs ckv (Q : List (Str × Value) → Shared → Prop) (E : Value → Shared → Prop), c.Ok → Rel c φ X σ s → VReps s.heap φ X vs cvs → VReps s.heap φ X kv ckv →
    (∀ cws h' tk, (∀ b o, s.heap.get? b = some o → h'.get? b = some o) → s.toks ≤ tk → VReps h' φ X ws cws → Q (ps.zip cws) { s with heap := h', toks := tk }) → wpAny (model c.prog c.w) A (bindArgs fd ⟨cvs, kn.zip ckv⟩) Q E s

theorem len1 {α : Type} {l : List α} (h : l.length = 1) : ∃ a, l = [a] := by
  cases l with
  | nil => cases h
  | cons a l => cases l with
    | nil => exact ⟨a, rfl⟩
    | cons b l => cases h
theorem len2 {α : Type} {l : List α} (h : l.length = 2) : ∃ a b, l = [a, b] := by
  cases l with
  | nil => cases h
  | cons a l =>
    obtain ⟨b, rfl⟩ := len1 (l := l) (Nat.succ.inj h)
    exact ⟨a, b, rfl⟩
theorem len3 {α : Type} {l : List α} (h : l.length = 3) : ∃ a b c, l = [a, b, c] := by
  cases l with
  | nil => cases h
  | cons a l =>
    obtain ⟨b, c, rfl⟩ := len2 (l := l) (Nat.succ.inj h)
    exact ⟨a, b, c, rfl⟩
theorem len5 {α : Type} {l : List α} (h : l.length = 5) : ∃ a b c d e, l = [a, b, c, d, e] := by
  cases l with
  | nil => cases h
  | cons a l => cases l with
    | nil => cases h
    | cons b l =>
      obtain ⟨c, d, e, rfl⟩ := len3 (l := l) (Nat.succ.inj (Nat.succ.inj h))
      exact ⟨a, b, c, d, e, rfl⟩
theorem TBind.plain {fd : FuncData} {vs : List V} {ps : List Str} (h : ∀ cvs : List Value, cvs.length = vs.length → bindArgs fd ⟨cvs, []⟩ = pure (ps.zip cvs)) : TBind c d fd vs [] [] σ ps vs := by
  intro A X φ s cvs ckv Q E C R r _ K
  show wpAny _ A (bindArgs fd ⟨cvs, []⟩) Q E s
  rw [h cvs r.length_eq]
  exact wpAny_pure (K cvs s.heap s.toks (fun _ _ e => e) (Nat.le_refl _) r)

theorem bindL_get {h : Heap} {φ : Phi} {X : List Addr} {kindOf : Str → Option NameKind} : ∀ {ps : List Str} {ws : List V} {cws : List Value}, ps.Nodup → VReps h φ X ws cws → ∀ {m : Str → Option Value} {x : Str} {v : V}, kindOf x = some .local → (ps.zip ws).lookup x = some v →
    ∃ cv, bindL kindOf (ps.zip cws) m x = some cv ∧ VRep h φ X v cv
  | ps, ws, cws, nd, h, m, x, v, hk, e => by
    induction h generalizing ps m with
    | nil => cases ps <;> cases e
    | @cons w cw ws cws r rs ih =>
    cases ps with
    | nil => cases e
    | cons p ps =>
    rw [List.nodup_cons] at nd
    rw [List.zip_cons_cons, List.lookup_cons] at e
    rw [List.zip_cons_cons]
    unfold bindL
    by_cases hx : x = p
    · subst hx
      simp only [beq_self_eq_true] at e
      cases e
      refine ⟨cw, ?_, r⟩
      have hno : ∀ (l : List (Str × Value)) (m : Str → Option Value), x ∉ l.map (·.1) → bindL kindOf l m x = m x := by
        intro l
        induction l with
        | nil => intro m _; rfl
        | cons y l ih =>
          intro m hm
          obtain ⟨y1, y2⟩ := y
          simp only [List.map_cons, List.mem_cons, not_or] at hm
          unfold bindL
          rw [ih _ hm.2]
          split <;> simp [hm.1]
      rw [hno]
      · simp [hk]
      · intro q
        obtain ⟨⟨y1, y2⟩, h1, h2⟩ := List.mem_map.mp q
        exact nd.1 (h2 ▸ (List.of_mem_zip h1).1)
    · have hb : (x == p) = false := beq_eq_false_iff_ne.mpr hx
      rw [hb] at e
      exact ih _ nd.2 _ e
theorem bindC_get {h : Heap} {φ : Phi} {X : List Addr} {kindOf : Str → Option NameKind} : ∀ {ps : List Str} {ws : List V} {cws : List Value}, ps.Nodup → VReps h φ X ws cws → ∀ {m : Str → Option Value} {x : Str} {v : V}, kindOf x = some .cell → (ps.zip ws).lookup x = some v →
    ∃ cv, bindC kindOf (ps.zip cws) m x = some cv ∧ VRep h φ X v cv
  | ps, ws, cws, nd, h, m, x, v, hk, e => by
    induction h generalizing ps m with
    | nil => cases ps <;> cases e
    | @cons w cw ws cws r rs ih =>
    cases ps with
    | nil => cases e
    | cons p ps =>
    rw [List.nodup_cons] at nd
    rw [List.zip_cons_cons, List.lookup_cons] at e
    rw [List.zip_cons_cons]
    unfold bindC
    by_cases hx : x = p
    · subst hx
      simp only [beq_self_eq_true] at e
      cases e
      refine ⟨cw, ?_, r⟩
      have hno : ∀ (l : List (Str × Value)) (m : Str → Option Value), x ∉ l.map (·.1) → bindC kindOf l m x = m x := by
        intro l
        induction l with
        | nil => intro m _; rfl
        | cons y l ih =>
          intro m hm
          obtain ⟨y1, y2⟩ := y
          simp only [List.map_cons, List.mem_cons, not_or] at hm
          unfold bindC
          rw [ih _ hm.2]
          split <;> simp [hm.1]
      rw [hno]
      · simp [hk]
      · intro q
        obtain ⟨⟨y1, y2⟩, h1, h2⟩ := List.mem_map.mp q
        exact nd.1 (h2 ▸ (List.of_mem_zip h1).1)
    · have hb : (x == p) = false := beq_eq_false_iff_ne.mpr hx
      rw [hb] at e
      exact ih _ nd.2 _ e

theorem mem_cellsFrom : ∀ (names : List (Str × NameKind)) (n : Nat) (acc : List (Str × Addr)) (y : Str × Addr), y ∈ cellsFrom n names acc → y ∈ acc ∨ n ≤ y.2
  | [], n, acc, y, h => .inl h
  | (x, k) :: r, n, acc, y, h => by
    unfold cellsFrom at h
    split at h
    · rcases mem_cellsFrom r (n + 1) _ y h with q | q
      · rcases List.mem_cons.mp q with q | q
        · exact .inr (by rw [q]; exact Nat.le_refl _)
        · exact .inl q
      · exact .inr (Nat.le_of_succ_le q)
    · exact mem_cellsFrom r n acc y h

/-- what stands under the names at a body's start -/
noncomputable def rho0 (sc : Scope) (ps : List Str) (ws : List V) : List (Option V) := sc.names.map fun n => (ps.zip ws).lookup n.1
noncomputable def cellNames (sc : Scope) : List Str := (sc.names.filter fun n => n.2 == .cell).map (·.1)
noncomputable abbrev fnSc (sc : Scope) : Sc := ⟨sc, cellNames sc⟩

/-- a body, run to its end -/
noncomputable def TFin (c : Cx) (d : Nat) (st : List Stmt) (sc : Sc) (ρ : List (Option V)) (σ : List (List PyData)) (P : Fl → List (List PyData) → Prop) : Prop :=
  ∀ env A X φ s (Q : Flow → Shared → Prop) (E : Value → Shared → Prop), Ok c d env sc A X → Rel c φ X σ s → Loc env sc ρ φ X s.heap →
    (∀ fl f φ' σ' s' X', (∀ a ∈ X', a ∈ X) → (∀ a ∈ X, a ∉ X' → a ∈ own env sc) → Step φ φ' (own env sc) s s' → Rel c φ' X' σ' s' → FRep s'.heap φ' X' fl f → P fl σ' → Q f s') → wpAny (model c.prog c.w) A (execs st env) Q E s
noncomputable abbrev kFin (P : Fl → List (List PyData) → Prop) : Fl → List (Option V) → List (List PyData) → Prop := fun fl _ σ' => P fl σ'
theorem TFin.of {st : List Stmt} {sc : Sc} {ρ : List (Option V)} {P : Fl → List (List PyData) → Prop} (h : TSS c d st sc ρ σ (kFin P)) : TFin c d st sc ρ σ P := by
  intro env A X φ s Q E O R L K
  exact h env A X φ s Q E O R L fun fl f φ' ρ' σ' s' x R' L' r p => K fl f φ' σ' s' X (fun _ h => h) (fun _ h1 h2 => absurd h1 h2) x R' r p

theorem TCall.def_ {f : Addr} {o : Obj} {fd : FuncData} {body : List Stmt} {vs kv ws : List V} {kn ps : List Str} {P : V → List (List PyData) → Prop}
    (hK : c.K.lookup f = some o) (hd : o.data = .func fd) (hco : fd.scope.isCoroutine = false) (hgen : fd.scope.isGenerator = false) (hk : fd.scope.kind = .function) (hbody : fd.body = .stmts body) (hcd : codeIn c.K fd.code fd.qualname = true)
    (hgl : fd.globals = mainGlobals) (hbu : fd.builtins = builtinsNs) (hcl : fd.closure = [])
    (hnd : (fd.scope.names.map (·.1)).Nodup) (hps : ps.Nodup) (hpk : (ps.all fun x => fd.scope.names.lookup x == some .local || fd.scope.names.lookup x == some .cell) = true) (hfree : (fd.scope.names.all fun x => x.2 != .free) = true)
    (hb : TBind c d fd vs kn kv σ ps ws)
    (h : TFin c d body (fnSc fd.scope) (rho0 fd.scope ps ws) σ fun fl σ' => P (fz σ.length σ' (retV fl)) (σ'.take σ.length)) : TCall c (d + 1) (.ref f) vs kn kv σ P := by
  intro A X φ s cvs ckv Q E C a R rv rk K
  refine wpAny_call ?_
  refine codeAny_call_function a.room (R.inK C f o hK) hd hco hgen hbody (codeRec_of (R.inK C) hcd) ?_
  refine hb A.in1 X φ s cvs ckv _ _ C R rv rk fun cws h₀ tk₀ hk₀ ht₀ rw₀ => ?_
  rw [hcl]
  have hbk : ∀ (n : Nat), ∀ x ∈ ps.zip cws, fd.scope.names.lookup x.1 = some .local ∨ (fd.scope.names.lookup x.1 = some .cell ∧ ((cellsFrom n fd.scope.names []).lookup x.1).isSome = true) := fun n x hx => by
    have h1 := List.all_eq_true.mp hpk x.1 (List.of_mem_zip hx).1
    rcases Bool.or_eq_true_iff.mp h1 with q | q
    · exact .inl (by simpa using q)
    · have q' : fd.scope.names.lookup x.1 = some .cell := by simpa using q
      exact .inr ⟨q', cellsFrom_some _ _ _ (.inl q')⟩
  refine wpAny_with_toks (n := tk₀) (Nat.le_refl _) (wpAny_newFunctionEnv_cells hk (hbk _) fun env he s' x => ?_)
  have R₀ : Rel c φ X σ { s with heap := h₀, toks := tk₀ } := R.grow hk₀ ht₀
  obtain ⟨h₁, tk₁, rfl, hk₁⟩ := x.done
  intro ht₁
  replace ht₁ : tk₀ ≤ tk₁ := ht₁
  have hsz : env.locals = h₀.objs.size := by rw [he]; rfl
  have hcells : env.cells = cellsFrom (h₀.objs.size + 1) fd.scope.names [] := by rw [he]; rfl
  have hlist : ∀ b ∈ own env (fnSc fd.scope), b = env.locals ∨ ∃ y, (y, b) ∈ env.cells := fun b hb => by
    rcases own_cell hb with q | ⟨y, _, q⟩
    · exact .inl q
    · exact .inr ⟨y, PySem.mem_of_lookup q⟩
  have hcab : ∀ y b, (y, b) ∈ env.cells → h₀.objs.size ≤ b := fun y b h1 => by
    rw [hcells] at h1
    rcases mem_cellsFrom _ _ _ _ h1 with q | q
    · cases q
    · exact Nat.le_of_succ_le q
  have habove : ∀ b ∈ own env (fnSc fd.scope), h₀.objs.size ≤ b := fun b hb => by
    rcases hlist b hb with hb | ⟨y, h1⟩
    · rw [hb, hsz]; exact Nat.le_refl _
    · exact hcab y b h1
  have hfresh₀ : ∀ b ∈ own env (fnSc fd.scope), h₀.get? b = none := fun b hb => get_none (habove b hb)
  have hlook : ∀ y ∈ env.cells, h₁.IsCell y.2 (bindC env.kindOf (ps.zip cws) (fun _ => none) y.1) := fun y hy => by
    have hnd' : (env.cells.map (·.1)).Nodup := by
      have hinj : ∀ (names : List (Str × NameKind)) (n : Nat) (acc : List (Str × Addr)), (acc.map (·.1)).Nodup → (names.map (·.1)).Nodup → (∀ z ∈ acc, z.1 ∉ names.map (·.1)) → ((cellsFrom n names acc).map (·.1)).Nodup := by
        intro names
        induction names with
        | nil => intro n acc h1 _ _; exact h1
        | cons z r ih =>
          intro n acc h1 h2 h3
          obtain ⟨z1, z2⟩ := z
          simp only [List.map_cons, List.nodup_cons] at h2
          unfold cellsFrom
          split
          · refine ih _ _ ?_ h2.2 ?_
            · simp only [List.map_cons, List.nodup_cons]
              refine ⟨fun q => ?_, h1⟩
              obtain ⟨u, hu1, hu2⟩ := List.mem_map.mp q
              have := h3 u hu1
              simp only [List.map_cons, List.mem_cons, not_or] at this
              exact this.1 hu2
            · intro u hu
              rcases List.mem_cons.mp hu with e | hu
              · subst e; exact h2.1
              · have := h3 u hu
                simp only [List.map_cons, List.mem_cons, not_or] at this
                exact this.2
          · refine ih _ _ h1 h2.2 ?_
            intro u hu
            have := h3 u hu
            simp only [List.map_cons, List.mem_cons, not_or] at this
            exact this.2
      rw [hcells]
      exact hinj _ _ [] .nil hnd (fun _ h => nomatch h)
    obtain ⟨i, hi⟩ := List.mem_iff_getElem?.mp hy
    exact x.cell y.1 y.2 (lookup_of_get hnd' hi)
  have halive : ∀ b ∈ own env (fnSc fd.scope), ∃ o, h₁.get? b = some o := fun b hb => by
    rcases hlist b hb with hb | ⟨y, h1⟩
    · rw [hb]; exact Heap.Ns.is x.toInCall.ns
    · exact Heap.IsCell.is (hlook (y, b) h1)
  have R₁ : Rel c φ (own env (fnSc fd.scope) ++ X) σ { s with heap := h₁, toks := tk₁ } := R₀.growX hk₁ hfresh₀ halive ht₁
  have O : Ok c d env (fnSc fd.scope) (A.deeper env) (own env (fnSc fd.scope) ++ X) := by
    refine ⟨C, a.deeper env, ⟨by rw [he]; rfl, hk, hnd, by rw [he]; exact hgl, by rw [he]; exact hbu, ?_, ?_⟩, fun b hb => List.mem_append.mpr (.inl hb)⟩
    · have := x.apart
      rw [List.Nodup, List.pairwise_map]
      exact this
    · intro q
      obtain ⟨y, h1, h2⟩ := List.mem_map.mp q
      have := x.above y.1 y.2 h1
      rw [h2] at this
      exact Nat.lt_irrefl _ this
  have rws : VReps h₁ φ (own env (fnSc fd.scope) ++ X) ws cws := rw₀.mono (List.prefix_refl _) .refl fun b o e => cut_growX hk₁ hfresh₀ e
  have L : Loc env (fnSc fd.scope) (rho0 fd.scope ps ws) φ (own env (fnSc fd.scope) ++ X) h₁ := by
    have hkind : ∀ {k : Nat} {y : Str} {kd : NameKind}, fd.scope.names[k]? = some (y, kd) → env.kindOf y = some kd := fun e => O.e.kind e
    have hget : ∀ {k : Nat} {y : Str} {kd : NameKind} {v : V}, fd.scope.names[k]? = some (y, kd) → (rho0 fd.scope ps ws)[k]? = some (some v) → (ps.zip ws).lookup y = some v := fun {k y kd v} e1 e2 => by
      unfold rho0 at e2
      rw [List.getElem?_map, e1] at e2
      simpa using e2
    refine ⟨by unfold rho0; rw [List.length_map], ⟨_, x.toInCall.ns, fun k y v e1 e2 => bindL_get hps rws (hkind e1) (hget e1 e2)⟩, fun k y kd e1 e2 => ?_⟩
    have hkd : kd = .cell := by
      rcases e2 with e2 | e2
      · exact e2
      · have := List.all_eq_true.mp hfree (y, kd) (List.mem_of_getElem? e1)
        rw [e2] at this; cases this
    subst hkd
    have hl : ((cellsFrom (h₀.objs.size + 1) fd.scope.names []).lookup y).isSome = true := cellsFrom_some _ _ _ (.inl (lookup_of_get hnd e1))
    obtain ⟨ca, hca⟩ := Option.isSome_iff_exists.mp hl
    rw [← hcells] at hca
    refine ⟨ca, _, hca, x.cell y ca hca, fun q => ?_, fun v e3 => bindC_get hps rws (hkind e1) (hget e1 e3)⟩
    obtain ⟨o', e'⟩ := R₀.alive q
    have := get_none (h := h₀) (hcab y ca (PySem.mem_of_lookup hca))
    rw [this] at e'; cases e'
  have nolim : h₁.NoLimit := by
    obtain ⟨mc, ⟨o, es, ep, ho, r⟩, q⟩ := C.T.nolimit
    exact ⟨mc, ⟨o, es, ep, hk₁ _ _ (hk₀ _ _ (R.bs _ _ ho).1), r⟩, q⟩
  refine ⟨nolim, codeAny_func ?_⟩
  refine h env (A.deeper env) (own env (fnSc fd.scope) ++ X) φ _ _ _ O R₁ L fun fl fc φ₂ σ₂ s₂ X₂ hX₁ hX₂ x₂ R₂ r₂ p => ?_
  have hXX : ∀ a ∈ X, a ∈ X₂ := fun a ha => Classical.byContradiction fun hn => by
    have h1 := hX₂ a (List.mem_append.mpr (.inr ha)) hn
    obtain ⟨o, e⟩ := R₀.xs a ha
    replace e : h₀.get? a = some o := e
    rw [hfresh₀ a h1] at e; cases e
  have hφ : φ₂.l.take σ.length = φ.l := by
    obtain ⟨t, ht⟩ := x₂.pre
    rw [← ht, ← R.len, List.take_left]
  have hφ' : (φ₂.take σ.length).l = φ.l := hφ
  have R₃ := R₂.cutTo hXX σ.length (by rw [hφ']; exact R.pl) fun b hb => (R.tb b hb).1
  have x₃ : Step φ (φ₂.take σ.length) [] s s₂ := by
    refine ⟨by rw [hφ']; exact List.prefix_refl _, fun b o e h1 _ h9 => ?_, fun a h1 h2 => absurd (hφ' ▸ h1) h2, fun b o e => ?_, x₂.tau⟩
    · refine x₂.keep b o (hk₁ _ _ (hk₀ _ _ e)) h1 (fun q => ?_) h9
      have := hk₀ _ _ e
      rw [hfresh₀ b q] at this; cases this
    · exact x₂.alive b o (hk₁ _ _ (hk₀ _ _ e))
  have rr := R₂.fzFl hXX (n := σ.length) (fl := fl) (f := fc) r₂
  have fin := K _ (retC fc) _ _ s₂ x₃ R₃ rr p
  cases fc <;> exact fin
end
end Mine
end -- Fw7
section -- Fw8
set_option tactic.hygienic false
open PySem PySem.W PySem.Calls PyProof.Rows
set_option linter.unusedVariables false
set_option linter.unusedSimpArgs false
set_option autoImplicit false
namespace Mine
section
variable {c : Cx} {d : Nat} {sc : Sc} {ρ : List (Option V)} {σ : List (List PyData)} {P : V → List (List PyData) → Prop}

theorem Rel.freshAt {φ : Phi} {X : List Addr} {s : Shared} (R : Rel c φ X σ s) {a : Addr} (h : s.heap.get? a = none) : a ∉ φ.l ++ X := fun q => by
  rcases List.mem_append.mp q with q | q
  · obtain ⟨o, e⟩ := R.alive q; rw [h] at e; cases e
  · obtain ⟨o, e⟩ := R.xs a q; rw [h] at e; cases e
theorem Rel.size_not {φ : Phi} {X : List Addr} {s : Shared} (R : Rel c φ X σ s) : s.heap.objs.size ∉ φ.l ++ X := R.freshAt (get_none (Nat.le_refl _))

theorem VReps.data {h : Heap} {φ : Phi} {X : List Addr} {wk : Bool} : ∀ {xs : List PyData} {cvs : List Value}, VReps h φ X (xs.map (V.e wk)) cvs → RdAll wk φ.τ (cut h (φ.l ++ X)) cvs xs
  | xs, cvs, h => by
    induction xs generalizing cvs with
    | nil => cases h; exact .nil
    | cons x xs ih =>
      cases h with
      | cons r rs => exact .cons r (ih _ rs)

theorem cut_push {h : Heap} {M : List Addr} {o : Obj} {b : Addr} {o' : Obj} (e : (cut h M).get? b = some o') : (cut (h.push o) M).get? b = some o' := by
  obtain ⟨e1, e2⟩ := cut_get.mp e
  exact cut_get.mpr ⟨Heap.get?_push_of_some _ e1, e2⟩

noncomputable abbrev kTup (P : V → List (List PyData) → Prop) : List V → List (List PyData) → Prop := fun vs σ₁ => ∃ (wk : Bool) (xs : List PyData), vs = xs.map (V.e wk) ∧ xs.length ≤ 1000 ∧ P (.e wk (.tuple xs)) σ₁
theorem TE.tuple {es : List Expr} {k : Nat} {pos : Pos} (h : TEs c d es sc ρ σ (kTup P)) : TE c d (.Tuple es k pos) sc ρ σ P := by
  intro env A X φ s Q E O R L K
  refine Tuple_ (h env A X φ s pos _ E O R L fun vs cvs φ₁ σ₁ s₁ x₁ R₁ r₁ h₁ => ?_)
  obtain ⟨wk, xs, rfl, hlen, p⟩ := h₁
  have rd := r₁.data
  have hl : cvs.length = xs.length := RdAll.length_eq rd
  refine wpAny_newObj_type ?_ (by show cvs.toArray.size ≤ sizeLine; rw [List.size_toArray, sizeLine_eq]; omega)
  exact K (.e wk (.tuple xs)) _ φ₁ σ₁ _ (x₁.trans (Step.grow (tk := s₁.toks) fun b o e => Heap.get?_push_of_some _ e)) (R₁.grow (fun b o e => Heap.get?_push_of_some _ e) (Nat.le_refl _)) (Rd.tuple (cut_get.mpr ⟨Heap.get?_push_size _ rfl, R₁.size_not⟩) rfl rfl (RdAll.keeps .refl (fun b o e => cut_push e) rd)) p
/-- a list display that no one turns -/
noncomputable abbrev kLst (P : V → List (List PyData) → Prop) : List V → List (List PyData) → Prop := fun vs σ₁ => ∃ (wk : Bool) (xs : List PyData), vs = xs.map (V.e wk) ∧ xs.length ≤ 1000 ∧ P (.e wk (.list xs)) σ₁
theorem TE.list {es : List Expr} {pos : Pos} (h : TEs c d es sc ρ σ (kLst P)) : TE c d (.List es pos) sc ρ σ P := by
  intro env A X φ s Q E O R L K
  refine List_ (h env A X φ s pos _ E O R L fun vs cvs φ₁ σ₁ s₁ x₁ R₁ r₁ h₁ => ?_)
  obtain ⟨wk, xs, rfl, hlen, p⟩ := h₁
  have rd := r₁.data
  have hl : cvs.length = xs.length := RdAll.length_eq rd
  refine wpAny_newObj_type ?_ (by show cvs.toArray.size ≤ sizeLine; rw [List.size_toArray, sizeLine_eq]; omega)
  exact K (.e wk (.list xs)) _ φ₁ σ₁ _ (x₁.trans (Step.grow (tk := s₁.toks) fun b o e => Heap.get?_push_of_some _ e)) (R₁.grow (fun b o e => Heap.get?_push_of_some _ e) (Nat.le_refl _)) (Rd.list (cut_get.mpr ⟨Heap.get?_push_size _ rfl, R₁.size_not⟩) rfl rfl (RdAll.keeps .refl (fun b o e => cut_push e) rd)) p

noncomputable def Phi.add (φ : Phi) (a : Addr) : Phi := ⟨φ.l ++ [a], φ.τ⟩
/-- a new tracked list -/
theorem Rel.track {φ : Phi} {X : List Addr} {s : Shared} (R : Rel c φ X σ s) {h' : Heap} {tk : Nat} {a : Addr} {items : Array Value} {xs : List PyData} (hk : ∀ b o, s.heap.get? b = some o → h'.get? b = some o) (ha : s.heap.get? a = none)
    (hl : h'.PlainList a items) (rd : RdAll false φ.τ (cut s.heap (φ.l ++ X)) items.toList xs) (ht : s.toks ≤ tk) : Rel c (φ.add a) X (σ ++ [xs]) { s with heap := h', toks := tk } := by
  have hna := R.freshAt ha
  rw [List.mem_append, not_or] at hna
  have hcut : ∀ b o, (cut s.heap (φ.l ++ X)).get? b = some o → (cut h' (φ.l ++ [a] ++ X)).get? b = some o := fun b o e => by
    obtain ⟨e1, e2⟩ := cut_get.mp e
    refine cut_get.mpr ⟨hk _ _ e1, fun q => ?_⟩
    rw [List.append_assoc] at q
    rcases List.mem_append.mp q with q | q
    · exact e2 (List.mem_append.mpr (.inl q))
    · rcases List.mem_append.mp q with q | q
      · rw [List.mem_singleton.mp q, ha] at e1; cases e1
      · exact e2 (List.mem_append.mpr (.inr q))
  refine ⟨by simp [Phi.add, R.len], ?_, fun b h1 => ?_, fun i b ys e1 e2 => ?_, fun b h1 => ?_, fun b o e => ?_, fun b hb => ⟨(R.tb b hb).1, (R.tb b hb).2.keeps hcut fun o e => hk _ _ e⟩, ?_, R.tk.mono ht, R.pl.trans (List.prefix_append _ _), R.pt⟩
  · show (φ.l ++ [a]).Nodup
    rw [List.nodup_append]
    refine ⟨R.nd, by simp, fun x h1 y h2 => ?_⟩
    rw [List.mem_singleton.mp h2]
    rintro rfl; exact hna.1 h1
  · rcases List.mem_append.mp h1 with h1 | h1
    · exact R.dj b h1
    · rw [List.mem_singleton.mp h1]; exact hna.2
  · replace e1 : (φ.l ++ [a])[i]? = some b := e1
    by_cases hi : i < φ.l.length
    · rw [List.getElem?_append_left hi] at e1
      rw [List.getElem?_append_left (R.len ▸ hi)] at e2
      obtain ⟨it, ⟨o, h1⟩, h3⟩ := R.ob i b ys e1 e2
      exact ⟨it, ⟨o, hk _ _ h1⟩, RdAll.keeps .refl hcut h3⟩
    · have hi' : i = φ.l.length := by
        have := (List.getElem?_eq_some_iff.mp e1).1
        rw [List.length_append, List.length_singleton] at this
        omega
      subst hi'
      rw [List.getElem?_append_right (Nat.le_refl _), Nat.sub_self] at e1
      rw [List.getElem?_append_right (Nat.le_of_eq R.len.symm), R.len, Nat.sub_self] at e2
      have e1 : a = b := by simpa using e1
      have e2 : xs = ys := by simpa using e2
      subst e1; subst e2
      exact ⟨items, hl, RdAll.keeps .refl hcut rd⟩
  · obtain ⟨o, e⟩ := R.xs b h1; exact ⟨o, hk _ _ e⟩
  · obtain ⟨h1, h2, h3⟩ := R.bs b o e
    refine ⟨hk _ _ h1, fun q => ?_, h3⟩
    rcases List.mem_append.mp q with q | q
    · exact h2 q
    · rw [List.mem_singleton.mp q, ha] at h1; cases h1
  · obtain ⟨h, t, rfl⟩ := R.env; exact ⟨h', tk, rfl⟩
theorem Step.track {φ : Phi} {s : Shared} {h' : Heap} {tk : Nat} {a : Addr} (hk : ∀ b o, s.heap.get? b = some o → h'.get? b = some o) (ha : s.heap.get? a = none) : Step φ (φ.add a) [] s { s with heap := h', toks := tk } where
  pre := List.prefix_append _ _
  keep := fun _ _ e _ _ _ => hk _ _ e
  fresh := fun b h1 h2 => by
    rcases List.mem_append.mp h1 with h1 | h1
    · exact absurd h1 h2
    · rw [List.mem_singleton.mp h1]; exact ⟨(by simp), ha⟩
  alive := fun _ o e => ⟨o, hk _ _ e⟩
  tau := .refl
theorem Rel.newRef {φ : Phi} {X : List Addr} {h : Heap} (e : φ.l.length = σ.length) {a : Addr} : VRep h (φ.add a) X (.r σ.length) (.ref a) := ⟨a, by show (φ.l ++ [a])[_]? = _; rw [List.getElem?_append_right (Nat.le_of_eq e), e, Nat.sub_self]; rfl, rfl⟩

/-- a list display that is to be turned -/
noncomputable abbrev kLstT (P : V → List (List PyData) → Prop) : List V → List (List PyData) → Prop := fun vs σ₁ => ∃ xs : List PyData, vs = xs.map V.d ∧ xs.length ≤ 1000 ∧ P (.r σ₁.length) (σ₁ ++ [xs])
theorem TE.listT {es : List Expr} {pos : Pos} (h : TEs c d es sc ρ σ (kLstT P)) : TE c d (.List es pos) sc ρ σ P := by
  intro env A X φ s Q E O R L K
  refine List_ (h env A X φ s pos _ E O R L fun vs cvs φ₁ σ₁ s₁ x₁ R₁ r₁ h₁ => ?_)
  obtain ⟨xs, rfl, hlen, p⟩ := h₁
  have rd := r₁.data
  have hl : cvs.length = xs.length := RdAll.length_eq rd
  refine wpAny_newObj_type ?_ (by show cvs.toArray.size ≤ sizeLine; rw [List.size_toArray, sizeLine_eq]; omega)
  have hk : ∀ b o, s₁.heap.get? b = some o → (s₁.heap.push { cls := .type "list", dict := none, data := .seq cvs.toArray }).get? b = some o := fun b o e => Heap.get?_push_of_some _ e
  have hn : s₁.heap.get? s₁.heap.objs.size = none := get_none (Nat.le_refl _)
  exact K (.r σ₁.length) _ (φ₁.add s₁.heap.objs.size) (σ₁ ++ [xs]) _ (x₁.trans (Step.track (tk := s₁.toks) hk hn)) (R₁.track hk hn ⟨_, Heap.get?_push_size _ rfl⟩ (by simpa using rd) (Nat.le_refl _)) (Rel.newRef R₁.len) p

theorem TE.sub {value slice : Expr} {pos : Pos} (h : TE c d value sc ρ σ (kTwo c d slice sc ρ (subscriptTail value slice) P)) : TE c d (.Subscript value slice pos) sc ρ σ P := by
  intro env A X φ s Q E O R L K
  refine Subscript_ (h env A X φ s _ E O R L fun a ca φ₁ σ₁ s₁ x₁ R₁ r₁ h₁ => ?_)
  have L₁ := L.step x₁ (R.own O.o) (fun a h _ => h)
  refine h₁ env A X φ₁ s₁ _ E O R₁ L₁ fun b cb φ₂ σ₂ s₂ x₂ R₂ r₂ h₂ => ?_
  exact h₂ A X φ₂ s₂ ca cb Q E O.c O.a R₂ (r₁.step x₂ (by simp) (fun a h _ => h)) r₂ (K.step (x₁.trans x₂))

noncomputable def noSlice : Expr → Bool
  | .Slice .. => false
  | _ => true
theorem subscripted_noSlice {e : Expr} (h : noSlice e = true) (o i : Value) : subscripted e false o i = operate [o, i] (getItem o i) := by
  unfold subscripted
  cases e <;> first | rfl | (cases h; done)

theorem TV2.subLI {value slice : Expr} {wk wb : Bool} {xs : List PyData} {k : Int} {x : PyData} (h0 : 0 ≤ k) (h1 : k < 2 ^ 63) (hx : xs[k.toNat]? = some x) (p : P (.e wk x) σ) (hs : noSlice slice = true := by rfl) : TV2 c d (subscriptTail value slice) (.e wk (.list xs)) (.e wb (.int k)) σ P := by
  intro A X φ s ca cb Q E C a R ra rb K
  obtain ⟨l, items, rfl, hl, hm, rd⟩ := ra.list_inv
  obtain ⟨t, rfl⟩ := rb.int_inv
  obtain ⟨v, h2, h3⟩ := RdAll.get rd hx
  exact tail_any hl.typeIs slot_list_getitem.lookup (wpAny_getItem_list hl h0 h1 (by simpa using h2) (K.here R (v := .e _ _) h3 p)) (subscripted_noSlice hs _ _)
theorem TV2.subRI {value slice : Expr} {wb : Bool} {i : Nat} {xs : List PyData} {k : Int} {x : PyData} (hi : σ[i]? = some xs) (h0 : 0 ≤ k) (h1 : k < 2 ^ 63) (hx : xs[k.toNat]? = some x) (p : P (.d x) σ) (hs : noSlice slice = true := by rfl) : TV2 c d (subscriptTail value slice) (.r i) (.e wb (.int k)) σ P := by
  intro A X φ s ca cb Q E C a R ra rb K
  obtain ⟨l, hl, rfl⟩ := ra
  obtain ⟨items, hl, rd⟩ := R.ob i l xs hl hi
  have hl := hl.isList
  obtain ⟨t, rfl⟩ := rb.int_inv
  obtain ⟨v, h2, h3⟩ := RdAll.get rd hx
  exact tail_any hl.typeIs slot_list_getitem.lookup (wpAny_getItem_list hl h0 h1 (by simpa using h2) (K.here R (v := .e _ _) h3 p)) (subscripted_noSlice hs _ _)
theorem TV2.subTI {value slice : Expr} {wk wb : Bool} {xs : List PyData} {k : Int} {x : PyData} (h0 : 0 ≤ k) (h1 : k < 2 ^ 63) (hx : xs[k.toNat]? = some x) (p : P (.e wk x) σ) (hs : noSlice slice = true := by rfl) : TV2 c d (subscriptTail value slice) (.e wk (.tuple xs)) (.e wb (.int k)) σ P := by
  intro A X φ s ca cb Q E C a R ra rb K
  obtain ⟨l, items, rfl, hl, hm, rd⟩ := ra.tuple_inv
  obtain ⟨t, rfl⟩ := rb.int_inv
  obtain ⟨v, h2, h3⟩ := RdAll.get rd hx
  have hlt : k.toNat < items.size := by
    have := (List.getElem?_eq_some_iff.mp h2).1
    simpa using this
  refine tail_any hl.typeIs F.slot_tuple_getitem.lookup (PyProof.Rows.getItem_tuple (j := k.toNat) (x := v) hl ?_ ?_ ?_ (by simpa using h2) (K.here R (v := .e _ _) h3 p)) (subscripted_noSlice hs _ _)
  · omega
  · exact h1
  · unfold seqIndex?
    have hn : ¬ k < 0 := by omega
    simp only [if_neg hn]
    have e : (k.toNat : Int) = k := Int.toNat_of_nonneg h0
    have h2 : k < (items.size : Int) := by rw [← e]; exact Int.ofNat_lt.mpr hlt
    rw [decide_eq_true h0, decide_eq_true h2]
    rfl
theorem TV2.subSI {value slice : Expr} {wb wk : Bool} {x : Str} {k : Int} {ch : Nat} (h0 : 0 ≤ k) (h1 : k < 2 ^ 63) (hx : x.cps[k.toNat]? = some ch) (p : P (.d (.str ⟨#[ch]⟩)) σ) (hs : noSlice slice = true := by rfl) : TV2 c d (subscriptTail value slice) (.e wk (.str x)) (.e wb (.int k)) σ P := by
  intro A X φ s ca cb Q E C a R ra rb K
  obtain ⟨t, rfl⟩ := ra.str_inv
  obtain ⟨u, rfl⟩ := rb.int_inv
  refine tail_any (typeIs_str s x t) F.slot_str_getitem.lookup (PySem.P.getItem_str (c := ch) (by simp; omega) ?_ (K.strN R p)) (subscripted_noSlice hs _ _)
  have hlt : k.toNat < x.cps.size := (Array.getElem?_eq_some_iff.mp hx).1
  have e : (k.toNat : Int) = k := Int.toNat_of_nonneg h0
  unfold seqIndex?
  have hn : ¬ k < 0 := by omega
  simp only [if_neg hn]
  have hl : x.length = x.cps.size := rfl
  have h2 : k < (x.length : Int) := by rw [← e]; exact Int.ofNat_lt.mpr hlt
  rw [decide_eq_true h0, decide_eq_true h2]
  exact hx
end
end Mine
end -- Fw8
section -- Fw9
set_option tactic.hygienic false
open PySem PySem.W PySem.Calls PyProof.Rows
set_option linter.unusedVariables false
set_option linter.unusedSimpArgs false
set_option autoImplicit false
namespace Mine
section
variable {c : Cx} {d : Nat} {sc : Sc} {ρ : List (Option V)} {σ : List (List PyData)} {P : V → List (List PyData) → Prop}

theorem Cont.newList {X : List Addr} {φ : Phi} {s : Shared} {Q : Value → Shared → Prop} (K : Cont c X φ s P Q) (R : Rel c φ X σ s) {items : Array Value} {wk : Bool} {xs : List PyData} (rd : RdAll wk φ.τ (cut s.heap (φ.l ++ X)) items.toList xs)
    (p : P (.e wk (.list xs)) σ) {tk : Nat} (ht : s.toks ≤ tk) : Q (.ref s.heap.objs.size) { s with heap := s.heap.push { cls := .type "list", data := .seq items }, toks := tk } :=
  K (.e wk (.list xs)) _ φ σ _ (Step.grow (tk := tk) fun b o e => Heap.get?_push_of_some _ e) (R.grow (fun b o e => Heap.get?_push_of_some _ e) ht)
    (Rd.list (cut_get.mpr ⟨Heap.get?_push_size _ rfl, R.size_not⟩) rfl rfl (RdAll.keeps .refl (fun b o e => cut_push e) rd)) p
theorem TE.slice2 {l u : Expr} {pos : Pos} (h : TE c d l sc ρ σ fun va σ₁ => TE c d u sc ρ σ₁ fun vb σ₂ => ∃ wa wb a b, va = .e wa (.int a) ∧ vb = .e wb (.int b) ∧ P (.slc (some a) (some b)) σ₂) : TE c d (.Slice (some l) (some u) none pos) sc ρ σ P := by
  intro env A X φ s Q E O R L K
  refine wpAny_Slice ?_
  rw [evalPart_some, evalPart_some, evalPart_none]
  refine h env A X φ s _ E O R L fun va ca φ₁ σ₁ s₁ x₁ R₁ r₁ h₁ => ?_
  have L₁ := L.step x₁ (R.own O.o) (fun a h _ => h)
  refine h₁ env A X φ₁ s₁ _ E O R₁ L₁ fun vb cb φ₂ σ₂ s₂ x₂ R₂ r₂ h₂ => ?_
  obtain ⟨wa, wb, a, b, rfl, rfl, p⟩ := h₂
  obtain ⟨t, rfl⟩ := r₁.int_inv
  obtain ⟨u, rfl⟩ := r₂.int_inv
  refine wpAny_pure (K (.slc (some a) (some b)) _ φ₂ σ₂ _ ((x₁.trans x₂).trans (Step.grow (tk := s₂.toks) fun b o e => Heap.get?_push_of_some _ e)) (R₂.grow (fun b o e => Heap.get?_push_of_some _ e) (Nat.le_refl _)) ?_ p)
  exact ⟨_, some (a, t), some (b, u), rfl, rfl, rfl, _, cut_get.mpr ⟨Heap.get?_push_size _ rfl, R₂.size_not⟩, rfl, rfl⟩
theorem TE.slice0u {u : Expr} {pos : Pos} (h : TE c d u sc ρ σ fun vb σ₂ => ∃ wb b, vb = .e wb (.int b) ∧ P (.slc none (some b)) σ₂) : TE c d (.Slice none (some u) none pos) sc ρ σ P := by
  intro env A X φ s Q E O R L K
  refine wpAny_Slice ?_
  rw [evalPart_some, evalPart_none]
  refine wpAny_pure (h env A X φ s _ E O R L fun vb cb φ₂ σ₂ s₂ x₂ R₂ r₂ h₂ => ?_)
  obtain ⟨wb, b, rfl, p⟩ := h₂
  obtain ⟨u, rfl⟩ := r₂.int_inv
  refine wpAny_pure (K (.slc none (some b)) _ φ₂ σ₂ _ (x₂.trans (Step.grow (tk := s₂.toks) fun b o e => Heap.get?_push_of_some _ e)) (R₂.grow (fun b o e => Heap.get?_push_of_some _ e) (Nat.le_refl _)) ?_ p)
  exact ⟨_, none, some (b, u), rfl, rfl, rfl, _, cut_get.mpr ⟨Heap.get?_push_size _ rfl, R₂.size_not⟩, rfl, rfl⟩

theorem isPart_of (l : Option (Int × Tok)) : IsPart (partValue l) (l.map (·.1)) := by
  cases l with
  | none => exact .none
  | some p => exact .int p.1 p.2
theorem subscripted_slice {l u : Option Expr} {pos : Pos} (o i : Value) : subscripted (.Slice l u none pos) false o i = operate [i, o] (getItem o i) := rfl

/-- xs[a:b] of a list, 0 ≤ a ≤ b ≤ len -/
theorem TV2.subLS {value : Expr} {wk : Bool} {l u : Option Expr} {pos : Pos} {xs : List PyData} {a b : Nat} (hab : a ≤ b) (hb : b ≤ xs.length) (hsz : xs.length ≤ 1000) (p : P (.e wk (.list ((xs.drop a).take (b - a)))) σ) :
    TV2 c d (subscriptTail value (.Slice l u none pos)) (.e wk (.list xs)) (.slc (some a) (some b)) σ P := by
  intro A X φ s ca cb Q E C aok R ra rb K
  obtain ⟨la, items, rfl, hl, hm, rd⟩ := ra.list_inv
  obtain ⟨sl, lo, hi, rfl, e1, e2, os, hs1, hs2, hs3⟩ := rb
  have hlen : items.size = xs.length := by rw [← RdAll.length_eq rd]; simp
  have rd2 := RdAll.drop rd a
  have rd3 := RdAll.take rd2 (b - a)
  have pk : slicePick items (some a) (some b) none = ((items.toList.drop a).take (b - a)).toArray := slicePick_run items a b (by omega) hab
  refine tail_any hl.typeIs slot_list_getitem.lookup (wpAny_getItem_list_slice (lo := some (a : Int)) (hi := some (b : Int)) (st := none) hl ⟨os, cut_sub hs1, hs2, hs3⟩ (by rw [e1]; exact isPart_of lo) (by rw [e2]; exact isPart_of hi) .none (by simp) ?_ (by rw [hlen, sizeLine_eq]; omega)) (subscripted_slice _ _)
  rw [pk]
  exact K.newList R (by simpa using rd3) p (Nat.le_refl _)
/-- xs[:b] of a list -/
theorem TV2.subLS0 {value : Expr} {wk : Bool} {l u : Option Expr} {pos : Pos} {xs : List PyData} {b : Nat} (hsz : xs.length ≤ 1000) (p : P (.e wk (.list (xs.take b))) σ) :
    TV2 c d (subscriptTail value (.Slice l u none pos)) (.e wk (.list xs)) (.slc none (some b)) σ P := by
  intro A X φ s ca cb Q E C aok R ra rb K
  obtain ⟨la, items, rfl, hl, hm, rd⟩ := ra.list_inv
  obtain ⟨sl, lo, hi, rfl, e1, e2, os, hs1, hs2, hs3⟩ := rb
  have hlen : items.size = xs.length := by rw [← RdAll.length_eq rd]; simp
  have rd3 := RdAll.take rd b
  have pk : slicePick items none (some b) none = (items.toList.take b).toArray := slicePick_upto' items b
  refine tail_any hl.typeIs slot_list_getitem.lookup (wpAny_getItem_list_slice (lo := none) (hi := some (b : Int)) (st := none) hl ⟨os, cut_sub hs1, hs2, hs3⟩ (by rw [e1]; exact isPart_of lo) (by rw [e2]; exact isPart_of hi) .none (by simp) ?_ (by rw [hlen, sizeLine_eq]; omega)) (subscripted_slice _ _)
  rw [pk]
  exact K.newList R (by simpa using rd3) p (Nat.le_refl _)

/-! lists: +, * -/
theorem TV2.addLL {wk : Bool} {xs ys : List PyData} (hsz : xs.length + ys.length ≤ 1000) (p : P (.e wk (.list (xs ++ ys))) σ) : TV2 c d (binaryOp .Add) (.e wk (.list xs)) (.e wk (.list ys)) σ P := by
  intro A X φ s ca cb Q E C aok R ra rb K
  obtain ⟨la, items, rfl, hl, hm, rd⟩ := ra.list_inv
  obtain ⟨lb, items2, rfl, hl2, hm2, rd2⟩ := rb.list_inv
  have hlen : items.size = xs.length := by rw [← RdAll.length_eq rd]; simp
  have hlen2 : items2.size = ys.length := by rw [← RdAll.length_eq rd2]; simp
  have rd3 := RdAll.app rd rd2
  obtain ⟨⟨cls, dd, data, sl⟩, ho, hc, n, hd⟩ := id hl
  obtain ⟨⟨cls2, dd2, data2, sl2⟩, ho2, hc2, n2, hd2⟩ := id hl2
  simp only at hc hd hc2 hd2
  subst hc hd hc2 hd2
  refine concat_meets ⟨_, ho, rfl⟩ ⟨_, ho2, rfl⟩ noFill_list_add seq_list_add PySem.F.slot_list_add PySem.F.entry_list_add (PySem.F.args_list_add_2 _ _) (list_addW la lb items items2 n n2 dd dd2 sl sl2 (by rw [hlen, hlen2, sizeLine_eq]; omega)) ⟨ho, ho2, ?_⟩
  exact K.newList R (by simpa using rd3) p (Nat.le_refl _)

theorem foldl_rep1 (v : Value) : ∀ (n : Nat) (acc : Array Value), (List.replicate n #[v]).foldl (fun x y => x ++ y) acc = acc ++ (List.replicate n v).toArray
  | 0, acc => by simp
  | n + 1, acc => by
    rw [List.replicate_succ, List.foldl_cons, foldl_rep1 v n]
    apply Array.ext'
    simp [List.replicate_succ]
/-- [x] * n, to be turned -/
theorem TV2.mulLI {wb : Bool} {x : PyData} {n : Int} (h0 : 0 ≤ n) (h1 : n ≤ 1000) (p : P (.r σ.length) (σ ++ [List.replicate n.toNat x])) : TV2 c d (binaryOp .Mult) (.d (.list [x])) (.e wb (.int n)) σ P := by
  intro A X φ s ca cb Q E C aok R ra rb K
  obtain ⟨la, items, rfl, hl, hm, rd⟩ := ra.list_inv
  obtain ⟨u, rfl⟩ := rb.int_inv
  obtain ⟨⟨cls, dd, data, sl⟩, ho, hc, k, hd⟩ := id hl
  simp only at hc hd
  subst hc hd
  have hlen : items.size = 1 := by have := RdAll.length_eq rd; simpa using this
  obtain ⟨v, hv⟩ : ∃ v, items = #[v] := by
    obtain ⟨l⟩ := items
    obtain ⟨v, rfl⟩ := len1 (l := l) hlen
    exact ⟨v, rfl⟩
  subst hv
  have hr : Rd false φ.τ (cut s.heap (φ.l ++ X)) v x := by
    cases rd with
    | cons r rs => exact r
  have rd3 := RdAll.rep hr n.toNat
  refine wpAny_binaryOp_repeat_ref (T := "list") (U := "int") (by decide) ⟨_, ho, rfl⟩ (fun s' => typeIs_int s' n u) noFill_list_mul F.fills_int_mul F.slot_int_rmul repeat_list F.slot_int_index.lookup
    (call_meets F.slot_int_rmul (typeIs_int s n u) F.entry_int_rmul (F.args_int_rmul_2 _ _) (lm_int_rmul_list_any n u la #[v] k dd sl)
      ⟨ho, rfl, ⟨_, ho, rfl⟩, call_meets F.slot_list_mul ⟨_, ho, rfl⟩ F.entry_list_mul (F.args_list_mul_2 _ _)
        (lm_list_mul_any la #[v] k dd sl n u (by simp [Builtin.List.listFitsIndex]; omega) (by simp; omega) (by simp [Builtin.List.listTooLong, sizeLine_eq]; omega)) ⟨ho, ?_⟩⟩)
  have he : ((#[v] : Array Value).isEmpty = true) = False := by simp
  simp only [he, if_false]
  rw [foldl_rep1]
  have hk : ∀ b o, s.heap.get? b = some o → (s.heap.push { cls := Value.type "list", data := Data.seq (#[] ++ (List.replicate n.toNat v).toArray) }).get? b = some o := fun b o e => Heap.get?_push_of_some _ e
  have hn : s.heap.get? s.heap.objs.size = none := get_none (Nat.le_refl _)
  exact K (.r σ.length) _ (φ.add s.heap.objs.size) _ _ (Step.track (tk := s.toks) hk hn) (R.track hk hn ⟨_, Heap.get?_push_size _ rfl⟩ (by simpa using rd3) (Nat.le_refl _)) (Rel.newRef R.len) p

theorem fits_reps_len {n : Nat} (h : Builtin.Str.tooLong n = false) : n ≤ sizeLine := by
  unfold Builtin.Str.tooLong at h
  simpa using h
theorem TV2.mulSI {wb : Bool} {x : Str} {n : Int} (hok : MulOk x n) (p : P (.d (.str (Txt.mul x n))) σ) : TV2 c d (binaryOp .Mult) (.d (.str x)) (.e wb (.int n)) σ P := by
  intro A X φ s ca cb Q E C aok R ra rb K
  obtain ⟨t, rfl⟩ := ra.str_inv
  obtain ⟨u, rfl⟩ := rb.int_inv
  obtain ⟨h1, h2, h3⟩ := hok
  refine PySem.P.mul_str h1 h2 h3 ?_
  unfold Txt.mul at p
  by_cases hn : n < 1
  · rw [if_pos hn] at p ⊢
    exact ⟨by decide, K.strN R p⟩
  · rw [if_neg hn] at p ⊢
    by_cases hq : (n == 1 || x.length == 0) = true
    · rw [if_pos hq] at p ⊢
      exact K.here R ra p
    · rw [if_neg hq] at p ⊢
      have h4 := h3 hn (by simpa using hq)
      refine ⟨?_, K.strN R p⟩
      have e : (⟨(List.replicate n.toNat x.cps).foldl (· ++ ·) #[]⟩ : Str).length = x.length * n.toNat := by
        have g : ∀ (k : Nat) (acc : Array Nat), ((List.replicate k x.cps).foldl (· ++ ·) acc).size = acc.size + x.cps.size * k := by
          intro k
          induction k with
          | zero => intro acc; simp
          | succ k ih => intro acc; rw [List.replicate_succ, List.foldl_cons, ih, Array.size_append, Nat.mul_succ]; omega
        show ((List.replicate n.toNat x.cps).foldl (· ++ ·) #[]).size = _
        rw [g]; simp [Str.length]
      rw [e]
      exact fits_reps_len h4
end
end Mine
end -- Fw9
section -- Fw10
set_option tactic.hygienic false
open PySem PySem.W PySem.Calls PyProof.Rows
set_option linter.unusedVariables false
set_option linter.unusedSimpArgs false
set_option autoImplicit false
namespace Mine
section
variable {c : Cx} {d : Nat} {sc : Sc} {ρ : List (Option V)} {σ : List (List PyData)}

/-- the call behind its head, whatever is asked of it -/
theorem callWith_G {env : Env} {A : Around} {X : List Addr} {φ : Phi} {s : Shared} {pos : Pos} {cf : Value} {cfst : List Value} {args : List Expr} {P : List V → List (List PyData) → Prop} {Q : Value → Shared → Prop} {E : Value → Shared → Prop}
    (O : Ok c d env sc A X) (R : Rel c φ X σ s) (L : Loc env sc ρ φ X s.heap) (kp : KeepOk c cf) (hns : noStar args = true)
    (h : TEs c d args sc ρ σ P)
    (K : ∀ vs cvs φ' σ' s', Step φ φ' [] s s' → Rel c φ' X σ' s' → VReps s'.heap φ' X vs cvs → P vs σ' → wpAny (model c.prog c.w) A (call cf (cfst ++ cvs) []) Q E s') : wpAny (model c.prog c.w) A (callWith pos cf cfst (backTo pos (starEach args env)) []) Q E s := by
  have fin : ∀ vs cvs φ' σ' s', Step φ φ' [] s s' → Rel c φ' X σ' s' → VReps s'.heap φ' X vs cvs → P vs σ' → HIn c s'.heap ∧ wpAny (model c.prog c.w) A (call cf (cfst ++ cvs) []) Q E s' :=
    fun vs cvs φ' σ' s' x R' r h' => ⟨R'.hin O.c, K vs cvs φ' σ' s' x R' r h'⟩
  have hpl := starEach_plain env pos hns
  cases args with
  | nil =>
    refine callWith_of (P := HIn c) hpl kp (evalArgs_nil3 ?_)
    have := h env A X φ s pos (fun cvs s' => HIn c s'.heap ∧ wpAny (model c.prog c.w) A (call cf (cfst ++ cvs) []) Q E s') E O R L fin
    have e : wpAny (model c.prog c.w) A (spliced []) (fun cvs s' => HIn c s'.heap ∧ wpAny (model c.prog c.w) A (call cf (cfst ++ cvs) []) Q E s') E s := this
    refine ⟨R.hin O.c, fun Γ p hΓ => (e Γ p hΓ).2 Γ p hΓ⟩
  | cons a rest =>
    refine callWith_of (P := HIn c) (by rw [hpl]; rfl) kp ?_
    have := h env A X φ s pos (fun cvs s' => HIn c s'.heap ∧ wpAny (model c.prog c.w) A (call cf (cfst ++ cvs) []) Q E s') E O R L fin
    rw [starEach_of hns env] at this ⊢
    exact evalArgs_plain this

/-- what an enumerate draws on -/
structure SrcOk (c : Cx) (A : Around) (it : Addr) (wk : Bool) (xs : List PyData) (Good : List (List PyData) → Prop) (SI : Nat → Heap → Prop) (φ₀ : Phi) (G : Heap) : Prop where
  fr : ∀ i h h', SI i h → (∀ o, h.get? it = some o → h'.get? it = some o) → SI i h'
  live : ∀ i h, SI i h → ∃ o, h.get? it = some o
  next : ∀ (i : Nat) x (X : List Addr) φ σ (s : Shared), xs[i]? = some x → SI i s.heap → Rel c φ X σ s → Good σ → Gnd φ₀ G φ X s.heap →
    ∃ v tk₁ τ₁, s.toks ≤ tk₁ ∧ TauLe φ.τ τ₁ ∧ TkOk τ₁ tk₁ ∧ Rd wk τ₁ (cut s.heap (φ.l ++ X)) v x ∧
      ∀ (Q : Value → Shared → Prop) (E : Value → Shared → Prop), (∀ h', SI (i + 1) h' → Heap.SameBut it s.heap h' → Q v { s with heap := h', toks := tk₁ }) → wpAny (model c.prog c.w) A.in1 (Builtin.SmallTypes.nextOf (.ref it)) Q E s
  done : ∀ (X : List Addr) φ σ (s : Shared), SI xs.length s.heap → Rel c φ X σ s → Good σ → Gnd φ₀ G φ X s.heap → ∀ (Q : Value → Shared → Prop) (E : Value → Shared → Prop),
    (∀ h' e, Heap.ExtBut it s.heap h' → (∃ o, h'.get? e = some o ∧ o.cls = .type "StopIteration") → E (.ref e) { s with heap := h' }) → wpAny (model c.prog c.w) A.in1 (Builtin.SmallTypes.nextOf (.ref it)) Q E s

section
variable {prog : Program} {w : World} {A : Around} {E : Value → Shared → Prop} {s : Shared}
theorem enum_next_one {e it : Addr} {i : Nat} {old x : Value} {tk₁ : Nat} {Q : Option Value → Shared → Prop} {R : Heap → Prop} (he : IsEnum s.heap e it i old) (hne : e ≠ it) (hlt : it < s.heap.objs.size) (hR : ∀ h h', R h → (∀ o, h.get? it = some o → h'.get? it = some o) → R h')
    (hn : ∀ (Q : Value → Shared → Prop) (E : Value → Shared → Prop), (∀ h', R h' → Heap.SameBut it s.heap h' → Q x { s with heap := h', toks := tk₁ }) → wpAny (model prog w) A.in1 (Builtin.SmallTypes.nextOf (.ref it)) Q E s)
    (hQ : ∀ h', IsEnumOut h' e it ((i : Int) + 1) x s.heap.objs.size → R h' → h'.get? s.heap.objs.size = some { cls := .type "tuple", data := .seq #[.int i tk₁, x] } →
      (∀ b o, b ≠ e → b ≠ it → s.heap.get? b = some o → h'.get? b = some o) → Q (some (.ref s.heap.objs.size)) { s with heap := h', toks := tk₁ + 1 }) :
    wpAny (model prog w) A (pyNext (.ref e)) Q E s := by
  have hT : s.TypeIs (.ref e) "enumerate" := ⟨_, he, rfl⟩
  unfold pyNext
  refine wpAny_bind (wpAny_attempt (wpAny_callSpecial?_slot (name := Str.ofString "__next__") hT F.slot_enumerate_next (wpAny_call_entry F.slot_enumerate_next hT F.entry_enumerate_next ?_ (F.args_enumerate_next_1 _))))
  obtain ⟨hp, g, d, tk, os⟩ := s
  show wpAny _ _ (field (.ref e) 2 >>= _) _ _ _
  refine wpAny_bind (wpAny_field he rfl (x := .ref it) rfl (wpAny_bind (hn _ _ fun h₁ r₁ s₁ => ?_)))
  replace s₁ : Heap.SameBut it hp h₁ := s₁
  replace hlt : it < hp.objs.size := hlt
  have hel : e < hp.objs.size := Heap.lt_size he
  have e₁ : IsEnum h₁ e it i old := (s₁.2 e hne).trans he
  show wpAny _ _ (field (.ref e) 3 >>= _) _ _ ⟨h₁, g, d, tk₁, os⟩
  refine wpAny_bind (wpAny_field e₁ rfl (x := rawInt i) rfl ?_)
  show wpAny _ _ (field (.ref e) 4 >>= _) _ _ ⟨h₁, g, d, tk₁, os⟩
  refine wpAny_bind (wpAny_field e₁ rfl (x := .none) rfl ?_)
  show wpAny _ _ (mkInt i >>= _) _ _ ⟨h₁, g, d, tk₁, os⟩
  refine wpAny_bind (wpAny_mkInt ?_)
  show wpAny _ _ (setField (.ref e) 3 (rawInt ((i : Int) + 1)) >>= _) _ _ ⟨h₁, g, d, tk₁ + 1, os⟩
  refine wpAny_bind (wpAny_setField_rec e₁ (by simp) fun h₂ e₂ s₂ => ?_)
  replace s₂ : Heap.SameBut e h₁ h₂ := s₂
  replace e₂ : IsEnum h₂ e it ((i : Int) + 1) old := e₂
  show wpAny _ _ (setField (.ref e) 4 .none >>= _) _ _ ⟨h₂, g, d, tk₁ + 1, os⟩
  refine wpAny_bind (wpAny_setField_rec e₂ (by simp) fun h₃ e₃ s₃ => ?_)
  replace s₃ : Heap.SameBut e h₂ h₃ := s₃
  replace e₃ : IsEnum h₃ e it ((i : Int) + 1) old := e₃
  show wpAny _ _ (newTuple [.int i tk₁, x] >>= _) _ _ ⟨h₃, g, d, tk₁ + 1, os⟩
  refine wpAny_bind (wpAny_newTuple ?_)
  have hsz : h₃.objs.size = hp.objs.size := by rw [s₃.1, s₂.1, s₁.1]
  have k₃ : ∀ b o, b ≠ e → b ≠ it → hp.get? b = some o → h₃.get? b = some o := fun b o h1 h2 q => s₃.extBut b o h1 (s₂.extBut b o h1 (s₁.extBut b o h2 q))
  have r₃ : R h₃ := hR _ _ (hR _ _ r₁ fun o q => s₂.extBut it o (Ne.symm hne) q) fun o q => s₃.extBut it o (Ne.symm hne) q
  have e₄ : IsEnum (h₃.push { cls := .type "tuple", data := .seq #[.int i tk₁, x] }) e it ((i : Int) + 1) old := Heap.get?_push_of_some _ e₃
  have t₄ : (h₃.push { cls := .type "tuple", data := .seq #[.int i tk₁, x] }).get? hp.objs.size = some { cls := .type "tuple", data := .seq #[.int i tk₁, x] } := by rw [← hsz]; exact Heap.get?_push_size _ rfl
  have k₄ : ∀ b o, h₃.get? b = some o → (h₃.push { cls := .type "tuple", data := .seq #[.int i tk₁, x] }).get? b = some o := fun b o q => Heap.get?_push_of_some _ q
  generalize h₃.push { cls := .type "tuple", data := .seq #[.int i tk₁, x] } = h₄ at e₄ t₄ k₄
  rw [hsz]
  show wpAny _ _ (Builtin.SmallTypes.ownedTupleIsFree (.ref e) >>= _) _ _ ⟨h₄, g, d, tk₁ + 1, os⟩
  refine wpAny_bind ?_
  unfold Builtin.SmallTypes.ownedTupleIsFree
  refine wpAny_bind (wpAny_field e₄ rfl (x := .none) rfl (wpAny_pure ?_))
  simp only [if_true]
  refine wpAny_bind (wpAny_rule (wpAny_bind (wpAny_field e₄ rfl (x := old) rfl (wpAny_bind (wpAny_setField_rec e₄ (by simp) fun h₅ e₅ s₅ => ?_)))))
  replace s₅ : Heap.SameBut e h₄ h₅ := s₅
  replace e₅ : IsEnum h₅ e it ((i : Int) + 1) x := e₅
  show wpAny _ _ (Builtin.SmallTypes.ownedTupleHandOut (.ref e) (.ref hp.objs.size) >>= _) _ _ ⟨h₅, g, d, tk₁ + 1, os⟩
  refine wpAny_bind ?_
  unfold Builtin.SmallTypes.ownedTupleHandOut
  refine wpAny_bind (wpAny_setField_rec e₅ (by simp) fun h₆ e₆ s₆ => ?_)
  replace s₆ : Heap.SameBut e h₅ h₆ := s₆
  replace e₆ : IsEnumOut h₆ e it ((i : Int) + 1) x hp.objs.size := e₆
  refine wpAny_setField_rec e₆ (by simp) fun h₇ e₇ s₇ => ?_
  replace s₇ : Heap.SameBut e h₆ h₇ := s₇
  replace e₇ : IsEnumOut h₇ e it ((i : Int) + 1) x hp.objs.size := e₇
  have k₇ : ∀ b o, b ≠ e → h₄.get? b = some o → h₇.get? b = some o := fun b o h1 q => s₇.extBut b o h1 (s₆.extBut b o h1 (s₅.extBut b o h1 q))
  refine wpAny_bind (wpAny_letGo (wpAny_pure ⟨_, rfl, wpAny_pure (hQ h₇ e₇ (hR _ _ r₃ fun o q => k₇ it o (Ne.symm hne) (k₄ it o q)) (k₇ _ _ (Nat.ne_of_gt hel) t₄) ?_)⟩))
  exact fun b o h1 h2 q => k₇ b o h1 (k₄ b o (k₃ b o h1 h2 q))
theorem enum_next_end {e it : Addr} {i : Int} {old : Value} {Q : Option Value → Shared → Prop} (he : IsEnum s.heap e it i old)
    (hn : ∀ (Q : Value → Shared → Prop) (E : Value → Shared → Prop), (∀ h' e, Heap.ExtBut it s.heap h' → (∃ o, h'.get? e = some o ∧ o.cls = .type "StopIteration") → E (.ref e) { s with heap := h' }) → wpAny (model prog w) A.in1 (Builtin.SmallTypes.nextOf (.ref it)) Q E s)
    (hQ : ∀ h', Heap.ExtBut it s.heap h' → Q none { s with heap := h' }) : wpAny (model prog w) A (pyNext (.ref e)) Q E s := by
  have hT : s.TypeIs (.ref e) "enumerate" := ⟨_, he, rfl⟩
  unfold pyNext
  refine wpAny_bind (wpAny_attempt (wpAny_callSpecial?_slot (name := Str.ofString "__next__") hT F.slot_enumerate_next (wpAny_call_entry F.slot_enumerate_next hT F.entry_enumerate_next ?_ (F.args_enumerate_next_1 _))))
  show wpAny _ _ (field (.ref e) 2 >>= _) _ _ _
  refine wpAny_bind (wpAny_field he rfl (x := .ref it) rfl (wpAny_bind (hn _ _ fun h' y hx hy => ?_)))
  obtain ⟨o, ho, hc⟩ := hy
  exact wpAny_bind (wpAny_isInstance (T := "StopIteration") (b := true) ⟨o, ho, hc⟩ isSubtype_stop (wpAny_pure (hQ _ hx)))
end

theorem ItOk.enum {A : Around} {elts : List Expr} {x1} {tp : Pos} {e it : Addr} {wk : Bool} {xs : List PyData} {Good : List (List PyData) → Prop} {SI : Nat → Heap → Prop} {φ₀ : Phi} {G : Heap} (hne : e ≠ it) (S : SrcOk c A it wk xs Good SI φ₀ G) :
    ItOk c A (.Tuple elts x1 tp) (.ref e) [e, it] wk (enumL 0 xs) Good (fun i h => (∃ old, IsEnum h e it i old) ∧ SI i h) φ₀ G where
  frame := fun i h h' ⟨⟨old, h1⟩, h2⟩ hk => ⟨⟨old, hk e (by simp) _ h1⟩, S.fr _ _ _ h2 fun o q => hk it (by simp) o q⟩
  al := fun i h ⟨⟨old, h1⟩, h2⟩ b hb => by
    rcases List.mem_cons.mp hb with rfl | hb
    · exact ⟨_, h1⟩
    · rw [List.mem_singleton.mp hb]; exact S.live _ _ h2
  item := fun i y X φ σ s Q E hy st R hg g K => by
    obtain ⟨⟨old, he⟩, hs⟩ := st
    obtain ⟨x, hx, rfl⟩ := enumL_get xs 0 i y hy
    obtain ⟨v, tk₁, τ₁, q1, q2, q3, q4, q5⟩ := S.next i x _ φ σ s hx hs R hg g
    have hlt : it < s.heap.objs.size := by obtain ⟨_, y⟩ := S.live _ _ hs; exact Heap.lt_size y
    refine enum_next_one he hne hlt (fun h h' r k => S.fr _ _ _ r k) q5 fun h' he' hs' ht hk => ?_
    show wpAny _ A (letOwnedTupleGo _ _ _) _ E _
    refine wpAny_letOwnedTupleGo_enum he' fun h'' he'' hb => ?_
    replace hb : Heap.SameBut e h' h'' := hb
    have hel : e < s.heap.objs.size := Heap.lt_size he
    have hkk : ∀ b o, b ∉ [e, it] → s.heap.get? b = some o → h''.get? b = some o := fun b o h1 h2 => by
      have hbe : b ≠ e := fun q => h1 (by simp [q])
      have hbi : b ≠ it := fun q => h1 (by simp [q])
      exact hb.extBut b o hbe (hk b o hbe hbi h2)
    have hφ : TkOk (Phi.reg ⟨φ.l, τ₁⟩ tk₁ (.int ((0 + i : Nat) : Int))).τ (tk₁ + 1) := TkOk.reg (φ := ⟨φ.l, τ₁⟩) q3 (Nat.le_refl _) (Nat.lt_succ_self _)
    have hτ : TauLe τ₁ (Phi.reg ⟨φ.l, τ₁⟩ tk₁ (.int ((0 + i : Nat) : Int))).τ := TauLe.reg (φ := ⟨φ.l, τ₁⟩) q3 (Nat.le_refl _)
    refine K (.ref s.heap.objs.size) h'' (tk₁ + 1) _ ⟨⟨_, by simpa using he''⟩, S.fr _ _ _ hs' fun o q => hb.extBut it o (Ne.symm hne) q⟩ hkk (Nat.le_succ_of_le q1) (q2.trans hτ) hφ ?_
    refine Rd.tuple (vs := #[.int i tk₁, v]) (cut_get.mpr ⟨hb.extBut _ _ (Nat.ne_of_gt hel) ht, R.size_not⟩) rfl rfl (.cons ?_ (.cons (Rd.keeps hτ (cut_but wr_mem hkk) q4) .nil))
    have : (i : Int) = ((0 + i : Nat) : Int) := by simp
    rw [this]
    exact .int fun _ => Phi.reg_self
  done := fun X φ σ s Q E st R hg g K => by
    obtain ⟨⟨old, he⟩, hs⟩ := st
    rw [enumL_length] at hs he
    refine enum_next_end he (S.done _ φ σ s hs R hg g) fun h' hx => ?_
    exact K h' s.toks (fun b o hb q => hx b o (fun q' => hb (by simp [q'])) q) (Nat.le_refl _)
  self := fun i s Q E ⟨⟨old, he⟩, _⟩ q => wpAny_pyIter_enum he q

/-- a value to number -/
noncomputable def TSrc (c : Cx) (d : Nat) (v : V) (xs : List PyData) (wk : Bool) (Good : List (List PyData) → Prop) (σ : List (List PyData)) : Prop :=
  Good σ ∧ ∀ A X φ s cv (Q : Value → Shared → Prop) (E : Value → Shared → Prop), c.Ok → AOk A d → Rel c φ X σ s → VRep s.heap φ X v cv →
    (∀ SI h', (∀ b o, s.heap.get? b = some o → h'.get? b = some o) → IsEnum h' (s.heap.objs.size + 1) s.heap.objs.size 0 .none → SI 0 h' → SrcOk c A s.heap.objs.size wk xs Good SI φ (cut s.heap (φ.l ++ X)) → Q (.ref (s.heap.objs.size + 1)) { s with heap := h' }) →
    wpAny (model c.prog c.w) A (call (.type "enumerate") [cv] []) Q E s

theorem SrcOk.lst {A : Around} {I l : Addr} {wk : Bool} {xs : List PyData} {Good : List (List PyData) → Prop} {φ₀ : Phi} {G : Heap} (hh : A.handled = none)
    (cur : ∀ X φ σ s, Rel c φ X σ s → Good σ → Gnd φ₀ G φ X s.heap → ∃ items, s.heap.IsList l items ∧ RdAll wk φ.τ (cut s.heap (φ.l ++ X)) items.toList xs) :
    SrcOk c A I wk xs Good (fun i h => h.IsListIter I l i) φ₀ G where
  fr := fun i h h' st k => st.at fun o e => k o e
  live := fun i h ⟨o, e, _⟩ => ⟨o, e⟩
  next := fun i x X φ σ s hx st R hg g => by
    obtain ⟨items, hl, rd⟩ := cur X φ σ s R hg g
    obtain ⟨v, hv, rv⟩ := RdAll.get rd hx
    refine ⟨v, s.toks, φ.τ, Nat.le_refl _, .refl, R.tk, rv, fun Q E K => ?_⟩
    exact wpAny_nextOf_list_item st hl (by simpa using hv) fun h' st' hs => K h' st' hs
  done := fun X φ σ s st R hg g Q E K => by
    obtain ⟨items, hl, rd⟩ := cur X φ σ s R hg g
    have hlen : items.size = xs.length := by rw [← RdAll.length_eq rd]; simp
    exact wpAny_nextOf_list_end hh st hl (by simp [hlen]) K

theorem TSrc.list {wk : Bool} {xs : List PyData} : TSrc c d (.e wk (.list xs)) xs wk (fun _ => True) σ := by
  refine ⟨trivial, fun A X φ s cv Q E C a R r K => ?_⟩
  obtain ⟨l, items, rfl, hl, hm, rd⟩ := r.list_inv
  refine call_enumerate_list hl fun h' he hi hz hk => ?_
  obtain ⟨o, e, hoc, n, hod⟩ := hl
  exact K _ h' hk he hi (SrcOk.lst (l := l) a.hd fun X' φ' σ' s' R' _ g => ⟨items, ⟨o, cut_sub (g.keep _ _ (cut_get.mpr ⟨e, hm⟩)), hoc, n, hod⟩, RdAll.keeps g.tau g.keep rd⟩)
theorem TSrc.ref {i : Nat} {xs : List PyData} (hi : σ[i]? = some xs) : TSrc c d (.r i) xs false (fun σ' => σ'[i]? = some xs) σ := by
  refine ⟨hi, fun A X φ s cv Q E C a R r K => ?_⟩
  obtain ⟨l, h1, rfl⟩ := r
  obtain ⟨items, hl, rd⟩ := R.ob i l xs h1 hi
  refine call_enumerate_list hl.isList fun h' he hit hz hk => ?_
  exact K _ h' hk he hit (SrcOk.lst (l := l) a.hd fun X' φ' σ' s' R' hg g => by
    obtain ⟨items', hl', rd'⟩ := R'.ob i l xs (prefix_get g.pre h1) hg
    exact ⟨items', hl'.isList, rd'⟩)
/-- the signs of a text -/
noncomputable def chrs (x : Str) : List PyData := x.cps.toList.map fun ch => .str ⟨#[ch]⟩
theorem TSrc.str {x : Str} {wk : Bool} (ha : x.cps.all (· < 128) = true) : TSrc c d (.e wk (.str x)) (chrs x) false (fun _ => True) σ := by
  refine ⟨trivial, fun A X φ s cv Q E C a R r K => ?_⟩
  obtain ⟨t, rfl⟩ := r.str_inv
  have hty : strIterType x = "str_ascii_iterator" := by simp [strIterType, ha]
  refine call_enumerate_str fun h' he hit hz hk => ?_
  rw [hty] at hit
  refine K (fun i h => h.IsStrIter s.heap.objs.size "str_ascii_iterator" x t i) h' hk he hit ⟨fun i h h' st k => by obtain ⟨o, ho, r⟩ := st; exact ⟨o, k o ho, r⟩, fun i h ⟨o, e, _⟩ => ⟨o, e⟩, ?_, ?_⟩
  · intro i y X' φ' σ' s' hy st R' _ g
    unfold chrs at hy
    rw [List.getElem?_map, Option.map_eq_some_iff] at hy
    obtain ⟨ch, hch, rfl⟩ := hy
    refine ⟨.str ⟨#[ch]⟩ s'.toks, s'.toks + 1, (φ'.reg s'.toks (.str ⟨#[ch]⟩)).τ, Nat.le_succ _, TauLe.reg R'.tk (Nat.le_refl _), TkOk.reg R'.tk (Nat.le_refl _) (Nat.lt_succ_self _), .str fun _ => Phi.reg_self, fun Q' E' K' => ?_⟩
    exact wpAny_nextOf_ascii_item st (by simpa using hch) fun h'' st' hs => K' h'' st' hs
  · intro X' φ' σ' s' st R' _ g Q' E' K'
    exact wpAny_nextOf_ascii_end a.hd st (by simp [chrs]) K'

theorem TIter.enum {elts : List Expr} {x1} {tp : Pos} {x : Str} {px pos : Pos} {e : Expr} {P : List PyData → Bool → (List (List PyData) → Prop) → List (List PyData) → Prop}
    (h : TE c d (.Name x px) sc ρ σ fun fv σ₁ => fv = .p (.type "enumerate") ∧ TE c d e sc ρ σ₁ fun v σ₂ => ∃ xs wk Good, TSrc c d v xs wk Good σ₂ ∧ P (enumL 0 xs) wk Good σ₂) (ha : noStar [e] = true := by rfl) :
    TIter c d (.Tuple elts x1 tp) (.Call (.Name x px) [e] [] pos) sc ρ σ P := by
  intro env A X φ s Q E O R L K
  show wpAny _ A (do callWith pos (← eval (.Name x px) env) [] (backTo pos (starEach [e] env)) (backToKw pos (keywordEach [] env))) _ _ s
  refine wpAny_bind (h env A X φ s _ E O R L fun fv cfv φ₁ σ₁ s₁ x₁ R₁ r₁ h₁ => ?_)
  obtain ⟨rfl, h₂⟩ := h₁
  obtain rfl : cfv = .type "enumerate" := r₁
  have L₁ := L.step x₁ (R.own O.o) (fun a h _ => h)
  refine callWith_G (cfst := []) O R₁ L₁ KeepOk.type ha (TEs.cons (P := fun vs σ' => ∃ v, vs = [v] ∧ ∃ xs wk Good, TSrc c d v xs wk Good σ' ∧ P (enumL 0 xs) wk Good σ') (h := TE.mono h₂ fun v σ' p => TEs.nil ⟨v, rfl, p⟩) (he := fun env => starEach_of ha env)) ?_
  intro vs cvs φ₂ σ₂ s₂ x₂ R₂ r₂ h₃
  obtain ⟨v, rfl, xs, wk, Good, ⟨hg, hs⟩, p⟩ := h₃
  cases r₂ with
  | cons r rs =>
    cases rs
    refine hs A X φ₂ s₂ _ _ _ O.c O.a R₂ r fun SI h' hk he hsi S => ?_
    refine wpAny_pyIter_enum he ?_
    have hnew : ∀ b ∈ [s₂.heap.objs.size + 1, s₂.heap.objs.size], s₂.heap.get? b = none := fun b hb => get_none (by
      rcases List.mem_cons.mp hb with rfl | hb
      · exact Nat.le_succ _
      · rw [List.mem_singleton.mp hb]; exact Nat.le_refl _)
    have I := ItOk.enum (elts := elts) (x1 := x1) (tp := tp) (e := s₂.heap.objs.size + 1) (Nat.succ_ne_self _) S
    have st : (fun (i : Nat) (h : Heap) => (∃ old, IsEnum h (s₂.heap.objs.size + 1) s₂.heap.objs.size i old) ∧ SI i h) 0 h' := ⟨⟨_, he⟩, hsi⟩
    refine K _ (enumL 0 xs) wk Good _ _ φ₂ σ₂ _ ((x₁.trans x₂).trans (Step.grow (tk := s₂.toks) hk)) (R₂.growX hk hnew (I.al 0 _ st) (Nat.le_refl _)) (fun b hb => ?_) (I.ground (List.prefix_refl _) .refl fun b o e => cut_growX hk hnew e) st hg p
    cases q : s.heap.get? b with
    | none => rfl
    | some o =>
      obtain ⟨o', e'⟩ := (x₁.trans x₂).alive b o q
      rw [hnew b hb] at e'; cases e'

/-- stores into two names -/
noncomputable abbrev kTA2 (c : Cx) (d : Nat) (t₂ : Expr) (sc : Sc) (v : V) (P : List (Option V) → List (List PyData) → Prop) : List (Option V) → List (List PyData) → Prop := fun ρ₁ σ₁ => TA c d t₂ sc ρ₁ σ₁ v P
theorem TA.tuple2 {t₁ t₂ : Expr} {k : Nat} {pos : Pos} {wk : Bool} {a b : PyData} {P : List (Option V) → List (List PyData) → Prop} (h : TA c d t₁ sc ρ σ (.e wk a) (kTA2 c d t₂ sc (.e wk b) P))
    (h1 : noStarT t₁ = true := by rfl) (h2 : noStarT t₂ = true := by rfl) : TA c d (.Tuple [t₁, t₂] k pos) sc ρ σ (.e wk (.tuple [a, b])) P := by
  intro env A X φ s cv Q E O R L r K
  obtain ⟨l, items, rfl, hl, hm, rd⟩ := r.tuple_inv
  obtain ⟨items⟩ := items
  cases rd with
  | cons r₁ rs =>
    cases rs with
    | cons r₂ rs' =>
      cases rs'
      have he : assignEach [t₁, t₂] env = [(false, assign t₁ env), (false, assign t₂ env)] := by
        have g : ∀ t rest, noStarT t = true → assignEach (t :: rest) env = (false, assign t env) :: assignEach rest env := fun t rest ht => by
          cases t <;> first | rfl | (cases ht; done)
        rw [g _ _ h1, g _ _ h2]; rfl
      refine wpAny_assign_Tuple O.a.hd hl (by rw [he]; rfl) (by rw [he]; rfl) fun h' hx => ?_
      have hk : ∀ b o, s.heap.get? b = some o → h'.get? b = some o := fun b o e => hx b o (Nat.ne_of_lt (Heap.lt_size e)) e
      rw [he]
      have st : Step φ φ (own env sc) s { s with heap := h' } := Step.grow (tk := s.toks) hk
      have st0 : Step φ φ [] s { s with heap := h' } := Step.grow (tk := s.toks) hk
      have R' : Rel c φ X σ { s with heap := h' } := R.grow (tk := s.toks) hk (Nat.le_refl _)
      have L' : Loc env sc ρ φ X h' := L.step st0 (R.own O.o) (fun a h _ => h)
      have r₁' : VRep h' φ X (.e wk a) _ := VRep.step (v := .e wk a) st0 (by simp) (fun a h _ => h) r₁
      have r₂' : VRep h' φ X (.e wk b) _ := VRep.step (v := .e wk b) st0 (by simp) (fun a h _ => h) r₂
      show wpAny _ A (assignInOrder [assign t₁ env, assign t₂ env] [_, _]) Q E _
      unfold assignInOrder
      refine wpAny_bind (wpAny_holding (h env A X φ _ _ _ E O R' L' r₁' fun φ₁ ρ₁ σ₁ s₁ x₁ R₁ L₁ h₁ => ?_))
      unfold assignInOrder
      refine wpAny_bind (wpAny_holding (h₁ env A X φ₁ _ _ _ E O R₁ L₁ (VRep.step (v := .e wk b) x₁ O.o (fun a h _ => h) r₂') fun φ₂ ρ₂ σ₂ s₂ x₂ R₂ L₂ h₂ => ?_))
      unfold assignInOrder
      exact wpAny_pure (K φ₂ ρ₂ σ₂ s₂ ((st.trans x₁).trans x₂) R₂ L₂ h₂)
end
end Mine
end -- Fw10
section -- Fw11
set_option tactic.hygienic false
open PySem PySem.W PySem.Calls PyProof.Rows
set_option linter.unusedVariables false
set_option linter.unusedSimpArgs false
set_option autoImplicit false
namespace Mine
section
variable {c : Cx} {d : Nat} {sc : Sc} {ρ : List (Option V)} {σ : List (List PyData)} {P : V → List (List PyData) → Prop}

/-- a value that reads as a list: by value or tracked -/
inductive IsL (σ : List (List PyData)) : V → Bool → List PyData → Prop
  | v {wk : Bool} {xs : List PyData} : IsL σ (.e wk (.list xs)) wk xs
  | r {i : Nat} {xs : List PyData} : σ[i]? = some xs → IsL σ (.r i) false xs
theorem IsL.get {φ : Phi} {X : List Addr} {s : Shared} {v : V} {wk : Bool} {xs : List PyData} {cv : Value} (h : IsL σ v wk xs) (R : Rel c φ X σ s) (r : VRep s.heap φ X v cv) :
    ∃ l items, cv = .ref l ∧ s.heap.IsList l items ∧ RdAll wk φ.τ (cut s.heap (φ.l ++ X)) items.toList xs ∧ items.size = xs.length := by
  cases h with
  | v =>
    obtain ⟨l, items, rfl, hl, hm, rd⟩ := r.list_inv
    exact ⟨l, items, rfl, hl, rd, by rw [← RdAll.length_eq rd]; simp⟩
  | r hi =>
    obtain ⟨l, h1, rfl⟩ := r
    obtain ⟨items, hl, rd⟩ := R.ob _ l xs h1 hi
    exact ⟨l, items, rfl, hl.isList, rd, by rw [← RdAll.length_eq rd]; simp⟩

theorem VReps.one {h : Heap} {φ : Phi} {X : List Addr} {v : V} {cvs : List Value} (r : VReps h φ X [v] cvs) : ∃ cv, cvs = [cv] ∧ VRep h φ X v cv := by
  cases r with
  | cons r rs => cases rs; exact ⟨_, rfl, r⟩
theorem VReps.two {h : Heap} {φ : Phi} {X : List Addr} {v w : V} {cvs : List Value} (r : VReps h φ X [v, w] cvs) : ∃ cv cw, cvs = [cv, cw] ∧ VRep h φ X v cv ∧ VRep h φ X w cw := by
  cases r with
  | cons r rs =>
    obtain ⟨cw, rfl, q⟩ := rs.one
    exact ⟨_, _, rfl, r, q⟩
theorem TCall.lenL {v : V} {wk : Bool} {xs : List PyData} (h : IsL σ v wk xs) (hsz : xs.length ≤ 1000) (p : P (.d (.int xs.length)) σ) : TCall c d (.builtin "len") [v] [] [] σ P := by
  intro A X φ s cvs ckv Q E C a R rv rk K
  obtain ⟨cv, rfl, r⟩ := rv.one
  obtain ⟨l, items, rfl, hl, rd, hn⟩ := h.get R r
  cases rk
  refine call_len_list hl (by rw [hn]; omega) ?_
  rw [hn]
  exact K.int R (Nat.le_succ _) (Nat.lt_succ_self _) p
theorem TCall.lenS {wk : Bool} {x : Str} (hsz : x.length ≤ 1000) (p : P (.d (.int x.length)) σ) : TCall c d (.builtin "len") [.e wk (.str x)] [] [] σ P := by
  intro A X φ s cvs ckv Q E C a R rv rk K
  obtain ⟨cv, rfl, r⟩ := rv.one
  obtain ⟨t, rfl⟩ := r.str_inv
  cases rk
  exact PySem.P.len_str (by omega) (K.int R (Nat.le_succ _) (Nat.lt_succ_self _) p)
theorem TCall.range1 {wk : Bool} {n : Int} (p : P (.rng 0 n) σ) : TCall c d (.type "range") [.e wk (.int n)] [] [] σ P := by
  intro A X φ s cvs ckv Q E C a R rv rk K
  obtain ⟨cv, rfl, r⟩ := rv.one
  obtain ⟨t, rfl⟩ := r.int_inv
  cases rk
  have hk : ∀ b o, s.heap.get? b = some o → (s.heap.push { cls := .type "range", data := .fields #[.int 0 s.toks, .int n t, .int 1 (s.toks + 1)] }).get? b = some o := fun b o e => Heap.get?_push_of_some _ e
  exact call_range_1 (K (.rng 0 n) _ φ σ _ (Step.grow hk) (R.grow hk (by show s.toks ≤ s.toks + 1 + 1; omega)) ⟨_, _, _, _, rfl, cut_get.mpr ⟨Heap.get?_push_size _ rfl, R.size_not⟩⟩ p)
theorem TCall.range2 {wk wk' : Bool} {m n : Int} (p : P (.rng m n) σ) : TCall c d (.type "range") [.e wk (.int m), .e wk' (.int n)] [] [] σ P := by
  intro A X φ s cvs ckv Q E C a R rv rk K
  obtain ⟨cv, cw, rfl, r, r'⟩ := rv.two
  obtain ⟨t, rfl⟩ := r.int_inv
  obtain ⟨u, rfl⟩ := r'.int_inv
  cases rk
  have hk : ∀ b o, s.heap.get? b = some o → (s.heap.push { cls := .type "range", data := .fields #[.int m t, .int n u, .int 1 s.toks] }).get? b = some o := fun b o e => Heap.get?_push_of_some _ e
  exact call_range_2 (K (.rng m n) _ φ σ _ (Step.grow hk) (R.grow hk (Nat.le_succ _)) ⟨_, _, _, _, rfl, cut_get.mpr ⟨Heap.get?_push_size _ rfl, R.size_not⟩⟩ p)
theorem TCall.intBool {wk : Bool} {b : Bool} (p : P (.d (.int (if b then 1 else 0))) σ) : TCall c d (.type "int") [.e wk (.bool b)] [] [] σ P := by
  intro A X φ s cvs ckv Q E C a R rv rk K
  obtain ⟨cv, rfl, r⟩ := rv.one
  obtain rfl := r.bool_inv
  cases rk
  exact call_int_bool (K.intN R p)
theorem TCall.chr {wk : Bool} {i : Int} (hi : (decide (i < 0) || decide (i > 0x10FFFF)) = false) (p : P (.d (.str ⟨#[i.toNat]⟩)) σ) : TCall c d (.builtin "chr") [.e wk (.int i)] [] [] σ P := by
  intro A X φ s cvs ckv Q E C a R rv rk K
  obtain ⟨cv, rfl, r⟩ := rv.one
  obtain ⟨t, rfl⟩ := r.int_inv
  cases rk
  exact PySem.P.chr_of_int hi (K.strN R p)

/-- the numbers of a list -/
noncomputable def intsOf : List PyData → List Int
  | .int i :: r => i :: intsOf r
  | _ => []
theorem preSum_cons (x : Int) (xs : List Int) : ∀ n, preSum (fun i => ((x :: xs)[i]?).getD 0) (n + 1) = x + preSum (fun i => (xs[i]?).getD 0) n
  | 0 => by show (0 : Int) + x = x + 0; omega
  | n + 1 => by
    show preSum _ (n + 1) + _ = x + (preSum _ n + _)
    rw [preSum_cons x xs n]
    simp only [List.getElem?_cons_succ]
    omega
theorem preSum_list : ∀ xs : List Int, preSum (fun i => (xs[i]?).getD 0) xs.length = xs.sum
  | [] => rfl
  | x :: xs => by
    show preSum _ (xs.length + 1) = _
    rw [preSum_cons, preSum_list xs, List.sum_cons]
set_option tactic.hygienic true in
theorem TCall.sum {wk : Bool} {xs : List Int} (p : P (.w (.int xs.sum)) σ) : TCall c d (.builtin "sum") [.e wk (.list (xs.map .int))] [] [] σ P := by
  intro A X φ s cvs ckv Q E C a R rv rk K
  obtain ⟨cv, rfl, r⟩ := rv.one
  obtain ⟨l, items, rfl, hl, hm, rd⟩ := r.list_inv
  cases rk
  have hn : items.size = xs.length := by have := RdAll.length_eq rd; simpa using this
  have hlt : l < s.heap.objs.size := by obtain ⟨o, e, _⟩ := hl; exact Heap.lt_size e
  have hne : l ≠ s.heap.objs.size := Nat.ne_of_lt hlt
  refine wpAny_mono (wpAny_with_toks (Nat.le_refl _) (call_sum_walkG (Q := fun v s' => s.toks ≤ s'.toks → Q v s') (wpAny_pyIter_list hl ⟨s.heap.objs.size, [s.heap.objs.size, l], [s.heap.objs.size], items.size, _, _, fun i => (xs[i]?).getD 0, rfl, Walks.list (A := A.in1) a.hd s.heap.objs.size l hne items, ⟨⟨_, Heap.get?_push_size _ rfl, rfl, rfl⟩, hl.push _⟩, ?_, ?_, ?_⟩))) (fun _ _ q => q) (fun _ _ q => q)
  · intro b hb
    rw [Heap.size_push]
    rcases List.mem_cons.mp hb with rfl | hb
    · exact Nat.lt_succ_self _
    · rw [List.mem_singleton.mp hb]; exact Nat.lt_succ_of_lt hlt
  · intro i v hv
    have hi : i < xs.length := hn ▸ (Array.getElem?_eq_some_iff.mp hv).1
    have := RdAll.pos rd (k := i) (v := v) (d := .int xs[i]) (by simpa using hv) (by simp [hi])
    cases this with
    | int _ =>
      rename_i t _
      exact ⟨t, by simp [hi]⟩
  · intro h' tk t' hk ht
    replace ht : s.toks ≤ tk := ht
    have e : preSum (fun i => (xs[i]?).getD 0) items.size = xs.sum := by rw [hn]; exact preSum_list xs
    rw [e]
    have hk' : ∀ b o, s.heap.get? b = some o → h'.get? b = some o := fun b o q => hk b o (fun hb => by rw [List.mem_singleton.mp hb] at q; exact absurd (Heap.lt_size q) (Nat.lt_irrefl _)) (Heap.get?_push_of_some _ q)
    exact K (.w (.int xs.sum)) _ φ σ _ (Step.grow hk') (R.grow hk' ht) (.int fun q => by cases q) p
theorem TCall.listRange {m n : Int} (hmn : m ≤ n) (hn : n - m ≤ 1000) (hs : Builtin.Range.small m n 1 = true) (p : P (.w (.list (rngL m (n - m).toNat))) σ) : TCall c d (.type "list") [.rng m n] [] [] σ P := by
  intro A X φ s cvs ckv Q E C a R rv rk K
  obtain ⟨cv, rfl, l, t, u, w, rfl, hr⟩ := rv.one
  cases rk
  have e : Builtin.Range.rangeSize m n 1 = ((n - m).toNat : Int) := by rw [rangeSize_one]; split <;> omega
  refine wpAny_with_toks (Nat.le_refl _) (call_list_range (n := (n - m).toNat) a.hd (cut_sub hr) hs e (by have : (2 : Nat) ^ 24 = 16777216 := by decide
                                                                                                          omega) fun h' tk acc' c' hk hl hitems => ?_)
  intro ht
  refine K (.w _) _ φ σ _ (Step.grow hk) (R.grow hk ht) (Rd.list (cut_get.mpr ⟨hl, R.size_not⟩) rfl rfl ?_) p
  have hgen : ∀ (k : Nat) (x : Int) (vs : List Value), (∀ i, i < k → ∃ t, vs[i]? = some (.int (x + i) t)) → vs.length = k → RdAll true φ.τ (cut h' (φ.l ++ X)) vs (rngL x k) := by
    intro k
    induction k with
    | zero => intro x vs _ h; rw [List.length_eq_zero_iff.mp h]; exact .nil
    | succ k ih =>
      intro x vs h hlen
      cases vs with
      | nil => simp at hlen
      | cons v vs =>
        obtain ⟨t0, h0⟩ := h 0 (Nat.succ_pos _)
        simp at h0
        subst h0
        refine .cons (.int fun q => by cases q) (ih (x + 1) vs (fun i hi => ?_) (by simpa using hlen))
        obtain ⟨t1, h1⟩ := h (i + 1) (Nat.succ_lt_succ hi)
        refine ⟨t1, ?_⟩
        rw [List.getElem?_cons_succ] at h1
        rw [h1]; congr 2; push_cast; omega
  refine hgen _ _ _ (fun i hi => ?_) (by simpa using hitems.1)
  have hlt : i < acc'.size := by rw [hitems.1]; exact hi
  obtain ⟨t1, h1⟩ := hitems.2 i _ (Array.getElem?_eq_getElem hlt)
  exact ⟨t1, by simp [hlt, h1]⟩
end
end Mine
end -- Fw11
section -- Fw12
set_option tactic.hygienic false
open PySem PySem.W PySem.Calls PyProof.Rows
set_option linter.unusedVariables false
set_option linter.unusedSimpArgs false
set_option autoImplicit false
namespace Mine

section
variable {prog : Program} {w : World} {A : Around} {E : Value → Shared → Prop} {s : Shared}
theorem setItem_plain {l : Addr} {items : Array Value} {k : Int} {t : Tok} {v : Value} {Q : Unit → Shared → Prop} (hl : s.heap.PlainList l items)
    (h0 : 0 ≤ k) (hfit : k < 2 ^ 63) (hn : k < items.size)
    (hQ : ∀ h', h'.PlainList l (items.setIfInBounds k.toNat v) → Heap.SameBut l s.heap h' → Q () { s with heap := h' }) :
    wpAny (model prog w) A (setItem (.ref l) (.int k t) v) Q E s := by
  obtain ⟨ne, ho⟩ := id hl
  have hT := hl.isList.typeIs (s := s)
  unfold setItem
  refine wpAny_holding (wpAny_bind (wpAny_sequenceKey hT (by decide) (wpAny_bind (wpAny_callSpecial?_slot (name := Str.ofString "__setitem__") hT slot_list_setitem
    (wpAny_call_entry slot_list_setitem hT entry_list_setitem ?_ (args_list_setitem _ _ _))))))
  show wpAny _ _ (Builtin.List.listSubscript? (.int k t) >>= _) _ _ s
  refine wpAny_bind (wpAny_listSubscript_int (fitsIndex_of h0 hfit) ?_)
  obtain ⟨j, rfl⟩ := Int.eq_ofNat_of_zero_le h0
  have hj : j < items.size := by omega
  show wpAny _ _ ((seqItemAt l j >>= fun r => pure (r.map (j, ·))) >>= _) _ _ s
  refine wpAny_bind (wpAny_bind (wpAny_seqItemAt ho rfl (wpAny_pure ?_)))
  rw [Array.getElem?_eq_getElem hj]
  show wpAny _ _ (setSeqItemAt l j v >>= _) _ _ s
  have e : Obj.mapSeq (·.setIfInBounds j v) { cls := .type "list", data := .seq items ne } = { cls := .type "list", data := .seq (items.setIfInBounds j v) (Obj.mapSeq (·.setIfInBounds j v) { cls := .type "list", data := .seq items ne } |>.data |> fun | .seq _ n => n | _ => 0) } := by
    simp [Obj.mapSeq]
  have hfin : (s.heap.update l (Obj.mapSeq (·.setIfInBounds j v))).PlainList l (items.setIfInBounds j v) :=
    ⟨_, by rw [Heap.get?_update_self _ ho (by rw [e]; rfl), e]⟩
  refine wpAny_bind (wpAny_setSeqItemAt ho rfl ?_)
  first
    | exact wpAny_bind (wpAny_pure (wpAny_pure ⟨.none, rfl, wpAny_pure (hQ _ hfin (Heap.SameBut.update ..))⟩))
    | exact wpAny_pure ⟨.none, rfl, wpAny_pure (hQ _ hfin (Heap.SameBut.update ..))⟩
end

section
variable {c : Cx} {d : Nat} {sc : Sc} {ρ : List (Option V)} {σ : List (List PyData)} {P : V → List (List PyData) → Prop}

theorem Rel.setList {φ : Phi} {X : List Addr} {s : Shared} (R : Rel c φ X σ s) {i : Nat} {a : Addr} {h' : Heap} {items : Array Value} {xs : List PyData} (ha : φ.l[i]? = some a) (hl : h'.PlainList a items) (hs : Heap.SameBut a s.heap h')
    (rd : RdAll false φ.τ (cut s.heap (φ.l ++ X)) items.toList xs) : Rel c φ X (σ.set i xs) { s with heap := h' } where
  len := by rw [List.length_set]; exact R.len
  nd := R.nd
  dj := R.dj
  ob := fun j b ys e1 e2 => by
    have hm : a ∈ φ.l := List.mem_of_getElem? ha
    have hk : ∀ b o, (cut s.heap (φ.l ++ X)).get? b = some o → (cut h' (φ.l ++ X)).get? b = some o := fun b o e => by
      obtain ⟨q1, q2⟩ := cut_get.mp e
      exact cut_get.mpr ⟨hs.extBut b o (fun q => q2 (List.mem_append.mpr (.inl (q ▸ hm)))) q1, q2⟩
    by_cases hj : j = i
    · subst hj
      rw [ha] at e1; cases e1
      have hi : j < σ.length := R.len ▸ (List.getElem?_eq_some_iff.mp ha).1
      rw [List.getElem?_set_self hi] at e2; cases e2
      exact ⟨items, hl, RdAll.keeps .refl hk rd⟩
    · rw [List.getElem?_set_ne (Ne.symm hj)] at e2
      obtain ⟨it, h1, h3⟩ := R.ob j b ys e1 e2
      have hb : b ≠ a := fun q => hj (nodup_inj R.nd e1 (q ▸ ha))
      exact ⟨it, h1.extBut hs.extBut hb, RdAll.keeps .refl hk h3⟩
  xs := fun b hb => by
    obtain ⟨o, e⟩ := R.xs b hb
    exact ⟨o, hs.extBut b o (fun q => R.dj a (List.mem_of_getElem? ha) (q ▸ hb)) e⟩
  bs := fun b o e => by
    obtain ⟨h1, h2, h3⟩ := R.bs b o e
    exact ⟨hs.extBut b o (fun q => h2 (q ▸ List.mem_of_getElem? ha)) h1, h2, h3⟩
  tb := fun b hb => by
    have hm : a ∈ φ.l := List.mem_of_getElem? ha
    refine ⟨(R.tb b hb).1, (R.tb b hb).2.keeps (fun b o e => ?_) fun o e => hs.extBut b o (fun q => R.dj a hm (q ▸ (R.tb b hb).1)) e⟩
    obtain ⟨q1, q2⟩ := cut_get.mp e
    exact cut_get.mpr ⟨hs.extBut b o (fun q => q2 (List.mem_append.mpr (.inl (q ▸ hm)))) q1, q2⟩
  env := by obtain ⟨h, t, rfl⟩ := R.env; exact ⟨h', t, rfl⟩
  tk := R.tk
  pl := R.pl
  pt := R.pt
theorem Step.setList {φ : Phi} {W : List Addr} {s : Shared} {a : Addr} {h' : Heap} {items : Array Value} (ha : a ∈ φ.l) (hl : h'.PlainList a items) (hs : Heap.SameBut a s.heap h') : Step φ φ W s { s with heap := h' } where
  pre := List.prefix_refl _
  keep := fun b o e h1 _ _ => hs.extBut b o (fun q => h1 (q ▸ ha)) e
  fresh := fun _ h1 h2 => absurd h1 h2
  alive := fun b o e => by
    by_cases q : b = a
    · subst q; obtain ⟨n, e'⟩ := hl; exact ⟨_, e'⟩
    · exact ⟨o, hs.extBut b o q e⟩
  tau := .refl

theorem TGet.tracked {i : Nat} {name : Str} {id : String} {xs : List PyData} (hi : σ[i]? = some xs) (slot : Slot "list" name id) (hty : typeOf (.builtin id) = pure (.type "method_descriptor")) : TGet c d (.r i) name (.builtin id) σ := by
  intro A X φ s cv pl Q E C a R r q
  obtain ⟨l, h1, rfl⟩ := r
  obtain ⟨items, hl, rd⟩ := R.ob i l xs h1 hi
  refine getMethod_list_of slot hty hl.isList ?_ q
  obtain ⟨n, e⟩ := hl
  show ∃ o, s.heap.get? l = some o ∧ o.dict = none
  exact ⟨_, e, rfl⟩
theorem TGet.append {i : Nat} {xs : List PyData} (hi : σ[i]? = some xs) : TGet c d (.r i) (Str.ofString "append") (.builtin "list.append") σ := TGet.tracked hi PySem.F.slot_list_append PySem.F.type_list_append
theorem TGet.index {i : Nat} {xs : List PyData} (hi : σ[i]? = some xs) : TGet c d (.r i) (Str.ofString "index") (.builtin "list.index") σ := TGet.tracked hi PySem.F.slot_list_index PySem.F.type_list_index
theorem TGet.upper {wk : Bool} {x : Str} : TGet c d (.e wk (.str x)) (Str.ofString "upper") (.builtin "str.upper") σ := by
  intro A X φ s cv pl Q E C a R r q
  obtain ⟨t, rfl⟩ := r.str_inv
  with_reducible exact GM.of (name := Str.ofString "upper") (.str x t) (typeIs_str _ _ _) PySem.F.slot_str_upper PySem.F.type_str_upper GM.noRef q
theorem TGet.lower {wk : Bool} {x : Str} : TGet c d (.e wk (.str x)) (Str.ofString "lower") (.builtin "str.lower") σ := by
  intro A X φ s cv pl Q E C a R r q
  obtain ⟨t, rfl⟩ := r.str_inv
  with_reducible exact GM.of (name := Str.ofString "lower") (.str x t) (typeIs_str _ _ _) PySem.F.slot_str_lower PySem.F.type_str_lower GM.noRef q
theorem TGet.join {wk : Bool} {x : Str} : TGet c d (.e wk (.str x)) (Str.ofString "join") (.builtin "str.join") σ := by
  intro A X φ s cv pl Q E C a R r q
  obtain ⟨t, rfl⟩ := r.str_inv
  with_reducible exact GM.of (name := Str.ofString "join") (.str x t) (typeIs_str _ _ _) PySem.F.slot_str_join PySem.F.type_str_join GM.noRef q
theorem TGet.bitLength {wk : Bool} {i : Int} : TGet c d (.e wk (.int i)) (Str.ofString "bit_length") (.builtin "int.bit_length") σ := by
  intro A X φ s cv pl Q E C a R r q
  obtain ⟨t, rfl⟩ := r.int_inv
  with_reducible exact getMethod_int_bit_length q

theorem TCall.append {i : Nat} {xs : List PyData} {x : PyData} (hi : σ[i]? = some xs) (hsz : xs.length ≤ 1000) (p : P (.d .none) (σ.set i (xs ++ [x]))) : TCall c d (.builtin "list.append") [.r i, .d x] [] [] σ P := by
  intro A X φ s cvs ckv Q E C a R rv rk K
  obtain ⟨cv, cw, rfl, r, r'⟩ := rv.two
  obtain ⟨l, h1, rfl⟩ := r
  cases rk
  obtain ⟨items, hl, rd⟩ := R.ob i l xs h1 hi
  have hn : items.size = xs.length := by rw [← RdAll.length_eq rd]; simp
  refine wpAny_list_append_plain hl (fun h' hl' hs => ?_) (by rw [hn, sizeLine_eq]; omega)
  exact K (.d .none) .none φ _ _ (Step.setList (List.mem_of_getElem? h1) hl' hs) (R.setList h1 hl' hs (by rw [Array.toList_push]; exact RdAll.app rd (.cons r' .nil))) .none p
theorem TCall.upper {wk : Bool} {x : Str} (hx : x.length ≤ 1000) (p : P (.d (.str (Txt.upper x))) σ) : TCall c d (.builtin "str.upper") [.e wk (.str x)] [] [] σ P := by
  intro A X φ s cvs ckv Q E C a R rv rk K
  obtain ⟨cv, rfl, r⟩ := rv.one
  obtain ⟨t, rfl⟩ := r.str_inv
  cases rk
  exact SC.upper (fit_upper (by omega)) (K.strN R p)
theorem TCall.lower {wk : Bool} {x : Str} (hx : x.length ≤ 1000) (p : P (.d (.str (Txt.lower x))) σ) : TCall c d (.builtin "str.lower") [.e wk (.str x)] [] [] σ P := by
  intro A X φ s cvs ckv Q E C a R rv rk K
  obtain ⟨cv, rfl, r⟩ := rv.one
  obtain ⟨t, rfl⟩ := r.str_inv
  cases rk
  exact SC.lower (fit_lower (by omega)) (K.strN R p)
theorem TCall.bitLength {wk : Bool} {i : Int} (p : P (.d (.int (Builtin.Int.intBits i))) σ) : TCall c d (.builtin "int.bit_length") [.e wk (.int i)] [] [] σ P := by
  intro A X φ s cvs ckv Q E C a R rv rk K
  obtain ⟨cv, rfl, r⟩ := rv.one
  obtain ⟨t, rfl⟩ := r.int_inv
  cases rk
  exact call_int_bit_length (K.intN R p)

/-! what is in a list -/
open Classical in
noncomputable def eqOf (h : Heap) (x : PyData) (v : Value) : Bool := if q : ∃ (y : PyData) (as : List Addr), Reads h v y as then (Classical.choose q).eqv x else false
theorem eqOf_of {h : Heap} {x y : PyData} {v : Value} {as : List Addr} (r : Reads h v y as) (hy : y.canLay0 = true) : eqOf h x v = y.eqv x := by
  unfold eqOf
  have q : ∃ (y : PyData) (as : List Addr), Reads h v y as := ⟨_, _, r⟩
  rw [dif_pos q]
  obtain ⟨bs, r'⟩ := Classical.choose_spec q
  rw [PySem.SeqAt.Reads.unique _ _ _ _ _ hy r r']
theorem shaped_all {xs : List PyData} (h : ∀ y ∈ xs, SeqAt.shaped y = true) {wk : Bool} {τ : TokMap} {h' : Heap} {s : Shared} {M : List Addr} {vs : List Value} {A : Around} (hu : A.units + 64 < cLine) (rd : RdAll wk τ (cut s.heap M) vs xs) {x : PyData} {cx : Value} {as : List Addr}
    (hx : SeqAt.shaped x = true) (rx : Reads s.heap cx x as) : (∀ v ∈ vs, SeqAt.EqAt A s v cx (eqOf s.heap x v)) ∧ vs.map (eqOf s.heap x) = xs.map (·.eqv x) := by
  induction xs generalizing vs with
  | nil => cases rd; exact ⟨(fun _ h => nomatch h), rfl⟩
  | cons y ys ih =>
    cases rd with
    | cons r rs =>
      obtain ⟨bs, r⟩ := Rd.reads r
      have r' : Reads s.heap _ y bs := Reads.keeps (fun b o e => cut_sub e) r
      have hy := h y List.mem_cons_self
      obtain ⟨h1, h2⟩ := ih (fun z hz => h z (List.mem_cons_of_mem _ hz)) rs
      have e := eqOf_of (x := x) r' (SeqAt.canLay_of_shaped hy)
      refine ⟨fun v hv => ?_, by rw [List.map_cons, List.map_cons, h2, e]⟩
      rcases List.mem_cons.mp hv with rfl | hv
      · rw [e]
        exact SeqAt.eqAt_reads _ _ _ _ _ _ _ _ r' rx (SeqAt.canLay_of_shaped hy) (SeqAt.canLay_of_shaped hx) (SeqAt.room_of_shaped hy hu)
      · exact h1 v hv

theorem AOk.unitsIn {A : Around} (a : AOk A d) : A.in1.units + 64 < cLine := by show A.units + 1 + 64 < _; have := a.un; omega
theorem TV2.notInL {wa wk : Bool} {x : PyData} {v : V} {xs : List PyData} (h : IsL σ v wk xs) (hs : ∀ y ∈ xs, SeqAt.shaped y = true) (hx : SeqAt.shaped x = true) (p : P (.d (.bool (!xs.any (·.eqv x)))) σ) : TV2 c d (compareOp .NotIn) (.e wa x) v σ P := by
  intro A X φ s ca cb Q E C a R ra rb K
  obtain ⟨l, items, rfl, hl, rd, hn⟩ := h.get R rb
  obtain ⟨as, rx⟩ := VRep.reads ra
  obtain ⟨h1, h2⟩ := shaped_all (A := A.in1) (h' := s.heap) hs a.unitsIn rd hx rx
  refine SeqAt.notIn_listAt (eqOf s.heap x) hl (fun y hy => h1 y (by simpa using hy)) ?_
  have e : items.any (eqOf s.heap x) = xs.any (·.eqv x) := by
    rw [← Array.any_toList]; have := congrArg (fun l => List.any l id) h2; simpa [List.any_map] using this
  rw [e]
  exact K.here R (VRep.bool (wk := false)) p
theorem TCall.index {wa wk : Bool} {x : PyData} {v : V} {xs : List PyData} {j : Nat} (h : IsL σ v wk xs) (hs : ∀ y ∈ xs, SeqAt.shaped y = true) (hx : SeqAt.shaped x = true) (hsz : xs.length ≤ 1000) (hj : (xs.map (·.eqv x))[j]? = some true)
    (hno : ∀ m, m < j → (xs.map (·.eqv x))[m]? = some false) (p : P (.d (.int j)) σ) : TCall c d (.builtin "list.index") [v, .e wa x] [] [] σ P := by
  intro A X φ s cvs ckv Q E C a R rv rk K
  obtain ⟨cv, cw, rfl, rb, ra⟩ := rv.two
  cases rk
  obtain ⟨l, items, rfl, hl, rd, hn⟩ := h.get R rb
  obtain ⟨as, rx⟩ := VRep.reads ra
  obtain ⟨h1, h2⟩ := shaped_all (A := A.in1) (h' := s.heap) hs a.unitsIn rd hx rx
  have hjl : j < xs.length := by have := (List.getElem?_eq_some_iff.mp hj).1; simpa using this
  obtain ⟨⟨cls, dd, data, sl⟩, ho, hc, n, hd⟩ := id hl
  simp only at hc hd
  subst hc hd
  have hat : ∀ m (hm : m < items.size), some (eqOf s.heap x items[m]) = (xs.map (·.eqv x))[m]? := fun m hm => by
    rw [← h2, List.getElem?_map]; simp [hm]
  refine call_meets PySem.F.slot_list_index ⟨_, ho, rfl⟩ PySem.F.entry_list_index (PySem.F.args_list_index_2 _ _) (SeqAt.list_indexAt l items n dd sl cw (eqOf s.heap x) j (hn ▸ hjl) (by omega) ?_ ?_) ⟨ho, fun y hy => h1 y (by simpa using hy), K.intN R p⟩
  · have := hat j (hn ▸ hjl); rw [hj] at this; exact Option.some.inj this
  · intro m hm hmj
    have := hat m hm; rw [hno m hmj] at this; exact Option.some.inj this

/-- a store into a tracked list -/
theorem TA.sub {o i : Expr} {pos : Pos} {x : PyData} {P : List (Option V) → List (List PyData) → Prop}
    (h : TE c d o sc ρ σ fun ov σ₁ => TE c d i sc ρ σ₁ fun iv σ₂ => ∃ (k : Nat) (xs : List PyData) (wk : Bool) (n : Nat), ov = .r k ∧ iv = .e wk (.int n) ∧ σ₂[k]? = some xs ∧ n < xs.length ∧ xs.length ≤ 1000 ∧ P ρ (σ₂.set k (xs.set n x)))
    : TA c d (.Subscript o i pos) sc ρ σ (.d x) P := by
  intro env A X φ s cv Q E O R L r K
  rw [arm_assign_Subscript]
  refine wpAny_bind (wpAny_holding (h env A X φ s _ E O R L fun ov cov φ₁ σ₁ s₁ x₁ R₁ r₁ h₁ => ?_))
  have L₁ := L.step x₁ (R.own O.o) (fun a h _ => h)
  refine wpAny_bind (wpAny_holding (h₁ env A X φ₁ s₁ _ E O R₁ L₁ fun iv civ φ₂ σ₂ s₂ x₂ R₂ r₂ h₂ => ?_))
  obtain ⟨k, xs, wk, n, rfl, rfl, hk, hlt, hsz, p⟩ := h₂
  obtain ⟨l, hl1, rfl⟩ := (r₁.step x₂ (by simp) (fun a h _ => h) : VRep s₂.heap φ₂ X (.r k) cov)
  obtain ⟨t, rfl⟩ := r₂.int_inv
  obtain ⟨items, hl, rd⟩ := R₂.ob k l xs hl1 hk
  have hn : items.size = xs.length := by rw [← RdAll.length_eq rd]; simp
  have rx : VRep s₂.heap φ₂ X (.d x) cv := VRep.step (v := .d x) (x₁.trans x₂) (by simp) (fun a h _ => h) r
  refine wpAny_bind (wpAny_standAt (wpAny_bind (wpAny_holding (setItem_plain hl (by omega) (by omega) (by omega) fun h' hl' hs => ?_))))
  have st := Step.setList (W := []) (List.mem_of_getElem? hl1) hl' hs
  have rset : ∀ (n : Nat) (vs : List Value) (ys : List PyData), RdAll false φ₂.τ (cut s₂.heap (φ₂.l ++ X)) vs ys → RdAll false φ₂.τ (cut s₂.heap (φ₂.l ++ X)) (vs.set n cv) (ys.set n x) := by
    intro n
    induction n with
    | zero => intro vs ys h; cases h with
      | nil => exact .nil
      | cons a b => exact .cons rx b
    | succ n ih => intro vs ys h; cases h with
      | nil => exact .nil
      | cons a b => exact .cons a (ih _ _ b)
  have R₃ := R₂.setList hl1 hl' hs (by have := rset n _ _ rd; simpa using this)
  have x₃ := (x₁.trans x₂).trans st
  refine wpAny_release ?_
  exact K φ₂ ρ _ _ (x₃.own R O.o) R₃ (L.step x₃ (R.own O.o) (fun a h _ => h)) p
end
end Mine
end -- Fw12
section -- Fw13
set_option tactic.hygienic false
open PySem PySem.W PySem.Calls PyProof.Rows
set_option linter.unusedVariables false
set_option linter.unusedSimpArgs false
set_option autoImplicit false
namespace Mine
section
variable {c : Cx} {d : Nat} {sc : Sc} {ρ : List (Option V)} {σ : List (List PyData)}

theorem TT.int {wk : Bool} {i : Int} {P : Bool → List (List PyData) → Prop} (p : P (i != 0) σ) : TT c d (.e wk (.int i)) σ P := by
  intro A X φ s cv Q E C a R r K
  obtain ⟨t, rfl⟩ := r.int_inv
  exact PySem.P.truthy_int (K _ φ σ s .refl R p)
theorem TT.list {v : V} {wk : Bool} {xs : List PyData} {P : Bool → List (List PyData) → Prop} (h : IsL σ v wk xs) (hsz : xs.length ≤ 1000) (p : P (!xs.isEmpty) σ) : TT c d v σ P := by
  intro A X φ s cv Q E C a R r K
  obtain ⟨l, items, rfl, hl, rd, hn⟩ := h.get R r
  refine wpAny_truthy_list hl (by omega) ?_
  have e : items.isEmpty = xs.isEmpty := by
    rw [Bool.eq_iff_iff, Array.isEmpty_iff_size_eq_zero, List.isEmpty_iff_length_eq_zero, hn]
  rw [e]
  exact K _ φ σ _ .tok (R.tok (by omega)) p
theorem TT.boolW {wk : Bool} {b : Bool} {P : Bool → List (List PyData) → Prop} (p : P b σ) : TT c d (.e wk (.bool b)) σ P := by
  intro A X φ s cv Q E C a R r K
  rw [r.bool_inv]
  exact wpAny_truthy_bool (K b φ σ s .refl R p)

noncomputable abbrev kNot (P : Bool → List (List PyData) → Prop) : Bool → List (List PyData) → Prop := fun b σ₁ => P (!b) σ₁
noncomputable abbrev kOr (c : Cx) (d : Nat) (e' : Expr) (sc : Sc) (ρ : List (Option V)) (P : Bool → List (List PyData) → Prop) : Bool → List (List PyData) → Prop := fun b σ₁ => if b then P true σ₁ else TB c d e' sc ρ σ₁ P
theorem TB.or2 {e e' : Expr} {pos : Pos} {P : Bool → List (List PyData) → Prop} (h : TB c d e sc ρ σ (kOr c d e' sc ρ P)) : TB c d (.BoolOp .Or [e, e'] pos) sc ρ σ P := by
  intro env A X φ s Q E O R L K
  refine wpAny_isTrue_BoolOp ?_
  show wpAny _ A (do match BoolOp.Or, ← isTrue e env (eval e env) with | .And, false => pure false | .Or, true => pure true | _, _ => allTrue .Or [e'] env) Q E s
  refine wpAny_bind (h env A X φ s _ E O R L fun b φ₁ σ₁ s₁ x₁ R₁ h₁ => ?_)
  cases b with
  | true => exact wpAny_pure (K true φ₁ σ₁ s₁ x₁ R₁ h₁)
  | false =>
    have L₁ := L.step x₁ (R.own O.o) (fun a h _ => h)
    show wpAny _ A (do match BoolOp.Or, ← isTrue e' env (eval e' env) with | .And, false => pure false | .Or, true => pure true | _, _ => allTrue .Or [] env) Q E s₁
    refine wpAny_bind (h₁ env A X φ₁ s₁ _ E O R₁ L₁ fun b φ₂ σ₂ s₂ x₂ R₂ h₂ => ?_)
    cases b with
    | true => exact wpAny_pure (K true φ₂ σ₂ s₂ (x₁.trans x₂) R₂ h₂)
    | false => exact wpAny_allTrue_Or_nil (K false φ₂ σ₂ s₂ (x₁.trans x₂) R₂ h₂)

set_option tactic.hygienic true in
theorem ns_none_of {K : Frag} {h : Heap} {a : Addr} {mg : Str → Option Value} {n : Str} (X : K.In h) (G : h.Ns a mg) (e : nsIn K a n = some none) : mg n = none := by
  obtain ⟨o, es, ep, ho, hd, _, hf⟩ := G
  unfold nsIn at e
  split at e
  · rename_i q
    have := X _ _ q
    rw [ho] at this
    cases this
    cases hd
    split at e
    · cases e
    · rename_i he
      rw [← hf]
      unfold nsFind findBy
      rw [← Array.find?_toList, he]
      rfl
  · cases e
theorem Rel.noneBooked {φ : Phi} {X : List Addr} {s : Shared} (R : Rel c φ X σ s) (C : c.Ok) (e : nsIn c.K cStatics sharingNotToldKey = some none) : NoneBooked s.heap := by
  obtain ⟨mc, h1, h2⟩ := C.T.nolimit
  have h3 : s.heap.Ns cStatics mc := h1.at' fun o e => (R.bs _ o e).1
  exact ⟨mc, h3, ns_none_of (R.inK C) h3 e⟩
theorem Rel.tokNe {φ : Phi} {X : List Addr} {s : Shared} (R : Rel c φ X σ s) {t : Tok} {x : PyData} (e : φ.τ t = some x) : (t == 0) = false := by
  rw [beq_eq_false_iff_ne]; rintro rfl
  rw [R.tk.z] at e; cases e
set_option tactic.hygienic true in
theorem isSame_made {M : Model} {A : Around} {E : Value → Shared → Prop} {s : Shared} {b : Bool} {u v : Tok} {Q : Bool → Shared → Prop} (hu : (u == 0) = false) (hv : (v == 0) = false) (hb : NoneBooked s.heap) (ht : u = v → b = true)
    (hq : ∀ r : Bool, (r = true → b = true) → Q r s) : wpAny M A (isSame.created b u v) Q E s := by
  unfold isSame.created
  refine wpAny_ite ?_
  split
  · rename_i h; rw [hu, hv] at h; exact absurd h (by decide)
  refine wpAny_ite ?_
  split
  · rename_i h; exact wpAny_pure (hq _ fun _ => ht (by simpa using h))
  refine wpAny_ite ?_
  split
  · exact wpAny_pure (hq _ fun h => by cases h)
  · rename_i h
    have hbt : b = true := by cases b <;> simp_all
    refine wpAny_bind (wpAny_sharingNotTold_none hb ?_)
    first | rw [if_neg Bool.false_ne_true] | simp only [Bool.false_eq_true, if_false]
    refine wpAny_bind (wpAny_sharingNotTold_none hb ?_)
    first | rw [if_neg Bool.false_ne_true] | simp only [Bool.false_eq_true, if_false]
    exact wpAny_bind (wpAny_rule (wpAny_bind (wpAny_askSetting (wpAny_pure (hq _ fun _ => hbt)))))

set_option tactic.hygienic true in
/-- "is" over numbers: where it holds the numbers are one -/
theorem TV2.isII {i j : Int} {P : V → List (List PyData) → Prop} (hb : nsIn c.K cStatics sharingNotToldKey = some none) (p : ∀ b : Bool, (b = true → i = j) → P (.d (.bool b)) σ) : TV2 c d (compareOp .Is) (.d (.int i)) (.d (.int j)) σ P := by
  intro A X φ s ca cb Q E C a R ra rb K
  cases ra with
  | int ha => cases rb with
    | int hb' =>
      rename_i t u
      have h1 := ha rfl
      have h2 := hb' rfl
      have key : wpAny (model c.prog c.w) A (isSame (.int i t) (.int j u)) (fun b s' => Q (.bool b) s') E s := by
        show wpAny _ A (if (i == j && smallInt i) = true then isSame.cachedInt t u else isSame.created (i == j) t u) _ E s
        split
        · rename_i hs
          have hij : i = j := by simpa using (Bool.and_eq_true_iff.mp hs).1
          unfold isSame.cachedInt
          rw [R.tokNe h1, R.tokNe h2]
          exact wpAny_bind (wpAny_rule (wpAny_pure (K.here R (VRep.bool (wk := false)) (p true fun _ => hij))))
        · refine isSame_made (R.tokNe h1) (R.tokNe h2) (R.noneBooked C hb) (fun e => ?_) fun r hr => K.here R (VRep.bool (wk := false)) (p r fun h => by simpa using hr h)
          rw [e, h2] at h1
          cases h1; simp
      show wpAny _ A (do return .bool (← isSame _ _)) Q E s
      exact wpAny_bind (wpAny_mono key (fun b s' q => wpAny_pure q) fun _ _ q => q)
set_option tactic.hygienic true in
theorem TV2.isSS {x y : Str} {P : V → List (List PyData) → Prop} (hb : nsIn c.K cStatics sharingNotToldKey = some none) (p : ∀ b : Bool, (b = true → x = y) → P (.d (.bool b)) σ) : TV2 c d (compareOp .Is) (.d (.str x)) (.d (.str y)) σ P := by
  intro A X φ s ca cb Q E C a R ra rb K
  cases ra with
  | str ha => cases rb with
    | str hb' =>
      rename_i t u
      have h1 := ha rfl
      have h2 := hb' rfl
      have key : wpAny (model c.prog c.w) A (isSame (.str x t) (.str y u)) (fun b s' => Q (.bool b) s') E s := by
        show wpAny _ A (isSame.created (x == y) t u) _ E s
        refine isSame_made (R.tokNe h1) (R.tokNe h2) (R.noneBooked C hb) (fun e => ?_) fun r hr => K.here R (VRep.bool (wk := false)) (p r fun h => by simpa using hr h)
        rw [e, h2] at h1
        cases h1; simp
      show wpAny _ A (do return .bool (← isSame _ _)) Q E s
      exact wpAny_bind (wpAny_mono key (fun b s' q => wpAny_pure q) fun _ _ q => q)

/-! statements -/
theorem TS.while_ {test : Expr} {body orelse : List Stmt} {pos : Pos} {P : Fl → List (Option V) → List (List PyData) → Prop} (I : Nat → List (Option V) → List (List PyData) → Prop) (n : Nat) (h0 : I n ρ σ)
    (turn : ∀ n ρ σ, I n ρ σ → TB c d test sc ρ σ fun b σ₁ => if b then TSS c d body sc ρ σ₁ fun fl ρ₂ σ₂ => match fl with
      | .next => ∃ m, m < n ∧ I m ρ₂ σ₂
      | .cont => ∃ m, m < n ∧ I m ρ₂ σ₂
      | .brk => P .next ρ₂ σ₂
      | .ret v => P (.ret v) ρ₂ σ₂
      else TSS c d orelse sc ρ σ₁ P) : TS c d (.While test body orelse pos) sc ρ σ P := by
  intro env A X φ s Q E O R L K
  refine wpAny_While (codeAny_whileLoop (fun n s' => ∃ (φk : Phi) (ρk : List (Option V)) (σk : List (List PyData)), Step φ φk (own env sc) s s' ∧ Rel c φk X σk s' ∧ Loc env sc ρk φk X s'.heap ∧ I n ρk σk) ?_ n ⟨φ, ρ, σ, .refl, R, L, h0⟩)
  rintro n s' ⟨φk, ρk, σk, xk, Rk, Lk, hI⟩
  refine turn n ρk σk hI env A X φk s' _ _ O Rk Lk fun b φ₁ σ₁ s₁ x₁ R₁ h₁ => ?_
  have L₁ := Lk.step x₁ (Rk.own O.o) (fun a h _ => h)
  have y₁ : Step φ φ₁ (own env sc) s s₁ := xk.trans (x₁.own Rk O.o)
  cases b with
  | true =>
    refine h₁ env A X φ₁ s₁ _ _ O R₁ L₁ fun fl f φ₂ ρ₂ σ₂ s₂ x₂ R₂ L₂ r₂ h₂ => ?_
    cases fl <;> cases f <;> first | (exact r₂.elim) | skip
    · obtain ⟨m, hm, hI'⟩ := h₂
      exact ⟨m, hm, φ₂, ρ₂, σ₂, y₁.trans x₂, R₂, L₂, hI'⟩
    · exact K .next .next φ₂ ρ₂ σ₂ s₂ (y₁.trans x₂) R₂ L₂ trivial h₂
    · obtain ⟨m, hm, hI'⟩ := h₂
      exact ⟨m, hm, φ₂, ρ₂, σ₂, y₁.trans x₂, R₂, L₂, hI'⟩
    · exact K (.ret _) (.ret _) φ₂ ρ₂ σ₂ s₂ (y₁.trans x₂) R₂ L₂ r₂ h₂
  | false =>
    refine h₁ env A X φ₁ s₁ _ _ O R₁ L₁ fun fl f φ₂ ρ₂ σ₂ s₂ x₂ R₂ L₂ r₂ h₂ => ?_
    exact K fl f φ₂ ρ₂ σ₂ s₂ (y₁.trans x₂) R₂ L₂ r₂ h₂
theorem TS.retNone {pos : Pos} {P : Fl → List (Option V) → List (List PyData) → Prop} (p : P (.ret (.d .none)) ρ σ) : TS c d (.Return none pos) sc ρ σ P := by
  intro env A X φ s Q E O R L K
  exact wpAny_Return_none (K (.ret (.d .none)) (.ret .none) φ ρ σ s .refl R L Rd.none p)
/-- x += number, x a local name -/
noncomputable abbrev kAug (k : Nat) (i : Int) (ρ : List (Option V)) (P : Fl → List (Option V) → List (List PyData) → Prop) : V → List (List PyData) → Prop := fun v σ₁ => ∃ (w' : Bool) (j : Int), v = .e w' (.int j) ∧ P .next (ρ.set k (some (.d (.int (i + j))))) σ₁
theorem TS.augAdd (k : Nat) {x : Str} {px pos : Pos} {value : Expr} {i : Int} {wk : Bool} {P : Fl → List (Option V) → List (List PyData) → Prop}
    (hv : ρ[k]? = some (some (.e wk (.int i)))) (h : TE c d value sc ρ σ (kAug k i ρ P))
    (hk : sc.names[k]? = some (x, .local) := by rfl) : TS c d (.AugAssign (.Name x px) .Add value pos) sc ρ σ P := by
  intro env A X φ s Q E O R L K
  obtain ⟨m, h1, h2⟩ := L.ns
  obtain ⟨cv, h3, h4⟩ := h2 k x _ hk hv
  refine wpAny_AugAssign_Name (wpAny_loadName_local (by rw [O.e.s]; exact O.e.fn) (O.e.kind hk) h1 h3 (h env A X φ s _ E O R L fun v cw φ₁ σ₁ s₁ x₁ R₁ r₁ h₁ => ?_))
  obtain ⟨w', j, rfl, p⟩ := h₁
  have L₁ := L.step x₁ (R.own O.o) (fun a h _ => h)
  obtain ⟨t, rfl⟩ := h4.int_inv
  obtain ⟨u, rfl⟩ := r₁.int_inv
  refine PySem.P.iadd_int ?_
  have x₂ : Step φ₁ (φ₁.reg s₁.toks (.int (i + j))) [] s₁ { s₁ with toks := s₁.toks + 1 } := Step.reg R₁ (Nat.le_refl _)
  have R₂ : Rel c (φ₁.reg s₁.toks (.int (i + j))) X σ₁ { s₁ with toks := s₁.toks + 1 } := R₁.reg (Nat.le_refl _) (Nat.lt_succ_self _)
  have L₂ := L₁.step x₂ (R₁.own O.o) (fun a h _ => h)
  exact TN.loc (c := c) (d := d) (P := fun ρ' σ' => P .next ρ' σ') k p hk env A X _ _ _ _ E O R₂ L₂ VRep.int_reg fun φ' ρ' σ' s' y R' L' q => K .next .next φ' ρ' σ' s' (((x₁.trans x₂).own R O.o).trans y) R' L' trivial q

/-! t₁, t₂ = v₁, v₂ -/
noncomputable def TAs (c : Cx) (d : Nat) (sc : Sc) : List (Expr × V) → List (Option V) → List (List PyData) → (List (Option V) → List (List PyData) → Prop) → Prop
  | [], ρ, σ, P => P ρ σ
  | (t, v) :: r, ρ, σ, P => TA c d t sc ρ σ v fun ρ₁ σ₁ => TAs c d sc r ρ₁ σ₁ P
noncomputable def TNs (c : Cx) (d : Nat) (sc : Sc) : List (Str × V) → List (Option V) → List (List PyData) → (List (Option V) → List (List PyData) → Prop) → Prop
  | [], ρ, σ, P => P ρ σ
  | (x, v) :: r, ρ, σ, P => TN c d x sc ρ σ v fun ρ₁ σ₁ => TNs c d sc r ρ₁ σ₁ P

theorem assign_run {env : Env} {A : Around} {X : List Addr} {E : Value → Shared → Prop} (O : Ok c d env sc A X) : ∀ (ts : List Expr) (vs : List V) (cvs : List Value) (ρ : List (Option V)) (σ : List (List PyData)) (φ : Phi) (s : Shared) (Q : Unit → Shared → Prop) (P : List (Option V) → List (List PyData) → Prop),
    Rel c φ X σ s → Loc env sc ρ φ X s.heap → VReps s.heap φ X vs cvs → ts.length = vs.length → TAs c d sc (ts.zip vs) ρ σ P →
    (∀ φ' ρ' σ' s', Step φ φ' (own env sc) s s' → Rel c φ' X σ' s' → Loc env sc ρ' φ' X s'.heap → P ρ' σ' → Q () s') → wpAny (model c.prog c.w) A (assignInOrder (ts.map fun t => assign t env) cvs) Q E s
  | [], vs, cvs, ρ, σ, φ, s, Q, P, R, L, r, hl, h, K => by
    cases vs with
    | nil => cases r; exact wpAny_pure (K φ ρ σ s .refl R L h)
    | cons _ _ => simp at hl
  | t :: ts, [], cvs, ρ, σ, φ, s, Q, P, R, L, r, hl, h, K => by simp at hl
  | t :: ts, v :: vs, _, ρ, σ, φ, s, Q, P, R, L, .cons r rs, hl, h, K => by
    refine wpAny_assignInOrder_more (h env A X φ s _ _ E O R L r fun φ₁ ρ₁ σ₁ s₁ x₁ R₁ L₁ h₁ => ?_)
    exact assign_run O ts vs _ ρ₁ σ₁ φ₁ s₁ Q P R₁ L₁ (rs.step x₁ O.o (fun a h _ => h)) (by simpa using hl) h₁ fun φ' ρ' σ' s' x R' L' p => K φ' ρ' σ' s' (x₁.trans x) R' L' p
theorem bind_run {env : Env} {A : Around} {X : List Addr} {E : Value → Shared → Prop} (O : Ok c d env sc A X) : ∀ (ts : List Str) (vs : List V) (cvs : List Value) (ρ : List (Option V)) (σ : List (List PyData)) (φ : Phi) (s : Shared) (Q : Unit → Shared → Prop) (P : List (Option V) → List (List PyData) → Prop),
    Rel c φ X σ s → Loc env sc ρ φ X s.heap → VReps s.heap φ X vs cvs → ts.length = vs.length → TNs c d sc (ts.zip vs) ρ σ P →
    (∀ φ' ρ' σ' s', Step φ φ' (own env sc) s s' → Rel c φ' X σ' s' → Loc env sc ρ' φ' X s'.heap → P ρ' σ' → Q () s') → wpAny (model c.prog c.w) A (assignInOrder (ts.map fun t => bindName env t) cvs) Q E s
  | [], vs, cvs, ρ, σ, φ, s, Q, P, R, L, r, hl, h, K => by
    cases vs with
    | nil => cases r; exact wpAny_pure (K φ ρ σ s .refl R L h)
    | cons _ _ => simp at hl
  | t :: ts, [], cvs, ρ, σ, φ, s, Q, P, R, L, r, hl, h, K => by simp at hl
  | t :: ts, v :: vs, _, ρ, σ, φ, s, Q, P, R, L, .cons r rs, hl, h, K => by
    refine wpAny_assignInOrder_more (wpAny_bindName (h env A X φ s _ _ E O R L r fun φ₁ ρ₁ σ₁ s₁ x₁ R₁ L₁ h₁ => ?_))
    exact bind_run O ts vs _ ρ₁ σ₁ φ₁ s₁ Q P R₁ L₁ (rs.step x₁ O.o (fun a h _ => h)) (by simpa using hl) h₁ fun φ' ρ' σ' s' x R' L' p => K φ' ρ' σ' s' (x₁.trans x) R' L' p
theorem VReps.append_inv {h : Heap} {φ : Phi} {X : List Addr} : ∀ {vs : List V} {cvs : List Value}, VReps h φ X vs cvs → ∀ {ws : List V} {cws : List Value}, VReps h φ X ws cws → VReps h φ X (ws.reverse ++ vs) (cws.reverse ++ cvs)
  | vs, cvs, r, _, _, h => by
    induction h generalizing vs cvs with
    | nil => exact r
    | cons q _ ih =>
      rw [List.reverse_cons, List.reverse_cons, List.append_assoc, List.append_assoc]
      exact ih _ _ (.cons q r)
theorem assignEach_all (env : Env) : ∀ {ts : List Expr}, noStar ts = true → assignEach ts env = ts.map fun t => (false, assign t env)
  | [], _ => rfl
  | t :: ts, h => by
    have e : assignEach (t :: ts) env = (false, assign t env) :: assignEach ts env := by cases t <;> first | rfl | (cases h; done)
    rw [e, assignEach_all env (noStar_tail h)]; rfl

theorem tuple_eval {env : Env} {A : Around} {X : List Addr} {φ : Phi} {s : Shared} {es : List Expr} {k : Nat} {pos : Pos} {P : List V → List (List PyData) → Prop} {Q : Value → Shared → Prop} {E : Value → Shared → Prop} (O : Ok c d env sc A X) (R : Rel c φ X σ s) (L : Loc env sc ρ φ X s.heap)
    (h : TEs c d es sc ρ σ P) (hlen : ∀ vs σ', P vs σ' → vs.length ≤ 1000)
    (K : ∀ l vs cvs φ' σ' s', Step φ φ' [] s s' → Rel c φ' X σ' s' → VReps s'.heap φ' X vs cvs → s'.heap.IsTuple l cvs.toArray → P vs σ' → Q (.ref l) s') : wpAny (model c.prog c.w) A (eval (.Tuple es k pos) env) Q E s := by
  refine Tuple_ (h env A X φ s pos _ E O R L fun vs cvs φ₁ σ₁ s₁ x₁ R₁ r₁ h₁ => ?_)
  have hl := r₁.length_eq
  have := hlen vs σ₁ h₁
  refine wpAny_newObj_type ?_ (by show cvs.toArray.size ≤ sizeLine; rw [List.size_toArray, sizeLine_eq]; omega)
  have hk : ∀ b o, s₁.heap.get? b = some o → (s₁.heap.push { cls := .type "tuple", dict := none, data := .seq cvs.toArray }).get? b = some o := fun b o e => Heap.get?_push_of_some _ e
  have x₂ : Step φ₁ φ₁ [] s₁ { s₁ with heap := s₁.heap.push { cls := .type "tuple", dict := none, data := .seq cvs.toArray } } := Step.grow (tk := s₁.toks) hk
  exact K _ vs cvs φ₁ σ₁ _ (x₁.trans x₂) (R₁.grow (tk := s₁.toks) hk (Nat.le_refl _)) (r₁.step x₂ (by simp) (fun a h _ => h)) ⟨_, Heap.get?_push_size _ rfl, rfl, _, rfl⟩ h₁

noncomputable abbrev kAsgT (c : Cx) (d : Nat) (ts : List Expr) (sc : Sc) (ρ : List (Option V)) (P : List (Option V) → List (List PyData) → Prop) : List V → List (List PyData) → Prop := fun vs σ₁ => ts.length = vs.length ∧ vs.length ≤ 1000 ∧ TAs c d sc (ts.zip vs) ρ σ₁ P
theorem TS.assignT {ts es : List Expr} {k k' : Nat} {p₁ p₂ pos : Pos} {P : Fl → List (Option V) → List (List PyData) → Prop}
    (h : TEs c d es sc ρ σ (kAsgT c d ts sc ρ (P .next)))
    (hw : swappedStores [.Tuple ts k p₁] (.Tuple es k' p₂) (envS sc) = pure none := by rfl) (hn : noStar ts = true := by rfl) : TS c d (.Assign [.Tuple ts k p₁] (.Tuple es k' p₂) pos) sc ρ σ P := by
  intro env A X φ s Q E O R L K
  have es' : env.scope = (envS sc).scope := O.e.s
  refine wpAny_Assign_stores (tuple_eval O R L h (fun _ _ q => q.2.1) fun l vs cvs φ₁ σ₁ s₁ x₁ R₁ r₁ hl h₁ => ?_) rfl ((swappedStores_env es').trans hw)
  obtain ⟨hlen, hb, h₁⟩ := h₁
  have hcl := r₁.length_eq
  show wpAny _ A (assignAll (.ref l) [PySem.assign (.Tuple ts k p₁) env]) _ E s₁
  unfold assignAll
  refine wpAny_assign_Tuple O.a.hd hl (by rw [assignEach_all env hn]; simp; omega) (by rw [assignEach_all env hn]; simp) fun h' hx => ?_
  have hk : ∀ b o, s₁.heap.get? b = some o → h'.get? b = some o := fun b o e => hx b o (Nat.ne_of_lt (Heap.lt_size e)) e
  have x₂ : Step φ₁ φ₁ [] s₁ { s₁ with heap := h' } := Step.grow (tk := s₁.toks) hk
  have y := x₁.trans x₂
  rw [assignEach_all env hn]
  have := assign_run (E := E) O ts vs cvs ρ σ₁ φ₁ { s₁ with heap := h' } (fun _ s' => Q .next s') _ (R₁.grow (tk := s₁.toks) hk (Nat.le_refl _)) (L.step y (R.own O.o) (fun a h _ => h)) (r₁.step x₂ (by simp) (fun a h _ => h)) hlen h₁ fun φ' ρ' σ' s' x R' L' p => K .next .next φ' ρ' σ' s' ((y.own R O.o).trans x) R' L' trivial p
  simpa [List.map_map, Function.comp_def] using this
noncomputable abbrev kAsgS (c : Cx) (d : Nat) (names : List Str) (sc : Sc) (ρ : List (Option V)) (P : List (Option V) → List (List PyData) → Prop) : List V → List (List PyData) → Prop := fun vs σ₁ => names.length = vs.length ∧ vs.length ≤ 1000 ∧ TNs c d sc (names.reverse.zip vs.reverse) ρ σ₁ P
theorem TS.assignS {ts es : List Expr} {k k' : Nat} {p₁ p₂ pos : Pos} (names : List Str) {P : Fl → List (Option V) → List (List PyData) → Prop}
    (h : TEs c d es sc ρ σ (kAsgS c d names sc ρ (P .next)))
    (hw : swappedStores [.Tuple ts k p₁] (.Tuple es k' p₂) (envS sc) = pure (some names) := by rfl) : TS c d (.Assign [.Tuple ts k p₁] (.Tuple es k' p₂) pos) sc ρ σ P := by
  intro env A X φ s Q E O R L K
  have es' : env.scope = (envS sc).scope := O.e.s
  rw [exec_Assign_arm]
  refine wpAny_bind (wpAny_standAt ?_)
  show wpAny _ A (do
    if ← (pure false : Sem Bool) then do
      evalThenUse (.Tuple es k' p₂) env fun v => assignAll v ((assignEach [.Tuple ts k p₁] env).map (·.2))
      pure .next
    else do
      let v ← eval (.Tuple es k' p₂) env
      assignStores env v (← swappedStores [.Tuple ts k p₁] (.Tuple es k' p₂) env) ((assignEach [.Tuple ts k p₁] env).map (·.2))) Q E s
  rw [swappedStores_env es', hw]
  refine wpAny_bind (wpAny_pure ?_)
  rw [if_neg Bool.false_ne_true]
  refine wpAny_bind (tuple_eval O R L h (fun _ _ q => q.2.1) fun l vs cvs φ₁ σ₁ s₁ x₁ R₁ r₁ hl h₁ => ?_)
  obtain ⟨hlen, hb, h₁⟩ := h₁
  have hcl := r₁.length_eq
  refine wpAny_bind (wpAny_pure ?_)
  unfold assignStores
  refine wpAny_bind (wpAny_rule (wpAny_bind ?_))
  have hsz : names.length = cvs.toArray.size := by simp; omega
  rw [hsz]
  refine wpAny_unpackItems_tuple O.a.hd hl fun h' hx => ?_
  have hk : ∀ b o, s₁.heap.get? b = some o → h'.get? b = some o := fun b o e => hx b o (Nat.ne_of_lt (Heap.lt_size e)) e
  have x₂ : Step φ₁ φ₁ [] s₁ { s₁ with heap := h' } := Step.grow (tk := s₁.toks) hk
  have y := x₁.trans x₂
  refine wpAny_bind (bind_run (E := E) O names.reverse vs.reverse cvs.reverse ρ σ₁ φ₁ { s₁ with heap := h' } _ _ (R₁.grow (tk := s₁.toks) hk (Nat.le_refl _)) (L.step y (R.own O.o) (fun a h _ => h)) ?_ (by simpa using hlen) h₁ fun φ' ρ' σ' s' x R' L' p => wpAny_pure (K .next .next φ' ρ' σ' s' ((y.own R O.o).trans x) R' L' trivial p))
  have := VReps.append_inv .nil (r₁.step x₂ (by simp) (fun a h _ => h) : VReps h' φ₁ X vs cvs)
  simpa using this
end
end Mine
end -- Fw13
section -- Fw14
set_option tactic.hygienic false
open PySem PySem.W PySem.Calls PyProof.Rows
set_option linter.unusedVariables false
set_option linter.unusedSimpArgs false
set_option autoImplicit false
namespace Mine

/-! comprehensions -/
noncomputable def clF (cs : List (Str × Addr)) : List (Str × NameKind) → List (Str × Addr) → List (Str × Addr)
  | [], acc => acc
  | (n, k) :: r, acc => if k == .free then clF cs r ((n, (cs.lookup n).getD 0) :: acc) else clF cs r acc
theorem closureFor_run (env : Env) : ∀ (names : List (Str × NameKind)) (acc : List (Str × Addr)), (∀ n, (n, NameKind.free) ∈ names → ∃ c, env.cells.lookup n = some c) →
    (forIn names acc fun (x : Str × NameKind) (r : List (Str × Addr)) => if (x.2 == .free) = true then do let a ← cellOf env x.1; pure (ForInStep.yield ((x.1, a) :: r)) else pure (ForInStep.yield r) : Sem (List (Str × Addr))) = pure (clF env.cells names acc)
  | [], acc, _ => rfl
  | (n, k) :: r, acc, h => by
    rw [List.forIn_cons]
    unfold clF
    by_cases hk : (k == NameKind.free) = true
    · have hk' : k = .free := by simpa using hk
      obtain ⟨c, hc⟩ := h n (hk' ▸ List.mem_cons_self)
      simp only [hk, if_true]
      have e : cellOf env n = pure c := by unfold cellOf; rw [hc]
      rw [e, hc]
      exact closureFor_run env r _ fun n' hn' => h n' (List.mem_cons_of_mem _ hn')
    · simp only [hk, if_false]
      exact closureFor_run env r _ fun n' hn' => h n' (List.mem_cons_of_mem _ hn')
theorem closureFor_eq {scope : Scope} {env : Env} (h : ∀ n, (n, NameKind.free) ∈ scope.names → ∃ c, env.cells.lookup n = some c) : closureFor scope env = pure (clF env.cells scope.names []) := by
  have := closureFor_run env scope.names [] h
  unfold closureFor
  show (forIn scope.names [] _ >>= fun cs => pure cs) = _
  exact (congrArg (· >>= fun cs => pure cs) this).trans rfl

theorem clF_lookup (cs : List (Str × Addr)) : ∀ (names : List (Str × NameKind)) (acc : List (Str × Addr)) (x : Str), (names.map (·.1)).Nodup →
    ((x, NameKind.free) ∈ names → (clF cs names acc).lookup x = some ((cs.lookup x).getD 0)) ∧ ((x, NameKind.free) ∉ names → (clF cs names acc).lookup x = acc.lookup x)
  | [], acc, x, _ => ⟨(fun h => nomatch h), fun _ => rfl⟩
  | (n, k) :: r, acc, x, nd => by
    simp only [List.map_cons, List.nodup_cons] at nd
    unfold clF
    by_cases hk : (k == NameKind.free) = true
    · have hk' : k = .free := by simpa using hk
      subst hk'
      simp only [beq_self_eq_true, if_true]
      obtain ⟨i1, i2⟩ := clF_lookup cs r ((n, (cs.lookup n).getD 0) :: acc) x nd.2
      by_cases hx : x = n
      · subst hx
        have hnot : (x, NameKind.free) ∉ r := fun q => nd.1 (List.mem_map.mpr ⟨_, q, rfl⟩)
        refine ⟨fun _ => by rw [i2 hnot]; simp [List.lookup_cons], fun q => absurd List.mem_cons_self q⟩
      · have hb : (x == n) = false := beq_eq_false_iff_ne.mpr hx
        refine ⟨fun q => ?_, fun q => ?_⟩
        · rcases List.mem_cons.mp q with q | q
          · cases q; exact absurd rfl hx
          · exact i1 q
        · rw [i2 fun z => q (List.mem_cons_of_mem _ z)]; simp [List.lookup_cons, hb]
    · have hk' : k ≠ .free := by simpa using hk
      simp only [hk, if_false]
      obtain ⟨i1, i2⟩ := clF_lookup cs r acc x nd.2
      refine ⟨fun q => ?_, fun q => i2 fun z => q (List.mem_cons_of_mem _ z)⟩
      rcases List.mem_cons.mp q with q | q
      · cases q; exact absurd rfl hk'
      · exact i1 q
set_option tactic.hygienic true in
theorem clF_mem (cs : List (Str × Addr)) : ∀ (names : List (Str × NameKind)) (acc : List (Str × Addr)) (y : Str × Addr), y ∈ clF cs names acc → y ∈ acc ∨ ((y.1, NameKind.free) ∈ names ∧ y.2 = (cs.lookup y.1).getD 0)
  | [], acc, y, h => .inl h
  | (n, k) :: r, acc, y, h => by
    unfold clF at h
    split at h
    · rename_i hk
      have hk' : k = .free := by simpa using hk
      rcases clF_mem cs r _ y h with q | ⟨q1, q2⟩
      · rcases List.mem_cons.mp q with q | q
        · subst q; exact .inr ⟨by rw [hk']; exact List.mem_cons_self, rfl⟩
        · exact .inl q
      · exact .inr ⟨List.mem_cons_of_mem _ q1, q2⟩
    · rcases clF_mem cs r _ y h with q | ⟨q1, q2⟩
      · exact .inl q
      · exact .inr ⟨List.mem_cons_of_mem _ q1, q2⟩

set_option tactic.hygienic true in
theorem cellsFrom_lookup : ∀ (names : List (Str × NameKind)) (n : Nat) (acc : List (Str × Addr)) (x : Str), (x, NameKind.cell) ∉ names → (cellsFrom n names acc).lookup x = acc.lookup x
  | [], n, acc, x, _ => rfl
  | (y, k) :: r, n, acc, x, h => by
    unfold cellsFrom
    have hr : (x, NameKind.cell) ∉ r := fun q => h (List.mem_cons_of_mem _ q)
    split
    · rename_i hk
      have hk' : k = .cell := by simpa using hk
      rw [cellsFrom_lookup r _ _ x hr]
      have hb : (x == y) = false := beq_eq_false_iff_ne.mpr (by rintro rfl; exact h (hk' ▸ List.mem_cons_self))
      simp [List.lookup_cons, hb]
    · exact cellsFrom_lookup r _ _ x hr
theorem cellsFrom_own : ∀ (names : List (Str × NameKind)) (n : Nat) (acc : List (Str × Addr)) (x : Str) (h : Heap), h.objs.size = n → (names.map (·.1)).Nodup → (x, NameKind.cell) ∈ names →
    ∃ a, (cellsFrom n names acc).lookup x = some a ∧ n ≤ a ∧ (pushCells h names).IsCell a none
  | [], n, acc, x, h, _, _, q => nomatch q
  | (y, k) :: r, n, acc, x, h, hn, nd, q => by
    simp only [List.map_cons, List.nodup_cons] at nd
    unfold cellsFrom pushCells
    by_cases hk : (k == NameKind.cell) = true
    · rw [if_pos hk, if_pos hk]
      have hk' : k = .cell := by simpa using hk
      by_cases hx : x = y
      · subst hx
        rw [cellsFrom_lookup r _ _ x (fun z => nd.1 (List.mem_map.mpr ⟨_, z, rfl⟩))]
        refine ⟨n, by simp [List.lookup_cons], Nat.le_refl _, ⟨_, pushCells_keeps r _ n _ (hn ▸ Heap.get?_push_size _ rfl), rfl⟩⟩
      · have q' : (x, NameKind.cell) ∈ r := by
          rcases List.mem_cons.mp q with q | q
          · cases q; exact absurd rfl hx
          · exact q
        obtain ⟨a, h1, h2, h3⟩ := cellsFrom_own r (n + 1) ((y, n) :: acc) x (h.push { cls := .type "cell", data := .cell none }) (by rw [Heap.size_push, hn]) nd.2 q'
        exact ⟨a, h1, Nat.le_of_succ_le h2, h3⟩
    · rw [if_neg hk, if_neg hk]
      have q' : (x, NameKind.cell) ∈ r := by
        rcases List.mem_cons.mp q with q | q
        · cases q; simp at hk
        · exact q
      exact cellsFrom_own r n acc x h hn nd.2 q'
theorem cellsFrom_nodup : ∀ (names : List (Str × NameKind)) (n : Nat) (acc : List (Str × Addr)), (acc.map (·.2)).Nodup → (∀ y ∈ acc, y.2 < n) → ((cellsFrom n names acc).map (·.2)).Nodup
  | [], n, acc, h, _ => h
  | (x, k) :: r, n, acc, h, hlt => by
    unfold cellsFrom
    split
    · refine cellsFrom_nodup r (n + 1) _ ?_ ?_
      · simp only [List.map_cons, List.nodup_cons]
        refine ⟨fun q => ?_, h⟩
        obtain ⟨y, h1, h2⟩ := List.mem_map.mp q
        exact absurd (h2 ▸ hlt y h1) (Nat.lt_irrefl _)
      · intro y hy
        rcases List.mem_cons.mp hy with rfl | hy
        · exact Nat.lt_succ_self _
        · exact Nat.lt_succ_of_lt (hlt y hy)
    · exact cellsFrom_nodup r n acc h hlt
set_option tactic.hygienic true in
theorem clF_nodup (cs : List (Str × Addr)) (hcs : (cs.map (·.2)).Nodup) : ∀ (names : List (Str × NameKind)) (acc : List (Str × Addr)), (names.map (·.1)).Nodup → (∀ n, (n, NameKind.free) ∈ names → ∃ c, cs.lookup n = some c) → (acc.map (·.2)).Nodup →
    (∀ y ∈ acc, y ∈ cs ∧ y.1 ∉ names.map (·.1)) → ((clF cs names acc).map (·.2)).Nodup
  | [], acc, _, _, h, _ => h
  | (n, k) :: r, acc, nd, hc, h, hy => by
    simp only [List.map_cons, List.nodup_cons] at nd
    unfold clF
    split
    · rename_i hk
      have hk' : k = .free := by simpa using hk
      obtain ⟨c, hcc⟩ := hc n (hk' ▸ List.mem_cons_self)
      rw [hcc]
      refine clF_nodup cs hcs r _ nd.2 (fun n' h' => hc n' (List.mem_cons_of_mem _ h')) ?_ ?_
      · simp only [List.map_cons, List.nodup_cons]
        refine ⟨fun q => ?_, h⟩
        obtain ⟨y, h1, h2⟩ := List.mem_map.mp q
        obtain ⟨g1, g2⟩ := hy y h1
        have m1 := PySem.mem_of_lookup hcc
        obtain ⟨i, e1⟩ := List.mem_iff_getElem?.mp m1
        obtain ⟨j, e2⟩ := List.mem_iff_getElem?.mp g1
        have hij : i = j := nodup_inj hcs (x := c) (by rw [List.getElem?_map, e1]; rfl) (by rw [List.getElem?_map, e2]; exact congrArg some h2)
        subst hij
        rw [e1] at e2
        have : y.1 = n := by cases e2; rfl
        exact g2 (by simp [this])
      · intro y hy'
        rcases List.mem_cons.mp hy' with rfl | hy'
        · exact ⟨PySem.mem_of_lookup hcc, nd.1⟩
        · obtain ⟨g1, g2⟩ := hy y hy'
          exact ⟨g1, fun q => g2 (by simp only [List.map_cons]; exact List.mem_cons_of_mem _ q)⟩
    · refine clF_nodup cs hcs r acc nd.2 (fun n' h' => hc n' (List.mem_cons_of_mem _ h')) h fun y hy' => ?_
      obtain ⟨g1, g2⟩ := hy y hy'
      exact ⟨g1, fun q => g2 (by simp only [List.map_cons]; exact List.mem_cons_of_mem _ q)⟩

/-- the scope that a comprehension's names have inside -/
noncomputable def relS (scope : Scope) (sc : Sc) : Scope := { scope with names := scope.names.map fun (n, k) => if (k == .free && sc.s.kind == .function && sc.names.lookup n == some .cell) then (n, .cell) else (n, k) }
noncomputable abbrev cpSc (scope : Scope) (sc : Sc) : Sc := ⟨relS scope sc, cellNames scope⟩
theorem relabel_eq {scope : Scope} {sc : Sc} {env : Env} (h : env.scope = sc.s) : relabel scope env = relS scope sc := by
  unfold relabel relS Env.kindOf
  rw [h]
noncomputable def rhoAt : List (Str × NameKind) → List (Option V) → Str → Option V
  | (y, _) :: ns, v :: ρ, x => if x == y then v else rhoAt ns ρ x
  | _, _, _ => none
set_option tactic.hygienic true in
theorem rhoAt_get : ∀ {names : List (Str × NameKind)} {ρ : List (Option V)} {x : Str} {v : V}, rhoAt names ρ x = some v → ∃ (k : Nat) (kd : NameKind), names[k]? = some (x, kd) ∧ ρ[k]? = some (some v)
  | [], _, x, v, h => by simp [rhoAt] at h
  | (y, kd) :: ns, [], x, v, h => by simp [rhoAt] at h
  | (y, kd) :: ns, w :: ρ, x, v, h => by
    unfold rhoAt at h
    split at h
    · rename_i hx
      have : x = y := by simpa using hx
      subst this
      exact ⟨0, kd, rfl, by simp [h]⟩
    · obtain ⟨k, kd', h1, h2⟩ := rhoAt_get h
      exact ⟨k + 1, kd', by simpa using h1, by simpa using h2⟩
/-- what stands under a comprehension's names at its start -/
noncomputable def rhoC (scope : Scope) (sc : Sc) (ρ : List (Option V)) : List (Option V) := scope.names.map fun n => if n.2 == .free then rhoAt sc.names ρ n.1 else none

noncomputable def freeOk (scope : Scope) (sc : Sc) : Bool := scope.names.all fun n => n.2 != .free || sc.names.lookup n.1 == some .cell || sc.names.lookup n.1 == some .free

noncomputable def TTests (c : Cx) (d : Nat) (sc : Sc) (ρ : List (Option V)) : List Expr → List (List PyData) → (Bool → List (List PyData) → Prop) → Prop
  | [], σ, P => P true σ
  | [t], σ, P => TB c d t sc ρ σ P
  | _, _, _ => False
noncomputable abbrev kCmpE (n : Nat) (Good : List (List PyData) → Prop) (N : List (List PyData) → Prop) : V → List (List PyData) → Prop := fun v σ₃ => ∃ y ys, v = .d y ∧ σ₃[n]? = some ys ∧ ys.length ≤ 1000 ∧ Good (σ₃.set n (ys ++ [y])) ∧ N (σ₃.set n (ys ++ [y]))
noncomputable abbrev kCmpB (c : Cx) (d : Nat) (elt : Expr) (sc : Sc) (n : Nat) (Good : List (List PyData) → Prop) (N : List (Option V) → List (List PyData) → Prop) (ρ₁ : List (Option V)) : Bool → List (List PyData) → Prop := fun b σ₂ => if b then TE c d elt sc ρ₁ σ₂ (kCmpE n Good (N ρ₁)) else Good σ₂ ∧ N ρ₁ σ₂
noncomputable abbrev kCmp (c : Cx) (d : Nat) (elt : Expr) (ifs : List Expr) (sc : Sc) (n : Nat) (Good : List (List PyData) → Prop) (N : List (Option V) → List (List PyData) → Prop) : List (Option V) → List (List PyData) → Prop := fun ρ₁ σ₁ => TTests c d sc ρ₁ ifs σ₁ (kCmpB c d elt sc n Good N ρ₁)
/-- the turns of a list comprehension: n the place of the list that it makes -/
noncomputable def TComp (c : Cx) (d : Nat) (target elt : Expr) (ifs : List Expr) (sc : Sc) (n : Nat) (wk : Bool) (Good : List (List PyData) → Prop) : List PyData → List (Option V) → List (List PyData) → (List (List PyData) → Prop) → Prop
  | [], ρ, σ, P => P σ
  | x :: xs, ρ, σ, P => TA c d target sc ρ σ (.e wk x) (kCmp c d elt ifs sc n Good (fun ρ₁ σ₂ => TComp c d target elt ifs sc n wk Good xs ρ₁ σ₂ P))

section
variable {prog : Program} {w : World} {A : Around} {R : Result → Shared → Prop}
theorem compLoop_G {elt target iter : Expr} {ifs : List Expr} {scope : Scope} {pos : Pos} {it acc : Value} {env : Env} (I : Nat → Shared → Prop)
    (turn : ∀ n s, I n s → wpAny (model prog w) A (pyNext it) (fun r s₁ => match r with
      | none => R (.ok .next) s₁
      | some v => wpAny (model prog w) A (letOwnedTupleGo target it v) (fun _ s₁' => wpAny (model prog w) A (assign target env v) (fun _ s₂ =>
          wpAny (model prog w) A (forIn ifs true fun c r => if r = true then do let ok ← isTrue c env (eval c env); pure (ForInStep.yield ok) else pure (ForInStep.yield r)) (fun ok s₃ =>
            if ok = true then wpAny (model prog w) A (eval elt env) (fun x s₄ =>
              wpAny (model prog w) A (call (.builtin "list.append") [acc, x]) (fun _ s₅ => ∃ m, m < n ∧ I m s₅) (notedBy (model prog w) A env fun e s' => R (.error e) s') s₄) (notedBy (model prog w) A env fun e s' => R (.error e) s') s₃
            else ∃ m, m < n ∧ I m s₃) (notedBy (model prog w) A env fun e s' => R (.error e) s') s₂) (notedBy (model prog w) A env fun e s' => R (.error e) s') s₁') (notedBy (model prog w) A env fun e s' => R (.error e) s') s₁) (notedBy (model prog w) A env fun e s' => R (.error e) s') s)
    (n : Nat) {s : Shared} (h : I n s) :
    codeAny (model prog w) A (.compLoop (.ListComp elt [⟨target, iter, ifs, 0⟩] scope pos) 0 it acc env) R s := by
  refine codeAny_loop rfl I (fun n s hI => ?_) n h
  show wpAny _ A ((compTurn (.ListComp elt [⟨target, iter, ifs, 0⟩] scope pos) 0 it acc env).onRaise (fun x => do noteFrame x env; theTreesLotGoes x)) _ _ s
  refine wpAny_noted ?_
  rw [compTurn_list]
  refine wpAny_bind (wpAny_standAt (wpAny_bind (wpAny_mono (turn n s hI) (fun r s₁ h₁ => ?_) fun _ _ h' => h')))
  cases r with
  | none => exact wpAny_pure h₁
  | some v =>
    refine wpAny_bind (wpAny_mono h₁ (fun _ s₁' h₁' => wpAny_bind (wpAny_mono h₁' (fun _ s₂ h₂ => wpAny_bind (wpAny_mono h₂ (fun ok s₃ h₃ => ?_) fun _ _ h' => h')) fun _ _ h' => h')) fun _ _ h' => h')
    cases ok with
    | false => exact wpAny_pure ⟨rfl, h₃⟩
    | true => exact wpAny_bind (wpAny_bind (wpAny_mono h₃ (fun x s₄ h₄ => wpAny_bind (wpAny_mono h₄ (fun _ s₅ h₅ => wpAny_pure (wpAny_pure ⟨rfl, h₅⟩)) fun _ _ h' => h')) fun _ _ h' => h'))
end

theorem Rel.perm {c : Cx} {φ : Phi} {X X' : List Addr} {σ : List (List PyData)} {s : Shared} (R : Rel c φ X σ s) (h : ∀ a, a ∈ X ↔ a ∈ X') : Rel c φ X' σ s where
  len := R.len
  nd := R.nd
  dj := fun a h1 h2 => R.dj a h1 ((h a).mpr h2)
  ob := fun i a xs e1 e2 => by
    obtain ⟨items, h1, h2⟩ := R.ob i a xs e1 e2
    refine ⟨items, h1, RdAll.keeps .refl (fun b o e => ?_) h2⟩
    obtain ⟨q1, q2⟩ := cut_get.mp e
    refine cut_get.mpr ⟨q1, fun z => q2 ?_⟩
    rcases List.mem_append.mp z with z | z
    · exact List.mem_append.mpr (.inl z)
    · exact List.mem_append.mpr (.inr ((h b).mpr z))
  xs := fun a ha => R.xs a ((h a).mpr ha)
  bs := fun b o e => let ⟨h1, h2, h3⟩ := R.bs b o e; ⟨h1, h2, fun q => h3 ((h b).mpr q)⟩
  tb := fun b hb => ⟨(h b).mp (R.tb b hb).1, (R.tb b hb).2.keeps (fun b o e => by
    obtain ⟨q1, q2⟩ := cut_get.mp e
    refine cut_get.mpr ⟨q1, fun z => q2 ?_⟩
    rcases List.mem_append.mp z with z | z
    · exact List.mem_append.mpr (.inl z)
    · exact List.mem_append.mpr (.inr ((h b).mpr z))) fun _ e => e⟩
  env := R.env
  tk := R.tk
  pl := R.pl
  pt := R.pt

section
variable {c : Cx} {d : Nat} {sc : Sc} {ρ : List (Option V)} {σ : List (List PyData)}

theorem tests_run {env : Env} {A : Around} {X : List Addr} {φ : Phi} {s : Shared} {ifs : List Expr} {P : Bool → List (List PyData) → Prop} {Q : Bool → Shared → Prop} {E : Value → Shared → Prop} (O : Ok c d env sc A X) (R : Rel c φ X σ s) (L : Loc env sc ρ φ X s.heap)
    (h : TTests c d sc ρ ifs σ P) (K : ∀ b φ' σ' s', Step φ φ' [] s s' → Rel c φ' X σ' s' → P b σ' → Q b s') :
    wpAny (model c.prog c.w) A (forIn ifs true fun c r => if r = true then do let ok ← isTrue c env (eval c env); pure (ForInStep.yield ok) else pure (ForInStep.yield r)) Q E s := by
  match ifs, h with
  | [], h => exact wpAny_tests_nil (K true φ σ s .refl R h)
  | [t], h => exact wpAny_tests_one (h env A X φ s Q E O R L K)

/-- a comprehension's turns, from the call of its loop on -/
theorem comp_loop {elt target iter : Expr} {ifs : List Expr} {scope : Scope} {pos : Pos} {it : Value} {D : Addr} {env : Env} {A : Around} {X wr : List Addr} {φ : Phi} {s : Shared} {n : Nat} {wk : Bool} {xs : List PyData} {Good : List (List PyData) → Prop} {St : Nat → Heap → Prop} {P : List (List PyData) → Prop} {R : Result → Shared → Prop}
    (O : Ok c d env sc A (wr ++ X)) (Re : Rel c φ (wr ++ X) σ s) (L : Loc env sc ρ φ (wr ++ X) s.heap) (I : ItOk c A target it wr wk xs Good St φ (cut s.heap (φ.l ++ (wr ++ X)))) (hd : φ.l[n]? = some D) (hX : ∀ b ∈ own env sc, b ∉ wr) (hU : ∀ b, Uses env sc b → b ∉ wr)
    (st : St 0 s.heap) (hg : Good σ) (h : TComp c d target elt ifs sc n wk Good xs ρ σ P) {φ₀ : Phi} {s₀ : Shared} (x₀ : Step φ₀ φ (own env sc ++ wr) s₀ s) (hw : ∀ b ∈ wr, s₀.heap.get? b = none) (hXw : ∀ a ∈ X, a ∉ wr) (hTX : ∀ b ∈ tabs, b ∈ X)
    (K : ∀ φ' ρ' σ' s', Step φ₀ φ' (own env sc) s₀ s' → φ.l <+: φ'.l → Rel c φ' X σ' s' → Loc env sc ρ' φ' X s'.heap → P σ' → R (.ok .next) s') :
    codeAny (model c.prog c.w) A (.compLoop (.ListComp elt [⟨target, iter, ifs, 0⟩] scope pos) 0 it (.ref D) env) R s := by
  refine compLoop_G (fun n' s' => ∃ (k : Nat) (φk : Phi) (ρk : List (Option V)) (σk : List (List PyData)), Step φ φk (own env sc ++ wr) s s' ∧ Rel c φk (wr ++ X) σk s' ∧ Loc env sc ρk φk (wr ++ X) s'.heap ∧ St k s'.heap ∧
      Gnd φ (cut s.heap (φ.l ++ (wr ++ X))) φk (wr ++ X) s'.heap ∧ Good σk ∧ TComp c d target elt ifs sc n wk Good (xs.drop k) ρk σk P ∧ k ≤ xs.length ∧ n' = xs.length - k) ?_ xs.length
    ⟨0, φ, ρ, σ, .refl, Re, L, st, ⟨List.prefix_refl _, .refl, fun _ _ e => e⟩, hg, by rw [List.drop_zero]; exact h, Nat.zero_le _, rfl⟩
  rintro n' s' ⟨k, φk, ρk, σk, xk, Rk, Lk, stk, Gk, hgk, hlk, hkl, rfl⟩
  by_cases hlt : k < xs.length
  · have hx : xs[k]? = some xs[k] := List.getElem?_eq_getElem hlt
    have hdr : xs.drop k = xs[k] :: xs.drop (k + 1) := List.drop_eq_getElem_cons hlt
    rw [hdr] at hlk
    have key := fun (q : Value → Shared → Prop) E' => I.item k xs[k] X φk σk s' q E' hx stk Rk hgk Gk
    refine wpAny_mono (key ?q _ ?g) (fun r s₂ h₂ => ?h) fun _ _ e => e
    case h =>
      cases r with
      | none => exact h₂.elim
      | some cv => exact h₂
    case g =>
      intro ci h₃ tk₃ τ₃ st₃ hk₃ ht₃ hτ₃ hz₃ rd
      have ha₃ := I.al _ _ st₃
      have R₃ := (Rk.nexts (tk := tk₃) hk₃ ha₃ (fun b hb => hXw b (hTX b hb)) ht₃).tauUp hτ₃ hz₃
      have x₃ : Step φk ⟨φk.l, τ₃⟩ (own env sc ++ wr) s' { s' with heap := h₃, toks := tk₃ } := (Step.nexts hk₃ ha₃).tauUp hτ₃
      have hcut : ∀ b o, (cut s'.heap (φk.l ++ (wr ++ X))).get? b = some o → (cut h₃ (φk.l ++ (wr ++ X))).get? b = some o := fun b o e => by
        obtain ⟨e3, e4⟩ := cut_get.mp e
        exact cut_get.mpr ⟨hk₃ _ _ (fun q => e4 (List.mem_append.mpr (.inr (List.mem_append.mpr (.inl q))))) e3, e4⟩
      have L₃ : Loc env sc ρk ⟨φk.l, τ₃⟩ (wr ++ X) h₃ := Lk.nexts hτ₃ hU hk₃
      have wrA : ∀ a ∈ own env sc ++ wr, a ∉ own env sc → ∃ o, h₃.get? a = some o := fun a ha hq => ha₃ a ((List.mem_append.mp ha).resolve_left hq)
      -- what stands at a turn's end
      have fin : ∀ φ₅ ρ₅ σ₅ s₅, Step ⟨φk.l, τ₃⟩ φ₅ (own env sc) { s' with heap := h₃, toks := tk₃ } s₅ → Rel c φ₅ (wr ++ X) σ₅ s₅ → Loc env sc ρ₅ φ₅ (wr ++ X) s₅.heap → Good σ₅ → TComp c d target elt ifs sc n wk Good (xs.drop (k + 1)) ρ₅ σ₅ P →
          ∃ m, m < xs.length - k ∧ ∃ (k' : Nat) (φk : Phi) (ρk : List (Option V)) (σk : List (List PyData)), Step φ φk (own env sc ++ wr) s s₅ ∧ Rel c φk (wr ++ X) σk s₅ ∧ Loc env sc ρk φk (wr ++ X) s₅.heap ∧ St k' s₅.heap ∧
            Gnd φ (cut s.heap (φ.l ++ (wr ++ X))) φk (wr ++ X) s₅.heap ∧ Good σk ∧ TComp c d target elt ifs sc n wk Good (xs.drop k') ρk σk P ∧ k' ≤ xs.length ∧ m = xs.length - k' := fun φ₅ ρ₅ σ₅ s₅ x45 R₅ L₅ hg₅ h₅ => by
        have xall : Step φ φ₅ (own env sc ++ wr) s s₅ := (xk.trans x₃).trans (x45.wide (fun a ha => List.mem_append.mpr (.inl ha)) wrA)
        refine ⟨xs.length - (k + 1), by omega, k + 1, φ₅, ρ₅, σ₅, xall, R₅, L₅, I.frame _ _ _ st₃ fun b hb o e => ?_, ⟨Gk.pre.trans x45.pre, (Gk.tau.trans hτ₃).trans x45.tau, fun b o e => ?_⟩, hg₅, h₅, hlt, rfl⟩
        · exact x45.keep b o e (fun q => Rk.dj b q (List.mem_append.mpr (.inl hb))) (fun q => hX b q hb) (fun q => hXw b (hTX b q) hb)
        · exact x45.cut (fun a ha => O.o a ha) (fun a ha _ => ha) (hcut _ _ (Gk.keep _ _ e))
      refine hlk env A (wr ++ X) ⟨φk.l, τ₃⟩ _ ci _ _ O R₃ L₃ rd fun φ₄ ρ₄ σ₄ s₄ x₄ R₄ L₄ h₄ => ?_
      refine tests_run O R₄ L₄ h₄ fun b φ₅ σ₅ s₅ x₅ R₅ h₅ => ?_
      have x45 : Step ⟨φk.l, τ₃⟩ φ₅ (own env sc) { s' with heap := h₃, toks := tk₃ } s₅ := x₄.trans (x₅.own R₄ O.o)
      have L₅ := L₄.step x₅ (R₄.own O.o) (fun a h _ => h)
      cases b with
      | false =>
        obtain ⟨hg₅, h₅⟩ := h₅
        exact fin φ₅ ρ₄ σ₅ s₅ x45 R₅ L₅ hg₅ h₅
      | true =>
        refine h₅ env A (wr ++ X) φ₅ s₅ _ _ O R₅ L₅ fun v cv φ₆ σ₆ s₆ x₆ R₆ r₆ h₆ => ?_
        obtain ⟨y, ys, rfl, hys, hsz, hg₆, h₆⟩ := h₆
        have hpre : φ.l <+: φ₆.l := ((xk.pre.trans x45.pre).trans x₆.pre)
        have hD : φ₆.l[n]? = some D := prefix_get hpre hd
        have r₆' : VRep s₆.heap φ₆ (wr ++ X) (.d y) cv := r₆
        have L₆ := L₅.step x₆ (R₅.own O.o) (fun a h _ => h)
        have x46 := x45.trans (x₆.own R₅ O.o)
        refine TCall.append (c := c) (d := d) (σ := σ₆) (i := n) (x := y) (P := fun v σ' => v = .d .none ∧ σ' = σ₆.set n (ys ++ [y])) hys hsz ⟨rfl, rfl⟩ A (wr ++ X) φ₆ s₆ [.ref D, cv] [] _ _ O.c O.a R₆ (.cons ⟨D, hD, rfl⟩ (.cons r₆' .nil)) .nil fun v' cv' φ₇ σ₇ s₇ x₇ R₇ r₇ h₇ => ?_
        obtain ⟨rfl, rfl⟩ := h₇
        exact fin φ₇ ρ₄ _ s₇ (x46.trans (x₇.own R₆ O.o)) R₇ (L₆.step x₇ (R₆.own O.o) (fun a h _ => h)) hg₆ h₆
  · have hk' : k = xs.length := by omega
    subst hk'
    rw [List.drop_length] at hlk
    refine I.done X φk σk s' _ _ stk Rk hgk Gk fun h₃ tk₃ hk₃ ht₃ => ?_
    have R₃ := Rk.drop (tk := tk₃) hk₃ hXw hTX ht₃
    have L₃ : Loc env sc ρk φk X h₃ := Lk.drop hU hk₃
    have x₃ : Step φ₀ φk (own env sc) s₀ { s' with heap := h₃, toks := tk₃ } := by
      have y := (x₀.trans xk).narrow hw
      refine ⟨y.pre, fun b o e h1 h2 h9 => ?_, y.fresh, fun b o e => ?_, y.tau⟩
      · exact hk₃ b o (fun q => by rw [hw b q] at e; cases e) (y.keep b o e h1 h2 h9)
      · have hb : b ∉ wr := fun q => by rw [hw b q] at e; cases e
        obtain ⟨o', e'⟩ := y.alive b o e
        exact ⟨o', hk₃ b o' hb e'⟩
    exact K φk ρk σk _ x₃ xk.pre R₃ L₃ hlk

theorem newEnv_comp {M : Model} {A : Around} {E : Value → Shared → Prop} {s : Shared} {scope : Scope} {g : Addr} {cl : List (Str × Addr)} {qual : Str} {env : Env} {Q : Env → Shared → Prop}
    (h : Q { scope := scope, locals := s.heap.objs.size, globals := g, cells := cellsFrom (s.heap.objs.size + 1) scope.names cl, qual := qual, func := none, code := env.code, frame := env.frame, builtins := env.builtins }
      { s with heap := pushCells (s.heap.push { cls := .type "dict", data := .dict #[] }) scope.names }) : wpAny M A (newFunctionEnv scope g cl [] qual none .none (some env)) Q E s := by
  simp only [newFunctionEnv, Option.isSome_some, if_true]
  refine wpAny_bind (wpAny_alloc ?_)
  refine wpAny_bind (wpAny_layCells _ (fun name kind cells => by cases hkc : kind == NameKind.cell <;> simp [hkc]) _ _ _ _ ?_)
  rw [show ({ s with heap := s.heap.push { cls := .type "dict", data := .dict #[] } } : Shared).heap.objs.size = s.heap.objs.size + 1 from Heap.size_push ..]
  exact wpAny_bind (wpAny_pure (wpAny_pure h))

set_option tactic.hygienic true in
/-- the whole of a list comprehension, up to what is done with its list -/
theorem comp_core {elt target iter : Expr} {ifs : List Expr} {scope : Scope} {pos : Pos} {use : Option (Value → Sem Unit)} {env : Env} {A : Around} {X : List Addr} {φ : Phi} {s : Shared} {P : Nat → List (List PyData) → Prop} {Q : Value → Shared → Prop} {E : Value → Shared → Prop}
    (O : Ok c d env sc A X) (R : Rel c φ X σ s) (L : Loc env sc ρ φ X s.heap)
    (hk : scope.kind = .function) (hnd : (scope.names.map (·.1)).Nodup) (hfr : freeOk scope sc = true) (hs : ∀ env x, foldedSetIterable iter env x = pure x)
    (h : TIter c d target iter sc ρ σ fun xs wk Good σ₁ => Good (σ₁ ++ [[]]) ∧ TComp c d target elt ifs (cpSc scope sc) σ₁.length wk Good xs (rhoC scope sc ρ) (σ₁ ++ [[]]) (P σ₁.length))
    (K : ∀ n D C φ' σ' s' m, Step φ φ' [] s s' → Rel c φ' (C :: X) σ' s' → φ'.l[n]? = some D → P n σ' → n ≥ σ.length → s.heap.get? C = none → s'.heap.Ns C m → compPost (model c.prog c.w) A E use Q (.ref D) C (.ok .next) s') :
    wpAny (model c.prog c.w) A (comprehension (.ListComp elt [⟨target, iter, ifs, 0⟩] scope pos) scope env (firstIterPos [⟨target, iter, ifs, 0⟩] pos) (newList []) false (eval iter env) use) Q E s := by
  have hnames : ∀ x ∈ scope.names, x.2 = .local → scope.names.lookup x.1 = some .local := fun x hx hl => by
    obtain ⟨i, hi⟩ := List.mem_iff_getElem?.mp hx
    obtain ⟨x1, x2⟩ := x
    replace hl : x2 = .local := hl
    subst hl
    exact lookup_of_get hnd hi
  -- the cells of the free names
  have hfree : ∀ n, (n, NameKind.free) ∈ scope.names → ∃ (k : Nat) (kd : NameKind), sc.names[k]? = some (n, kd) ∧ (kd = .cell ∨ kd = .free) := fun n hn => by
    have h1 := List.all_eq_true.mp hfr (n, .free) hn
    have h2 : sc.names.lookup n = some .cell ∨ sc.names.lookup n = some .free := by simpa using h1
    rcases h2 with h2 | h2
    · obtain ⟨k, hk⟩ := List.mem_iff_getElem?.mp (PySem.mem_of_lookup h2); exact ⟨k, _, hk, .inl rfl⟩
    · obtain ⟨k, hk⟩ := List.mem_iff_getElem?.mp (PySem.mem_of_lookup h2); exact ⟨k, _, hk, .inr rfl⟩
  have hcell : ∀ n, (n, NameKind.free) ∈ scope.names → ∃ c, env.cells.lookup n = some c := fun n hn => by
    obtain ⟨k, kd, h1, h2⟩ := hfree n hn
    obtain ⟨a, _, h3, _⟩ := L.cl k n kd h1 h2
    exact ⟨a, h3⟩
  refine wpAny_comprehension_free (g := ⟨target, iter, ifs, 0⟩) (gs := []) rfl (hs env) (closureFor_eq hcell) hk hnames ?_
  refine h env A X φ s _ E O R L fun it xs wk Good wr St φ₁ σ₁ s₁ x₁ R₁ hw I st hg hh => ?_
  obtain ⟨hg', ht⟩ := hh
  -- the list that is made
  refine wpAny_newObj_type ?_ (by size_fits)
  have hk₂ : ∀ b o, s₁.heap.get? b = some o → (s₁.heap.push { cls := .type "list", dict := none, data := .seq ([] : List Value).toArray }).get? b = some o := fun b o e => Heap.get?_push_of_some _ e
  have hn₂ : s₁.heap.get? s₁.heap.objs.size = none := get_none (Nat.le_refl _)
  have R₂ := R₁.track (tk := s₁.toks) (xs := []) hk₂ hn₂ ⟨_, Heap.get?_push_size _ rfl⟩ .nil (Nat.le_refl _)
  have x₂ : Step φ₁ (φ₁.add s₁.heap.objs.size) [] s₁ { s₁ with heap := s₁.heap.push { cls := .type "list", dict := none, data := .seq ([] : List Value).toArray } } := Step.track (tk := s₁.toks) hk₂ hn₂
  have L₁ : Loc env sc ρ φ₁ (wr ++ X) s₁.heap := L.step x₁ (R.own O.o) (fun a ha ⟨o, e⟩ => (List.mem_append.mp ha).resolve_left fun q => by rw [hw a q] at e; cases e)
  have hD : (φ₁.add s₁.heap.objs.size).l[σ₁.length]? = some s₁.heap.objs.size := by
    show (φ₁.l ++ [_])[_]? = _
    rw [List.getElem?_append_right (Nat.le_of_eq R₁.len), R₁.len, Nat.sub_self]; rfl
  have hprelen : σ.length ≤ σ₁.length := by
    rw [← R.len, ← R₁.len]; exact x₁.pre.length_le
  generalize hH2 : (s₁.heap.push { cls := .type "list", dict := none, data := .seq ([] : List Value).toArray }) = H2 at x₂ R₂ hk₂ ⊢
  replace R₂ : Rel c (φ₁.add s₁.heap.objs.size) (wr ++ X) (σ₁ ++ [[]]) { s₁ with heap := H2 } := R₂
  -- its names
  refine newEnv_comp ?_
  have L₂ : Loc env sc ρ (φ₁.add s₁.heap.objs.size) (wr ++ X) H2 := L₁.step x₂ (fun q => R₁.dj _ q (List.mem_append.mpr (.inr (O.o _ List.mem_cons_self)))) (fun a h _ => h)
  dsimp only
  generalize hcenv : ({ scope := relabel scope env, locals := H2.objs.size, globals := env.globals, cells := cellsFrom (H2.objs.size + 1) scope.names (clF env.cells scope.names []), qual := env.qual, func := none, code := env.code, frame := env.frame, builtins := env.builtins } : Env) = cenv
  have hCl : cenv.locals = H2.objs.size := by rw [← hcenv]
  have hCc : cenv.cells = cellsFrom (H2.objs.size + 1) scope.names (clF env.cells scope.names []) := by rw [← hcenv]
  have hk₃ : ∀ b o, H2.get? b = some o → (pushCells (H2.push { cls := .type "dict", data := .dict #[] }) scope.names).get? b = some o := fun b o e => pushCells_keeps _ _ b o (Heap.get?_push_of_some _ e)
  have hns₃ : (pushCells (H2.push { cls := .type "dict", data := .dict #[] }) scope.names).Ns H2.objs.size (fun _ => none) := by
    exact (Heap.Ns.new H2 (.type "dict")).at' fun o e => pushCells_keeps _ _ _ o e
  have hown₃ : ∀ n, (n, NameKind.cell) ∈ scope.names → ∃ a, cenv.cells.lookup n = some a ∧ H2.objs.size + 1 ≤ a ∧ (pushCells (H2.push { cls := .type "dict", data := .dict #[] }) scope.names).IsCell a none := fun n hn => by
    rw [hCc]
    exact cellsFrom_own scope.names (H2.objs.size + 1) _ n _ (Heap.size_push ..) hnd hn
  generalize hH3 : pushCells (H2.push { cls := .type "dict", data := .dict #[] }) scope.names = H3 at hk₃ hns₃ hown₃ ⊢
  have hmemC : ∀ {n : Str}, n ∈ cellNames scope → (n, NameKind.cell) ∈ scope.names := fun {n} hn => by
    unfold cellNames at hn
    obtain ⟨⟨y1, y2⟩, h1, h2⟩ := List.mem_map.mp hn
    obtain ⟨h3, h4⟩ := List.mem_filter.mp h1
    have h4' : y2 = .cell := by simpa using h4
    subst h4'
    have h2' : y1 = n := h2
    subst h2'
    exact h3
  have hownF : ∀ b ∈ own cenv (cpSc scope sc), H2.objs.size ≤ b ∧ ∃ o, H3.get? b = some o := fun b hb => by
    rcases own_cell hb with q | ⟨x, q1, q2⟩
    · rw [q, hCl]; exact ⟨Nat.le_refl _, Heap.Ns.is hns₃⟩
    · obtain ⟨a, h1, h2, h3⟩ := hown₃ x (hmemC q1)
      rw [q2] at h1; cases h1
      exact ⟨Nat.le_of_succ_le h2, Heap.IsCell.is h3⟩
  have hfresh₂ : ∀ b ∈ own cenv (cpSc scope sc), H2.get? b = none := fun b hb => get_none (hownF b hb).1
  have hold : ∀ b o, s.heap.get? b = some o → ∃ o', H2.get? b = some o' := fun b o e => by
    obtain ⟨o', e'⟩ := x₁.alive b o e
    exact ⟨o', hk₂ _ _ e'⟩
  have hfreshS : ∀ b ∈ own cenv (cpSc scope sc), s.heap.get? b = none := fun b hb => by
    cases q : s.heap.get? b with
    | none => rfl
    | some o => obtain ⟨o', e'⟩ := hold b o q; rw [hfresh₂ b hb] at e'; cases e'
  have hwr₁ : ∀ b ∈ wr, ∃ o, s₁.heap.get? b = some o := I.al 0 _ st
  have hownwr : ∀ b ∈ own cenv (cpSc scope sc), b ∉ wr := fun b hb q => by
    obtain ⟨o, e⟩ := hwr₁ b q
    have := hk₂ _ _ e
    rw [hfresh₂ b hb] at this; cases this
  have hXw : ∀ a ∈ X, a ∉ wr := fun a ha q => by
    obtain ⟨o, e⟩ := R.xs a ha
    rw [hw a q] at e; cases e
  have hXown : ∀ a ∈ X, a ∉ own cenv (cpSc scope sc) := fun a ha q => by
    obtain ⟨o, e⟩ := R.xs a ha
    rw [hfreshS a q] at e; cases e
  have R₃ : Rel c (φ₁.add s₁.heap.objs.size) (wr ++ (own cenv (cpSc scope sc) ++ X)) (σ₁ ++ [[]]) { s₁ with heap := H3 } := by
    have := (R₂.growX (tk := s₁.toks) hk₃ hfresh₂ (fun b hb => (hownF b hb).2) (Nat.le_refl _)).perm (X' := wr ++ (own cenv (cpSc scope sc) ++ X)) fun a => by
      simp only [List.mem_append]
      constructor
      · rintro (h | h | h)
        · exact .inr (.inl h)
        · exact .inl h
        · exact .inr (.inr h)
      · rintro (h | h | h)
        · exact .inr (.inl h)
        · exact .inl h
        · exact .inr (.inr h)
    exact this
  have hcut₃ : ∀ b o, (cut H2 ((φ₁.add s₁.heap.objs.size).l ++ (wr ++ X))).get? b = some o → (cut H3 ((φ₁.add s₁.heap.objs.size).l ++ (wr ++ (own cenv (cpSc scope sc) ++ X)))).get? b = some o := fun b o e => by
    obtain ⟨e1, e2⟩ := cut_get.mp e
    refine cut_get.mpr ⟨hk₃ _ _ e1, fun q => ?_⟩
    simp only [List.mem_append] at q e2
    rcases q with q | q | q | q
    · exact e2 (.inl q)
    · exact e2 (.inr (.inl q))
    · rw [hfresh₂ b q] at e1; cases e1
    · exact e2 (.inr (.inr q))
  -- where a free name's cell lies
  have hfreeC : ∀ n, (n, NameKind.free) ∈ scope.names → ∃ (k : Nat) (kd : NameKind) (a : Addr), sc.names[k]? = some (n, kd) ∧ (kd = .cell ∨ kd = .free) ∧ env.cells.lookup n = some a ∧ cenv.cells.lookup n = some a := fun n hn => by
    obtain ⟨k, kd, h1, h2⟩ := hfree n hn
    obtain ⟨a, _, h3, _⟩ := L.cl k n kd h1 h2
    refine ⟨k, kd, a, h1, h2, h3, ?_⟩
    have hno : (n, NameKind.cell) ∉ scope.names := fun q => by
      obtain ⟨i, hi⟩ := List.mem_iff_getElem?.mp hn
      obtain ⟨j, hj⟩ := List.mem_iff_getElem?.mp q
      have := names_inj hnd hi hj
      subst this
      rw [hi] at hj; cases hj
    rw [hCc, cellsFrom_lookup _ _ _ _ hno, (clF_lookup env.cells scope.names [] n hnd).1 hn, h3]; rfl
  have hclF : ∀ y ∈ clF env.cells scope.names [], y ∈ env.cells ∧ y.2 < H2.objs.size := fun y hy => by
    rcases clF_mem _ _ _ _ hy with q | ⟨q1, q2⟩
    · cases q
    · obtain ⟨k, kd, h1, h2⟩ := hfree y.1 q1
      obtain ⟨a, ov, h3, ⟨o, h4, _⟩, _⟩ := L₂.cl k y.1 kd h1 h2
      rw [h3] at q2
      have q2' : y.2 = a := q2
      refine ⟨?_, by rw [q2']; exact Heap.lt_size h4⟩
      have := PySem.mem_of_lookup h3
      rw [← q2'] at this; exact this
  have O₃ : Ok c d cenv (cpSc scope sc) A (wr ++ (own cenv (cpSc scope sc) ++ X)) := by
    refine ⟨O.c, O.a, ⟨?_, hk, ?_, ?_, ?_, ?_, ?_⟩, fun b hb => List.mem_append.mpr (.inr (List.mem_append.mpr (.inl hb)))⟩
    · rw [← hcenv]; exact relabel_eq O.e.s
    · show ((scope.names.map _).map _).Nodup
      rw [List.map_map]
      have : (Prod.fst ∘ fun (x : Str × NameKind) => if (x.2 == NameKind.free && sc.s.kind == .function && sc.names.lookup x.1 == some .cell) = true then (x.1, NameKind.cell) else (x.1, x.2)) = Prod.fst := by
        funext x; simp only [Function.comp]; split <;> rfl
      exact (congrArg (fun f => (scope.names.map f).Nodup) this).mpr hnd
    · rw [← hcenv]; exact O.e.gl
    · rw [← hcenv]; exact O.e.bu
    · rw [hCc]
      refine cellsFrom_nodup _ _ _ (clF_nodup env.cells O.e.cn scope.names [] hnd hcell .nil (fun _ h => nomatch h)) fun y hy => Nat.lt_succ_of_lt (hclF y hy).2
    · rw [hCc, hCl]
      intro q
      obtain ⟨y, h1, h2⟩ := List.mem_map.mp q
      rcases mem_cellsFrom _ _ _ _ h1 with h1 | h1
      · have := (hclF y h1).2; rw [h2] at this; exact Nat.lt_irrefl _ this
      · rw [h2] at h1; exact Nat.not_succ_le_self _ h1
  have hrel : ∀ {k : Nat} {x : Str} {kd : NameKind}, (cpSc scope sc).names[k]? = some (x, kd) → ∃ k0, scope.names[k]? = some (x, k0) ∧ (k0 = .free → kd = .cell ∨ kd = .free) ∧ (k0 ≠ .free → kd = k0) := fun {k x kd} e => by
    replace e : (scope.names.map fun (x : Str × NameKind) => if (x.2 == NameKind.free && sc.s.kind == .function && sc.names.lookup x.1 == some .cell) = true then (x.1, NameKind.cell) else (x.1, x.2))[k]? = some (x, kd) := e
    rw [List.getElem?_map, Option.map_eq_some_iff] at e
    obtain ⟨⟨y1, y2⟩, h1, h2⟩ := e
    dsimp only at h2
    split at h2
    · rename_i hc
      cases h2
      have : y2 = .free := by have := (Bool.and_eq_true_iff.mp (Bool.and_eq_true_iff.mp hc).1).1; simpa using this
      exact ⟨y2, h1, fun _ => .inl rfl, fun q => absurd this q⟩
    · cases h2
      exact ⟨kd, h1, fun q => .inr q, fun _ => rfl⟩
  have hrho : ∀ {k : Nat} {x : Str} {k0 : NameKind} {v : V}, scope.names[k]? = some (x, k0) → (rhoC scope sc ρ)[k]? = some (some v) → k0 = .free ∧ rhoAt sc.names ρ x = some v := fun {k x k0 v} e1 e2 => by
    unfold rhoC at e2
    rw [List.getElem?_map, e1] at e2
    replace e2 : (if (k0 == NameKind.free) = true then rhoAt sc.names ρ x else none) = some v := by simpa using e2
    split at e2
    · rename_i hk0; exact ⟨by simpa using hk0, e2⟩
    · cases e2
  have L₃ : Loc cenv (cpSc scope sc) (rhoC scope sc ρ) (φ₁.add s₁.heap.objs.size) (wr ++ (own cenv (cpSc scope sc) ++ X)) H3 := by
    refine ⟨?_, ⟨_, by rw [hCl]; exact hns₃, fun k x v e1 e2 => ?_⟩, fun k x kd e1 e2 => ?_⟩
    · show (scope.names.map _).length = (scope.names.map _).length
      rw [List.length_map, List.length_map]
    · obtain ⟨k0, h1, h2, h3⟩ := hrel e1
      obtain ⟨h4, _⟩ := hrho h1 e2
      rcases h2 h4 with h5 | h5 <;> cases h5
    · obtain ⟨k0, h1, h2, h3⟩ := hrel e1
      by_cases hk0 : k0 = .free
      · subst hk0
        obtain ⟨k2, kd2, a, g1, g2, g3, g4⟩ := hfreeC x (List.mem_of_getElem? h1)
        obtain ⟨a', ov, q1, q2, q0, q3⟩ := L₂.cl k2 x kd2 g1 g2
        rw [g3] at q1; cases q1
        refine ⟨a, ov, g4, q2.keeps hk₃, q0, fun v e3 => ?_⟩
        obtain ⟨_, e4⟩ := hrho h1 e3
        obtain ⟨k3, kd3, e5, e6⟩ := rhoAt_get e4
        have := names_inj O.e.nd e5 g1
        subst this
        obtain ⟨cv, q4, q5⟩ := q3 v e6
        exact ⟨cv, q4, q5.mono (List.prefix_refl _) .refl hcut₃⟩
      · have hkd := h3 hk0
        subst hkd
        have hc : kd = .cell := e2.resolve_right hk0
        subst hc
        obtain ⟨a, g1, g2, g3⟩ := hown₃ x (List.mem_of_getElem? h1)
        refine ⟨a, none, g1, g3, fun q => ?_, fun v e3 => absurd (hrho h1 e3).1 hk0⟩
        obtain ⟨o, e⟩ := R₂.alive q
        have : H2.get? a = none := get_none (Nat.le_of_succ_le g2)
        replace e : H2.get? a = some o := e
        rw [this] at e; cases e
  have hU₃ : ∀ b, Uses cenv (cpSc scope sc) b → b ∉ wr := fun b u q => by
    rcases u with u | ⟨k, x, kd, e1, e2, e3⟩
    · exact hownwr b (by rw [u]; exact List.mem_cons_self) q
    · obtain ⟨k0, h1, h2, h3⟩ := hrel e1
      by_cases hk0 : k0 = .free
      · subst hk0
        obtain ⟨k2, kd2, a, g1, g2, g3, g4⟩ := hfreeC x (List.mem_of_getElem? h1)
        rw [g4] at e3; cases e3
        obtain ⟨a', ov, q1, ⟨o, q2, _⟩, _⟩ := L.cl k2 x kd2 g1 g2
        rw [g3] at q1; cases q1
        rw [hw _ q] at q2; cases q2
      · have hkd := h3 hk0
        subst hkd
        have hc : kd = .cell := e2.resolve_right hk0
        subst hc
        refine hownwr b (mem_own_of_lookup ?_ e3) q
        show x ∈ cellNames scope
        unfold cellNames
        exact List.mem_map.mpr ⟨(x, .cell), List.mem_filter.mpr ⟨List.mem_of_getElem? h1, rfl⟩, rfl⟩
  have x₀ : Step φ (φ₁.add s₁.heap.objs.size) (own cenv (cpSc scope sc) ++ wr) s { s₁ with heap := H3 } := by
    have y : Step φ (φ₁.add s₁.heap.objs.size) [] s { s₁ with heap := H3 } := (x₁.trans x₂).trans (Step.grow (tk := s₁.toks) hk₃)
    refine ⟨y.pre, fun b o e h1 _ => y.keep b o e h1 (by simp), fun a h1 h2 => ⟨fun q => ?_, (y.fresh a h1 h2).2⟩, y.alive, y.tau⟩
    rcases List.mem_append.mp q with q | q
    · exact R₃.dj a h1 (List.mem_append.mpr (.inr (List.mem_append.mpr (.inl q))))
    · exact R₃.dj a h1 (List.mem_append.mpr (.inl q))
  have I₃ : ItOk c A target it wr wk xs Good St (φ₁.add s₁.heap.objs.size) (cut H3 ((φ₁.add s₁.heap.objs.size).l ++ (wr ++ (own cenv (cpSc scope sc) ++ X)))) :=
    I.ground (List.prefix_append _ _) .refl fun b o e => hcut₃ b o (x₂.cut (by simp) (fun a h _ => h) e)
  have st₃ : St 0 H3 := I.frame _ _ _ st fun b hb o e => hk₃ _ _ (hk₂ _ _ e)
  have loop : codeAny (model c.prog c.w) A (.compLoop (.ListComp elt [⟨target, iter, ifs, 0⟩] scope pos) 0 it (.ref s₁.heap.objs.size) cenv) (compPost (model c.prog c.w) A E use Q (.ref s₁.heap.objs.size) cenv.locals) { s₁ with heap := H3 } := by
    refine comp_loop (s := { s₁ with heap := H3 }) O₃ R₃ L₃ I₃ hD hownwr hU₃ st₃ hg' ht x₀ hw (fun a ha => ?_) (fun b hb => List.mem_append.mpr (.inr (R.tb b hb).1)) fun φ' ρ' σ' s' x hp R' L' p => ?_
    · rcases List.mem_append.mp ha with ha | ha
      · exact hownwr a ha
      · exact hXw a ha
    · have hC : cenv.locals ∈ own cenv (cpSc scope sc) := List.mem_cons_self
      have R₄ : Rel c φ' (cenv.locals :: X) σ' s' := by
        have hrest : ∀ a ∈ cenv.locals :: X, a ∉ ((cpSc scope sc).own.filterMap fun x => cenv.cells.lookup x) := fun a ha q => by
          rcases List.mem_cons.mp ha with ha | ha
          · obtain ⟨x, q1, q2⟩ := List.mem_filterMap.mp q
            exact O₃.e.lc (List.mem_map.mpr ⟨(x, a), PySem.mem_of_lookup q2, ha⟩)
          · exact hXown a ha (List.mem_cons_of_mem _ q)
        have := (R'.perm (X' := ((cpSc scope sc).own.filterMap fun x => cenv.cells.lookup x) ++ (cenv.locals :: X)) fun a => by
          simp only [List.mem_append, List.mem_cons]
          constructor
          · rintro ((h | h) | h)
            · exact .inr (.inl h)
            · exact .inl h
            · exact .inr (.inr h)
          · rintro (h | h | h)
            · exact .inl (.inr h)
            · exact .inl (.inl h)
            · exact .inr h).drop (h' := s'.heap) (tk := s'.toks) (fun _ _ _ e => e) hrest (fun b hb => List.mem_cons_of_mem _ (R.tb b hb).1) (Nat.le_refl _)
        exact this
      obtain ⟨m, hm, _⟩ := L'.ns
      exact K σ₁.length _ _ φ' σ' s' m (Step.narrow (W := []) (wr := own cenv (cpSc scope sc)) x hfreshS) R₄ (prefix_get hp hD) p hprelen (hfreshS _ hC) hm
  rw [← hCl]
  exact codeAny_compStart_list loop (I₃.self 0 _ _ _ st₃ loop)
end
end Mine
end -- Fw14
section -- Fw15
set_option tactic.hygienic false
open PySem PySem.W PySem.Calls PyProof.Rows
set_option linter.unusedVariables false
set_option linter.unusedSimpArgs false
set_option autoImplicit false
namespace Mine
section
variable {c : Cx} {d : Nat} {sc : Sc} {ρ : List (Option V)} {σ : List (List PyData)}

theorem comp_cut {φ φ' : Phi} {C : Addr} {X : List Addr} {s s' : Shared} {σ' : List (List PyData)} (R : Rel c φ X σ s) (x : Step φ φ' [] s s') (R' : Rel c φ' (C :: X) σ' s') {n : Nat} (hn : σ.length ≤ n) :
    Rel c (φ'.take n) (C :: X) (σ'.take n) s' ∧ Step φ (φ'.take n) [] s s' := by
  have hp : φ.l <+: (φ'.take n).l := List.prefix_of_prefix_length_le x.pre (List.take_prefix n φ'.l) (by
    show _ ≤ (φ'.l.take n).length
    rw [List.length_take]
    have := x.pre.length_le
    rw [R.len] at this ⊢
    omega)
  refine ⟨R'.cutTo (fun a h => h) n (R.pl.trans hp) (fun b hb => (R'.tb b hb).1), hp, x.keep, fun a h1 h2 => x.fresh a (List.mem_of_mem_take h1) h2, x.alive, x.tau⟩

/-- a list comprehension, its list by value -/
noncomputable abbrev kCompD (P : V → List (List PyData) → Prop) (n : Nat) : List (List PyData) → Prop := fun σ₂ => ∃ ys, σ₂[n]? = some ys ∧ P (.d (.list ys)) (σ₂.take n)
noncomputable abbrev kComp (c : Cx) (d : Nat) (target elt : Expr) (ifs : List Expr) (scope : Scope) (sc : Sc) (ρ : List (Option V)) (F : Nat → List (List PyData) → Prop) : List PyData → Bool → (List (List PyData) → Prop) → List (List PyData) → Prop := fun xs wk Good σ₁ => Good (σ₁ ++ [[]]) ∧ TComp c d target elt ifs (cpSc scope sc) σ₁.length wk Good xs (rhoC scope sc ρ) (σ₁ ++ [[]]) (F σ₁.length)
theorem TE.comp {elt target iter : Expr} {ifs : List Expr} {scope : Scope} {pos : Pos} {P : V → List (List PyData) → Prop}
    (h : TIter c d target iter sc ρ σ (kComp c d target elt ifs scope sc ρ (kCompD P)))
    (hk : scope.kind = .function := by rfl) (hnd : (scope.names.map (·.1)).Nodup := by decide) (hfr : freeOk scope sc = true := by rfl) (hs : ∀ env x, foldedSetIterable iter env x = pure x := by intros; rfl) :
    TE c d (.ListComp elt [⟨target, iter, ifs, 0⟩] scope pos) sc ρ σ P := by
  intro env A X φ s Q E O R L K
  rw [eval_ListComp]
  refine comp_core (P := fun n σ₂ => ∃ ys, σ₂[n]? = some ys ∧ P (.d (.list ys)) (σ₂.take n)) (use := none) O R L hk hnd hfr hs h fun n D C φ' σ' s' m x R' hD p hn hC hm => ?_
  obtain ⟨ys, hys, p⟩ := p
  obtain ⟨R₂, x₂⟩ := comp_cut R x R' hn
  refine ⟨m, hm, fun h' hs' => ?_⟩
  have hkC : ∀ b o, b ∉ [C] → s'.heap.get? b = some o → h'.get? b = some o := fun b o hb e => hs'.extBut b o (fun q => hb (by simp [q])) e
  have hXC : ∀ a ∈ X, a ∉ [C] := fun a ha q => by
    rw [List.mem_singleton.mp q] at ha
    obtain ⟨o, e⟩ := R.xs C ha; rw [hC] at e; cases e
  have R₃ : Rel c (φ'.take n) X (σ'.take n) { s' with heap := h' } := Rel.drop (wr := [C]) (tk := s'.toks) R₂ hkC hXC (fun b hb => (R.tb b hb).1) (Nat.le_refl _)
  have r : VRep s'.heap (φ'.take n) (C :: X) (fz n σ' (.r n)) (.ref D) := R'.fzV (fun a h => h) (n := n) (v := .r n) ⟨D, hD, rfl⟩
  rw [fz_r_ge (Nat.lt_irrefl n) hys] at r
  have r' : VRep h' (φ'.take n) X (.d (.list ys)) (.ref D) := r.mono (List.prefix_refl _) .refl fun b o e => cut_drop (wr := [C]) hkC e
  refine K (.d (.list ys)) _ (φ'.take n) _ _ ⟨x₂.pre, fun b o e h1 h2 h9 => ?_, x₂.fresh, fun b o e => ?_, x₂.tau⟩ R₃ r' p
  · exact hkC b o (fun q => by rw [List.mem_singleton.mp q, hC] at e; cases e) (x₂.keep b o e h1 h2 h9)
  · have hb : b ∉ [C] := fun q => by rw [List.mem_singleton.mp q, hC] at e; cases e
    obtain ⟨o', e'⟩ := x₂.alive b o e
    exact ⟨o', hkC b o' hb e'⟩
/-- a list comprehension, its list tracked -/
noncomputable abbrev kCompT (P : V → List (List PyData) → Prop) (n : Nat) : List (List PyData) → Prop := fun σ₂ => P (.r n) (σ₂.take (n + 1))
theorem TE.compT {elt target iter : Expr} {ifs : List Expr} {scope : Scope} {pos : Pos} {P : V → List (List PyData) → Prop}
    (h : TIter c d target iter sc ρ σ (kComp c d target elt ifs scope sc ρ (kCompT P)))
    (hk : scope.kind = .function := by rfl) (hnd : (scope.names.map (·.1)).Nodup := by decide) (hfr : freeOk scope sc = true := by rfl) (hs : ∀ env x, foldedSetIterable iter env x = pure x := by intros; rfl) :
    TE c d (.ListComp elt [⟨target, iter, ifs, 0⟩] scope pos) sc ρ σ P := by
  intro env A X φ s Q E O R L K
  rw [eval_ListComp]
  refine comp_core (P := fun n σ₂ => P (.r n) (σ₂.take (n + 1))) (use := none) O R L hk hnd hfr hs h fun n D C φ' σ' s' m x R' hD p hn hC hm => ?_
  obtain ⟨R₂, x₂⟩ := comp_cut R x R' (Nat.le_succ_of_le hn)
  refine ⟨m, hm, fun h' hs' => ?_⟩
  have hkC : ∀ b o, b ∉ [C] → s'.heap.get? b = some o → h'.get? b = some o := fun b o hb e => hs'.extBut b o (fun q => hb (by simp [q])) e
  have hXC : ∀ a ∈ X, a ∉ [C] := fun a ha q => by
    rw [List.mem_singleton.mp q] at ha
    obtain ⟨o, e⟩ := R.xs C ha; rw [hC] at e; cases e
  have R₃ : Rel c (φ'.take (n + 1)) X (σ'.take (n + 1)) { s' with heap := h' } := Rel.drop (wr := [C]) (tk := s'.toks) R₂ hkC hXC (fun b hb => (R.tb b hb).1) (Nat.le_refl _)
  have r' : VRep h' (φ'.take (n + 1)) X (.r n) (.ref D) := ⟨D, by show (φ'.l.take (n + 1))[n]? = _; rw [List.getElem?_take, if_pos (Nat.lt_succ_self n)]; exact hD, rfl⟩
  refine K (.r n) _ (φ'.take (n + 1)) _ _ ⟨x₂.pre, fun b o e h1 h2 h9 => ?_, x₂.fresh, fun b o e => ?_, x₂.tau⟩ R₃ r' p
  · exact hkC b o (fun q => by rw [List.mem_singleton.mp q, hC] at e; cases e) (x₂.keep b o e h1 h2 h9)
  · have hb : b ∉ [C] := fun q => by rw [List.mem_singleton.mp q, hC] at e; cases e
    obtain ⟨o', e'⟩ := x₂.alive b o e
    exact ⟨o', hkC b o' hb e'⟩

/-- x = [..], x a local name on the comprehension's line: stored ahead of the comprehension's names' going -/
noncomputable abbrev kCompA (k : Nat) (ρ : List (Option V)) (P : Fl → List (Option V) → List (List PyData) → Prop) (n : Nat) : List (List PyData) → Prop := fun σ₂ => ∃ ys, σ₂[n]? = some ys ∧ P .next (ρ.set k (some (.d (.list ys)))) (σ₂.take n)
theorem TS.assignComp (k : Nat) {y : Str} {py : Pos} {elt target iter : Expr} {ifs : List Expr} {scope : Scope} {cpos pos : Pos} {P : Fl → List (Option V) → List (List PyData) → Prop}
    (h : TIter c d target iter sc ρ σ (kComp c d target elt ifs scope sc ρ (kCompA k ρ P)))
    (hsw : swapsWith (.ListComp elt [⟨target, iter, ifs, 0⟩] scope cpos) (some (.Name y py)) pos.line (envS sc) = pure true := by rfl) (hky : sc.names[k]? = some (y, .local) := by rfl)
    (hk : scope.kind = .function := by rfl) (hnd : (scope.names.map (·.1)).Nodup := by decide) (hfr : freeOk scope sc = true := by rfl) (hs : ∀ env x, foldedSetIterable iter env x = pure x := by intros; rfl) :
    TS c d (.Assign [.Name y py] (.ListComp elt [⟨target, iter, ifs, 0⟩] scope cpos) pos) sc ρ σ P := by
  intro env A X φ s Q E O R L K
  have es : env.scope = (envS sc).scope := O.e.s
  rw [exec_Assign_Name_used _ _ _ _ ((swapsWith_env es).trans hsw)]
  refine wpAny_bind (wpAny_standAt (wpAny_bind ?_))
  show wpAny _ A (do let _ ← comprehension (.ListComp elt [⟨target, iter, ifs, 0⟩] scope cpos) scope env _ (newList []) false (eval iter env) (some (PySem.assign (.Name y py) env))) _ _ s
  refine wpAny_bind (comp_core (P := fun n σ₂ => ∃ ys, σ₂[n]? = some ys ∧ P .next (ρ.set k (some (.d (.list ys)))) (σ₂.take n)) (use := some (PySem.assign (.Name y py) env)) O R L hk hnd hfr hs h fun n D C φ' σ' s' m x R' hD p hn hC hm => ?_)
  obtain ⟨ys, hys, p⟩ := p
  obtain ⟨R₂, x₂⟩ := comp_cut R x R' hn
  have hXC : ∀ a ∈ X, a ∉ [C] := fun a ha q => by
    rw [List.mem_singleton.mp q] at ha
    obtain ⟨o, e⟩ := R.xs C ha; rw [hC] at e; cases e
  have r : VRep s'.heap (φ'.take n) (C :: X) (fz n σ' (.r n)) (.ref D) := R'.fzV (fun a h => h) (n := n) (v := .r n) ⟨D, hD, rfl⟩
  rw [fz_r_ge (Nat.lt_irrefl n) hys] at r
  have O' : Ok c d env sc A (C :: X) := ⟨O.c, O.a, O.e, fun b hb => List.mem_cons_of_mem _ (O.o b hb)⟩
  have L₂ : Loc env sc ρ (φ'.take n) (C :: X) s'.heap := L.step x₂ (R.own O.o) (fun a ha ⟨o, e⟩ => (List.mem_cons.mp ha).resolve_left fun q => by rw [q, hC] at e; cases e)
  show wpAny _ A (PySem.assign (.Name y py) env (.ref D)) _ E s'
  refine TA.loc (c := c) (d := d) (v := .d (.list ys)) (P := fun ρ' σ' => P .next ρ' σ') k p hky env A (C :: X) _ _ _ _ E O' R₂ L₂ r fun φ₃ ρ₃ σ₃ s₃ x₃ R₃ L₃ p₃ => ?_
  have hCo : C ∉ own env sc := fun q => hXC C (O.o C q) (by simp)
  have hm₃ : s₃.heap.Ns C m := hm.at' fun o e => x₃.keep C o e (fun q => R₂.dj C q List.mem_cons_self) hCo (fun q => hXC C (R.tb C q).1 (by simp))
  refine ⟨m, hm₃, fun h' hs' => wpAny_pure ?_⟩
  have hkC : ∀ b o, b ∉ [C] → s₃.heap.get? b = some o → h'.get? b = some o := fun b o hb e => hs'.extBut b o (fun q => hb (by simp [q])) e
  have R₄ : Rel c φ₃ X σ₃ { s₃ with heap := h' } := Rel.drop (wr := [C]) (tk := s₃.toks) R₃ hkC hXC (fun b hb => (R.tb b hb).1) (Nat.le_refl _)
  have L₄ : Loc env sc ρ₃ φ₃ X h' := Loc.drop (wr := [C]) L₃ (fun b u q => by
    obtain ⟨o, e⟩ := L.uses u
    rw [List.mem_singleton.mp q, hC] at e; cases e) hkC
  have y : Step φ φ₃ (own env sc) s s₃ := (x₂.own R O.o).trans x₃
  refine wpAny_pure (K .next .next φ₃ ρ₃ σ₃ _ ⟨y.pre, fun b o e h1 h2 h9 => ?_, y.fresh, fun b o e => ?_, y.tau⟩ R₄ L₄ trivial p₃)
  · exact hkC b o (fun q => by rw [List.mem_singleton.mp q, hC] at e; cases e) (y.keep b o e h1 h2 h9)
  · have hb : b ∉ [C] := fun q => by rw [List.mem_singleton.mp q, hC] at e; cases e
    obtain ⟨o', e'⟩ := y.alive b o e
    exact ⟨o', hkC b o' hb e'⟩
end
end Mine
end -- Fw15
section -- Fw16
set_option tactic.hygienic false
open PySem PySem.W PySem.Calls PyProof.Rows
set_option linter.unusedVariables false
set_option linter.unusedSimpArgs false
set_option autoImplicit false
namespace Mine
section
variable {c : Cx} {d : Nat} {sc : Sc} {σ : List (List PyData)}

theorem TLoop.ind {target : Expr} {body orelse : List Stmt} {wk : Bool} {Good : List (List PyData) → Prop} {P : Fl → List (Option V) → List (List PyData) → Prop} (Inv : List PyData → List (Option V) → List (List PyData) → Prop)
    (h0 : ∀ ρ σ, Inv [] ρ σ → TSS c d orelse sc ρ σ P)
    (h1 : ∀ x xs ρ σ, Inv (x :: xs) ρ σ → TA c d target sc ρ σ (.e wk x) (kTurn c d body sc Good (Inv xs) P)) : ∀ {xs : List PyData} {ρ : List (Option V)} {σ : List (List PyData)}, Inv xs ρ σ → TLoop c d target body orelse sc wk Good xs ρ σ P
  | [], ρ, σ, h => h0 ρ σ h
  | x :: xs, ρ, σ, h => (h1 x xs ρ σ h).mono fun ρ₁ σ₁ h₁ => TSS.mono h₁ fun fl ρ₂ σ₂ h₂ => match fl, h₂ with
    | .next, h₂ => ⟨h₂.1, TLoop.ind Inv h0 h1 h₂.2⟩
    | .cont, h₂ => ⟨h₂.1, TLoop.ind Inv h0 h1 h₂.2⟩
    | .brk, h₂ => h₂
    | .ret v, h₂ => h₂
/-- the same, what follows a turn told by a letter alone -/
theorem TLoop.indN {target : Expr} {body orelse : List Stmt} {wk : Bool} {Good : List (List PyData) → Prop} {P : Fl → List (Option V) → List (List PyData) → Prop} (Inv : List PyData → List (Option V) → List (List PyData) → Prop)
    (h0 : ∀ ρ σ, Inv [] ρ σ → ∀ P' : Fl → List (Option V) → List (List PyData) → Prop, (∀ fl ρ' σ', P fl ρ' σ' → P' fl ρ' σ') → TSS c d orelse sc ρ σ P')
    (h1 : ∀ x xs ρ σ, Inv (x :: xs) ρ σ → ∀ (Nx : List (Option V) → List (List PyData) → Prop) (P' : Fl → List (Option V) → List (List PyData) → Prop), (∀ ρ' σ', Inv xs ρ' σ' → Nx ρ' σ') → (∀ fl ρ' σ', P fl ρ' σ' → P' fl ρ' σ') → TA c d target sc ρ σ (.e wk x) (kTurn c d body sc Good Nx P')) {xs : List PyData} {ρ : List (Option V)} {σ : List (List PyData)} (h : Inv xs ρ σ) : TLoop c d target body orelse sc wk Good xs ρ σ P :=
  TLoop.ind Inv (fun ρ σ h => h0 ρ σ h P fun _ _ _ p => p) (fun x xs ρ σ h => h1 x xs ρ σ h (Inv xs) P (fun _ _ p => p) fun _ _ _ p => p) h
noncomputable abbrev kWhF (N : List (Option V) → List (List PyData) → Prop) (P : Fl → List (Option V) → List (List PyData) → Prop) : Fl → List (Option V) → List (List PyData) → Prop := fun fl ρ₂ σ₂ => match fl with
    | .next => N ρ₂ σ₂
    | .cont => N ρ₂ σ₂
    | .brk => P .next ρ₂ σ₂
    | .ret v => P (.ret v) ρ₂ σ₂
noncomputable abbrev kWh (c : Cx) (d : Nat) (body orelse : List Stmt) (sc : Sc) (ρ : List (Option V)) (N : List (Option V) → List (List PyData) → Prop) (P : Fl → List (Option V) → List (List PyData) → Prop) : Bool → List (List PyData) → Prop := fun b σ₁ => if b then TSS c d body sc ρ σ₁ (kWhF N P) else TSS c d orelse sc ρ σ₁ P
theorem TS.whileN {ρ : List (Option V)} {test : Expr} {body orelse : List Stmt} {pos : Pos} {P : Fl → List (Option V) → List (List PyData) → Prop} (I : Nat → List (Option V) → List (List PyData) → Prop) (n : Nat) (h0 : I n ρ σ)
    (turn : ∀ n ρ σ, I n ρ σ → ∀ (Nx : List (Option V) → List (List PyData) → Prop) (P' : Fl → List (Option V) → List (List PyData) → Prop), (∀ m ρ' σ', m < n → I m ρ' σ' → Nx ρ' σ') → (∀ fl ρ' σ', P fl ρ' σ' → P' fl ρ' σ') → TB c d test sc ρ σ (kWh c d body orelse sc ρ Nx P')) : TS c d (.While test body orelse pos) sc ρ σ P :=
  TS.while_ I n h0 fun n ρ σ h => turn n ρ σ h (fun ρ' σ' => ∃ m, m < n ∧ I m ρ' σ') P (fun m _ _ hm q => ⟨m, hm, q⟩) fun _ _ _ p => p
theorem TTests.mono {ρ : List (Option V)} {ifs : List Expr} {P P' : Bool → List (List PyData) → Prop} (h : TTests c d sc ρ ifs σ P) (hp : ∀ b σ', P b σ' → P' b σ') : TTests c d sc ρ ifs σ P' := by
  match ifs, h with
  | [], h => exact hp _ _ h
  | [t], h => exact fun env A X φ s Q E O R L K => h env A X φ s Q E O R L fun b φ' σ' s' x R' p => K b φ' σ' s' x R' (hp _ _ p)
theorem TComp.ind {target elt : Expr} {ifs : List Expr} {n : Nat} {wk : Bool} {Good : List (List PyData) → Prop} {P : List (List PyData) → Prop} (Inv : List PyData → List (Option V) → List (List PyData) → Prop)
    (h0 : ∀ ρ σ, Inv [] ρ σ → P σ)
    (h1 : ∀ x xs ρ σ, Inv (x :: xs) ρ σ → TA c d target sc ρ σ (.e wk x) (kCmp c d elt ifs sc n Good (Inv xs))) : ∀ {xs : List PyData} {ρ : List (Option V)} {σ : List (List PyData)}, Inv xs ρ σ → TComp c d target elt ifs sc n wk Good xs ρ σ P
  | [], ρ, σ, h => h0 ρ σ h
  | x :: xs, ρ, σ, h => (h1 x xs ρ σ h).mono fun ρ₁ σ₁ h₁ => TTests.mono h₁ fun b σ₂ h₂ => by
    cases b with
    | true => exact TE.mono h₂ fun v σ₃ ⟨y, ys, g1, g2, g3, g4, g5⟩ => ⟨y, ys, g1, g2, g3, g4, TComp.ind Inv h0 h1 g5⟩
    | false => exact ⟨h₂.1, TComp.ind Inv h0 h1 h₂.2⟩
/-- tracked lists ahead of the one that is made, which alone turns: elements f, kept where p -/
theorem TComp.pure {target elt : Expr} {ifs : List Expr} {wk : Bool} {Good : List (List PyData) → Prop} {P : List (List PyData) → Prop} {ρ₀ : List (Option V)} (k : Nat) (p : PyData → Bool) (f : PyData → PyData) {xs : List PyData} {ρ : List (Option V)}
    (hlen : xs.length ≤ 1000) (hG : ∀ ys, Good (σ ++ [ys]))
    (ha : ∀ x ρ' σ', x ∈ xs → ρ' = ρ ∨ (∃ y, ρ' = ρ₀.set k (some (.e wk y))) → TA c d target sc ρ' σ' (.e wk x) fun ρ₁ σ₁ => ρ₁ = ρ₀.set k (some (.e wk x)) ∧ σ₁ = σ')
    (ht : ∀ x ys, x ∈ xs → TTests c d sc (ρ₀.set k (some (.e wk x))) ifs (σ ++ [ys]) fun b σ' => b = p x ∧ σ' = σ ++ [ys])
    (he : ∀ x ys, x ∈ xs → p x = true → TE c d elt sc (ρ₀.set k (some (.e wk x))) (σ ++ [ys]) fun v σ' => v = .d (f x) ∧ σ' = σ ++ [ys])
    (hP : P (σ ++ [(xs.filter p).map f])) : TComp c d target elt ifs sc σ.length wk Good xs ρ (σ ++ [[]]) P := by
  refine TComp.ind (fun zs ρ' σ' => ∃ ys, σ' = σ ++ [ys] ∧ (ρ' = ρ ∨ ∃ y, ρ' = ρ₀.set k (some (.e wk y))) ∧ ys ++ (zs.filter p).map f = (xs.filter p).map f ∧ ys.length + zs.length ≤ xs.length ∧ (∀ z ∈ zs, z ∈ xs)) ?_ ?_ ⟨[], rfl, .inl rfl, rfl, by simp, fun z h => h⟩
  · rintro ρ' σ' ⟨ys, rfl, _, h, _⟩
    simp at h
    rw [h]; exact hP
  · rintro x zs ρ' σ' ⟨ys, rfl, hr, h, hl, hm⟩
    have hx : x ∈ xs := hm x List.mem_cons_self
    refine (ha x ρ' _ hx hr).mono fun ρ₁ σ₁ h₁ => ?_
    obtain ⟨rfl, rfl⟩ := h₁
    refine TTests.mono (ht x ys hx) fun b σ₂ h₂ => ?_
    obtain ⟨rfl, rfl⟩ := h₂
    simp only [List.length_cons] at hl
    cases hp : p x with
    | true =>
      refine TE.mono (he x ys hx hp) fun v σ₃ h₃ => ?_
      obtain ⟨rfl, rfl⟩ := h₃
      have hs : (σ ++ [ys]).set σ.length (ys ++ [f x]) = σ ++ [ys ++ [f x]] := by
        rw [List.set_append_right _ _ (Nat.le_refl _)]; simp
      refine ⟨f x, ys, rfl, by simp, by omega, by rw [hs]; exact hG _, ys ++ [f x], hs, .inr ⟨x, rfl⟩, ?_, by simp; omega, fun z hz => hm z (List.mem_cons_of_mem _ hz)⟩
      rw [← h, List.filter_cons, if_pos hp]; simp
    | false =>
      refine ⟨hG _, ys, rfl, .inr ⟨x, rfl⟩, ?_, by omega, fun z hz => hm z (List.mem_cons_of_mem _ hz)⟩
      rw [← h, List.filter_cons, if_neg (by simp [hp])]

theorem TFin.rho {st : List Stmt} {ρ ρ' : List (Option V)} {P : Fl → List (List PyData) → Prop} (h : TFin c d st sc ρ' σ P) (e : ρ = ρ' := by rfl) : TFin c d st sc ρ σ P := e ▸ h
theorem TSS.one {st : Stmt} {ρ : List (Option V)} {P : Fl → List (Option V) → List (List PyData) → Prop} (h : TS c d st sc ρ σ P) : TSS c d [st] sc ρ σ P :=
  TSS.cons (h.mono fun fl ρ' σ' p => match fl, p with
    | .next, p => TSS.nil p
    | .brk, p => p
    | .cont, p => p
    | .ret _, p => p)

noncomputable def intConsts : List Expr → Option (List Int)
  | [] => some []
  | .Constant (.int i) _ _ :: r => (intConsts r).map (i :: ·)
  | _ => none
theorem TEs.ints {ρ : List (Option V)} : ∀ {es : List Expr} {is : List Int} {P : List V → List (List PyData) → Prop}, intConsts es = some is → P (is.map fun i => V.d (.int i)) σ → TEs c d es sc ρ σ P
  | [], is, P, h, p => by
    cases h
    exact TEs.nil p
  | e :: es, is, P, h, p => by
    cases e with
    | Constant v k pos =>
      cases v with
      | int i =>
        have h : (intConsts es).map (i :: ·) = some is := h
        obtain ⟨js, h1, rfl⟩ := Option.map_eq_some_iff.mp h
        exact TEs.cons (TE.int (TEs.ints h1 p))
      | _ => cases h
    | _ => cases h

noncomputable def isComp : Expr → Bool
  | .ListComp .. => true
  | .SetComp .. => true
  | .DictComp .. => true
  | _ => false
theorem swapsWith_noComp {value : Expr} (h : isComp value = false) (t : Option Expr) (line : Nat) (env : Env) : swapsWith value t line env = pure false := by
  cases value <;> first | rfl | (cases h; done)
theorem swappedStores_name {x : Str} {px : Pos} {value : Expr} (env : Env) : swappedStores [.Name x px] value env = pure none := by
  cases value <;> rfl
/-- a store into a name, of what is no comprehension -/
theorem TS.assignN {x : Str} {px pos : Pos} {value : Expr} {ρ : List (Option V)} {P : Fl → List (Option V) → List (List PyData) → Prop} (h : TE c d value sc ρ σ (kAsg c d (.Name x px) sc ρ (P .next)))
    (hc : isComp value = false := by rfl) : TS c d (.Assign [.Name x px] value pos) sc ρ σ P :=
  TS.assign h (swapsWith_noComp hc _ _ _) (swappedStores_name _) rfl

/-- a statement that goes on in one way -/
noncomputable abbrev kEq (ρ₁ : List (Option V)) (σ₁ : List (List PyData)) : Fl → List (Option V) → List (List PyData) → Prop := fun fl ρ' σ' => fl = .next ∧ ρ' = ρ₁ ∧ σ' = σ₁
theorem TSS.consE {st : Stmt} {rest : List Stmt} {ρ ρ₁ : List (Option V)} {σ₁ : List (List PyData)} {P : Fl → List (Option V) → List (List PyData) → Prop} (h : TS c d st sc ρ σ (kEq ρ₁ σ₁))
    (h' : TSS c d rest sc ρ₁ σ₁ P) : TSS c d (st :: rest) sc ρ σ P :=
  TSS.cons (h.mono fun fl ρ' σ' ⟨h1, h2, h3⟩ => by subst h1; subst h2; subst h3; exact h')
end
end Mine
end -- Fw16
section -- G1
set_option tactic.hygienic false
open PySem PySem.W PySem.Calls PyProof.Rows
set_option linter.unusedVariables false
set_option autoImplicit false
namespace Mine
noncomputable abbrev cx (w : World) (base : Heap) (s0 : Shared) (loose : List Str) (mean : ExcName → Option Value) (mg mb : Str → Option Value) (pin : Phi) : Cx :=
  { prog := PySem.Challenge.rw_wc0014_01.row.prog, w := w, K := hd.heap_39 w.params, base := base, s0 := s0, loose := loose, mean := mean, mg := mg, mb := mb, pin := pin }
section
variable {w : World} {base : Heap} {s0 : Shared} {loose : List Str} {mean : ExcName → Option Value} {mg mb : Str → Option Value} {pin : Phi} {d : Nat} {σ : List (List PyData)} {P : V → List (List PyData) → Prop}

set_option maxRecDepth 100000 in
theorem and_spec {wa wb : Bool} {i j : Int} (p : P (.d (.int (Builtin.bitAnd i j))) σ) : TCall (cx w base s0 loose mean mg mb pin) (d + 1) (.ref 207) [.e wa (.int i), .e wb (.int j)] [] [] σ P := by
  have KX : (hd.heap_39 w.params).In base → True := fun _ => trivial
  have PP : PySem.Challenge.rw_wc0014_01.prog = PySem.Challenge.rw_wc0014_01.prog := rfl
  revert KX PP; k_fill; intro KX PP
  refine TCall.def_ (hK := by show List.lookup 207 (hd.heap_39 w.params) = _; k_is) rfl rfl rfl rfl rfl ?hcd rfl rfl rfl ?hnd ?hps ?hpk rfl (TBind.plain (ps := [Str.ofString "a", Str.ofString "b"]) ?_) ?_
  case hcd => show codeIn (hd.heap_39 w.params) _ _ = true; k_is
  case hnd => decide
  case hps => decide
  case hpk => decide
  · intro cvs hl
    obtain ⟨a, b, rfl⟩ := len2 hl
    rfl
  · refine TFin.of (TSS.cons (TS.ret (TE.binop (TE.loc 0 rfl (TE.loc 1 rfl (TV2.andII ?_))))))
    show P _ _
    simpa [fz, retV] using p
end
end Mine
end -- G1
section -- G2
set_option tactic.hygienic false
open PySem PySem.W PySem.Calls PyProof.Rows
set_option linter.unusedVariables false
set_option linter.unusedSimpArgs false
set_option autoImplicit false
namespace Mine
theorem nsIn_of {K : Frag} {a : Addr} {n : Str} {o : Obj} {r : Option (Option Value)} (h : List.lookup a K = some o) (e : nsIn [(a, o)] a n = r) : nsIn K a n = r := by
  rw [← e]
  unfold nsIn
  have : List.lookup a K = List.lookup a [(a, o)] := by rw [h]; simp
  show (match List.lookup a K with | some ⟨_, _, .dict es _, _⟩ => _ | _ => _) = (match List.lookup a [(a, o)] with | some ⟨_, _, .dict es _, _⟩ => _ | _ => _)
  rw [this]
set_option maxRecDepth 100000 in
theorem noShareB {w : World} {base : Heap} : nsIn (hd.heap_39 w.params) cStatics sharingNotToldKey = some none := by
  have KX : (hd.heap_39 w.params).In base → True := fun _ => trivial
  have PP : PySem.Challenge.rw_wc0014_01.prog = PySem.Challenge.rw_wc0014_01.prog := rfl
  revert KX PP; k_fill; intro KX PP
  refine nsIn_of (a := 2) (by k_is) ?_
  rfl
theorem noShare {w : World} : nsIn (hd.heap_39 w.params) cStatics sharingNotToldKey = some none := noShareB (base := {})
section
variable {w : World} {base : Heap} {s0 : Shared} {loose : List Str} {mean : ExcName → Option Value} {mg mb : Str → Option Value} {pin : Phi} {d : Nat} {σ : List (List PyData)} {P : V → List (List PyData) → Prop}

set_option maxRecDepth 100000 in
theorem countOf_spec {i : Nat} {js : List Int} {b : Int} (hi : σ[i]? = some (js.map .int)) (p : P (.d (.int (js.count b))) σ) : TCall (cx w base s0 loose mean mg mb pin) (d + 1) (.ref 214) [.r i, .d (.int b)] [] [] σ P := by
  have KX : (hd.heap_39 w.params).In base → True := fun _ => trivial
  have PP : PySem.Challenge.rw_wc0014_01.prog = PySem.Challenge.rw_wc0014_01.prog := rfl
  revert KX PP; k_fill; intro KX PP
  refine TCall.def_ (hK := by show List.lookup 214 (hd.heap_39 w.params) = _; k_is) rfl rfl rfl rfl rfl ?hcd rfl rfl rfl ?hnd ?hps ?hpk rfl (TBind.plain (ps := [Str.ofString "a", Str.ofString "b"]) ?hb) ?hmain
  case hcd => show codeIn (hd.heap_39 w.params) _ _ = true; k_is
  case hnd => decide
  case hps => decide
  case hpk => decide
  case hb =>
    intro cvs hl
    obtain ⟨x0, x1, rfl⟩ := len2 hl
    rfl
  case hmain =>
    refine TFin.of (TSS.cons (TS.assign (TE.int (TA.loc 2 ?_))))
    refine TSS.cons (TS.for_ (TIter.of (TE.loc 0 rfl ⟨_, _, _, TItr.ref (.inl rfl) hi, ?_⟩)))
    refine TLoop.ind (fun ys ρ' σ' => ∃ (n : Int) (vi : Option V) (zs : List Int), ys = zs.map .int ∧ ρ' = [some (.r i), some (.d (.int b)), some (.d (.int n)), vi] ∧ σ' = σ ∧ n + zs.count b = js.count b) ?_ ?_ ⟨0, none, js, rfl, rfl, rfl, by simp⟩
    · rintro ρ' σ' ⟨n, vi, zs, hz, rfl, rfl, hc⟩
      have : zs = [] := by cases zs with | nil => rfl | cons _ _ => simp at hz
      subst this
      refine TSS.nil (TSS.one (TS.ret (TE.loc 2 rfl ?_)))
      have hn : n = (js.count b : Int) := by simpa using hc
      rw [hn]
      show P _ _
      simpa [fz, retV] using p
    · rintro x xs ρ' σ' ⟨n, vi, zs, hz, rfl, rfl, hc⟩
      cases zs with
      | nil => simp at hz
      | cons z zs =>
        simp only [List.map_cons, List.cons.injEq] at hz
        obtain ⟨rfl, rfl⟩ := hz
        refine TA.loc 3 (TSS.one (TS.ite (TB.or2 (TB.cmp (TE.loc 3 rfl (TE.loc 1 rfl (TV2.isII noShare fun r hr => TT.bool ?_)))))))
        cases r with
        | true =>
          have e := hr rfl
          show TSS _ _ _ _ _ _ _
          · refine TSS.one (TS.augAdd 2 rfl (TE.int ⟨_, _, rfl, ?_⟩))
            refine ⟨hi, n + 1, some (.d (.int z)), zs, rfl, rfl, rfl, ?_⟩
            rw [← hc, e, List.count_cons_self]; push_cast; omega
        | false =>
          refine TB.cmp (TE.loc 3 rfl (TE.loc 1 rfl (TV2.eqDD (by rfl) (by rfl) (TT.bool ?_))))
          by_cases e : z = b
          · rw [show PyData.eqv (.int z) (.int b) = true by simp [PyData.eqv, e]]
            show TSS _ _ _ _ _ _ _
            refine TSS.one (TS.augAdd 2 rfl (TE.int ⟨_, _, rfl, ?_⟩))
            refine ⟨hi, n + 1, some (.d (.int z)), zs, rfl, rfl, rfl, ?_⟩
            rw [← hc, e, List.count_cons_self]; push_cast; omega
          · rw [show PyData.eqv (.int z) (.int b) = false by simp [PyData.eqv, e]]
            refine TSS.nil ⟨hi, n, some (.d (.int z)), zs, rfl, rfl, rfl, ?_⟩
            rw [← hc, List.count_cons_of_ne e]

set_option maxRecDepth 100000 in
theorem getitem_spec {i : Nat} {xs : List PyData} {k : Int} {x : PyData} {wb : Bool} (hi : σ[i]? = some xs) (h0 : 0 ≤ k) (h1 : k < 2 ^ 63) (hx : xs[k.toNat]? = some x) (p : P (.d x) σ) : TCall (cx w base s0 loose mean mg mb pin) (d + 1) (.ref 221) [.r i, .e wb (.int k)] [] [] σ P := by
  have KX : (hd.heap_39 w.params).In base → True := fun _ => trivial
  have PP : PySem.Challenge.rw_wc0014_01.prog = PySem.Challenge.rw_wc0014_01.prog := rfl
  revert KX PP; k_fill; intro KX PP
  refine TCall.def_ (hK := by show List.lookup 221 (hd.heap_39 w.params) = _; k_is) rfl rfl rfl rfl rfl ?hcd rfl rfl rfl ?hnd ?hps ?hpk rfl (TBind.plain (ps := [Str.ofString "a", Str.ofString "b"]) ?hb) ?hmain
  case hcd => show codeIn (hd.heap_39 w.params) _ _ = true; k_is
  case hnd => decide
  case hps => decide
  case hpk => decide
  case hb =>
    intro cvs hl
    obtain ⟨x0, x1, rfl⟩ := len2 hl
    rfl
  case hmain =>
    refine TFin.of (TSS.one (TS.ret (TE.sub (TE.loc 0 rfl (TE.loc 1 rfl (TV2.subRI hi h0 h1 hx ?_))))))
    show P _ _
    simpa [fz, retV] using p

set_option maxRecDepth 100000 in
theorem setitem_spec {i : Nat} {xs : List PyData} {k : Nat} {x : PyData} {wb : Bool} (hi : σ[i]? = some xs) (hk : k < xs.length) (hsz : xs.length ≤ 1000) (p : P (.d .none) (σ.set i (xs.set k x))) : TCall (cx w base s0 loose mean mg mb pin) (d + 1) (.ref 235) [.r i, .e wb (.int k), .d x] [] [] σ P := by
  have KX : (hd.heap_39 w.params).In base → True := fun _ => trivial
  have PP : PySem.Challenge.rw_wc0014_01.prog = PySem.Challenge.rw_wc0014_01.prog := rfl
  revert KX PP; k_fill; intro KX PP
  refine TCall.def_ (hK := by show List.lookup 235 (hd.heap_39 w.params) = _; k_is) rfl rfl rfl rfl rfl ?hcd rfl rfl rfl ?hnd ?hps ?hpk rfl (TBind.plain (ps := [Str.ofString "a", Str.ofString "b", Str.ofString "c"]) ?hb) ?hmain
  case hcd => show codeIn (hd.heap_39 w.params) _ _ = true; k_is
  case hnd => decide
  case hps => decide
  case hpk => decide
  case hb =>
    intro cvs hl
    obtain ⟨x0, x1, x2, rfl⟩ := len3 hl
    rfl
  case hmain =>
    refine TFin.of (TSS.one (TS.assign (TE.loc 2 rfl (TA.sub (TE.loc 0 rfl (TE.loc 1 rfl ⟨_, _, _, _, rfl, rfl, hi, hk, hsz, ?_⟩))))))
    have e : (σ.set i (xs.set k x)).take σ.length = σ.set i (xs.set k x) := by rw [List.take_of_length_le]; simp
    show P _ _
    rw [e]
    simpa [fz, retV] using p

set_option maxRecDepth 100000 in
theorem indexOfI_spec {i : Nat} {js : List Int} {b : Int} {k : Nat} (hi : σ[i]? = some (js.map .int)) (hk : js[k]? = some b) (hno : ∀ m, m < k → js[m]? ≠ some b) (p : P (.d (.int k)) σ) : TCall (cx w base s0 loose mean mg mb pin) (d + 1) (.ref 228) [.r i, .d (.int b)] [] [] σ P := by
  have KX : (hd.heap_39 w.params).In base → True := fun _ => trivial
  have PP : PySem.Challenge.rw_wc0014_01.prog = PySem.Challenge.rw_wc0014_01.prog := rfl
  revert KX PP; k_fill; intro KX PP
  refine TCall.def_ (hK := by show List.lookup 228 (hd.heap_39 w.params) = _; k_is) rfl rfl rfl rfl rfl ?hcd rfl rfl rfl ?hnd ?hps ?hpk rfl (TBind.plain (ps := [Str.ofString "a", Str.ofString "b"]) ?hb) ?hmain
  case hcd => show codeIn (hd.heap_39 w.params) _ _ = true; k_is
  case hnd => decide
  case hps => decide
  case hpk => decide
  case hb =>
    intro cvs hl
    obtain ⟨x0, x1, rfl⟩ := len2 hl
    rfl
  case hmain =>
    refine TFin.of (TSS.cons (TS.for_ ?_))
    refine TIter.enum (TE.bltn (by show nsIn (hd.heap_39 w.params) _ _ = _; k_is) (by boot_by_name) (by decide) ⟨rfl, TE.loc 0 rfl ⟨_, _, _, TSrc.ref hi, ?_⟩⟩)
    refine TLoop.ind (fun ys ρ' σ' => ∃ (m : Nat) (vi vj : Option V) (zs : List Int), ys = enumL m (zs.map .int) ∧ js.drop m = zs ∧ ρ' = [some (.r i), some (.d (.int b)), vi, vj, none, none] ∧ σ' = σ ∧ m ≤ k) ?_ ?_ ⟨0, none, none, js, rfl, rfl, rfl, rfl, Nat.zero_le _⟩
    · rintro ρ' σ' ⟨m, vi, vj, zs, hz, hd, rfl, rfl, hm⟩
      have : zs = [] := by cases zs with | nil => rfl | cons _ _ => simp [enumL] at hz
      subst this
      have h1 : js.length ≤ m := List.drop_eq_nil_iff.mp hd
      have h2 : k < js.length := (List.getElem?_eq_some_iff.mp hk).1
      omega
    · rintro x xs ρ' σ' ⟨m, vi, vj, zs, hz, hd, rfl, rfl, hm⟩
      cases zs with
      | nil => simp [enumL] at hz
      | cons z zs =>
        simp only [List.map_cons, enumL, List.cons.injEq] at hz
        obtain ⟨rfl, rfl⟩ := hz
        have hjm : js[m]? = some z := by
          have := congrArg (fun (l : List Int) => l[0]?) hd
          simpa using this
        have hd' : js.drop (m + 1) = zs := by rw [List.drop_add_one_eq_tail_drop, hd]; rfl
        refine TA.tuple2 (TA.loc 2 (TA.loc 3 (TSS.one (TS.ite (TB.or2 (TB.cmp (TE.loc 3 rfl (TE.loc 1 rfl (TV2.isII noShare fun r hr => TT.bool ?_)))))))))
        have hit : z = b → m = k := fun e => Classical.byContradiction fun hne => hno m (by omega) (e ▸ hjm)
        cases r with
        | true =>
          have e := hit (hr rfl)
          show TSS _ _ _ _ _ _ _
          refine TSS.one (TS.ret (TE.loc 2 rfl ?_))
          rw [e]
          show P _ _
          simpa [fz, retV] using p
        | false =>
          refine TB.cmp (TE.loc 3 rfl (TE.loc 1 rfl (TV2.eqDD (by first | rfl | exact hsh z (List.mem_of_getElem? hjm)) (by first | rfl | exact hsh b (List.mem_of_getElem? hk)) (TT.bool ?_))))
          by_cases e : z = b
          · rw [show PyData.eqv (.int z) (.int b) = true by simp [PyData.eqv, e]]
            show TSS _ _ _ _ _ _ _
            have e := hit e
            refine TSS.one (TS.ret (TE.loc 2 rfl ?_))
            rw [e]
            show P _ _
            simpa [fz, retV] using p
          · rw [show PyData.eqv (.int z) (.int b) = false by simp [PyData.eqv, e]]
            have hmk : m ≠ k := fun q => by rw [q, hk] at hjm; exact e (Option.some.inj hjm).symm
            refine TSS.nil ⟨hi, m + 1, _, _, zs, rfl, hd', rfl, rfl, by omega⟩

set_option maxRecDepth 100000 in
theorem indexOfS_spec {x : Str} {js : List Str} {b : Str} {k : Nat} (hx : chrs x = js.map .str) (ha : x.cps.all (· < 128) = true) (hsh : ∀ y ∈ js, SeqAt.shaped (.str y) = true) (hk : js[k]? = some b) (hno : ∀ m, m < k → js[m]? ≠ some b) (p : P (.d (.int k)) σ) : TCall (cx w base s0 loose mean mg mb pin) (d + 1) (.ref 228) [.d (.str x), .d (.str b)] [] [] σ P := by
  have KX : (hd.heap_39 w.params).In base → True := fun _ => trivial
  have PP : PySem.Challenge.rw_wc0014_01.prog = PySem.Challenge.rw_wc0014_01.prog := rfl
  revert KX PP; k_fill; intro KX PP
  refine TCall.def_ (hK := by show List.lookup 228 (hd.heap_39 w.params) = _; k_is) rfl rfl rfl rfl rfl ?hcd rfl rfl rfl ?hnd ?hps ?hpk rfl (TBind.plain (ps := [Str.ofString "a", Str.ofString "b"]) ?hb) ?hmain
  case hcd => show codeIn (hd.heap_39 w.params) _ _ = true; k_is
  case hnd => decide
  case hps => decide
  case hpk => decide
  case hb =>
    intro cvs hl
    obtain ⟨x0, x1, rfl⟩ := len2 hl
    rfl
  case hmain =>
    refine TFin.of (TSS.cons (TS.for_ ?_))
    refine TIter.enum (TE.bltn (by show nsIn (hd.heap_39 w.params) _ _ = _; k_is) (by boot_by_name) (by decide) ⟨rfl, TE.loc 0 rfl ⟨_, _, _, TSrc.str ha, ?_⟩⟩)
    refine TLoop.ind (fun ys ρ' σ' => ∃ (m : Nat) (vi vj : Option V) (zs : List Str), ys = enumL m (zs.map .str) ∧ js.drop m = zs ∧ ρ' = [some (.d (.str x)), some (.d (.str b)), vi, vj, none, none] ∧ σ' = σ ∧ m ≤ k) ?_ ?_ ⟨0, none, none, js, by rw [hx], rfl, rfl, rfl, Nat.zero_le _⟩
    · rintro ρ' σ' ⟨m, vi, vj, zs, hz, hd, rfl, rfl, hm⟩
      have : zs = [] := by cases zs with | nil => rfl | cons _ _ => simp [enumL] at hz
      subst this
      have h1 : js.length ≤ m := List.drop_eq_nil_iff.mp hd
      have h2 : k < js.length := (List.getElem?_eq_some_iff.mp hk).1
      omega
    · rintro x xs ρ' σ' ⟨m, vi, vj, zs, hz, hd, rfl, rfl, hm⟩
      cases zs with
      | nil => simp [enumL] at hz
      | cons z zs =>
        simp only [List.map_cons, enumL, List.cons.injEq] at hz
        obtain ⟨rfl, rfl⟩ := hz
        have hjm : js[m]? = some z := by
          have := congrArg (fun (l : List Str) => l[0]?) hd
          simpa using this
        have hd' : js.drop (m + 1) = zs := by rw [List.drop_add_one_eq_tail_drop, hd]; rfl
        refine TA.tuple2 (TA.loc 2 (TA.loc 3 (TSS.one (TS.ite (TB.or2 (TB.cmp (TE.loc 3 rfl (TE.loc 1 rfl (TV2.isSS noShare fun r hr => TT.bool ?_)))))))))
        have hit : z = b → m = k := fun e => Classical.byContradiction fun hne => hno m (by omega) (e ▸ hjm)
        cases r with
        | true =>
          have e := hit (hr rfl)
          show TSS _ _ _ _ _ _ _
          refine TSS.one (TS.ret (TE.loc 2 rfl ?_))
          rw [e]
          show P _ _
          simpa [fz, retV] using p
        | false =>
          refine TB.cmp (TE.loc 3 rfl (TE.loc 1 rfl (TV2.eqDD (by first | rfl | exact hsh z (List.mem_of_getElem? hjm)) (by first | rfl | exact hsh b (List.mem_of_getElem? hk)) (TT.bool ?_))))
          by_cases e : z = b
          · rw [show PyData.eqv (.str z) (.str b) = true by simp [PyData.eqv, e]]
            show TSS _ _ _ _ _ _ _
            have e := hit e
            refine TSS.one (TS.ret (TE.loc 2 rfl ?_))
            rw [e]
            show P _ _
            simpa [fz, retV] using p
          · rw [show PyData.eqv (.str z) (.str b) = false by simp [PyData.eqv, e]]
            have hmk : m ≠ k := fun q => by rw [q, hk] at hjm; exact e (Option.some.inj hjm).symm
            refine TSS.nil ⟨trivial, m + 1, _, _, zs, rfl, hd', rfl, rfl, by omega⟩

end
end Mine
end -- G2
section -- G3
set_option tactic.hygienic false
open PySem PySem.W PySem.Calls PyProof.Rows
set_option linter.unusedVariables false
set_option linter.unusedSimpArgs false
set_option autoImplicit false
namespace Mine
theorem TE.weak {c : Cx} {d : Nat} {e : Expr} {sc : Sc} {ρ : List (Option V)} {σ : List (List PyData)} {P : V → List (List PyData) → Prop} (h : TE c d e sc ρ σ fun v σ' => ∃ (wk : Bool) (x : PyData), v = .e wk x ∧ P (.w x) σ') : TE c d e sc ρ σ P := by
  intro env A X φ s Q E O R L K
  refine h env A X φ s Q E O R L fun v cv φ' σ' s' x R' r p => ?_
  obtain ⟨wk, y, rfl, p⟩ := p
  exact K (.w y) cv φ' σ' s' x R' r.weak p

/-! the lamps -/
noncomputable def lampInit : List Int := [1, 0, 0, 1, 0, 0, 1, 0, 0, 0, 0, 0, 0, 1, 0, 0, 1, 0, 0, 0, 1, 1, 0, 0]
noncomputable def flipL (ls : List Int) (p : Int) : List Int := ls.set (p.fmod 24).toNat (1 - (ls[(p.fmod 24).toNat]?).getD 0)
noncomputable def lampStep (ls : List Int) (n : Int) : List Int := flipL (flipL (flipL ls n) (n.fdiv 24)) (n.fdiv 576)
noncomputable def lampsOf (ns : List Int) : List Int := (ns.take 60).foldl lampStep lampInit
theorem flipL_length (ls : List Int) (p : Int) : (flipL ls p).length = ls.length := by simp [flipL]
theorem lampStep_length (ls : List Int) (n : Int) : (lampStep ls n).length = ls.length := by simp [lampStep, flipL_length]
theorem foldl_lamp_length : ∀ (ns : List Int) (ls : List Int), (ns.foldl lampStep ls).length = ls.length
  | [], _ => rfl
  | n :: ns, ls => by rw [List.foldl_cons, foldl_lamp_length ns, lampStep_length]
theorem lampsOf_length (ns : List Int) : (lampsOf ns).length = 24 := by rw [lampsOf, foldl_lamp_length]; rfl
theorem fmod24 (p : Int) : 0 ≤ p.fmod 24 ∧ p.fmod 24 < 24 := by rw [Int.fmod_eq_emod_of_nonneg _ (by decide)]; exact ⟨Int.emod_nonneg _ (by decide), Int.emod_lt_of_pos _ (by decide)⟩
set_option tactic.hygienic true in
theorem noPylong (i : Int) {j : Int} (h : j.natAbs < 2 ^ 9000) : Builtin.divisionGoesByPylong i j = false := by
  unfold Builtin.divisionGoesByPylong
  dsimp only
  have : ¬ (if (j == 0) = true then 0 else j.natAbs.log2 / 30 + 1) > 300 := by
    split
    · decide
    · rename_i hj
      have hj' : j.natAbs ≠ 0 := by simpa using hj
      have : j.natAbs.log2 < 9000 := (Nat.log2_lt hj').mpr h
      omega
  simp only [this, decide_false, Bool.false_and]
section
variable {w : World} {base : Heap} {s0 : Shared} {loose : List Str} {mean : ExcName → Option Value} {mg mb : Str → Option Value} {pin : Phi} {d : Nat} {σ : List (List PyData)} {P : V → List (List PyData) → Prop}

end
end Mine
end -- G3
section -- B1
set_option tactic.hygienic false
open PySem
set_option linter.unusedVariables false
set_option linter.unusedSimpArgs false
set_option autoImplicit false
namespace Mine

/-! a reckoning by sets, breadth first, a ahead of b -/
noncomputable abbrev Row := Nat × Nat × Bool
section
variable {α : Type} [DecidableEq α]
noncomputable def addS (l : List α) (x : α) : List α := if x ∈ l then l else l ++ [x]
noncomputable def idx (l : List α) (x : α) : Nat := l.idxOf x
structure Run (α : Type) where
  sets : List α
  rows : List Row
noncomputable def bstep (da db : α → α) (fin : α → Bool) (here : α) (st : Run α) : Run α :=
  let s₁ := addS st.sets (da here)
  let s₂ := addS s₁ (db here)
  ⟨s₂, st.rows ++ [(idx s₁ (da here), idx s₂ (db here), fin here)]⟩
noncomputable def brun (da db : α → α) (fin : α → Bool) : Nat → Run α → Run α
  | 0, st => st
  | k + 1, st => match st.sets[st.rows.length]? with
    | none => st
    | some here => brun da db fin k (bstep da db fin here st)
/-- the rows of the machine that δ makes from x on, of at most B sets -/
noncomputable def bfs (da db : α → α) (fin : α → Bool) (B : Nat) (x : α) : Run α := brun da db fin B ⟨[x], []⟩

structure ROk (da db : α → α) (U : α → Prop) (st : Run α) : Prop where
  nd : st.sets.Nodup
  u : ∀ x ∈ st.sets, U x
  le : st.rows.length ≤ st.sets.length
theorem addS_sub {l : List α} {x y : α} (h : y ∈ l) : y ∈ addS l x := by unfold addS; split <;> simp [h]
theorem addS_mem {l : List α} {x : α} : x ∈ addS l x := by unfold addS; split <;> simp_all
set_option tactic.hygienic true in
theorem addS_nodup {l : List α} {x : α} (h : l.Nodup) : (addS l x).Nodup := by
  unfold addS
  split
  · exact h
  · rename_i hx
    rw [List.nodup_append]
    exact ⟨h, by simp, fun a ha b hb => by rw [List.mem_singleton.mp hb]; rintro rfl; exact hx ha⟩
theorem addS_u {l : List α} {x : α} {U : α → Prop} (h : ∀ y ∈ l, U y) (hx : U x) : ∀ y ∈ addS l x, U y := by
  unfold addS
  split
  · exact h
  · intro y hy
    rcases List.mem_append.mp hy with hy | hy
    · exact h y hy
    · rw [List.mem_singleton.mp hy]; exact hx
theorem addS_len {l : List α} {x : α} : l.length ≤ (addS l x).length := by unfold addS; split <;> simp
theorem addS_prefix {l : List α} {x : α} : l <+: addS l x := by unfold addS; split <;> simp
theorem ROk.step {da db : α → α} {fin : α → Bool} {U : α → Prop} {st : Run α} (h : ROk da db U st) (hU : ∀ x, U x → U (da x) ∧ U (db x)) {here : α} (hh : st.sets[st.rows.length]? = some here) : ROk da db U (bstep da db fin here st) := by
  have hu := h.u here (List.mem_of_getElem? hh)
  have hlt : st.rows.length < st.sets.length := (List.getElem?_eq_some_iff.mp hh).1
  refine ⟨addS_nodup (addS_nodup h.nd), addS_u (addS_u h.u (hU _ hu).1) (hU _ hu).2, ?_⟩
  show (st.rows ++ [_]).length ≤ (addS (addS st.sets _) _).length
  rw [List.length_append, List.length_singleton]
  exact Nat.le_trans hlt (Nat.le_trans addS_len addS_len)

theorem nodup_len {l : List α} : ∀ {m : List α}, l.Nodup → (∀ x ∈ l, x ∈ m) → l.length ≤ m.length := by
  induction l with
  | nil => intro m _ _; exact Nat.zero_le _
  | cons x l ih =>
    intro m nd h
    rw [List.nodup_cons] at nd
    have hx : x ∈ m := h x List.mem_cons_self
    have : l.length ≤ (m.erase x).length := ih nd.2 fun y hy => by
      have hne : y ≠ x := fun e => nd.1 (e ▸ hy)
      exact (List.mem_erase_of_ne hne).mpr (h y (List.mem_cons_of_mem _ hy))
    rw [List.length_erase_of_mem hx] at this
    have hm : 0 < m.length := List.length_pos_of_mem hx
    simp only [List.length_cons]
    omega
theorem ROk.len {da db : α → α} {U : α → Prop} {st : Run α} (h : ROk da db U st) {univ : List α} (hU : ∀ x, U x → x ∈ univ) : st.sets.length ≤ univ.length :=
  nodup_len h.nd fun x hx => hU x (h.u x hx)
theorem ROk.start {da db : α → α} {U : α → Prop} {x : α} (h : U x) : ROk da db U ⟨[x], []⟩ := ⟨by simp, fun y hy => by rw [List.mem_singleton.mp hy]; exact h, by simp⟩

theorem idx_first {l : List α} {x : α} (h : x ∈ l) : (l.map fun y => decide (y = x))[idx l x]? = some true ∧ ∀ m, m < idx l x → (l.map fun y => decide (y = x))[m]? = some false := by
  have hlt : idx l x < l.length := List.idxOf_lt_length_of_mem h
  refine ⟨?_, fun m hm => ?_⟩
  · rw [List.getElem?_map, List.getElem?_eq_getElem hlt]
    have : l[idx l x] = x := List.getElem_idxOf hlt
    simp [this]
  · have hm' : m < l.length := Nat.lt_trans hm hlt
    rw [List.getElem?_map, List.getElem?_eq_getElem hm']
    have := List.not_of_lt_findIdx (p := (· == x)) hm
    simpa using this
theorem idx_get {l : List α} {x : α} (h : x ∈ l) : l[idx l x]? = some x := by
  have hlt : idx l x < l.length := List.idxOf_lt_length_of_mem h
  rw [List.getElem?_eq_getElem hlt]
  exact congrArg some (List.getElem_idxOf hlt)
theorem idx_lt {l : List α} {x : α} (h : x ∈ l) : idx l x < l.length := List.idxOf_lt_length_of_mem h
/-- where a run goes on -/
theorem brun_go {da db : α → α} {fin : α → Bool} {k : Nat} {st : Run α} {here : α} (h : st.sets[st.rows.length]? = some here) : brun da db fin (k + 1) st = brun da db fin k (bstep da db fin here st) := by
  rw [brun]; simp only [h]
theorem brun_end {da db : α → α} {fin : α → Bool} {k : Nat} {st : Run α} (h : st.sets.length ≤ st.rows.length) : brun da db fin k st = st := by
  cases k with
  | zero => rfl
  | succ k => rw [brun, List.getElem?_eq_none h]
theorem bstep_rows {da db : α → α} {fin : α → Bool} {here : α} {st : Run α} : (bstep da db fin here st).rows.length = st.rows.length + 1 := by simp [bstep]
end
noncomputable def rowD (r : Row) : PyData := .tuple [.int r.1, .int r.2.1, .bool r.2.2]
noncomputable abbrev rowsD (rs : List Row) : PyData := .list (rs.map rowD)
end Mine
end -- B1
section -- G4
set_option tactic.hygienic false
open PySem PySem.W PySem.Calls PyProof.Rows
set_option linter.unusedVariables false
set_option linter.unusedSimpArgs false
set_option autoImplicit false
namespace Mine
noncomputable abbrev natsD (xs : List Nat) : PyData := .list (xs.map fun (n : Nat) => PyData.int (n : Int))
theorem eqvAll_ints : ∀ (xs ys : List Nat), PyData.eqvAll (xs.map fun (n : Nat) => PyData.int (n : Int)) (ys.map fun (n : Nat) => PyData.int (n : Int)) = decide (xs = ys)
  | [], [] => rfl
  | [], _ :: _ => rfl
  | _ :: _, [] => rfl
  | x :: xs, y :: ys => by
    simp only [List.map_cons, PyData.eqvAll, PyData.eqv, eqvAll_ints xs ys]
    by_cases h : x = y
    · subst h; simp
    · have : ((x : Int) == (y : Int)) = false := beq_eq_false_iff_ne.mpr (by exact_mod_cast h)
      rw [this]; simp [h]
theorem eqv_nats (xs ys : List Nat) : (natsD xs).eqv (natsD ys) = decide (xs = ys) := eqvAll_ints xs ys
theorem canLay_ints : ∀ xs : List Nat, PyData.canLayAll0 (xs.map fun (n : Nat) => PyData.int (n : Int)) = true
  | [] => rfl
  | x :: xs => by simp [PyData.canLayAll0, PyData.canLay0, canLay_ints xs]
theorem depth_ints : ∀ xs : List Nat, PyData.depthAll (xs.map fun (n : Nat) => PyData.int (n : Int)) = 0
  | [] => rfl
  | x :: xs => by simp [PyData.depthAll, PyData.depth, depth_ints xs]
theorem shaped_nats (xs : List Nat) : SeqAt.shaped (natsD xs) = true := by
  unfold SeqAt.shaped natsD
  simp [PyData.canLay0, PyData.depth, canLay_ints, depth_ints]

noncomputable def intF (g : Nat → Bool) (x : PyData) : Bool := match x with | .int i => g i.toNat | _ => false
theorem r3_filter (g : Nat → Bool) : ((rngL 0 (3 - 0 : Int).toNat).filter (intF g)).map id = ([0, 1, 2].filter g).map fun (n : Nat) => PyData.int (n : Int) := by
  show ([PyData.int 0, .int 1, .int 2].filter (intF g)).map id = _
  cases h0 : g 0 <;> cases h1 : g 1 <;> cases h2 : g 2 <;> simp [List.filter_cons, intF, h0, h1, h2]
theorem nats_filter (g : Nat → Bool) : ∀ xs : List Nat, ((xs.map fun (n : Nat) => PyData.int (n : Int)).filter (intF g)).map id = (xs.filter g).map fun (n : Nat) => PyData.int (n : Int)
  | [] => rfl
  | x :: xs => by
    by_cases h : g x = true
    · have h' : intF g (.int (x : Int)) = true := h
      rw [List.map_cons, List.filter_cons_of_pos h', List.filter_cons_of_pos h, List.map_cons, List.map_cons, nats_filter g xs]; rfl
    · have h' : ¬ intF g (.int (x : Int)) = true := h
      rw [List.map_cons, List.filter_cons_of_neg h', List.filter_cons_of_neg h]; exact nats_filter g xs
theorem any_nats (t : List Nat) : ∀ S : List (List Nat), (S.map natsD).any (·.eqv (natsD t)) = decide (t ∈ S)
  | [] => rfl
  | x :: S => by
    rw [List.map_cons, List.any_cons, any_nats t S, eqv_nats]
    by_cases h : x = t
    · subst h; simp
    · have : ¬ t = x := fun e => h e.symm
      simp [h, this]
theorem map_nats (t : List Nat) (S : List (List Nat)) : (S.map natsD).map (·.eqv (natsD t)) = S.map fun y => decide (y = t) := by
  rw [List.map_map]
  apply List.map_congr_left
  intro y _
  exact eqv_nats y t
theorem any_filter {f : Nat → Bool} {xs : List Nat} : (!decide (xs.filter f = [])) = xs.any f := by
  rw [Bool.eq_iff_iff]
  simp [List.filter_eq_nil_iff]
theorem ix0 {σ j : List (List PyData)} {a b : List PyData} : (σ ++ [a, b] ++ j)[σ.length]? = some a := by simp
theorem ix1 {σ j : List (List PyData)} {a b : List PyData} : (σ ++ [a, b] ++ j)[σ.length + 1]? = some b := by
  rw [List.append_assoc, List.getElem?_append_right (Nat.le_succ _)]; simp
theorem ix2 {σ j : List (List PyData)} {a b r : List PyData} : (σ ++ [a, b] ++ (j ++ [r]))[σ.length + 2 + j.length]? = some r := by
  rw [← List.append_assoc, List.getElem?_append_right (by simp; omega), show σ.length + 2 + j.length - (σ ++ [a, b] ++ j).length = 0 by simp; omega]; rfl
theorem st0 {σ j : List (List PyData)} {a b c : List PyData} : (σ ++ [a, b] ++ j).set σ.length c = σ ++ [c, b] ++ j := by
  rw [List.append_assoc, List.set_append_right _ _ (Nat.le_refl _)]; simp
theorem st1 {σ j : List (List PyData)} {a b c : List PyData} : (σ ++ [a, b] ++ j).set (σ.length + 1) c = σ ++ [a, c] ++ j := by
  rw [List.append_assoc, List.set_append_right _ _ (Nat.le_succ _)]; simp
theorem st2 {σ j : List (List PyData)} {a b r c : List PyData} : (σ ++ [a, b] ++ (j ++ [r])).set (σ.length + 2 + j.length) c = σ ++ [a, b] ++ (j ++ [c]) := by
  rw [← List.append_assoc, List.set_append_right _ _ (by simp; omega), show σ.length + 2 + j.length - (σ ++ [a, b] ++ j).length = 0 by simp; omega, List.append_assoc]; rfl
theorem ln2 {σ j : List (List PyData)} {a b : List PyData} : (σ ++ [a, b] ++ j).length = σ.length + 2 + j.length := by simp; omega
noncomputable def lit (ls : List Int) (k : Nat) : Bool := (ls[k]?).getD 0 != 0
noncomputable def pStep (ls : List Int) (l : Nat) (here : List Nat) : List Nat := [0, 1, 2].filter fun p => here.any fun o => lit ls (o + 3 * l + 6 * p)
noncomputable def pStart (ls : List Int) : List Nat := [0, 1, 2].filter fun p => lit ls (21 + p)
noncomputable def pFin (ls : List Int) (here : List Nat) : Bool := here.any fun p => lit ls (18 + p)
noncomputable def univ3 : List (List Nat) := [[], [0], [1], [2], [0, 1], [0, 2], [1, 2], [0, 1, 2]]
theorem univ3_filter (f : Nat → Bool) : [0, 1, 2].filter f ∈ univ3 := by
  cases h0 : f 0 <;> cases h1 : f 1 <;> cases h2 : f 2 <;> simp [List.filter_cons, h0, h1, h2, univ3]
theorem univ3_len : ∀ x ∈ univ3, x.length ≤ 3 := by decide
theorem univ3_small : ∀ x ∈ univ3, ∀ p ∈ x, p < 3 := by decide
noncomputable def plainRun (ls : List Int) : Run (List Nat) := bfs (pStep ls 0) (pStep ls 1) (pFin ls) 8 (pStart ls)
theorem lit_data {ls : List Int} {k : Nat} (h : k < ls.length) : ∃ i : Int, (ls.map PyData.int)[k]? = some (.int i) ∧ (i != 0) = lit ls k :=
  ⟨ls[k], by simp [h], by simp [lit, h]⟩
noncomputable def letStep (ls : List Int) (here : List Nat) (st : List (List Nat) × List Nat) (m : Nat) : List (List Nat) × List Nat := (addS st.1 (pStep ls m here), st.2 ++ [idx (addS st.1 (pStep ls m here)) (pStep ls m here)])
section
variable {w : World} {base : Heap} {s0 : Shared} {loose : List Str} {mean : ExcName → Option Value} {mg mb : Str → Option Value} {pin : Phi} {d : Nat} {σ : List (List PyData)} {P : V → List (List PyData) → Prop}

theorem r3_mem {x : PyData} (h : x ∈ rngL 0 (3 - 0 : Int).toNat) : ∃ n : Nat, x = .int n ∧ n < 3 := by
  have : x = .int 0 ∨ x = .int 1 ∨ x = .int 2 := by simpa [rngL] using h
  rcases this with rfl | rfl | rfl
  · exact ⟨0, rfl, by decide⟩
  · exact ⟨1, rfl, by decide⟩
  · exact ⟨2, rfl, by decide⟩

noncomputable def rP0 (ls : List Int) (sl : Nat) (v3 v4 v5 v6 : Option V) : List (Option V) := [some (.d (.list (ls.map .int))), some (.r sl), some (.r (sl + 1)), v3, v4, v5, v6, none, none]
set_option maxRecDepth 100000 in
theorem plain_spec {ls : List Int} (hl : ls.length = 24) (p : P (.d (rowsD (plainRun ls).rows)) σ) : TCall (cx w base s0 loose mean mg mb pin) (d + 1) (.ref 259) [.d (.list (ls.map .int))] [] [] σ P := by
  have KX : (hd.heap_39 w.params).In base → True := fun _ => trivial
  have PP : PySem.Challenge.rw_wc0014_01.prog = PySem.Challenge.rw_wc0014_01.prog := rfl
  revert KX PP; k_fill; intro KX PP
  refine TCall.def_ (hK := by show List.lookup 259 (hd.heap_39 w.params) = _; k_is) rfl rfl rfl rfl rfl ?hcd rfl rfl rfl ?hnd ?hps ?hpk rfl (TBind.plain (ps := [Str.ofString "lamps"]) ?hb) ?hmain
  case hcd => show codeIn (hd.heap_39 w.params) _ _ = true; k_is
  case hnd => decide
  case hps => decide
  case hpk => decide
  case hb =>
    intro cvs hl
    obtain ⟨x0, rfl⟩ := len1 hl
    rfl
  case hmain =>
    refine TFin.of ?_
    refine TSS.cons ?_
    refine TS.assignS [Str.ofString "sets", Str.ofString "rows"] ?_
    refine TEs.cons ?_
    refine TE.listT ?_
    refine TEs.cons ?_
    refine TE.comp ?_
    refine TIter.of ?_
    refine TE.call ?_
    refine TE.bltn (by show nsIn (hd.heap_39 w.params) _ _ = _; k_is) (by boot_by_name) (by decide) ⟨_, rfl, KeepOk.type, ?_⟩
    refine TEs.cons ?_
    refine TE.int ?_
    refine TEs.nil ?_
    refine TCall.range1 (⟨_, _, _, TItr.rng rfl rfl (by decide), trivial, ?_⟩)
    refine TComp.pure (ρ₀ := [none, none, some (.d (.list (ls.map .int)))]) 1 (intF fun n => lit ls (21 + n)) id (by decide) (fun _ => trivial) ?_ ?_ ?_ ?_
    · rintro x ρ' σ' hx hr
      refine TA.loc 1 ⟨?_, rfl⟩
      rcases hr with rfl | ⟨y, rfl⟩ <;> rfl
    · rintro x ys hx
      obtain ⟨n, rfl, hn⟩ := r3_mem hx
      refine TB.plain ?_
      refine TE.sub ?_
      refine TE.cell 2 rfl ?_
      refine TE.binop ?_
      refine TE.int ?_
      refine TE.loc 1 rfl ?_
      refine TV2.addII ?_
      obtain ⟨i, h1, h2⟩ := lit_data (ls := ls) (k := 21 + n) (by omega)
      refine TV2.subLI (x := .int i) (by omega) (by omega) (by rw [← h1]; congr 1) ?_
      refine TT.int ⟨?_, rfl⟩
      rw [h2]; rfl
    · rintro x ys hx hp
      exact TE.loc 1 rfl ⟨rfl, rfl⟩
    refine ⟨_, by rw [List.getElem?_append_right (Nat.le_refl _), Nat.sub_self]; rfl, ?_⟩
    rw [r3_filter, List.take_left]
    refine TEs.nil ⟨[natsD (pStart ls)], rfl, by simp, ?_⟩
    refine TEs.cons ?_
    refine TE.listT ?_
    refine TEs.nil ⟨[], rfl, by decide, ?_⟩
    refine TEs.nil ⟨rfl, by simp, ?_⟩
    refine TN.loc 2 ?_
    refine TN.loc 1 ?_
    refine TSS.cons ?_
    refine TS.whileN (fun n ρ' σ' => ∃ (st : Run (List Nat)) (junk : List (List PyData)) (v3 v4 v5 v6 : Option V), ρ' = (rP0 ls σ.length v3 v4 v5 v6) ∧ σ' = σ ++ [st.sets.map natsD, st.rows.map rowD] ++ junk ∧ ROk (pStep ls 0) (pStep ls 1) (· ∈ univ3) st ∧ brun (pStep ls 0) (pStep ls 1) (pFin ls) (8 - st.rows.length) st = plainRun ls ∧ n = 8 - st.rows.length) 8 ?_ ?_
    · refine ⟨⟨[pStart ls], []⟩, [], none, none, none, none, ?_, by simp, ROk.start (univ3_filter _), rfl, rfl⟩
      simp only [List.length_append, List.length_singleton]; rfl
    rintro n ρ' σ' ⟨st, junk, v3, v4, v5, v6, rfl, rfl, ok, hrun, rfl⟩
    intro Nw Pw hNw hPw
    have hS8 : st.sets.length ≤ 8 := ok.len (univ := univ3) fun x h => h
    have hR8 : st.rows.length ≤ 8 := Nat.le_trans ok.le hS8
    refine TB.cmp ?_
    refine TE.call ?_
    refine TE.bltn (by show nsIn (hd.heap_39 w.params) _ _ = _; k_is) (by boot_by_name) (by decide) ⟨_, rfl, KeepOk.builtin, ?_⟩
    refine TEs.cons ?_
    refine TE.loc 2 rfl ?_
    refine TEs.nil ?_
    refine TCall.lenL (IsL.r ix1) (by simp; omega) ?_
    refine TE.call ?_
    refine TE.bltn (by show nsIn (hd.heap_39 w.params) _ _ = _; k_is) (by boot_by_name) (by decide) ⟨_, rfl, KeepOk.builtin, ?_⟩
    refine TEs.cons ?_
    refine TE.loc 1 rfl ?_
    refine TEs.nil ?_
    refine TCall.lenL (IsL.r ix0) (by simp; omega) ?_
    refine TV2.ltII ?_
    refine TT.bool ?_
    simp only [List.length_map]
    by_cases hlt : st.rows.length < st.sets.length
    · rw [show decide ((st.rows.length : Int) < (st.sets.length : Int)) = true by simpa using hlt]
      have hh : st.sets[st.rows.length]? = some st.sets[st.rows.length] := List.getElem?_eq_getElem hlt
      generalize st.sets[st.rows.length] = here at hh
      have hu := ok.u here (List.mem_of_getElem? hh)
      show TSS _ _ _ _ _ _ _
      refine TSS.cons ?_
      refine TS.assignT ?_
      refine TEs.cons ?_
      refine TE.sub ?_
      refine TE.loc 1 rfl ?_
      refine TE.call ?_
      refine TE.bltn (by show nsIn (hd.heap_39 w.params) _ _ = _; k_is) (by boot_by_name) (by decide) ⟨_, rfl, KeepOk.builtin, ?_⟩
      refine TEs.cons ?_
      refine TE.loc 2 rfl ?_
      refine TEs.nil ?_
      refine TCall.lenL (IsL.r ix1) (by simp; omega) ?_
      refine TV2.subRI ix0 (by omega) (by simp; omega) (x := natsD here) (by simp [hh]) ?_
      refine TEs.cons ?_
      refine TE.listT ?_
      refine TEs.nil ⟨[], rfl, by decide, ?_⟩
      refine TEs.nil ⟨rfl, by simp, ?_⟩
      refine TA.cell 3 ?_
      refine TA.loc 4 ?_
      rw [ln2, List.append_assoc _ junk]
      refine TSS.cons ?_
      refine TS.for_ ?_
      refine TIter.of ?_
      refine TE.call ?_
      refine TE.bltn (by show nsIn (hd.heap_39 w.params) _ _ = _; k_is) (by boot_by_name) (by decide) ⟨_, rfl, KeepOk.type, ?_⟩
      refine TEs.cons ?_
      refine TE.int ?_
      refine TEs.nil ?_
      refine TCall.range1 (⟨_, _, _, TItr.rng rfl rfl (by decide), ?_⟩)
      refine TLoop.indN (fun ys ρ' σ' => ∃ (ms : List Nat) (S : List (List Nat)) (rw : List Nat) (v5 v6 : Option V), ys = (ms.map fun (m : Nat) => PyData.int (m : Int)) ∧ (∀ m ∈ ms, m < 2) ∧ ρ' = (rP0 ls σ.length (some (.d (natsD here))) (some (.r (σ.length + 2 + junk.length))) v5 v6) ∧ σ' = σ ++ [S.map natsD, st.rows.map rowD] ++ (junk ++ [rw.map fun (m : Nat) => PyData.int (m : Int)]) ∧ S.Nodup ∧ (∀ x ∈ S, x ∈ univ3) ∧ rw.length + ms.length = 2 ∧ ms.foldl (letStep ls here) (S, rw) = [0, 1].foldl (letStep ls here) (st.sets, [])) ?_ ?_ ⟨[0, 1], st.sets, [], v5, v6, rfl, by decide, rfl, rfl, ok.nd, ok.u, rfl, rfl⟩
      · rintro ρ' σ' ⟨ms, S, rw', v5, v6, hz, hm, rfl, rfl, hnd, hu3, hlen, hf⟩
        intro P1 hP1
        have : ms = [] := by cases ms with | nil => rfl | cons _ _ => simp at hz
        subst this
        have hf' : (S, rw') = ((bstep (pStep ls 0) (pStep ls 1) (pFin ls) here st).sets, [idx (addS st.sets (pStep ls 0 here)) (pStep ls 0 here), idx (addS (addS st.sets (pStep ls 0 here)) (pStep ls 1 here)) (pStep ls 1 here)]) := hf
        obtain ⟨rfl, rfl⟩ := Prod.mk.inj hf'
        have okS := ok.step (fin := pFin ls) (fun x hx => ⟨univ3_filter _, univ3_filter _⟩) hh
        refine TSS.nil (hP1 _ _ _ ?_)
        refine TSS.one ?_
        refine TS.expr ?_
        refine TE.meth ?_
        refine TE.loc 2 rfl ⟨_, TGet.append ix1, KeepOk.builtin, ?_⟩
        refine TEs.cons ?_
        refine TE.tuple ?_
        refine TEs.cons ?_
        refine TE.sub ?_
        refine TE.loc 4 rfl ?_
        refine TE.int ?_
        refine TV2.subRI ix2 (by decide) (by decide) rfl ?_
        refine TEs.cons ?_
        refine TE.sub ?_
        refine TE.loc 4 rfl ?_
        refine TE.int ?_
        refine TV2.subRI ix2 (by decide) (by decide) rfl ?_
        refine TEs.cons ?_
        refine TE.cmp ?_
        refine TE.comp ?_
        refine TIter.of ?_
        refine TE.cell 3 rfl ?_
        refine ⟨_, _, _, TItr.list (.inl rfl), trivial, ?_⟩
        refine TComp.pure (ρ₀ := [none, none, some (.d (.list (ls.map .int)))]) 1 (intF fun n => lit ls (18 + n)) id (by have := univ3_len _ hu; simp; omega) (fun _ => trivial) ?_ ?_ ?_ ?_
        · rintro x ρ' σ' hx hr
          refine TA.loc 1 ⟨?_, rfl⟩
          rcases hr with rfl | ⟨y, rfl⟩ <;> rfl
        · rintro x ys hx
          obtain ⟨o, ho, rfl⟩ := List.mem_map.mp hx
          have ho3 := univ3_small _ hu o ho
          refine TB.plain ?_
          refine TE.sub ?_
          refine TE.cell 2 rfl ?_
          refine TE.binop ?_
          refine TE.int ?_
          refine TE.loc 1 rfl ?_
          refine TV2.addII ?_
          obtain ⟨i, h1, h2⟩ := lit_data (ls := ls) (k := 18 + o) (by omega)
          refine TV2.subLI (x := .int i) (by omega) (by omega) (by rw [← h1]; congr 1) ?_
          refine TT.int ⟨?_, rfl⟩
          rw [h2]; rfl
        · rintro x ys hx hp
          exact TE.loc 1 rfl ⟨rfl, rfl⟩
        refine ⟨_, by rw [List.getElem?_append_right (Nat.le_refl _), Nat.sub_self]; rfl, ?_⟩
        rw [nats_filter, List.take_left]
        refine TE.list ?_
        refine TEs.nil ⟨false, [], rfl, by decide, ?_⟩
        refine TV2.neDD (shaped_nats _) (shaped_nats []) ?_
        have hfin : (!(natsD (here.filter fun n => lit ls (18 + n))).eqv (natsD [])) = pFin ls here := by rw [eqv_nats, any_filter]; rfl
        rw [show PyData.list [] = natsD [] from rfl, hfin]
        refine TEs.nil ⟨false, [.int _, .int _, .bool _], rfl, by simp, ?_⟩
        refine TEs.nil ?_
        refine TCall.append ix1 (by simp; omega) ?_
        rw [st1]
        refine hNw (8 - (st.rows.length + 1)) _ _ (by omega) ⟨bstep (pStep ls 0) (pStep ls 1) (pFin ls) here st, junk ++ [List.map (fun (m : Nat) => PyData.int (m : Int)) [idx (addS st.sets (pStep ls 0 here)) (pStep ls 0 here), idx (addS (addS st.sets (pStep ls 0 here)) (pStep ls 1 here)) (pStep ls 1 here)]], _, _, _, _, rfl, ?_, okS, ?_, by rw [bstep_rows]⟩
        · simp [bstep, rowD]
        · rw [bstep_rows]
          rw [← hrun, show 8 - st.rows.length = (8 - (st.rows.length + 1)) + 1 by omega, brun_go hh]
      · rintro x xs ρ' σ' ⟨ms, S, rw', v5, v6, hz, hm, rfl, rfl, hnd, hu3, hlen, hf⟩
        intro N1 P1 hN1 hP1
        cases ms with
        | nil => simp at hz
        | cons m ms =>
          simp only [List.map_cons, List.cons.injEq] at hz
          obtain ⟨rfl, rfl⟩ := hz
          have hm2 : m < 2 := hm m List.mem_cons_self
          have hS8' : S.length ≤ 8 := nodup_len (m := univ3) hnd hu3
          refine TA.cell 5 ?_
          refine TSS.cons ?_
          refine TS.assignComp 6 ?_
          refine TIter.of ?_
          refine TE.call ?_
          refine TE.bltn (by show nsIn (hd.heap_39 w.params) _ _ = _; k_is) (by boot_by_name) (by decide) ⟨_, rfl, KeepOk.type, ?_⟩
          refine TEs.cons ?_
          refine TE.int ?_
          refine TEs.nil ?_
          refine TCall.range1 (⟨_, _, _, TItr.rng rfl rfl (by decide), trivial, ?_⟩)
          refine TComp.pure (ρ₀ := [none, none, some (.d (natsD here)), some (.d (.list (ls.map .int))), some (.d (.int m))]) 1 (intF fun p => here.any fun o => lit ls (o + 3 * m + 6 * p)) id (by decide) (fun _ => trivial) ?_ ?_ ?_ ?_
          · rintro x ρ' σ' hx hr
            refine TA.cell 1 ⟨?_, rfl⟩
            rcases hr with rfl | ⟨y, rfl⟩ <;> rfl
          · rintro x ys hx
            obtain ⟨n, rfl, hn⟩ := r3_mem hx
            refine TB.cmp ?_
            refine TE.comp ?_
            refine TIter.of ?_
            refine TE.cell 2 rfl ?_
            refine ⟨_, _, _, TItr.list (.inl rfl), trivial, ?_⟩
            refine TComp.pure (ρ₀ := [none, none, some (.d (.list (ls.map .int))), some (.d (.int m)), some (.d (.int n))]) 1 (intF fun o => lit ls (o + 3 * m + 6 * n)) id (by have := univ3_len _ hu; simp; omega) (fun _ => trivial) ?_ ?_ ?_ ?_
            · rintro x ρ' σ' hx hr
              refine TA.loc 1 ⟨?_, rfl⟩
              rcases hr with rfl | ⟨y, rfl⟩ <;> rfl
            · rintro x ys' hx
              obtain ⟨o, ho, rfl⟩ := List.mem_map.mp hx
              have ho3 := univ3_small _ hu o ho
              refine TB.plain ?_
              refine TE.sub ?_
              refine TE.cell 2 rfl ?_
              refine TE.binop ?_
              refine TE.binop ?_
              refine TE.loc 1 rfl ?_
              refine TE.binop ?_
              refine TE.int ?_
              refine TE.cell 3 rfl ?_
              refine TV2.mulII (IntMulOk.of_left (by decide)) ?_
              refine TV2.addII ?_
              refine TE.binop ?_
              refine TE.int ?_
              refine TE.cell 4 rfl ?_
              refine TV2.mulII (IntMulOk.of_left (by decide)) ?_
              refine TV2.addII ?_
              obtain ⟨i, h1, h2⟩ := lit_data (ls := ls) (k := o + 3 * m + 6 * n) (by omega)
              refine TV2.subLI (x := .int i) (by omega) (by omega) (by rw [← h1]; congr 1) ?_
              refine TT.int ⟨?_, rfl⟩
              rw [h2]; rfl
            · rintro x ys' hx hp
              exact TE.loc 1 rfl ⟨rfl, rfl⟩
            refine ⟨_, by rw [List.getElem?_append_right (Nat.le_refl _), Nat.sub_self]; rfl, ?_⟩
            rw [nats_filter, List.take_left]
            refine TE.list ?_
            refine TEs.nil ⟨false, [], rfl, by decide, ?_⟩
            refine TV2.neDD (shaped_nats _) (shaped_nats []) ?_
            refine TT.bool ⟨?_, rfl⟩
            rw [show PyData.list [] = natsD [] from rfl, eqv_nats, any_filter]; rfl
          · rintro x ys hx hp
            exact TE.cell 1 rfl ⟨rfl, rfl⟩
          refine ⟨_, by rw [List.getElem?_append_right (Nat.le_refl _), Nat.sub_self]; rfl, ?_⟩
          rw [r3_filter, List.take_left]
          show TSS _ _ _ _ (List.set _ 6 (some (V.d (natsD (pStep ls m here))))) _ _
          refine TSS.consE (ρ₁ := (rP0 ls σ.length (some (.d (natsD here))) (some (.r (σ.length + 2 + junk.length))) (some (.d (.int m))) (some (.d (natsD (pStep ls m here)))))) (σ₁ := σ ++ [(addS S (pStep ls m here)).map natsD, st.rows.map rowD] ++ (junk ++ [rw'.map fun (m : Nat) => PyData.int (m : Int)])) ?_ ?_
          · refine TS.ite ?_
            refine TB.cmp ?_
            refine TE.loc 6 rfl ?_
            refine TE.loc 1 rfl ?_
            refine TV2.notInL (IsL.r ix0) (fun y hy => by obtain ⟨z, _, rfl⟩ := List.mem_map.mp hy; exact shaped_nats z) (shaped_nats _) ?_
            refine TT.bool ?_
            rw [any_nats]
            by_cases hmem : pStep ls m here ∈ S
            · rw [show (!decide (pStep ls m here ∈ S)) = false by simp [hmem]]
              refine TSS.nil ⟨rfl, rfl, ?_⟩
              unfold addS; rw [if_pos hmem]
            · rw [show (!decide (pStep ls m here ∈ S)) = true by simp [hmem]]
              show TSS _ _ _ _ _ _ _
              refine TSS.one ?_
              refine TS.expr ?_
              refine TE.meth ?_
              refine TE.loc 1 rfl ⟨_, TGet.append ix0, KeepOk.builtin, ?_⟩
              refine TEs.cons ?_
              refine TE.loc 6 rfl ?_
              refine TEs.nil ?_
              refine TCall.append ix0 (by simp; omega) ⟨rfl, rfl, ?_⟩
              rw [st0]; unfold addS; rw [if_neg hmem, List.map_append]; rfl
          · have hmem : pStep ls m here ∈ addS S (pStep ls m here) := addS_mem
            obtain ⟨g1, g2⟩ := idx_first hmem
            refine TSS.one ?_
            refine TS.expr ?_
            refine TE.meth ?_
            refine TE.loc 4 rfl ⟨_, TGet.append ix2, KeepOk.builtin, ?_⟩
            refine TEs.cons ?_
            refine TE.meth ?_
            refine TE.loc 1 rfl ⟨_, TGet.index ix0, KeepOk.builtin, ?_⟩
            refine TEs.cons ?_
            refine TE.loc 6 rfl ?_
            refine TEs.nil ?_
            refine TCall.index (j := idx (addS S (pStep ls m here)) (pStep ls m here)) (IsL.r ix0) (fun y hy => by obtain ⟨z, _, rfl⟩ := List.mem_map.mp hy; exact shaped_nats z) (shaped_nats _) (by have := nodup_len (m := univ3) (addS_nodup (x := pStep ls m here) hnd) (addS_u hu3 (univ3_filter _)); simp [univ3] at this ⊢; omega) (by rw [map_nats]; exact g1) (fun q hq => by rw [map_nats]; exact g2 q hq) ?_
            refine TEs.nil ?_
            refine TCall.append ix2 (by simp; omega) ?_
            rw [st2]
            refine ⟨trivial, hN1 _ _ ⟨ms, addS S (pStep ls m here), rw' ++ [idx (addS S (pStep ls m here)) (pStep ls m here)], _, _, rfl, fun z hz => hm z (List.mem_cons_of_mem _ hz), rfl, ?_, addS_nodup hnd, addS_u hu3 (univ3_filter _), by simp at hlen ⊢; omega, hf⟩⟩
            simp
    · rw [show decide ((st.rows.length : Int) < (st.sets.length : Int)) = false by simpa using hlt]
      show TSS _ _ _ _ _ _ _
      refine TSS.nil (hPw _ _ _ ?_)
      refine TSS.one ?_
      refine TS.ret ?_
      refine TE.loc 2 rfl ?_
      have e : st = plainRun ls := by rw [← hrun, brun_end (by omega)]
      show P (fz σ.length (σ ++ [st.sets.map natsD, st.rows.map rowD] ++ junk) (.r (σ.length + 1))) _
      rw [fz_r_ge (by omega) ix1, List.append_assoc, List.take_left, e]
      exact p

end
end Mine
end -- G4
section -- Fw17
set_option tactic.hygienic false
open PySem PySem.W PySem.Calls PyProof.Rows
set_option linter.unusedVariables false
set_option linter.unusedSimpArgs false
set_option autoImplicit false
namespace Mine
section
variable {prog : Program} {w : World} {A : Around} {E : Value → Shared → Prop} {s : Shared}
theorem adjust_upto (b n : Nat) (hb : b ≤ n) : Builtin.Slice.sliceAdjust none (some (b : Int)) 1 (n : Int) = (0, (b : Int)) := by
  unfold Builtin.Slice.sliceAdjust
  have h1 : ¬ ((1 : Int) < 0) := by omega
  have h2 : ¬ ((b : Int) < 0) := by omega
  simp only [h1, h2, if_false]
  congr 1
  omega
theorem places_upto (b : Nat) : Builtin.Slice.slicePlaces 0 (b : Int) 1 = b := by
  unfold Builtin.Slice.slicePlaces
  have h1 : (1 : Int) > 0 := by omega
  simp only [h1, if_true, Int.ediv_one]
  split <;> omega
theorem sliceApplied_upto {sl : Addr} {b n : Nat} {u : Tok} {Q : Int × Int × Nat → Shared → Prop} (hs : s.heap.IsSliceOf sl .none (.int b u) .none) (hb : b ≤ n) (h : Q (0, 1, b) s) :
    wpAny (model prog w) A (Builtin.Slice.sliceApplied (.ref sl) (pure (n : Int))) Q E s := by
  obtain ⟨os, hos, hcs, hds⟩ := id hs
  unfold Builtin.Slice.sliceApplied Builtin.Slice.sliceFields
  refine wpAny_bind (wpAny_bind (wpAny_field hos hds (x := .none) rfl (wpAny_bind (wpAny_field hos hds (x := .int b u) rfl (wpAny_bind (wpAny_field hos hds (x := .none) rfl (wpAny_pure ?_)))))))
  refine wpAny_bind (slicePart_none ?_)
  show wpAny _ _ (if ((1 : Int) == 0) = true then _ else _) _ _ s
  rw [if_neg (by decide)]
  refine wpAny_bind (slicePart_none (wpAny_bind (slicePart_int (wpAny_bind (wpAny_pure ?_)))))
  show wpAny _ _ (match Builtin.Slice.sliceAdjust none (some (b : Int)) 1 (n : Int) with | (lo, hi) => pure (lo, (1 : Int), Builtin.Slice.slicePlaces lo hi 1)) _ _ s
  rw [adjust_upto b n hb]
  show wpAny _ _ (pure ((0 : Int), (1 : Int), Builtin.Slice.slicePlaces 0 (b : Int) 1)) _ _ s
  rw [places_upto b]
  exact wpAny_pure h
theorem pick_upto (xs : Array Value) (b : Nat) : ((List.range b).filterMap fun (k : Nat) => xs[((0 : Int) + (k : Int) * 1).toNat]?).toArray = (xs.toList.take b).toArray := by
  have e : (fun (k : Nat) => xs[((0 : Int) + (k : Int) * 1).toNat]?) = fun k => xs[0 + k]? := by
    funext k
    have : ((0 : Int) + (k : Int) * 1).toNat = 0 + k := by omega
    rw [this]
  rw [e]
  have := pick_run xs 0 b
  rw [List.filterMap_map] at this
  have e2 : ((fun x => xs[x]?) ∘ fun x => 0 + x) = fun k => xs[0 + k]? := rfl
  rw [e2] at this
  rw [this]; rfl
theorem getItem_tuple_upto {t sl : Addr} {items : Array Value} {b : Nat} {u : Tok} {Q : Value → Shared → Prop} (ht : IsTup s.heap t items) (hs : s.heap.IsSliceOf sl .none (.int b u) .none) (hb : b < items.size)
    (h : Q (.ref s.heap.objs.size) { s with heap := s.heap.push { cls := .type "tuple", data := .seq (items.toList.take b).toArray } })
    (hsz : items.size ≤ sizeLine) : wpAny (model prog w) A (getItem (.ref t) (.ref sl)) Q E s := by
  have hdrop : sizeOk (.seq (items.toList.take b).toArray) := by
    show (items.toList.take b).toArray.size ≤ sizeLine
    rw [List.size_toArray, List.length_take, Array.length_toList]
    omega
  obtain ⟨os, hos, hcs, hds⟩ := id hs
  have hTs : s.TypeIs (.ref sl) "slice" := ⟨os, hos, hcs⟩
  unfold getItem
  refine wpAny_holding (wpAny_bind (wpAny_sequenceKey ht.typeIs (by decide) (wpAny_bind (wpAny_callSpecial?_slot (name := Str.ofString "__getitem__") ht.typeIs PyProof.Rows.slot_tuple_getitem
    (wpAny_call_entry PyProof.Rows.slot_tuple_getitem ht.typeIs PyProof.Rows.entry_tuple_getitem ?_ (PyProof.Rows.args_tuple_getitem _ _))))))
  show wpAny _ _ (Builtin.Tuple.tupleItemsOf (.ref t) >>= _) _ _ s
  refine wpAny_bind (tupleItemsOf_ ht ?_)
  refine wpAny_bind (wpAny_typeOf hTs ?_)
  rw [if_pos (by decide)]
  refine wpAny_bind (sliceApplied_upto hs (Nat.le_of_lt hb) ?_)
  have hno : ¬ (((0 : Int) == 0 && (1 : Int) == 1 && b == items.size) = true) := by
    have : (b == items.size) = false := by rw [beq_eq_false_iff_ne]; omega
    rw [this]; simp
  show wpAny _ _ (if ((0 : Int) == 0 && (1 : Int) == 1 && b == items.size) = true then _ else _) _ _ s
  rw [if_neg hno, pick_upto items b]
  first
    | exact wpAny_bind (m := Builtin.Tuple.tupleExact _) (wpAny_newObj_type (wpAny_pure ⟨_, rfl, wpAny_pure h⟩) hdrop)
    | exact wpAny_bind (m := Builtin.Tuple.tupleExact _) (wpAny_newObj_type (wpAny_bind (wpAny_pure (wpAny_pure ⟨_, rfl, wpAny_pure h⟩))) hdrop)
    | exact wpAny_bind (wpAny_bind (m := Builtin.Tuple.tupleExact _) (wpAny_newObj_type (wpAny_pure (wpAny_pure ⟨_, rfl, wpAny_pure h⟩)) hdrop))
    | exact wpAny_bind (wpAny_bind (m := Builtin.Tuple.tupleExact _) (wpAny_newObj_type (wpAny_pure ⟨_, rfl, wpAny_pure h⟩) hdrop))
end
section
variable {c : Cx} {d : Nat} {sc : Sc} {σ : List (List PyData)}
/-- xs[:b] of a tuple, a part of it -/
theorem TV2.subTS0 {value : Expr} {l u : Option Expr} {pos : Pos} {wk : Bool} {xs : List PyData} {b : Nat} {P : V → List (List PyData) → Prop} (hb : b < xs.length) (hsz : xs.length ≤ 1000) (p : P (.e wk (.tuple (xs.take b))) σ) :
    TV2 c d (subscriptTail value (.Slice l u none pos)) (.e wk (.tuple xs)) (.slc none (some b)) σ P := by
  intro A X φ s ca cb Q E C aok R ra rb K
  obtain ⟨la, items, rfl, hl, hm, rd⟩ := ra.tuple_inv
  obtain ⟨sl, lo, hi, rfl, e1, e2, os, hs1, hs2, hs3⟩ := rb
  have hlen : items.size = xs.length := by rw [← RdAll.length_eq rd]; simp
  have rd3 := RdAll.take rd b
  cases lo with
  | some q => simp at e1
  | none =>
    cases hi with
    | none => simp at e2
    | some q =>
      obtain ⟨q1, q2⟩ := q
      have hq : q1 = (b : Int) := by simpa using e2.symm
      subst hq
      refine tail_any hl.typeIs PySem.F.slot_tuple_getitem.lookup (getItem_tuple_upto (b := b) (u := q2) hl ⟨os, cut_sub hs1, hs2, hs3⟩ (by omega) ?_ (by rw [hlen, sizeLine_eq]; omega)) (subscripted_slice _ _)
      have hk : ∀ b' o, s.heap.get? b' = some o → (s.heap.push { cls := .type "tuple", data := .seq (items.toList.take b).toArray }).get? b' = some o := fun b' o e => Heap.get?_push_of_some _ e
      exact K (.e wk (.tuple (xs.take b))) _ φ σ _ (Step.grow (tk := s.toks) hk) (R.grow (tk := s.toks) hk (Nat.le_refl _))
        (Rd.tuple (cut_get.mpr ⟨Heap.get?_push_size _ rfl, R.size_not⟩) rfl rfl (RdAll.keeps .refl (fun b o e => cut_push e) (by simpa using rd3))) p

/-- as TComp.pure, of any target -/
theorem TComp.pureG {target elt : Expr} {ifs : List Expr} {wk : Bool} {Good : List (List PyData) → Prop} {P : List (List PyData) → Prop} (g : PyData → List (Option V)) (p : PyData → Bool) (f : PyData → PyData) {xs : List PyData} {ρ : List (Option V)}
    (hlen : xs.length ≤ 1000) (hG : ∀ ys, Good (σ ++ [ys]))
    (ha : ∀ x ρ' σ', x ∈ xs → ρ' = ρ ∨ (∃ y, ρ' = g y) → TA c d target sc ρ' σ' (.e wk x) fun ρ₁ σ₁ => ρ₁ = g x ∧ σ₁ = σ')
    (ht : ∀ x ys, x ∈ xs → TTests c d sc (g x) ifs (σ ++ [ys]) fun b σ' => b = p x ∧ σ' = σ ++ [ys])
    (he : ∀ x ys, x ∈ xs → p x = true → TE c d elt sc (g x) (σ ++ [ys]) fun v σ' => v = .d (f x) ∧ σ' = σ ++ [ys])
    (hP : P (σ ++ [(xs.filter p).map f])) : TComp c d target elt ifs sc σ.length wk Good xs ρ (σ ++ [[]]) P := by
  refine TComp.ind (fun zs ρ' σ' => ∃ ys, σ' = σ ++ [ys] ∧ (ρ' = ρ ∨ ∃ y, ρ' = g y) ∧ ys ++ (zs.filter p).map f = (xs.filter p).map f ∧ ys.length + zs.length ≤ xs.length ∧ (∀ z ∈ zs, z ∈ xs)) ?_ ?_ ⟨[], rfl, .inl rfl, rfl, by simp, fun z h => h⟩
  · rintro ρ' σ' ⟨ys, rfl, _, h, _⟩
    simp at h
    rw [h]; exact hP
  · rintro x zs ρ' σ' ⟨ys, rfl, hr, h, hl, hm⟩
    have hx : x ∈ xs := hm x List.mem_cons_self
    refine (ha x ρ' _ hx hr).mono fun ρ₁ σ₁ h₁ => ?_
    obtain ⟨rfl, rfl⟩ := h₁
    refine TTests.mono (ht x ys hx) fun b σ₂ h₂ => ?_
    obtain ⟨rfl, rfl⟩ := h₂
    simp only [List.length_cons] at hl
    cases hp : p x with
    | true =>
      refine TE.mono (he x ys hx hp) fun v σ₃ h₃ => ?_
      obtain ⟨rfl, rfl⟩ := h₃
      have hs : (σ ++ [ys]).set σ.length (ys ++ [f x]) = σ ++ [ys ++ [f x]] := by
        rw [List.set_append_right _ _ (Nat.le_refl _)]; simp
      refine ⟨f x, ys, rfl, by simp, by omega, by rw [hs]; exact hG _, ys ++ [f x], hs, .inr ⟨x, rfl⟩, ?_, by simp; omega, fun z hz => hm z (List.mem_cons_of_mem _ hz)⟩
      rw [← h, List.filter_cons, if_pos hp]; simp
    | false =>
      refine ⟨hG _, ys, rfl, .inr ⟨x, rfl⟩, ?_, by omega, fun z hz => hm z (List.mem_cons_of_mem _ hz)⟩
      rw [← h, List.filter_cons, if_neg (by simp [hp])]
end
end Mine
end -- Fw17
section -- G5
set_option tactic.hygienic false
open PySem PySem.W PySem.Calls PyProof.Rows
set_option linter.unusedVariables false
set_option linter.unusedSimpArgs false
set_option autoImplicit false
namespace Mine
/-! the least machine -/
noncomputable def kd (k : List Nat) (i : Nat) : Nat := (k[i]?).getD 0
noncomputable abbrev Tale := Nat × Nat × Nat
noncomputable def talesFrom (k : List Nat) : Nat → List Row → List Tale
  | _, [] => []
  | p, r :: rs => (kd k p, kd k r.1, kd k r.2.1) :: talesFrom k (p + 1) rs
noncomputable def turnK (rows : List Row) (k : List Nat) : List Nat := (talesFrom k 0 rows).map (idx (talesFrom k 0 rows))
noncomputable def kinds0 (rows : List Row) : List Nat := rows.map fun r => if r.2.2 then 1 else 0
noncomputable def kindsF (rows : List Row) : List Nat := rows.foldl (fun k _ => turnK rows k) (kinds0 rows)
noncomputable def rowAt (rows : List Row) (k : Nat) : Row := (rows[k]?).getD (0, 0, false)
noncomputable def leastRun (rows : List Row) : Run Nat := bfs (fun k => kd (kindsF rows) (rowAt rows k).1) (fun k => kd (kindsF rows) (rowAt rows k).2.1) (fun k => (rowAt rows k).2.2) 8 (kd (kindsF rows) 0)

theorem talesFrom_length (k : List Nat) : ∀ (rs : List Row) (p : Nat), (talesFrom k p rs).length = rs.length
  | [], _ => rfl
  | r :: rs, p => by simp [talesFrom, talesFrom_length k rs]
theorem turnK_lt (rows : List Row) (k : List Nat) : ∀ x ∈ turnK rows k, x < rows.length := fun x hx => by
  obtain ⟨t, ht, rfl⟩ := List.mem_map.mp hx
  have := idx_lt ht
  rwa [talesFrom_length] at this
theorem foldl_turn_lt (rows : List Row) : ∀ (zs : List Row) (k : List Nat), (∀ x ∈ k, x < rows.length) → ∀ x ∈ zs.foldl (fun k _ => turnK rows k) k, x < rows.length
  | [], k, h => h
  | z :: zs, k, h => foldl_turn_lt rows zs _ (turnK_lt rows k)
theorem kindsF_lt (rows : List Row) (h : 0 < rows.length) : ∀ x ∈ kindsF rows, x < rows.length := by
  cases rows with
  | nil => simp at h
  | cons r rs => exact foldl_turn_lt (r :: rs) rs _ (turnK_lt _ _)
theorem kd_lt (rows : List Row) (h : 0 < rows.length) (i : Nat) : kd (kindsF rows) i < rows.length := by
  unfold kd
  cases e : (kindsF rows)[i]? with
  | none => exact h
  | some x => exact kindsF_lt rows h x (List.mem_of_getElem? e)
theorem kd_get {k : List Nat} {i : Nat} (h : i < k.length) : (k.map fun (n : Nat) => PyData.int (n : Int))[i]? = some (.int (kd k i)) := by
  simp [kd, h]
noncomputable def taleD (t : Tale) : PyData := .tuple [.int t.1, .int t.2.1, .int t.2.2]
noncomputable def unTale : PyData → Tale
  | .tuple [.int a, .int b, .int c] => (a.toNat, b.toNat, c.toNat)
  | _ => (0, 0, 0)
theorem unTale_taleD (t : Tale) : unTale (taleD t) = t := by obtain ⟨a, b, c⟩ := t; rfl
noncomputable def fst2 : PyData → PyData
  | .tuple [a, _] => a
  | _ => .none
noncomputable def snd2 : PyData → PyData
  | .tuple [_, b] => b
  | _ => .none
noncomputable def taleF (k : List Nat) : PyData → PyData
  | .tuple [.int p, .tuple [.int a, .int b, .bool _]] => .tuple [.int (kd k p.toNat), .int (kd k a.toNat), .int (kd k b.toNat)]
  | _ => .none
theorem tales_data (k : List Nat) : ∀ (rs : List Row) (p : Nat), ((enumL p (rs.map rowD)).filter fun _ => true).map (taleF k) = (talesFrom k p rs).map taleD
  | [], _ => rfl
  | r :: rs, p => by
    have := tales_data k rs (p + 1)
    simp only [List.map_cons, enumL, List.filter_cons, if_true, talesFrom]
    rw [this]
    rfl
theorem kinds_data : ∀ rs : List Row, ((rs.map rowD).filter fun _ => true).map (fun x => match x with | .tuple [_, _, .bool b] => PyData.int (if b then 1 else 0) | _ => .none) = (kinds0 rs).map fun (n : Nat) => PyData.int (n : Int)
  | [] => rfl
  | r :: rs => by
    have := kinds_data rs
    simp only [List.map_cons, List.filter_cons, if_true, kinds0] at this ⊢
    rw [this]
    obtain ⟨a, b, c⟩ := r
    cases c <;> rfl
theorem idx_data (T : List Tale) : ∀ S : List Tale, ((S.map taleD).filter fun _ => true).map (fun x => PyData.int ((idx T (unTale x) : Nat) : Int)) = (S.map (idx T)).map fun (n : Nat) => PyData.int (n : Int)
  | [] => rfl
  | t :: S => by
    have := idx_data T S
    simp only [List.map_cons, List.filter_cons, if_true]
    rw [this, unTale_taleD]
theorem taleD_shaped (t : Tale) : SeqAt.shaped (taleD t) = true := by
  simp [SeqAt.shaped, taleD, PyData.canLay0, PyData.canLayAll0, PyData.depth, PyData.depthAll]
theorem eqv_tale (s t : Tale) : (taleD s).eqv (taleD t) = decide (s = t) := by
  obtain ⟨a, b, c⟩ := s; obtain ⟨a', b', c'⟩ := t
  simp only [taleD, PyData.eqv, PyData.eqvAll, Bool.and_true]
  rw [Bool.eq_iff_iff]
  simp
  omega
theorem map_tales (t : Tale) (S : List Tale) : (S.map taleD).map (·.eqv (taleD t)) = S.map fun y => decide (y = t) := by
  rw [List.map_map]
  exact List.map_congr_left fun y _ => eqv_tale y t
theorem any_ints (t : Nat) : ∀ S : List Nat, (S.map fun (n : Nat) => PyData.int (n : Int)).any (·.eqv (.int t)) = decide (t ∈ S)
  | [] => rfl
  | x :: S => by
    rw [List.map_cons, List.any_cons, any_ints t S]
    show ((x : Int) == (t : Int) || _) = _
    by_cases h : x = t
    · subst h; simp
    · have h1 : ¬ t = x := fun e => h e.symm
      have h2 : ((x : Int) == (t : Int)) = false := beq_eq_false_iff_ne.mpr (by exact_mod_cast h)
      simp [h2, h1]
theorem map_ints (t : Nat) (S : List Nat) : (S.map fun (n : Nat) => PyData.int (n : Int)).map (·.eqv (.int t)) = S.map fun y => decide (y = t) := by
  rw [List.map_map]
  refine List.map_congr_left fun y _ => ?_
  show ((y : Int) == (t : Int)) = _
  rw [Bool.eq_iff_iff]; simp; omega
theorem int_shaped (i : Int) : SeqAt.shaped (.int i) = true := rfl
theorem idx_addS {α : Type} [DecidableEq α] {l : List α} {x y : α} (h : x ∈ l) : idx (addS l y) x = idx l x := by
  unfold addS
  split
  · rfl
  · unfold idx; rw [List.idxOf_append, if_pos h]
theorem rows_get {rows : List Row} {k : Nat} (h : k < rows.length) : (rows.map rowD)[k]? = some (rowD (rowAt rows k)) := by
  simp [rowAt, h]
theorem rowAt_mem {rows : List Row} {k : Nat} (h : k < rows.length) : rowAt rows k ∈ rows := by
  have : rowAt rows k = rows[k] := by simp [rowAt, h]
  rw [this]; exact List.getElem_mem h
section
variable {w : World} {base : Heap} {s0 : Shared} {loose : List Str} {mean : ExcName → Option Value} {mg mb : Str → Option Value} {pin : Phi} {d : Nat} {σ : List (List PyData)} {P : V → List (List PyData) → Prop}

noncomputable def rQ0 (rows : List Row) (v1 v2 v3 v4 v5 v6 v7 : Option V) : List (Option V) := [some (.d (rowsD rows)), v1, v2, v3, v4, v5, v6, v7, none, none]
set_option maxRecDepth 100000 in
theorem least_spec {rows : List Row} (h1 : 0 < rows.length) (h8 : rows.length ≤ 8) (hidx : ∀ r ∈ rows, r.1 < rows.length ∧ r.2.1 < rows.length) (p : P (.d (rowsD (leastRun rows).rows)) σ) : TCall (cx w base s0 loose mean mg mb pin) (d + 1) (.ref 264) [.d (rowsD rows)] [] [] σ P := by
  have KX : (hd.heap_39 w.params).In base → True := fun _ => trivial
  have PP : PySem.Challenge.rw_wc0014_01.prog = PySem.Challenge.rw_wc0014_01.prog := rfl
  revert KX PP; k_fill; intro KX PP
  refine TCall.def_ (hK := by show List.lookup 264 (hd.heap_39 w.params) = _; k_is) rfl rfl rfl rfl rfl ?hcd rfl rfl rfl ?hnd ?hps ?hpk rfl (TBind.plain (ps := [Str.ofString "rows"]) ?hb) ?hmain
  case hcd => show codeIn (hd.heap_39 w.params) _ _ = true; k_is
  case hnd => decide
  case hps => decide
  case hpk => decide
  case hb =>
    intro cvs hl
    obtain ⟨x0, rfl⟩ := len1 hl
    rfl
  case hmain =>
    refine TFin.of ?_
    refine TSS.cons ?_
    refine TS.assign ?_
    refine TE.comp ?_
    refine TIter.of ?_
    refine TE.loc 0 rfl ?_
    refine ⟨_, _, _, TItr.list (.inl rfl), trivial, ?_⟩
    refine TComp.pure (ρ₀ := [none, none, none]) 1 (fun _ => true) (fun x => match x with | .tuple [_, _, .bool b] => PyData.int (if b then 1 else 0) | _ => .none) (by simp; omega) (fun _ => trivial) ?_ ?_ ?_ ?_
    · rintro x ρ' σ' hx hr
      refine TA.loc 1 ⟨?_, rfl⟩
      rcases hr with rfl | ⟨y, rfl⟩ <;> rfl
    · rintro x ys hx
      exact ⟨rfl, rfl⟩
    · rintro x ys hx _
      obtain ⟨r, hr, rfl⟩ := List.mem_map.mp hx
      refine TE.call ?_
      refine TE.bltn (by show nsIn (hd.heap_39 w.params) _ _ = _; k_is) (by boot_by_name) (by decide) ⟨_, rfl, KeepOk.type, ?_⟩
      refine TEs.cons ?_
      refine TE.sub ?_
      refine TE.loc 1 rfl ?_
      refine TE.int ?_
      refine TV2.subTI (by decide) (by decide) (x := .bool r.2.2) rfl ?_
      refine TEs.nil ?_
      exact TCall.intBool ⟨rfl, rfl⟩
    refine ⟨_, by rw [List.getElem?_append_right (Nat.le_refl _), Nat.sub_self]; rfl, ?_⟩
    rw [kinds_data, List.take_left]
    refine TA.cell 2 ?_
    refine TSS.cons ?_
    refine TS.for_ ?_
    refine TIter.of ?_
    refine TE.loc 0 rfl ?_
    refine ⟨_, _, _, TItr.list (.inl rfl), ?_⟩
    refine TLoop.indN (fun ys ρ' σ' => ∃ (zs : List Row) (k : List Nat) (v3 v4 : Option V) (junk : List (List PyData)), ys = zs.map rowD ∧ ρ' = (rQ0 rows none (some (.d (natsD k))) v3 v4 none none none) ∧ σ' = σ ++ junk ∧ k.length = rows.length ∧ zs.foldl (fun k _ => turnK rows k) k = kindsF rows) ?_ ?_ ⟨rows, kinds0 rows, none, none, [], rfl, rfl, by simp, by simp [kinds0], rfl⟩
    · rintro ρ' σ' ⟨zs, k, v3, v4, junk, hz, rfl, rfl, hkl, hk⟩
      intro P1 hP1
      have : zs = [] := by cases zs with | nil => rfl | cons _ _ => simp at hz
      subst this
      replace hk : k = kindsF rows := hk
      subst hk
      generalize hB : σ ++ junk = B
      have hlast : ∀ L : List PyData, P (.d (.list L)) σ → P (fz σ.length (B ++ [L]) (.r B.length)) ((B ++ [L]).take σ.length) := fun L hL => by
        have h1 : σ.length ≤ B.length := by rw [← hB]; simp
        rw [fz_r_ge (by omega) (by simp : (B ++ [L])[B.length]? = some L), ← hB, List.append_assoc, List.take_left]
        exact hL
      refine TSS.nil (hP1 _ _ _ ?_)
      refine TSS.cons ?_
      refine TS.assignS [Str.ofString "seen", Str.ofString "least"] ?_
      refine TEs.cons ?_
      refine TE.listT ?_
      refine TEs.cons ?_
      refine TE.sub ?_
      refine TE.cell 2 rfl ?_
      refine TE.int ?_
      refine TV2.subLI (by decide) (by decide) (kd_get (k := kindsF rows) (i := 0) (by rw [hkl]; exact h1)) ?_
      refine TEs.nil ⟨[.int (kd (kindsF rows) 0)], rfl, by simp, ?_⟩
      refine TEs.cons ?_
      refine TE.listT ?_
      refine TEs.nil ⟨[], rfl, by decide, ?_⟩
      refine TEs.nil ⟨rfl, by simp, ?_⟩
      refine TN.loc 6 ?_
      refine TN.loc 5 ?_
      refine TSS.cons ?_
      refine TS.whileN (fun n ρ' σ' => ∃ (st : Run Nat) (v1 v7 : Option V), ρ' = (rQ0 rows v1 (some (.d (natsD (kindsF rows)))) v3 v4 (some (.r B.length)) (some (.r (B.length + 1))) v7) ∧ σ' = B ++ [st.sets.map fun (n : Nat) => PyData.int (n : Int), st.rows.map rowD] ++ [] ∧ ROk (fun k => kd (kindsF rows) (rowAt rows k).1) (fun k => kd (kindsF rows) (rowAt rows k).2.1) (· < rows.length) st ∧ brun (fun k => kd (kindsF rows) (rowAt rows k).1) (fun k => kd (kindsF rows) (rowAt rows k).2.1) (fun k => (rowAt rows k).2.2) (8 - st.rows.length) st = leastRun rows ∧ n = 8 - st.rows.length) 8 ?_ ?_
      · refine ⟨⟨[kd (kindsF rows) 0], []⟩, none, none, ?_, by simp, ROk.start (kd_lt rows h1 0), rfl, rfl⟩
        simp only [List.length_append, List.length_singleton]; rfl
      rintro n ρ' σ' ⟨st, v1, v7, rfl, rfl, ok, hrun, rfl⟩
      intro Nw Pw hNw hPw
      have hS8 : st.sets.length ≤ 8 := Nat.le_trans (ok.len (univ := List.range rows.length) fun x h => List.mem_range.mpr h) (by simp; omega)
      have hR8 : st.rows.length ≤ 8 := Nat.le_trans ok.le hS8
      refine TB.cmp ?_
      refine TE.call ?_
      refine TE.bltn (by show nsIn (hd.heap_39 w.params) _ _ = _; k_is) (by boot_by_name) (by decide) ⟨_, rfl, KeepOk.builtin, ?_⟩
      refine TEs.cons ?_
      refine TE.loc 6 rfl ?_
      refine TEs.nil ?_
      refine TCall.lenL (IsL.r ix1) (by simp; omega) ?_
      refine TE.call ?_
      refine TE.bltn (by show nsIn (hd.heap_39 w.params) _ _ = _; k_is) (by boot_by_name) (by decide) ⟨_, rfl, KeepOk.builtin, ?_⟩
      refine TEs.cons ?_
      refine TE.loc 5 rfl ?_
      refine TEs.nil ?_
      refine TCall.lenL (IsL.r ix0) (by simp; omega) ?_
      refine TV2.ltII ?_
      refine TT.bool ?_
      simp only [List.length_map]
      by_cases hlt : st.rows.length < st.sets.length
      · rw [show decide ((st.rows.length : Int) < (st.sets.length : Int)) = true by simpa using hlt]
        have hh : st.sets[st.rows.length]? = some st.sets[st.rows.length] := List.getElem?_eq_getElem hlt
        generalize st.sets[st.rows.length] = here at hh
        have hu := ok.u here (List.mem_of_getElem? hh)
        obtain ⟨hi1, hi2⟩ := hidx _ (rowAt_mem hu)
        show TSS _ _ _ _ _ _ _
        refine TSS.cons ?_
        refine TS.assignN ?_
        refine TE.sub ?_
        refine TE.loc 0 rfl ?_
        refine TE.sub ?_
        refine TE.loc 5 rfl ?_
        refine TE.call ?_
        refine TE.bltn (by show nsIn (hd.heap_39 w.params) _ _ = _; k_is) (by boot_by_name) (by decide) ⟨_, rfl, KeepOk.builtin, ?_⟩
        refine TEs.cons ?_
        refine TE.loc 6 rfl ?_
        refine TEs.nil ?_
        refine TCall.lenL (IsL.r ix1) (by simp; omega) ?_
        refine TV2.subRI ix0 (by omega) (by simp; omega) (x := .int here) (by simp [hh]) ?_
        refine TV2.subLI (x := rowD (rowAt rows here)) (by omega) (by omega) (by rw [Int.toNat_natCast]; exact rows_get hu) ?_
        refine TA.loc 1 ?_
        refine TSS.cons ?_
        refine TS.for_ ?_
        refine TIter.of ?_
        refine TE.sub ?_
        refine TE.loc 1 rfl ?_
        refine TE.slice0u ?_
        refine TE.int ⟨_, _, rfl, ?_⟩
        refine TV2.subTS0 (b := 2) (by simp) (by simp) ⟨_, _, _, TItr.tuple rfl, ?_⟩
        refine TLoop.indN (fun ys ρ' σ' => ∃ (ms S : List Nat) (v7 : Option V), ys = (ms.map fun (m : Nat) => PyData.int (m : Int)) ∧ (∀ m ∈ ms, m < rows.length) ∧ ρ' = (rQ0 rows (some (.d (rowD (rowAt rows here)))) (some (.d (natsD (kindsF rows)))) v3 v4 (some (.r B.length)) (some (.r (B.length + 1))) v7) ∧ σ' = B ++ [S.map fun (n : Nat) => PyData.int (n : Int), st.rows.map rowD] ++ [] ∧ S.Nodup ∧ (∀ x ∈ S, x < rows.length) ∧ ms.foldl (fun S m => addS S (kd (kindsF rows) m)) S = addS (addS st.sets (kd (kindsF rows) (rowAt rows here).1)) (kd (kindsF rows) (rowAt rows here).2.1)) ?_ ?_ ⟨[(rowAt rows here).1, (rowAt rows here).2.1], st.sets, v7, rfl, by simp [hi1, hi2], rfl, rfl, ok.nd, ok.u, rfl⟩
        · rintro ρ' σ' ⟨ms, S, v7, hz, hm, rfl, rfl, hnd, hSu, hf⟩
          intro P2 hP2
          have : ms = [] := by cases ms with | nil => rfl | cons _ _ => simp at hz
          subst this
          replace hf : S = addS (addS st.sets (kd (kindsF rows) (rowAt rows here).1)) (kd (kindsF rows) (rowAt rows here).2.1) := hf
          have okS := ok.step (fin := fun k => (rowAt rows k).2.2) (fun x hx => ⟨kd_lt rows h1 _, kd_lt rows h1 _⟩) hh
          have hSl : S.length ≤ 8 := Nat.le_trans (nodup_len (m := List.range rows.length) hnd fun x hx => List.mem_range.mpr (hSu x hx)) (by simp; omega)
          have m1 : kd (kindsF rows) (rowAt rows here).1 ∈ S := by rw [hf]; exact addS_sub addS_mem
          have m2 : kd (kindsF rows) (rowAt rows here).2.1 ∈ S := by rw [hf]; exact addS_mem
          obtain ⟨g1, g2⟩ := idx_first m1
          obtain ⟨g3, g4⟩ := idx_first m2
          refine TSS.nil (hP2 _ _ _ ?_)
          refine TSS.one ?_
          refine TS.expr ?_
          refine TE.meth ?_
          refine TE.loc 6 rfl ⟨_, TGet.append ix1, KeepOk.builtin, ?_⟩
          refine TEs.cons ?_
          refine TE.tuple ?_
          refine TEs.cons ?_
          refine TE.meth ?_
          refine TE.loc 5 rfl ⟨_, TGet.index ix0, KeepOk.builtin, ?_⟩
          refine TEs.cons ?_
          refine TE.sub ?_
          refine TE.cell 2 rfl ?_
          refine TE.sub ?_
          refine TE.loc 1 rfl ?_
          refine TE.int ?_
          refine TV2.subTI (by decide) (by decide) (x := .int (rowAt rows here).1) rfl ?_
          refine TV2.subLI (by omega) (by omega) (by rw [Int.toNat_natCast]; exact kd_get (k := kindsF rows) (i := (rowAt rows here).1) (by rw [hkl]; exact hi1)) ?_
          refine TEs.nil ?_
          refine TCall.index (j := idx S (kd (kindsF rows) (rowAt rows here).1)) (IsL.r ix0) (fun y hy => by obtain ⟨z, _, rfl⟩ := List.mem_map.mp hy; rfl) rfl (by simp; omega) (by rw [map_ints]; exact g1) (fun q hq => by rw [map_ints]; exact g2 q hq) ?_
          refine TEs.cons ?_
          refine TE.meth ?_
          refine TE.loc 5 rfl ⟨_, TGet.index ix0, KeepOk.builtin, ?_⟩
          refine TEs.cons ?_
          refine TE.sub ?_
          refine TE.cell 2 rfl ?_
          refine TE.sub ?_
          refine TE.loc 1 rfl ?_
          refine TE.int ?_
          refine TV2.subTI (by decide) (by decide) (x := .int (rowAt rows here).2.1) rfl ?_
          refine TV2.subLI (by omega) (by omega) (by rw [Int.toNat_natCast]; exact kd_get (k := kindsF rows) (i := (rowAt rows here).2.1) (by rw [hkl]; exact hi2)) ?_
          refine TEs.nil ?_
          refine TCall.index (j := idx S (kd (kindsF rows) (rowAt rows here).2.1)) (IsL.r ix0) (fun y hy => by obtain ⟨z, _, rfl⟩ := List.mem_map.mp hy; rfl) rfl (by simp; omega) (by rw [map_ints]; exact g3) (fun q hq => by rw [map_ints]; exact g4 q hq) ?_
          refine TEs.cons ?_
          refine TE.sub ?_
          refine TE.loc 1 rfl ?_
          refine TE.int ?_
          refine TV2.subTI (by decide) (by decide) (x := .bool (rowAt rows here).2.2) rfl ?_
          refine TEs.nil ⟨false, [.int _, .int _, .bool _], rfl, by simp, ?_⟩
          refine TEs.nil ?_
          refine TCall.append ix1 (by simp; omega) ?_
          rw [st1]
          refine hNw (8 - (st.rows.length + 1)) _ _ (by omega) ⟨bstep (fun k => kd (kindsF rows) (rowAt rows k).1) (fun k => kd (kindsF rows) (rowAt rows k).2.1) (fun k => (rowAt rows k).2.2) here st, _, _, rfl, ?_, okS, ?_, by rw [bstep_rows]⟩
          · have e1 : idx S (kd (kindsF rows) (rowAt rows here).1) = idx (addS st.sets (kd (kindsF rows) (rowAt rows here).1)) (kd (kindsF rows) (rowAt rows here).1) := by rw [hf, idx_addS addS_mem]
            rw [e1, hf]
            simp [bstep, rowD]
          · rw [bstep_rows]
            rw [← hrun, show 8 - st.rows.length = (8 - (st.rows.length + 1)) + 1 by omega, brun_go hh]
        · rintro x xs ρ' σ' ⟨ms, S, v7, hz, hm, rfl, rfl, hnd, hSu, hf⟩
          intro N2 P2 hN2 hP2
          cases ms with
          | nil => simp at hz
          | cons m ms =>
            simp only [List.map_cons, List.cons.injEq] at hz
            obtain ⟨rfl, rfl⟩ := hz
            have hmn : m < rows.length := hm m List.mem_cons_self
            have hSl : S.length ≤ 8 := Nat.le_trans (nodup_len (m := List.range rows.length) hnd fun x hx => List.mem_range.mpr (hSu x hx)) (by simp; omega)
            refine TA.loc 7 ?_
            refine TSS.one ?_
            refine TS.ite ?_
            refine TB.cmp ?_
            refine TE.sub ?_
            refine TE.cell 2 rfl ?_
            refine TE.loc 7 rfl ?_
            refine TV2.subLI (by omega) (by omega) (by rw [Int.toNat_natCast]; exact kd_get (k := kindsF rows) (i := m) (by rw [hkl]; exact hmn)) ?_
            refine TE.loc 5 rfl ?_
            refine TV2.notInL (IsL.r ix0) (fun y hy => by obtain ⟨z, _, rfl⟩ := List.mem_map.mp hy; rfl) rfl ?_
            refine TT.bool ?_
            rw [any_ints]
            by_cases hmem : kd (kindsF rows) m ∈ S
            · rw [show (!decide (kd (kindsF rows) m ∈ S)) = false by simp [hmem]]
              refine TSS.nil ⟨trivial, hN2 _ _ ⟨ms, addS S (kd (kindsF rows) m), _, rfl, fun z hz => hm z (List.mem_cons_of_mem _ hz), rfl, ?_, addS_nodup hnd, addS_u hSu (kd_lt rows h1 m), hf⟩⟩
              unfold addS; rw [if_pos hmem]
            · rw [show (!decide (kd (kindsF rows) m ∈ S)) = true by simp [hmem]]
              show TSS _ _ _ _ _ _ _
              refine TSS.one ?_
              refine TS.expr ?_
              refine TE.meth ?_
              refine TE.loc 5 rfl ⟨_, TGet.append ix0, KeepOk.builtin, ?_⟩
              refine TEs.cons ?_
              refine TE.sub ?_
              refine TE.cell 2 rfl ?_
              refine TE.loc 7 rfl ?_
              refine TV2.subLI (by omega) (by omega) (by rw [Int.toNat_natCast]; exact kd_get (k := kindsF rows) (i := m) (by rw [hkl]; exact hmn)) ?_
              refine TEs.nil ?_
              refine TCall.append ix0 (by simp; omega) ?_
              rw [st0]
              refine ⟨trivial, hN2 _ _ ⟨ms, addS S (kd (kindsF rows) m), _, rfl, fun z hz => hm z (List.mem_cons_of_mem _ hz), rfl, ?_, addS_nodup hnd, addS_u hSu (kd_lt rows h1 m), hf⟩⟩
              unfold addS; rw [if_neg hmem, List.map_append]; rfl
      · rw [show decide ((st.rows.length : Int) < (st.sets.length : Int)) = false by simpa using hlt]
        show TSS _ _ _ _ _ _ _
        refine TSS.nil (hPw _ _ _ ?_)
        refine TSS.one ?_
        refine TS.ret ?_
        refine TE.loc 6 rfl ?_
        have e : st = leastRun rows := by rw [← hrun, brun_end (by omega)]
        have hB' : σ.length ≤ B.length := by rw [← hB]; simp
        show P (fz σ.length (B ++ [_, _] ++ []) (.r (B.length + 1))) _
        rw [fz_r_ge (by omega) ix1, ← hB, List.append_assoc, List.append_assoc, List.take_left, e]
        exact p
    · rintro x xs ρ' σ' ⟨zs, k, v3, v4, junk, hz, rfl, rfl, hkl, hk⟩
      intro N1 P1 hN1 hP1
      cases zs with
      | nil => simp at hz
      | cons z zs =>
        simp only [List.map_cons, List.cons.injEq] at hz
        obtain ⟨rfl, rfl⟩ := hz
        refine TA.loc 3 ?_
        refine TSS.cons ?_
        refine TS.assign ?_
        refine TE.compT ?_
        refine TIter.enum ?_
        refine TE.bltn (by show nsIn (hd.heap_39 w.params) _ _ = _; k_is) (by boot_by_name) (by decide) ⟨rfl, ?_⟩
        refine TE.loc 0 rfl ⟨_, _, _, TSrc.list, trivial, ?_⟩
        refine TComp.pureG (fun x => [none, some (.d (fst2 x)), some (.d (snd2 x)), some (.d (natsD k))]) (fun _ => true) (taleF k) (by rw [enumL_length]; simp; omega) (fun _ => trivial) ?_ ?_ ?_ ?_
        · rintro x ρ' σ' hx hr
          obtain ⟨i, hi⟩ := List.mem_iff_getElem?.mp hx
          obtain ⟨y, hy, rfl⟩ := enumL_get _ _ _ _ hi
          refine TA.tuple2 (TA.loc 1 (TA.loc 2 ⟨?_, rfl⟩))
          rcases hr with rfl | ⟨y, rfl⟩ <;> rfl
        · rintro x ys hx
          exact ⟨rfl, rfl⟩
        · rintro x ys hx _
          obtain ⟨i, hi⟩ := List.mem_iff_getElem?.mp hx
          obtain ⟨y, hy, rfl⟩ := enumL_get _ _ _ _ hi
          obtain ⟨r, hr, rfl⟩ := List.mem_map.mp (List.mem_of_getElem? hy)
          have hil : 0 + i < rows.length := by have := (List.getElem?_eq_some_iff.mp hy).1; simpa using this
          obtain ⟨hi1, hi2⟩ := hidx r hr
          refine TE.tuple ?_
          refine TEs.cons ?_
          refine TE.sub ?_
          refine TE.cell 3 rfl ?_
          refine TE.loc 1 rfl ?_
          refine TV2.subLI (by omega) (by omega) (by rw [Int.toNat_natCast]; exact kd_get (k := k) (i := 0 + i) (by rw [hkl]; exact hil)) ?_
          refine TEs.cons ?_
          refine TE.sub ?_
          refine TE.cell 3 rfl ?_
          refine TE.sub ?_
          refine TE.loc 2 rfl ?_
          refine TE.int ?_
          refine TV2.subTI (by decide) (by decide) (x := .int r.1) rfl ?_
          refine TV2.subLI (by omega) (by omega) (by rw [Int.toNat_natCast]; exact kd_get (k := k) (i := r.1) (by rw [hkl]; exact hi1)) ?_
          refine TEs.cons ?_
          refine TE.sub ?_
          refine TE.cell 3 rfl ?_
          refine TE.sub ?_
          refine TE.loc 2 rfl ?_
          refine TE.int ?_
          refine TV2.subTI (by decide) (by decide) (x := .int r.2.1) rfl ?_
          refine TV2.subLI (by omega) (by omega) (by rw [Int.toNat_natCast]; exact kd_get (k := k) (i := r.2.1) (by rw [hkl]; exact hi2)) ?_
          exact TEs.nil ⟨false, [.int _, .int _, .int _], rfl, by simp, rfl, rfl⟩
        show TA _ _ _ _ _ _ _ _
        rw [tales_data, List.take_of_length_le (by simp; omega)]
        refine TA.cell 4 ?_
        generalize hT : talesFrom k 0 rows = T
        have hTl : T.length = rows.length := by rw [← hT, talesFrom_length]
        have ixT : ((σ ++ junk) ++ [T.map taleD])[(σ ++ junk).length]? = some (T.map taleD) := by simp
        refine TSS.one ?_
        refine TS.assign ?_
        refine TE.comp ?_
        refine TIter.of ?_
        refine TE.cell 4 rfl ?_
        refine ⟨_, _, _, TItr.ref (.inl rfl) ixT, by simp, ?_⟩
        refine TComp.pure (ρ₀ := [none, none, some (.r (σ ++ junk).length)]) 1 (fun _ => true) (fun x => PyData.int ((idx T (unTale x) : Nat) : Int)) (by simp; omega) (fun ys => by simp) ?_ ?_ ?_ ?_
        · rintro x ρ' σ' hx hr
          refine TA.loc 1 ⟨?_, rfl⟩
          rcases hr with rfl | ⟨y, rfl⟩ <;> rfl
        · rintro x ys hx
          exact ⟨rfl, rfl⟩
        · rintro x ys hx _
          obtain ⟨t, ht, rfl⟩ := List.mem_map.mp hx
          obtain ⟨g1, g2⟩ := idx_first ht
          have ixT' : (((σ ++ junk) ++ [T.map taleD]) ++ [ys])[(σ ++ junk).length]? = some (T.map taleD) := by simp
          refine TE.meth ?_
          refine TE.cell 2 rfl ⟨_, TGet.index ixT', KeepOk.builtin, ?_⟩
          refine TEs.cons ?_
          refine TE.loc 1 rfl ?_
          refine TEs.nil ?_
          refine TCall.index (j := idx T t) (IsL.r ixT') (fun y hy => by obtain ⟨z, _, rfl⟩ := List.mem_map.mp hy; exact taleD_shaped z) (taleD_shaped t) (by simp; omega) (by rw [map_tales]; exact g1) (fun q hq => by rw [map_tales]; exact g2 q hq) ⟨?_, rfl⟩
          rw [unTale_taleD]
        refine ⟨_, by rw [List.getElem?_append_right (Nat.le_refl _), Nat.sub_self]; rfl, ?_⟩
        rw [idx_data, List.take_left]
        refine TA.cell 2 ?_
        refine ⟨trivial, hN1 _ _ ⟨zs, T.map (idx T), _, _, junk ++ [T.map taleD], rfl, rfl, by rw [List.append_assoc], by simp [hTl], ?_⟩⟩
        rw [← hk, List.foldl_cons]; unfold turnK; rw [hT]

end
end Mine
end -- G5
section -- Fw18
set_option tactic.hygienic false
open PySem PySem.W PySem.Calls PyProof.Rows
set_option linter.unusedVariables false
set_option linter.unusedSimpArgs false
set_option autoImplicit false
namespace Mine
section
set_option maxRecDepth 100000
theorem plainAttrs_pat : PlainAttrs "re.Pattern" :=
  ⟨⟨"object.__getattribute__", by rw [typeLookup_type, builtinLookup_eq_fast]; kernel_rfl, by decide +kernel⟩, by rw [typeLookup_type, builtinLookup_eq_fast]; kernel_rfl⟩
theorem slot_pat_search : Slot "re.Pattern" "search" "re.Pattern.search" :=
  .of (owner := "re.Pattern") (n := "search") (by rw [typeLookup_type, builtinLookup_eq_fast]; kernel_rfl) (by decide +kernel) (by decide +kernel) (by decide +kernel)
    (by first | exact .inl (by decide +kernel) | exact .inr (by decide +kernel)) (by rw [isSubtype_type]; kernel_rfl)
theorem type_pat_search : typeOf (.builtin "re.Pattern.search") = pure (.type "method_descriptor") := by show builtinType _ = _; rw [builtinType_eq_fast]; kernel_rfl
theorem entry_pat_search : entryFor table "re.Pattern.search" = some Builtin.«re.Pattern.search» := entryFor_of_tree (by kernel_rfl)
theorem args_pat_search (a b : Value) : argsOk "re.Pattern.search" ⟨[a, b], []⟩ := by
  unfold argsOk; kernel_rfl
end
section
variable {prog : Program} {w : World} {A : Around} {E : Value → Shared → Prop} {s : Shared}
theorem rules_run {Q : PUnit → Shared → Prop} (p : Nat → Bool) (tag : Nat → String) : ∀ (l : List Nat), Q ⟨⟩ s → wpAny (model prog w) A (forIn l PUnit.unit fun i _ => if p i = true then do rule (tag i); pure (ForInStep.yield PUnit.unit) else pure (ForInStep.yield PUnit.unit)) Q E s
  | [], h => by rw [List.forIn_nil]; exact wpAny_pure h
  | i :: l, h => by
    rw [List.forIn_cons]
    cases p i with
    | true => exact wpAny_bind (wpAny_bind (wpAny_rule (wpAny_pure (rules_run p tag l h))))
    | false => exact wpAny_bind (wpAny_pure (rules_run p tag l h))
open Builtin.Re in
theorem runToEnd_failed {m : Sre.M} {Q : Option Sre.M → Shared → Prop} (hm : (m.runFor 4).outcome = some .failed) (h : Q none s) : wpAny (model prog w) A (reRunToEnd m) Q E s := by
  unfold reRunToEnd
  have e : reDrive (2 ^ 64) m = pure (m.runFor 4) := by
    rw [show (2 : Nat) ^ 64 = 18446744073709551615 + 1 by decide]
    unfold reDrive
    show (if (m.runFor reTurnSteps).outcome.isSome = true then _ else _) = _
    have : (m.runFor reTurnSteps).outcome.isSome = true := by show (m.runFor 4).outcome.isSome = true; rw [hm]; rfl
    rw [if_pos this]; rfl
  rw [e]
  refine wpAny_bind (wpAny_pure (wpAny_bind (rules_run (fun i => (m.runFor 4).seen.has i) (fun i => Sre.names.getD i "") _ ?_)))
  rw [hm]
  exact wpAny_pure h

/-- a compiled pattern over texts, of no groups, its code at q -/
structure PatAt (h : Heap) (p q : Addr) (code : Array Value) : Prop where
  pat : ∃ a b c d, h.get? p = some { cls := .type "re.Pattern", data := .fields #[a, b, .int 0 0, c, d, .ref q, .int 0 0] }
  code : h.get? q = some { cls := .type "tuple", data := .seq code }
noncomputable def codeOf (code : Array Value) : Array Nat := (code.map Builtin.Re.reRawOf).map (·.toNat)
open Builtin.Re in
theorem target_run {p q : Addr} {code : Array Value} {x : Str} {t : Tok} {Q : ReTarget → Shared → Prop} (P : PatAt s.heap p q code) (hx : x.length ≤ 1000)
    (h : Q { pattern := .ref p, string := .str x t, code := codeOf code, text := x.cps, kind := 0, groups := 0, pos := 0, lim := x.cps.size } s) :
    wpAny (model prog w) A (reTarget "re.Pattern.search" "search" ⟨[.ref p, .str x t], []⟩) Q E s := by
  obtain ⟨⟨a, b, c, d, hp⟩, hq⟩ := P
  unfold reTarget
  have hn : reNamed "re.Pattern.search" "search" ["string", "pos", "endpos"] 1 [.str x t] [] = pure [some (.str x t), none, none] := by rfl
  dsimp only
  rw [hn]
  refine wpAny_bind (wpAny_pure ?_)
  dsimp only
  refine wpAny_bind (wpAny_pure (wpAny_bind (wpAny_pure (wpAny_bind (wpAny_fieldsOf hp rfl ?_)))))
  have ht : reTextOf (.str x t) = pure (x.cps, 0) := by rfl
  rw [ht]
  refine wpAny_bind (wpAny_pure ?_)
  show wpAny _ _ (do
    let code ← reRawItems (.ref q)
    pure ({ pattern := .ref p, string := .str x t, code := code.map (·.toNat), text := x.cps, kind := 0, groups := 0, pos := min (0 : Int).toNat x.cps.size, lim := min ((2 : Int) ^ 63 - 1).toNat x.cps.size } : ReTarget)) _ _ s
  unfold reRawItems
  refine wpAny_bind (wpAny_bind (wpAny_seqItems hq rfl (wpAny_pure (wpAny_pure ?_))))
  have e1 : min (0 : Int).toNat x.cps.size = 0 := by simp
  have e2 : min ((2 : Int) ^ 63 - 1).toNat x.cps.size = x.cps.size := by
    have : x.cps.size ≤ 1000 := hx
    have : ((2 : Int) ^ 63 - 1).toNat = 9223372036854775807 := by decide
    omega
  rw [e1, e2]
  exact h
open Builtin.Re in
theorem search_none {p q : Addr} {code : Array Value} {x : Str} {t : Tok} {Q : Value → Shared → Prop} (P : PatAt s.heap p q code) (hx : x.length ≤ 1000) (hm : ((Sre.forSearch (codeOf code) x.cps 0 0 x.cps.size false).runFor 4).outcome = some .failed)
    (h : Q .none s) : wpAny (model prog w) A (call (.builtin "re.Pattern.search") [.ref p, .str x t]) Q E s := by
  have P' := P
  obtain ⟨⟨a, b, c, d, hp⟩, hq⟩ := P'
  refine wpAny_call_entry slot_pat_search ⟨_, hp, rfl⟩ entry_pat_search ?_ (args_pat_search _ _)
  unfold Builtin.«re.Pattern.search»
  refine wpAny_bind (target_run P hx ?_)
  unfold reAnswer
  exact wpAny_bind (runToEnd_failed hm (wpAny_pure ⟨_, rfl, h⟩))
end
section
variable {c : Cx} {d : Nat} {σ : List (List PyData)}
/-- as PatAt, in the frozen heap -/
structure PatK (K : Frag) (p q : Addr) (code : Array Value) : Prop where
  pat : ∃ a b c d, K.lookup p = some { cls := .type "re.Pattern", data := .fields #[a, b, .int 0 0, c, d, .ref q, .int 0 0] }
  code : K.lookup q = some { cls := .type "tuple", data := .seq code }
theorem PatK.at {p q : Addr} {code : Array Value} (P : PatK c.K p q code) (C : c.Ok) : PatAt c.base p q code := by
  obtain ⟨⟨a, b, e, f, hp⟩, hq⟩ := P
  exact ⟨⟨a, b, e, f, C.X _ _ hp⟩, C.X _ _ hq⟩
theorem TGet.search {p q : Addr} {code : Array Value} (P : PatK c.K p q code) : TGet c d (.p (.ref p)) (Str.ofString "search") (.builtin "re.Pattern.search") σ := by
  intro A X φ s cv pl Q E C a R r h
  obtain rfl : cv = .ref p := r
  obtain ⟨⟨a, b, c, d, hp⟩, hq⟩ := P.at C
  have hp' := (R.bs _ _ hp).1
  exact getMethod_builtin (name := Str.ofString "search") ⟨_, hp', rfl⟩ plainAttrs_pat slot_pat_search type_pat_search (fun a e => by cases e; exact ⟨_, hp', rfl⟩) h
theorem TCall.searchNone {p q : Addr} {code : Array Value} {wk : Bool} {x : Str} {P : V → List (List PyData) → Prop} (Pt : PatK c.K p q code) (hx : x.length ≤ 1000) (hm : ((Sre.forSearch (codeOf code) x.cps 0 0 x.cps.size false).runFor 4).outcome = some .failed) (p' : P (.d .none) σ) :
    TCall c d (.builtin "re.Pattern.search") [.p (.ref p), .e wk (.str x)] [] [] σ P := by
  intro A X φ s cvs ckv Q E C a R rv rk K
  obtain ⟨cv, cw, rfl, r, r'⟩ := rv.two
  obtain rfl : cv = .ref p := r
  obtain ⟨t, rfl⟩ := r'.str_inv
  cases rk
  obtain ⟨⟨a, b, e, f, hp⟩, hq⟩ := Pt.at C
  exact search_none ⟨⟨a, b, e, f, (R.bs _ _ hp).1⟩, (R.bs _ _ hq).1⟩ hx hm (K.here R (VRep.none (wk := false)) p')
theorem TT.none {wk : Bool} {P : Bool → List (List PyData) → Prop} (p : P false σ) : TT c d (.e wk .none) σ P := by
  intro A X φ s cv Q E C a R r K
  rw [r.none_inv]
  have e : truthy Value.none = pure false := by rfl
  rw [e]
  exact wpAny_pure (K false φ σ s .refl R p)
end
end Mine
end -- Fw18
section -- Fw19
set_option tactic.hygienic false
open PySem PySem.W PySem.Calls PyProof.Rows
set_option linter.unusedVariables false
set_option linter.unusedSimpArgs false
set_option autoImplicit false
namespace Mine
section
variable {c : Cx} {d : Nat} {sc : Sc} {ρ : List (Option V)} {σ : List (List PyData)}

theorem TCall.typeS {wk : Bool} {x : Str} {P : V → List (List PyData) → Prop} (p : P (.p (.type "str")) σ) : TCall c d (.type "type") [.e wk (.str x)] [] [] σ P := by
  intro A X φ s cvs ckv Q E C a R rv rk K
  obtain ⟨cv, rfl, r⟩ := rv.one
  obtain ⟨t, rfl⟩ := r.str_inv
  cases rk
  exact call_type_of (Tx := "str") (typeIs_str s x t) (by decide) (K.here R (v := .p (.type "str")) rfl p)
theorem TV2.isPP {v w : Value} {P : V → List (List PyData) → Prop} (hp : plainIs v w = true) (p : P (.d (.bool (v == w))) σ) : TV2 c d (compareOp .Is) (.p v) (.p w) σ P := by
  intro A X φ s ca cb Q E C a R ra rb K
  obtain rfl : ca = v := ra
  obtain rfl : cb = w := rb
  exact wpAny_is_plain hp (K.here R (VRep.bool (wk := false)) p)
theorem TV2.isNotNoneS {wk wk' : Bool} {x : Str} {P : V → List (List PyData) → Prop} (p : P (.d (.bool true)) σ) : TV2 c d (compareOp .IsNot) (.e wk (.str x)) (.e wk' .none) σ P := by
  intro A X φ s ca cb Q E C a R ra rb K
  obtain ⟨t, rfl⟩ := ra.str_inv
  obtain rfl := rb.none_inv
  exact wpAny_isNot_plain rfl (K.here R (VRep.bool (wk := false)) p)
theorem TV2.isNotNoneN {wk wk' : Bool} {P : V → List (List PyData) → Prop} (p : P (.d (.bool false)) σ) : TV2 c d (compareOp .IsNot) (.e wk .none) (.e wk' .none) σ P := by
  intro A X φ s ca cb Q E C a R ra rb K
  obtain rfl := ra.none_inv
  obtain rfl := rb.none_inv
  exact wpAny_isNot_plain rfl (K.here R (VRep.bool (wk := false)) p)

theorem TBind.kw {fd : FuncData} {vs : List V} {kn : List Str} {kv : List V} {ps : List Str} (h : ∀ cvs ckv : List Value, cvs.length = vs.length → ckv.length = kv.length → bindArgs fd ⟨cvs, kn.zip ckv⟩ = pure (ps.zip (cvs ++ ckv))) : TBind c d fd vs kn kv σ ps (vs ++ kv) := by
  intro A X φ s cvs ckv Q E C R r rk K
  rw [h cvs ckv r.length_eq rk.length_eq]
  exact wpAny_pure (K (cvs ++ ckv) s.heap s.toks (fun _ _ e => e) (Nat.le_refl _) (r.append rk))

/-- a method's call with one argument and one keyword -/
noncomputable abbrev kKw3 (c : Cx) (d : Nat) (cf : Value) (ov av : V) (kn : Str) (P : V → List (List PyData) → Prop) : V → List (List PyData) → Prop := fun ev σ₃ => TCall c d cf [ov, av] [kn] [ev] σ₃ P
noncomputable abbrev kKw2 (c : Cx) (d : Nat) (cf : Value) (ov : V) (e : Expr) (kn : Str) (sc : Sc) (ρ : List (Option V)) (P : V → List (List PyData) → Prop) : V → List (List PyData) → Prop := fun av σ₂ => TE c d e sc ρ σ₂ (kKw3 c d cf ov av kn P)
noncomputable abbrev kKw (c : Cx) (d : Nat) (name : Str) (a e : Expr) (kn : Str) (sc : Sc) (ρ : List (Option V)) (P : V → List (List PyData) → Prop) : V → List (List PyData) → Prop := fun ov σ₁ => ∃ cf, TGet c d ov name cf σ₁ ∧ KeepOk c cf ∧ TE c d a sc ρ σ₁ (kKw2 c d cf ov e kn sc ρ P)
theorem TE.methK {o a e : Expr} {name kn : Str} {apos pos kp : Pos} {P : V → List (List PyData) → Prop}
    (h : TE c d o sc ρ σ (kKw c d name a e kn sc ρ P))
    (ha : noStar [a] = true := by rfl) (hp : (apos.endLine == pos.line) = true := by rfl)
    (hb : ∀ env m, attributeBase o name env m = m := by intros; rfl) : TE c d (.Call (.Attribute o name apos) [a] [⟨some kn, e, kp⟩] pos) sc ρ σ P := by
  intro env A X φ s Q E O R L K
  show wpAny _ A (do
    let ov ← attributeBase o name env (eval o env)
    standAt apos.atName
    methodCall o name apos pos env ov ([a].length + [(⟨some kn, e, kp⟩ : Keyword)].length) (backTo pos (starEach [a] env)) (backToKw pos (keywordEach [⟨some kn, e, kp⟩] env))) Q E s
  rw [hb env]
  refine wpAny_bind (h env A X φ s _ E O R L fun ov cv φ₁ σ₁ s₁ x₁ R₁ r₁ h₁ => ?_)
  obtain ⟨cf, hg, kp', h₂⟩ := h₁
  have L₁ := L.step x₁ (R.own O.o) (fun a h _ => h)
  refine wpAny_bind (wpAny_standAt ?_)
  unfold methodCall
  have few : methodCallForm ([a].length + [(⟨some kn, e, kp⟩ : Keyword)].length) (backTo pos (starEach [a] env)) (backToKw pos (keywordEach [⟨some kn, e, kp⟩] env)) = true := by
    rw [starEach_of ha]; rfl
  rw [few]
  unfold calleeOf
  simp only [if_true]
  refine wpAny_bind (wpAny_holding (hg A X φ₁ s₁ cv _ _ E O.c O.a R₁ r₁ ?_))
  have hpos : methodCallPos true o env apos pos = pure pos := by
    unfold methodCallPos
    rw [hp]; rfl
  rw [hpos]
  refine wpAny_bind (wpAny_pure ?_)
  have hpl := starEach_plain env pos ha
  refine callWith_of (P := HIn c) (by rw [hpl]; rfl) kp' (evalArgs_kw2 rfl ?_ (starEach_of ha env))
  refine spliced_more (h₂ env A X φ₁ s₁ _ E O R₁ L₁ fun av ca φ₂ σ₂ s₂ x₂ R₂ r₂ h₃ => ?_) (starEach_of ha env)
  have L₂ := L₁.step x₂ (R₁.own O.o) (fun a h _ => h)
  refine spliced_nil ?_
  show wpAny _ A (do
    let v ← (do let v ← eval e env; standAt pos; pure v)
    return v :: (← holding [v] (evalAll []))) _ E s₂
  refine wpAny_bind (wpAny_bind (h₃ env A X φ₂ s₂ _ E O R₂ L₂ fun ev ce φ₃ σ₃ s₃ x₃ R₃ r₃ h₄ => ?_))
  refine wpAny_bind (wpAny_standAt (wpAny_pure (wpAny_bind (wpAny_holding (wpAny_pure (wpAny_pure ?_))))))
  have x23 := x₂.trans x₃
  refine ⟨R₃.hin O.c, h₄ A X φ₃ s₃ _ _ Q E O.c O.a R₃ (.cons (r₁.step x23 (by simp) (fun a h _ => h)) (.cons (r₂.step x₃ (by simp) (fun a h _ => h)) .nil)) (.cons r₃ .nil) (K.step (x₁.trans x23))⟩
end
end Mine
end -- Fw19
section -- G6
set_option tactic.hygienic false
open PySem PySem.W PySem.Calls PyProof.Rows
set_option linter.unusedVariables false
set_option linter.unusedSimpArgs false
set_option autoImplicit false
namespace Mine
/-! texts that the headers take -/
noncomputable def tx (l : List Nat) : Str := ⟨l.toArray⟩
noncomputable def letterTexts (c : Nat) : List Str := [tx [c], tx [c, 97], tx [c, 97, c, 97], tx [c - 32, 65], tx [c - 32, 65, c - 32, 65], tx [c, 65, c, 65]]
noncomputable def okTexts : List Str := (List.range' 112 8).flatMap letterTexts
noncomputable def codeAt (K : Frag) (q : Addr) : Array Nat := match K.lookup q with
  | some ⟨_, _, .seq items _, _⟩ => codeOf items
  | _ => #[]
theorem codeAt_of {K : Frag} {q : Addr} {cls : Value} {dd : Option Addr} {items : Array Value} {n : Nat} {sl : Array (Option Value)} (h : List.lookup q K = some ⟨cls, dd, .seq items n, sl⟩) : codeAt K q = codeOf items := by
  unfold codeAt
  have : K.lookup q = some ⟨cls, dd, .seq items n, sl⟩ := h
  rw [this]
noncomputable def failsAt (code : Array Nat) (x : Str) : Bool := match ((Sre.forSearch code x.cps 0 0 x.cps.size false).runFor 4).outcome with
  | some .failed => true
  | _ => false
theorem failsAt_iff {code : Array Nat} {x : Str} (h : failsAt code x = true) : ((Sre.forSearch code x.cps 0 0 x.cps.size false).runFor 4).outcome = some .failed := by
  unfold failsAt at h
  split at h
  · assumption
  · cases h
set_option maxRecDepth 100000 in
theorem okB {w : World} {base : Heap} : (okTexts.all (failsAt (codeAt (hd.heap_39 w.params) 47)) = true ∧ okTexts.all (failsAt (codeAt (hd.heap_39 w.params) 52)) = true) ∧ (∃ c1, PatK (hd.heap_39 w.params) 48 47 c1) ∧ ∃ c2, PatK (hd.heap_39 w.params) 53 52 c2 := by
  have KX : (hd.heap_39 w.params).In base → True := fun _ => trivial
  have PP : PySem.Challenge.rw_wc0014_01.prog = PySem.Challenge.rw_wc0014_01.prog := rfl
  revert KX PP; k_fill; intro KX PP
  refine ⟨⟨?_, ?_⟩, ⟨_, ⟨⟨_, _, _, _, by k_is⟩, by k_is⟩⟩, ⟨_, ⟨⟨_, _, _, _, by k_is⟩, by k_is⟩⟩⟩
  · rw [codeAt_of (by k_is)]; decide +kernel
  · rw [codeAt_of (by k_is)]; decide +kernel
end Mine
end -- G6
section -- G7
set_option tactic.hygienic false
open PySem PySem.W PySem.Calls PyProof.Rows
set_option linter.unusedVariables false
set_option linter.unusedSimpArgs false
set_option autoImplicit false
namespace Mine
theorem ok_name {w : World} {x : Str} (h : x ∈ okTexts) : failsAt (codeAt (hd.heap_39 w.params) 47) x = true := List.all_eq_true.mp (okB (base := {})).1.1 x h
theorem ok_value {w : World} {x : Str} (h : x ∈ okTexts) : failsAt (codeAt (hd.heap_39 w.params) 52) x = true := List.all_eq_true.mp (okB (base := {})).1.2 x h
theorem patK_code {K : Frag} {p q : Addr} {code : Array Value} (P : PatK K p q code) : codeAt K q = codeOf code := codeAt_of P.code
theorem ok_len : ∀ x ∈ okTexts, x.length ≤ 4 := by decide
section
variable {w : World} {base : Heap} {s0 : Shared} {loose : List Str} {mean : ExcName → Option Value} {mg mb : Str → Option Value} {pin : Phi} {d : Nat} {σ : List (List PyData)} {P : V → List (List PyData) → Prop}

set_option maxRecDepth 100000 in
theorem convert_true {self : V} {x : Str} (hx : x ∈ okTexts) (p : P (.d (.str x)) σ) : TCall (cx w base s0 loose mean mg mb pin) (d + 1) (.ref 83) [self, .d (.str x)] [Str.ofString "name"] [.d (.bool true)] σ P := by
  have KX : (hd.heap_39 w.params).In base → True := fun _ => trivial
  have PP : PySem.Challenge.rw_wc0014_01.prog = PySem.Challenge.rw_wc0014_01.prog := rfl
  revert KX PP; k_fill; intro KX PP
  refine TCall.def_ (hK := by show List.lookup 83 (hd.heap_39 w.params) = _; k_is) rfl rfl rfl rfl rfl ?hcd rfl rfl rfl ?hnd ?hps ?hpk rfl (TBind.kw (ps := [Str.ofString "self", Str.ofString "value", Str.ofString "name"]) ?hb) ?hmain
  case hcd => show codeIn (hd.heap_39 w.params) _ _ = true; k_is
  case hnd => decide
  case hps => decide
  case hpk => decide
  case hb =>
    intro cvs ckv hl hk
    obtain ⟨x0, x1, rfl⟩ := len2 hl
    obtain ⟨y0, rfl⟩ := len1 hk
    rfl
  case hmain =>
    obtain ⟨code, Pt⟩ := (okB (w := w) (base := {})).2.1
    have hf := failsAt_iff (ok_name (w := w) hx)
    rw [patK_code Pt] at hf
    have hl := ok_len x hx
    refine TFin.of ?_
    refine TSS.cons ?_
    refine TS.ite ?_
    refine TB.cmp ?_
    refine TE.call ?_
    refine TE.bltn (by show nsIn (hd.heap_39 w.params) _ _ = _; k_is) (by boot_by_name) (by decide) ⟨_, rfl, KeepOk.type, ?_⟩
    refine TEs.cons ?_
    refine TE.loc 1 rfl ?_
    refine TEs.nil ?_
    refine TCall.typeS ?_
    refine TE.bltn (by show nsIn (hd.heap_39 w.params) _ _ = _; k_is) (by boot_by_name) (by decide) ?_
    refine TV2.isPP rfl ?_
    refine TT.bool ?_
    show TSS _ _ _ _ _ _ _
    refine TSS.cons ?_
    refine TS.assignN ?_
    refine TE.ifexp ?_
    refine TB.plain ?_
    refine TE.loc 2 rfl ?_
    refine TT.boolW ?_
    show TE _ _ _ _ _ _ _
    refine TE.glob (v := .ref 48) (by show nsIn (hd.heap_39 w.params) _ _ = _; k_is) ?_
    refine TA.loc 3 ?_
    refine TSS.cons ?_
    refine TS.ite ?_
    refine TB.plain ?_
    refine TE.meth ?_
    refine TE.loc 3 rfl ⟨_, TGet.search Pt, KeepOk.builtin, ?_⟩
    refine TEs.cons ?_
    refine TE.loc 1 rfl ?_
    refine TEs.nil ?_
    refine TCall.searchNone Pt (by omega) hf ?_
    refine TT.none ?_
    show TSS _ _ _ _ _ _ _
    refine TSS.nil ?_
    refine TSS.one ?_
    refine TS.ret ?_
    refine TE.loc 1 rfl ?_
    show P _ _
    simpa [fz, retV] using p

set_option maxRecDepth 100000 in
theorem convert_false {self : V} {x : Str} (hx : x ∈ okTexts) (p : P (.d (.str x)) σ) : TCall (cx w base s0 loose mean mg mb pin) (d + 1) (.ref 83) [self, .d (.str x)] [Str.ofString "name"] [.d (.bool false)] σ P := by
  have KX : (hd.heap_39 w.params).In base → True := fun _ => trivial
  have PP : PySem.Challenge.rw_wc0014_01.prog = PySem.Challenge.rw_wc0014_01.prog := rfl
  revert KX PP; k_fill; intro KX PP
  refine TCall.def_ (hK := by show List.lookup 83 (hd.heap_39 w.params) = _; k_is) rfl rfl rfl rfl rfl ?hcd rfl rfl rfl ?hnd ?hps ?hpk rfl (TBind.kw (ps := [Str.ofString "self", Str.ofString "value", Str.ofString "name"]) ?hb) ?hmain
  case hcd => show codeIn (hd.heap_39 w.params) _ _ = true; k_is
  case hnd => decide
  case hps => decide
  case hpk => decide
  case hb =>
    intro cvs ckv hl hk
    obtain ⟨x0, x1, rfl⟩ := len2 hl
    obtain ⟨y0, rfl⟩ := len1 hk
    rfl
  case hmain =>
    obtain ⟨code, Pt⟩ := (okB (w := w) (base := {})).2.2
    have hf := failsAt_iff (ok_value (w := w) hx)
    rw [patK_code Pt] at hf
    have hl := ok_len x hx
    refine TFin.of ?_
    refine TSS.cons ?_
    refine TS.ite ?_
    refine TB.cmp ?_
    refine TE.call ?_
    refine TE.bltn (by show nsIn (hd.heap_39 w.params) _ _ = _; k_is) (by boot_by_name) (by decide) ⟨_, rfl, KeepOk.type, ?_⟩
    refine TEs.cons ?_
    refine TE.loc 1 rfl ?_
    refine TEs.nil ?_
    refine TCall.typeS ?_
    refine TE.bltn (by show nsIn (hd.heap_39 w.params) _ _ = _; k_is) (by boot_by_name) (by decide) ?_
    refine TV2.isPP rfl ?_
    refine TT.bool ?_
    show TSS _ _ _ _ _ _ _
    refine TSS.cons ?_
    refine TS.assignN ?_
    refine TE.ifexp ?_
    refine TB.plain ?_
    refine TE.loc 2 rfl ?_
    refine TT.boolW ?_
    show TE _ _ _ _ _ _ _
    refine TE.glob (v := .ref 53) (by show nsIn (hd.heap_39 w.params) _ _ = _; k_is) ?_
    refine TA.loc 3 ?_
    refine TSS.cons ?_
    refine TS.ite ?_
    refine TB.plain ?_
    refine TE.meth ?_
    refine TE.loc 3 rfl ⟨_, TGet.search Pt, KeepOk.builtin, ?_⟩
    refine TEs.cons ?_
    refine TE.loc 1 rfl ?_
    refine TEs.nil ?_
    refine TCall.searchNone Pt (by omega) hf ?_
    refine TT.none ?_
    show TSS _ _ _ _ _ _ _
    refine TSS.nil ?_
    refine TSS.one ?_
    refine TS.ret ?_
    refine TE.loc 1 rfl ?_
    show P _ _
    simpa [fz, retV] using p

end
end Mine
end -- G7
section -- Fw20
set_option tactic.hygienic false
open PySem PySem.W PySem.Calls PyProof.Rows
set_option linter.unusedVariables false
set_option linter.unusedSimpArgs false
set_option autoImplicit false
namespace Mine
/-- what the frozen heap tells of the class of headers -/
structure HdrK (K : Frag) : Prop where
  ga : findIn K (.ref 182) "__getattribute__" = some (some (.builtin "object.__getattribute__"))
  no : findIn K (.ref 182) "__getattr__" = some none
  hs : findIn K (.ref 182) hdrKey = some none
  cl : ∃ cd, clsIn K 182 = some cd ∧ cd.hasDict = true
theorem look_hdr {e : Int} {t : Tok} {l : Addr} {n : Nat} : lookIn hdrKey (dictOf [⟨e, .str hdrKey t, .ref l⟩] n) = some (some (.ref l)) := by
  unfold lookIn dictOf
  rfl
theorem HdrAt.inst {h : Heap} {a l : Addr} (H : HdrAt h a l) : ∃ dx e t n, InstAt h a (instObj 182 dx) 182 (some (dictOf [⟨e, .str hdrKey t, .ref l⟩] n)) := by
  obtain ⟨dx, e, t, n, h1, h2⟩ := H
  exact ⟨dx, e, t, n, ⟨h1, rfl, rfl, h2⟩⟩
theorem find_hdr {K : Frag} (H : HdrK K) {e : Int} {t : Tok} {l : Addr} {n : Nat} : findObj K 182 (some (dictOf [⟨e, .str hdrKey t, .ref l⟩] n)) hdrKey = some (.value (.ref l)) := by
  obtain ⟨cd, hc, hd⟩ := H.cl
  unfold findObj
  rw [hc, Option.bind_some, H.hs, Option.bind_some]
  show ((W.ownOf cd (some (dictOf [⟨e, .str hdrKey t, .ref l⟩] n)) hdrKey).bind _) = _
  unfold W.ownOf
  rw [hd, if_pos rfl]
  show (lookIn hdrKey (dictOf [⟨e, .str hdrKey t, .ref l⟩] n)).bind _ = _
  rw [look_hdr]
  rfl
theorem cut_hdr {h : Heap} {M : List Addr} {a l : Addr} (H : HdrAt (cut h M) a l) : HdrAt h a l := by
  obtain ⟨dx, e, t, n, h1, h2⟩ := H
  exact ⟨dx, e, t, n, cut_sub h1, cut_sub h2⟩
section
variable {c : Cx} {d : Nat} {sc : Sc} {ρ : List (Option V)} {σ : List (List PyData)}
theorem TE.hdrs {n : Str} {np pos : Pos} {P : V → List (List PyData) → Prop} (H : HdrK c.K) (h : TE c d (.Name n np) sc ρ σ fun ov σ₁ => ∃ i, ov = .hr i ∧ P (.r i) σ₁) : TE c d (.Attribute (.Name n np) hdrKey pos) sc ρ σ P := by
  intro env A X φ s Q E O R L K
  refine PyProof.Rows.Attribute_name (h env A X φ s _ E O R L fun ov cv φ₁ σ₁ s₁ x₁ R₁ r₁ h₁ => ?_)
  obtain ⟨i, rfl, p⟩ := h₁
  obtain ⟨x, l, rfl, h1, h2⟩ := r₁
  obtain ⟨dx, e, t, n, I⟩ := (cut_hdr h2).inst
  refine get_value (R₁.inK O.c) I H.ga (find_hdr H) rfl ?_
  exact K (.r i) _ φ₁ σ₁ _ (x₁.trans .tok) (R₁.tok (Nat.le_succ _)) ⟨l, h1, rfl⟩ p
theorem TGet.hdr {i : Nat} {name : Str} {f : Addr} (H : HdrK c.K) (hf : findIn c.K (.ref 182) name = some (some (.ref f))) (ht : typeIn c.K (.ref f) = some (.type "function")) (hn : (hdrKey == name) = false) :
    TGet c d (.hr i) name (.ref f) σ := by
  intro A X φ s cv pl Q E C a R r q
  obtain ⟨x, l, rfl, h1, h2⟩ := r
  obtain ⟨dx, e, t, n, I⟩ := (cut_hdr h2).inst
  refine method_fn (R.inK C) I H.ga H.no hf ht ?_ q
  show (lookIn name (dictOf [⟨e, .str hdrKey t, .ref l⟩] n)).map (·.isSome) = some false
  have : lookIn name (dictOf [⟨e, .str hdrKey t, .ref l⟩] n) = some none := by
    unfold lookIn dictOf
    have e1 : (Value.str hdrKey t).isStr name = false := hn
    simp [e1, DictEntry.refKey]
  rw [this]; rfl
end
end Mine
end -- Fw20
section -- G8
set_option tactic.hygienic false
open PySem PySem.W PySem.Calls PyProof.Rows
set_option linter.unusedVariables false
set_option linter.unusedSimpArgs false
set_option autoImplicit false
namespace Mine
set_option maxRecDepth 100000 in
theorem hdrKB {w : World} {base : Heap} : HdrK (hd.heap_39 w.params) := by
  have KX : (hd.heap_39 w.params).In base → True := fun _ => trivial
  have PP : PySem.Challenge.rw_wc0014_01.prog = PySem.Challenge.rw_wc0014_01.prog := rfl
  revert KX PP; k_fill; intro KX PP
  exact ⟨by k_is, by k_is, by k_is, ⟨_, by k_is, rfl⟩⟩
theorem hdrK {w : World} : HdrK (hd.heap_39 w.params) := hdrKB (base := {})
noncomputable abbrev pairD (h : Str × Str) : PyData := .tuple [.str h.1, .str h.2]
noncomputable def tellsOf (hs : List (Str × Str)) (y : Str) : List PyData := (hs.filter fun h => Txt.lower h.1 == y).map fun h => .str h.2
noncomputable def pairT (y : Str) : PyData → Bool
  | .tuple [.str k, _] => Txt.lower k == y
  | _ => false
theorem tells_data (y : Str) : ∀ hs : List (Str × Str), ((hs.map pairD).filter (pairT y)).map snd2 = tellsOf hs y
  | [] => rfl
  | h :: hs => by
    have ih := tells_data y hs
    unfold tellsOf at ih ⊢
    rw [List.map_cons, List.filter_cons, List.filter_cons]
    show List.map snd2 (if (Txt.lower h.1 == y) = true then _ else _) = _
    cases Txt.lower h.1 == y with
    | true => simp only [if_true, List.map_cons, ih]; rfl
    | false => simpa using ih
section
variable {w : World} {base : Heap} {s0 : Shared} {loose : List Str} {mean : ExcName → Option Value} {mg mb : Str → Option Value} {pin : Phi} {d : Nat} {σ : List (List PyData)} {P : V → List (List PyData) → Prop}

set_option maxRecDepth 100000 in
theorem get_all_spec {i : Nat} {hs : List (Str × Str)} {x : Str} (hi : σ[i]? = some (hs.map pairD)) (hx : Txt.lower x ∈ okTexts) (hxl : x.length ≤ 1000) (hxs : SeqAt.shaped (.str (Txt.lower x)) = true) (hlen : hs.length ≤ 1000) (hks : ∀ h ∈ hs, h.1.length ≤ 1000 ∧ SeqAt.shaped (.str (Txt.lower h.1)) = true) (p : P (.d (.list (tellsOf hs (Txt.lower x)))) σ) : TCall (cx w base s0 loose mean mg mb pin) (d + 2) (.ref 121) [.hr i, .d (.str x)] [] [] σ P := by
  have KX : (hd.heap_39 w.params).In base → True := fun _ => trivial
  have PP : PySem.Challenge.rw_wc0014_01.prog = PySem.Challenge.rw_wc0014_01.prog := rfl
  revert KX PP; k_fill; intro KX PP
  refine TCall.def_ (hK := by show List.lookup 121 (hd.heap_39 w.params) = _; k_is) rfl rfl rfl rfl rfl ?hcd rfl rfl rfl ?hnd ?hps ?hpk rfl (TBind.plain (ps := [Str.ofString "self", Str.ofString "name"]) ?hb) ?hmain
  case hcd => show codeIn (hd.heap_39 w.params) _ _ = true; k_is
  case hnd => decide
  case hps => decide
  case hpk => decide
  case hb =>
    intro cvs hl
    obtain ⟨x0, x1, rfl⟩ := len2 hl
    rfl
  case hmain =>
    refine TFin.of ?_
    refine TSS.cons ?_
    refine TS.assignN ?_
    refine TE.methK ?_
    refine TE.loc 0 rfl ⟨_, TGet.hdr hdrK (by show findIn (hd.heap_39 w.params) _ _ = _; k_is) (by show typeIn (hd.heap_39 w.params) _ = _; k_is) rfl, KeepOk.old (by show keepIn (hd.heap_39 w.params) _ = _; k_is), ?_⟩
    refine TE.meth ?_
    refine TE.cell 1 rfl ⟨_, TGet.lower, KeepOk.builtin, ?_⟩
    refine TEs.nil ?_
    refine TCall.lower hxl ?_
    refine TE.boolc ?_
    refine convert_true hx ?_
    refine TA.cell 1 ?_
    refine TSS.one ?_
    refine TS.ret ?_
    refine TE.comp ?_
    refine TIter.of ?_
    refine TE.hdrs hdrK ?_
    refine TE.loc 0 rfl ⟨i, rfl, ⟨_, _, _, TItr.ref (.inl rfl) hi, by show _ = _; rw [List.getElem?_append_left (List.getElem?_eq_some_iff.mp hi).1]; exact hi, ?_⟩⟩
    refine TComp.pure (ρ₀ := [none, none, some (.d (.str (Txt.lower x)))]) 1 (pairT (Txt.lower x)) snd2 (by simpa using hlen) (fun ys => by rw [List.getElem?_append_left (List.getElem?_eq_some_iff.mp hi).1]; exact hi) ?_ ?_ ?_ ?_
    · rintro y ρ' σ' hy hr
      refine TA.loc 1 ⟨?_, rfl⟩
      rcases hr with rfl | ⟨z, rfl⟩ <;> rfl
    · rintro y ys hy
      obtain ⟨h, hh, rfl⟩ := List.mem_map.mp hy
      obtain ⟨g1, g2⟩ := hks h hh
      refine TB.cmp ?_
      refine TE.meth ?_
      refine TE.sub ?_
      refine TE.loc 1 rfl ?_
      refine TE.int ?_
      refine TV2.subTI (by decide) (by decide) (x := .str h.1) rfl ⟨_, TGet.lower, KeepOk.builtin, ?_⟩
      refine TEs.nil ?_
      refine TCall.lower g1 ?_
      refine TE.cell 2 rfl ?_
      refine TV2.eqDD g2 hxs ?_
      refine TT.bool ⟨rfl, rfl⟩
    · rintro y ys hy _
      obtain ⟨h, hh, rfl⟩ := List.mem_map.mp hy
      refine TE.sub ?_
      refine TE.loc 1 rfl ?_
      refine TE.int ?_
      exact TV2.subTI (by decide) (by decide) (x := .str h.2) rfl ⟨rfl, rfl⟩
    refine ⟨_, by rw [List.getElem?_append_right (Nat.le_refl _), Nat.sub_self]; rfl, ?_⟩
    rw [tells_data, List.take_left]
    show P _ _
    simpa [fz, retV] using p

end
end Mine
end -- G8
section -- Fw21
set_option tactic.hygienic false
open PySem PySem.W PySem.Calls PyProof.Rows
set_option linter.unusedVariables false
set_option linter.unusedSimpArgs false
set_option autoImplicit false
namespace Mine
noncomputable abbrev noDict : Obj := { cls := .type "dict", data := .dict #[] }
/-- a new dict without a word in it -/
noncomputable def edictR : Rg := ⟨fun h v => ∃ a, v = .ref a ∧ h.get? a = some noDict ∧ (a == sysModules) = false, fun h h' v hk ⟨a, h1, h2, h3⟩ => ⟨a, h1, hk _ _ h2, h3⟩⟩
noncomputable def iviewR : Rg := ⟨fun h v => ∃ a d, v = .ref a ∧ h.get? a = some { cls := .type "dict_items", data := .fields #[.ref d] } ∧ h.get? d = some noDict, fun h h' v hk ⟨a, d, h1, h2, h3⟩ => ⟨a, d, h1, hk _ _ h2, hk _ _ h3⟩⟩
theorem edict_at {prog : Program} {w : World} {h : Heap} {a : Addr} (e : h.get? a = some noDict) : h.DictAt (strKind prog w) a [] 0 :=
  ⟨noDict, #[], e, ⟨rfl, rfl, rfl⟩, rfl, (fun i hi => absurd hi (by simp)), .nil, List.nodup_nil⟩
section
variable {c : Cx} {d : Nat} {sc : Sc} {ρ : List (Option V)} {σ : List (List PyData)}
theorem TGet.items : TGet c d (.ob edictR) (Str.ofString "items") (.builtin "dict.items") σ := by
  intro A X φ s cv pl Q E C a R r q
  obtain ⟨l, rfl, h1, h2⟩ := r
  have e := cut_sub h1
  exact getMethod_builtin (s := s) ⟨_, e, rfl⟩ PySem.F.plainAttrs_dict PySem.F.slot_dict_items PySem.F.type_dict_items (fun b hb => by cases hb; exact ⟨_, e, rfl⟩) q
theorem TCall.items {P : V → List (List PyData) → Prop} (p : P (.ob iviewR) σ) : TCall c d (.builtin "dict.items") [.ob edictR] [] [] σ P := by
  intro A X φ s cvs ckv Q E C a R rv rk K
  obtain ⟨cv, rfl, r⟩ := rv.one
  obtain ⟨l, rfl, h1, h2⟩ := r
  cases rk
  have e := cut_sub h1
  have hk : ∀ b o, s.heap.get? b = some o → (s.heap.push { cls := .type "dict_items", data := .fields #[.ref l] }).get? b = some o := fun b o q => Heap.get?_push_of_some _ q
  refine call_meetsIn (s := s) PySem.F.slot_dict_items ⟨_, e, rfl⟩ PySem.F.entry_dict_items (PySem.F.args_dict_items_1 _) (meets_dict_items (strKind c.prog c.w) l h2) ⟨⟨[], (edict_at e).dictOf⟩, ?_⟩
  have := K (.ob iviewR) (.ref s.heap.objs.size) φ σ _ (Step.grow (tk := s.toks) hk) (R.grow hk (Nat.le_refl _)) ⟨s.heap.objs.size, l, rfl, cut_get.mpr ⟨Heap.get?_push_size _ rfl, R.size_not⟩, cut_get.mpr ⟨hk _ _ e, (cut_get.mp h1).2⟩⟩ p
  exact this
theorem TItr.items0 {target : Expr} : TItr c d target (.ob iviewR) [] false (fun _ => True) σ := by
  refine ⟨trivial, ?_⟩
  intro A X φ s cv Q E C a R r K
  obtain ⟨v, l, rfl, h1, h2⟩ := r
  have e1 := cut_sub h1
  have e2 := cut_sub h2
  refine wpAny_pyIter_items (knd := strKind c.prog c.w) (kvs := []) ⟨_, e1, rfl, rfl⟩ (edict_at e2) ?_
  refine K _ [s.heap.objs.size] (fun i h => IsItemIter h s.heap.objs.size l 0 0 0 .none .none) _ s.toks (fun b o e => Heap.get?_push_of_some _ e) (Nat.le_refl _) (fun b hb => ?_) ⟨?_, ?_, ?_, ?_, ?_⟩ (Heap.get?_push_size _ rfl)
  · rw [List.mem_singleton.mp hb]; exact get_none (Nat.le_refl _)
  · intro i h h' st hk
    exact hk _ (by simp) _ st
  · intro i h st b hb
    rw [List.mem_singleton.mp hb]; exact ⟨_, st⟩
  · intro i x X' φ' σ' s' Q' E' hx
    simp at hx
  · intro X' φ' σ' s' Q' E' st R' _ g K'
    refine wpAny_pyNext_items_end (knd := strKind c.prog c.w) (kvs := []) (i := 0) a.hd st (edict_at (cut_sub (g.keep _ _ h2))) rfl fun h' he => ?_
    exact K' h' s'.toks (fun b o hb e => he b o (fun q => hb (by simp [q])) e) (Nat.le_refl _)
  · intro i s' Q' E' st q
    exact kcp_self st q
/-- the only text of a list, joined -/
theorem TCall.joinOne {wk : Bool} {i : Nat} {x y : Str} {P : V → List (List PyData) → Prop} (hi : σ[i]? = some [.str y]) (hy : y.length + x.length ≤ 1000) (p : P (.d (.str y)) σ) : TCall c d (.builtin "str.join") [.e wk (.str x), .r i] [] [] σ P := by
  intro A X φ s cvs ckv Q E C a R rv rk K
  obtain ⟨cx, cl, rfl, r, r'⟩ := rv.two
  obtain ⟨t, rfl⟩ := r.str_inv
  obtain ⟨l, h1, rfl⟩ := r'
  cases rk
  obtain ⟨items, hl, rd⟩ := R.ob i l _ h1 hi
  obtain ⟨v, hv, rv⟩ := RdAll.get rd (k := 0) (d := .str y) rfl
  have hlen : items.toList.length = 1 := RdAll.length_eq rd
  obtain ⟨u, rfl⟩ : ∃ u, v = .str y u := VRep.str_inv (h := s.heap) (φ := φ) (X := X) rv
  have e : items = (strValues [(y, u)]).toArray := by
    apply Array.toList_inj.mp
    show items.toList = [.str y u]
    match hq : items.toList, hlen with
    | [z], _ => rw [hq] at hv; simp at hv; rw [hv]
  refine call_meets (s := s) PySem.F.slot_str_join (typeIs_str _ _ _) PySem.F.entry_str_join (PySem.F.args_str_join_2 _ _) (meets_str_join_list x t l [(y, u)] ?_) ⟨e ▸ hl.isList, ?_⟩
  · show Builtin.Str.tooLong (0 + y.length + x.length) = false
    unfold Builtin.Str.tooLong
    rw [decide_eq_false_iff_not, sizeLine_eq]; omega
  · exact K.here R (v := .d (.str y)) rv p
end
end Mine
end -- Fw21
section -- G9
set_option tactic.hygienic false
open PySem PySem.W PySem.Calls PyProof.Rows
set_option linter.unusedVariables false
set_option linter.unusedSimpArgs false
set_option autoImplicit false
namespace Mine
theorem TBind.kwargs {c : Cx} {d : Nat} {σ : List (List PyData)} {fd : FuncData} {vs : List V} {ps : List Str} {a₀ : Addr} {o₀ : Obj} (hK : c.K.lookup a₀ = some o₀) (ha : sysModules < a₀) (h : ∀ cvs : List Value, cvs.length = vs.length → bindArgs fd ⟨cvs, []⟩ = (alloc noDict >>= fun a => pure (ps.zip (cvs ++ [.ref a])))) : TBind c d fd vs [] [] σ ps (vs ++ [.ob edictR]) := by
  intro A X φ s cvs ckv Q E C R r _ K
  show wpAny _ A (bindArgs fd ⟨cvs, []⟩) Q E s
  rw [h cvs r.length_eq]
  have hk : ∀ b o, s.heap.get? b = some o → (s.heap.push noDict).get? b = some o := fun b o e => Heap.get?_push_of_some _ e
  have hsz : sysModules < s.heap.objs.size := Nat.lt_trans ha (Heap.lt_size (R.inK C a₀ o₀ hK))
  refine wpAny_bind (wpAny_alloc (wpAny_pure (K _ (s.heap.push noDict) s.toks hk (Nat.le_refl _) ?_)))
  have R' : Rel c φ X σ { s with heap := s.heap.push noDict, toks := s.toks } := R.grow hk (Nat.le_refl _)
  have x : Step φ φ [] s { s with heap := s.heap.push noDict, toks := s.toks } := Step.grow hk
  refine (r.step x (by simp) (fun a h _ => h)).append (.cons ?_ .nil)
  exact ⟨s.heap.objs.size, rfl, cut_get.mpr ⟨Heap.get?_push_size _ rfl, R.size_not⟩, by rw [beq_eq_false_iff_ne]; exact Nat.ne_of_gt hsz⟩
section
variable {w : World} {base : Heap} {s0 : Shared} {loose : List Str} {mean : ExcName → Option Value} {mg mb : Str → Option Value} {pin : Phi} {d : Nat} {σ : List (List PyData)} {P : V → List (List PyData) → Prop}

set_option maxRecDepth 100000 in
theorem add_header_spec {i : Nat} {hs : List (Str × Str)} {x y : Str} (hi : σ[i]? = some (hs.map pairD)) (hx : x ∈ okTexts) (hy : y ∈ okTexts) (hlen : hs.length ≤ 1000) (p : P (.d .none) (σ.set i ((hs ++ [(x, y)]).map pairD))) : TCall (cx w base s0 loose mean mg mb pin) (d + 2) (.ref 179) [.hr i, .d (.str x), .d (.str y)] [] [] σ P := by
  have KX : (hd.heap_39 w.params).In base → True := fun _ => trivial
  have PP : PySem.Challenge.rw_wc0014_01.prog = PySem.Challenge.rw_wc0014_01.prog := rfl
  revert KX PP; k_fill; intro KX PP
  refine TCall.def_ (hK := by show List.lookup 179 (hd.heap_39 w.params) = _; k_is) rfl rfl rfl rfl rfl ?hcd rfl rfl rfl ?hnd ?hps ?hpk rfl (TBind.kwargs (a₀ := 179) (by show List.lookup 179 (hd.heap_39 w.params) = _; k_is) (by decide) (ps := [Str.ofString "self", Str.ofString "_name", Str.ofString "_value", Str.ofString "_params"]) ?hb) ?hmain
  case hcd => show codeIn (hd.heap_39 w.params) _ _ = true; k_is
  case hnd => decide
  case hps => decide
  case hpk => decide
  case hb =>
    intro cvs hl
    obtain ⟨x0, x1, x2, rfl⟩ := len3 hl
    rfl
  case hmain =>
    have hx1 := ok_len x hx
    have hy1 := ok_len y hy
    refine TFin.of ?_
    refine TSS.cons ?_
    refine TS.assignN ?_
    refine TE.listT ?_
    refine TEs.nil ⟨[], rfl, by decide, ?_⟩
    refine TA.loc 4 ?_
    refine TSS.cons ?_
    refine TS.ite ?_
    refine TB.cmp ?_
    refine TE.loc 2 rfl ?_
    refine TE.nonec ?_
    refine TV2.isNotNoneS ?_
    refine TT.bool ?_
    show TSS _ _ _ _ _ _ _
    refine TSS.cons ?_
    refine TS.assignN ?_
    refine TE.methK ?_
    refine TE.loc 0 rfl ⟨_, TGet.hdr hdrK (by show findIn (hd.heap_39 w.params) _ _ = _; k_is) (by show typeIn (hd.heap_39 w.params) _ = _; k_is) rfl, KeepOk.old (by show keepIn (hd.heap_39 w.params) _ = _; k_is), ?_⟩
    refine TE.loc 2 rfl ?_
    refine TE.boolc ?_
    refine convert_false hy ?_
    refine TA.loc 2 ?_
    refine TSS.one ?_
    refine TS.expr ?_
    refine TE.meth ?_
    have h0 : (σ ++ [[]])[σ.length]? = some [] := by simp
    refine TE.loc 4 rfl ⟨_, TGet.append h0, KeepOk.builtin, ?_⟩
    refine TEs.cons ?_
    refine TE.loc 2 rfl ?_
    refine TEs.nil ?_
    refine TCall.append h0 (by simp) ?_
    show TSS _ _ _ _ _ _ _
    have e1 : (σ ++ [[]]).set σ.length ([] ++ [PyData.str y]) = σ ++ [[.str y]] := by simp
    rw [e1]
    have h1 : (σ ++ [[PyData.str y]])[σ.length]? = some [.str y] := by simp
    have h2 : (σ ++ [[PyData.str y]])[i]? = some (hs.map pairD) := by rw [List.getElem?_append_left (List.getElem?_eq_some_iff.mp hi).1]; exact hi
    refine TSS.cons ?_
    refine TS.for_ ?_
    refine TIter.of ?_
    refine TE.meth ?_
    refine TE.loc 3 rfl ⟨_, TGet.items, KeepOk.builtin, ?_⟩
    refine TEs.nil ?_
    refine TCall.items ⟨_, _, _, TItr.items0, ?_⟩
    show TSS _ _ _ _ _ _ _
    refine TSS.nil ?_
    show TSS _ _ _ _ _ _ _
    refine TSS.one ?_
    refine TS.expr ?_
    refine TE.meth ?_
    refine TE.hdrs hdrK ?_
    refine TE.loc 0 rfl ⟨i, rfl, ⟨_, TGet.append h2, KeepOk.builtin, ?_⟩⟩
    refine TEs.cons ?_
    refine TE.tuple ?_
    refine TEs.cons ?_
    refine TE.methK ?_
    refine TE.loc 0 rfl ⟨_, TGet.hdr hdrK (by show findIn (hd.heap_39 w.params) _ _ = _; k_is) (by show typeIn (hd.heap_39 w.params) _ = _; k_is) rfl, KeepOk.old (by show keepIn (hd.heap_39 w.params) _ = _; k_is), ?_⟩
    refine TE.loc 1 rfl ?_
    refine TE.boolc ?_
    refine convert_true hx ?_
    refine TEs.cons ?_
    refine TE.meth ?_
    refine TE.str ⟨_, TGet.join, KeepOk.builtin, ?_⟩
    refine TEs.cons ?_
    refine TE.loc 4 rfl ?_
    refine TEs.nil ?_
    refine TCall.joinOne h1 (by show y.length + 2 ≤ 1000; omega) ?_
    refine TEs.nil ⟨false, [.str x, .str y], rfl, by simp, ?_⟩
    refine TEs.nil ?_
    refine TCall.append h2 (by simpa using hlen) ?_
    have e2 : ((σ ++ [[PyData.str y]]).set i (hs.map pairD ++ [.tuple [.str x, .str y]])).take σ.length = σ.set i ((hs ++ [(x, y)]).map pairD) := by
      have hl := (List.getElem?_eq_some_iff.mp hi).1
      rw [List.set_append_left _ _ hl, List.take_append_of_le_length (by simp)]
      rw [List.take_of_length_le (by simp)]
      simp [pairD]
    show P _ _
    rw [e2]
    show P _ _
    simpa [fz, retV] using p

end
end Mine
end -- G9
section -- Fw22
set_option tactic.hygienic false
open PySem PySem.W PySem.Calls PyProof.Rows
set_option linter.unusedVariables false
set_option linter.unusedSimpArgs false
set_option autoImplicit false
namespace Mine
section
variable {c : Cx} {d : Nat} {σ : List (List PyData)}
/-- a call's way in: what its body finds, and how it is left -/
theorem fn_enterX {f : Addr} {o : Obj} {fd : FuncData} {body : List Stmt} {vs kv ws : List V} {kn ps : List Str} {A : Around} {X : List Addr} {φ : Phi} {s : Shared} {cvs ckv : List Value} {R' : Result → Shared → Prop}
    (hK : c.K.lookup f = some o) (hd : o.data = .func fd) (hco : fd.scope.isCoroutine = false) (hgen : fd.scope.isGenerator = false) (hk : fd.scope.kind = .function) (hbody : fd.body = .stmts body) (hcd : codeIn c.K fd.code fd.qualname = true)
    (hgl : fd.globals = mainGlobals) (hbu : fd.builtins = builtinsNs) (hcl : fd.closure = [])
    (hnd : (fd.scope.names.map (·.1)).Nodup) (hps : ps.Nodup) (hpk : (ps.all fun x => fd.scope.names.lookup x == some .local || fd.scope.names.lookup x == some .cell) = true) (hfree : (fd.scope.names.all fun x => x.2 != .free) = true)
    (hb : TBind c d fd vs kn kv σ ps ws) (C : c.Ok) (a : AOk A (d + 1)) (R : Rel c φ X σ s) (rv : VReps s.heap φ X vs cvs) (rk : VReps s.heap φ X kv ckv)
    (h : ∀ env h₁ tk₁, (∀ b o, s.heap.get? b = some o → h₁.get? b = some o) → s.toks ≤ tk₁ → (∀ b ∈ own env (fnSc fd.scope), s.heap.get? b = none) → Ok c d env (fnSc fd.scope) (A.deeper env) (own env (fnSc fd.scope) ++ X) →
      Rel c φ (own env (fnSc fd.scope) ++ X) σ { s with heap := h₁, toks := tk₁ } → Loc env (fnSc fd.scope) (rho0 fd.scope ps ws) φ (own env (fnSc fd.scope) ++ X) h₁ →
      env.code = fd.code → env.qual = fd.qualname ++ ".<locals>." → env.frame = some env.locals → wpAny (model c.prog c.w) (A.deeper env) (execs body env) (fun fl s' => R' (.ok (.ret (retC fl))) s') (fun e s' => wpAny (model c.prog c.w) (A.deeper env) (leaving env e) (fun _ s'' => R' (.error e) s'') (fun e' s'' => R' (.error e') s'') s') { s with heap := h₁, toks := tk₁ }) : codeAny (model c.prog c.w) A (.call (.ref f) ⟨cvs, kn.zip ckv⟩) R' s := by
  refine codeAny_call_function a.room (R.inK C f o hK) hd hco hgen hbody (codeRec_of (R.inK C) hcd) ?_
  refine hb A.in1 X φ s cvs ckv _ _ C R rv rk fun cws h₀ tk₀ hk₀ ht₀ rw₀ => ?_
  rw [hcl]
  have hbk : ∀ (n : Nat), ∀ x ∈ ps.zip cws, fd.scope.names.lookup x.1 = some .local ∨ (fd.scope.names.lookup x.1 = some .cell ∧ ((cellsFrom n fd.scope.names []).lookup x.1).isSome = true) := fun n x hx => by
    have h1 := List.all_eq_true.mp hpk x.1 (List.of_mem_zip hx).1
    rcases Bool.or_eq_true_iff.mp h1 with q | q
    · exact .inl (by simpa using q)
    · have q' : fd.scope.names.lookup x.1 = some .cell := by simpa using q
      exact .inr ⟨q', cellsFrom_some _ _ _ (.inl q')⟩
  refine wpAny_with_toks (n := tk₀) (Nat.le_refl _) (wpAny_newFunctionEnv_cells hk (hbk _) fun env he s' x => ?_)
  have R₀ : Rel c φ X σ { s with heap := h₀, toks := tk₀ } := R.grow hk₀ ht₀
  obtain ⟨h₁, tk₁, rfl, hk₁⟩ := x.done
  intro ht₁
  replace ht₁ : tk₀ ≤ tk₁ := ht₁
  have hsz : env.locals = h₀.objs.size := by rw [he]; rfl
  have hcells : env.cells = cellsFrom (h₀.objs.size + 1) fd.scope.names [] := by rw [he]; rfl
  have hlist : ∀ b ∈ own env (fnSc fd.scope), b = env.locals ∨ ∃ y, (y, b) ∈ env.cells := fun b hb => by
    rcases own_cell hb with q | ⟨y, _, q⟩
    · exact .inl q
    · exact .inr ⟨y, PySem.mem_of_lookup q⟩
  have hcab : ∀ y b, (y, b) ∈ env.cells → h₀.objs.size ≤ b := fun y b h1 => by
    rw [hcells] at h1
    rcases mem_cellsFrom _ _ _ _ h1 with q | q
    · cases q
    · exact Nat.le_of_succ_le q
  have habove : ∀ b ∈ own env (fnSc fd.scope), h₀.objs.size ≤ b := fun b hb => by
    rcases hlist b hb with hb | ⟨y, h1⟩
    · rw [hb, hsz]; exact Nat.le_refl _
    · exact hcab y b h1
  have hfresh₀ : ∀ b ∈ own env (fnSc fd.scope), h₀.get? b = none := fun b hb => get_none (habove b hb)
  have hlook : ∀ y ∈ env.cells, h₁.IsCell y.2 (bindC env.kindOf (ps.zip cws) (fun _ => none) y.1) := fun y hy => by
    have hnd' : (env.cells.map (·.1)).Nodup := by
      have hinj : ∀ (names : List (Str × NameKind)) (n : Nat) (acc : List (Str × Addr)), (acc.map (·.1)).Nodup → (names.map (·.1)).Nodup → (∀ z ∈ acc, z.1 ∉ names.map (·.1)) → ((cellsFrom n names acc).map (·.1)).Nodup := by
        intro names
        induction names with
        | nil => intro n acc h1 _ _; exact h1
        | cons z r ih =>
          intro n acc h1 h2 h3
          obtain ⟨z1, z2⟩ := z
          simp only [List.map_cons, List.nodup_cons] at h2
          unfold cellsFrom
          split
          · refine ih _ _ ?_ h2.2 ?_
            · simp only [List.map_cons, List.nodup_cons]
              refine ⟨fun q => ?_, h1⟩
              obtain ⟨u, hu1, hu2⟩ := List.mem_map.mp q
              have := h3 u hu1
              simp only [List.map_cons, List.mem_cons, not_or] at this
              exact this.1 hu2
            · intro u hu
              rcases List.mem_cons.mp hu with e | hu
              · subst e; exact h2.1
              · have := h3 u hu
                simp only [List.map_cons, List.mem_cons, not_or] at this
                exact this.2
          · refine ih _ _ h1 h2.2 ?_
            intro u hu
            have := h3 u hu
            simp only [List.map_cons, List.mem_cons, not_or] at this
            exact this.2
      rw [hcells]
      exact hinj _ _ [] .nil hnd (fun _ h => nomatch h)
    obtain ⟨i, hi⟩ := List.mem_iff_getElem?.mp hy
    exact x.cell y.1 y.2 (lookup_of_get hnd' hi)
  have halive : ∀ b ∈ own env (fnSc fd.scope), ∃ o, h₁.get? b = some o := fun b hb => by
    rcases hlist b hb with hb | ⟨y, h1⟩
    · rw [hb]; exact Heap.Ns.is x.toInCall.ns
    · exact Heap.IsCell.is (hlook (y, b) h1)
  have R₁ : Rel c φ (own env (fnSc fd.scope) ++ X) σ { s with heap := h₁, toks := tk₁ } := R₀.growX hk₁ hfresh₀ halive ht₁
  have O : Ok c d env (fnSc fd.scope) (A.deeper env) (own env (fnSc fd.scope) ++ X) := by
    refine ⟨C, a.deeper env, ⟨by rw [he]; rfl, hk, hnd, by rw [he]; exact hgl, by rw [he]; exact hbu, ?_, ?_⟩, fun b hb => List.mem_append.mpr (.inl hb)⟩
    · have := x.apart
      rw [List.Nodup, List.pairwise_map]
      exact this
    · intro q
      obtain ⟨y, h1, h2⟩ := List.mem_map.mp q
      have := x.above y.1 y.2 h1
      rw [h2] at this
      exact Nat.lt_irrefl _ this
  have rws : VReps h₁ φ (own env (fnSc fd.scope) ++ X) ws cws := rw₀.mono (List.prefix_refl _) .refl fun b o e => cut_growX hk₁ hfresh₀ e
  have L : Loc env (fnSc fd.scope) (rho0 fd.scope ps ws) φ (own env (fnSc fd.scope) ++ X) h₁ := by
    have hkind : ∀ {k : Nat} {y : Str} {kd : NameKind}, fd.scope.names[k]? = some (y, kd) → env.kindOf y = some kd := fun e => O.e.kind e
    have hget : ∀ {k : Nat} {y : Str} {kd : NameKind} {v : V}, fd.scope.names[k]? = some (y, kd) → (rho0 fd.scope ps ws)[k]? = some (some v) → (ps.zip ws).lookup y = some v := fun {k y kd v} e1 e2 => by
      unfold rho0 at e2
      rw [List.getElem?_map, e1] at e2
      simpa using e2
    refine ⟨by unfold rho0; rw [List.length_map], ⟨_, x.toInCall.ns, fun k y v e1 e2 => bindL_get hps rws (hkind e1) (hget e1 e2)⟩, fun k y kd e1 e2 => ?_⟩
    have hkd : kd = .cell := by
      rcases e2 with e2 | e2
      · exact e2
      · have := List.all_eq_true.mp hfree (y, kd) (List.mem_of_getElem? e1)
        rw [e2] at this; cases this
    subst hkd
    have hl : ((cellsFrom (h₀.objs.size + 1) fd.scope.names []).lookup y).isSome = true := cellsFrom_some _ _ _ (.inl (lookup_of_get hnd e1))
    obtain ⟨ca, hca⟩ := Option.isSome_iff_exists.mp hl
    rw [← hcells] at hca
    refine ⟨ca, _, hca, x.cell y ca hca, fun q => ?_, fun v e3 => bindC_get hps rws (hkind e1) (hget e1 e3)⟩
    obtain ⟨o', e'⟩ := R₀.alive q
    have := get_none (h := h₀) (hcab y ca (PySem.mem_of_lookup hca))
    rw [this] at e'; cases e'
  have nolim : h₁.NoLimit := by
    obtain ⟨mc, ⟨o, es, ep, ho, r⟩, q⟩ := C.T.nolimit
    exact ⟨mc, ⟨o, es, ep, hk₁ _ _ (hk₀ _ _ (R.bs _ _ ho).1), r⟩, q⟩
  refine ⟨nolim, codeAny_func ?_⟩
  refine wpAny_mono (h env h₁ tk₁ (fun b o e => hk₁ _ _ (hk₀ _ _ e)) (Nat.le_trans ht₀ ht₁) (fun b hb => ?_) O R₁ L (by rw [he]; rfl) (by rw [he]; rfl) (by rw [he]; rfl)) (fun fc s₂ fin => ?_) fun _ _ e => e
  · cases q : s.heap.get? b with
    | none => rfl
    | some o' => have := hk₀ _ _ q; rw [hfresh₀ b hb] at this; cases this
  · cases fc <;> exact fin

/-- a call's way in: what its body finds -/
theorem fn_enter {f : Addr} {o : Obj} {fd : FuncData} {body : List Stmt} {vs kv ws : List V} {kn ps : List Str} {A : Around} {X : List Addr} {φ : Phi} {s : Shared} {cvs ckv : List Value} {R' : Result → Shared → Prop}
    (hK : c.K.lookup f = some o) (hd : o.data = .func fd) (hco : fd.scope.isCoroutine = false) (hgen : fd.scope.isGenerator = false) (hk : fd.scope.kind = .function) (hbody : fd.body = .stmts body) (hcd : codeIn c.K fd.code fd.qualname = true)
    (hgl : fd.globals = mainGlobals) (hbu : fd.builtins = builtinsNs) (hcl : fd.closure = [])
    (hnd : (fd.scope.names.map (·.1)).Nodup) (hps : ps.Nodup) (hpk : (ps.all fun x => fd.scope.names.lookup x == some .local || fd.scope.names.lookup x == some .cell) = true) (hfree : (fd.scope.names.all fun x => x.2 != .free) = true)
    (hb : TBind c d fd vs kn kv σ ps ws) (C : c.Ok) (a : AOk A (d + 1)) (R : Rel c φ X σ s) (rv : VReps s.heap φ X vs cvs) (rk : VReps s.heap φ X kv ckv)
    (h : ∀ env h₁ tk₁ (E : Value → Shared → Prop), (∀ b o, s.heap.get? b = some o → h₁.get? b = some o) → s.toks ≤ tk₁ → (∀ b ∈ own env (fnSc fd.scope), s.heap.get? b = none) → Ok c d env (fnSc fd.scope) (A.deeper env) (own env (fnSc fd.scope) ++ X) →
      Rel c φ (own env (fnSc fd.scope) ++ X) σ { s with heap := h₁, toks := tk₁ } → Loc env (fnSc fd.scope) (rho0 fd.scope ps ws) φ (own env (fnSc fd.scope) ++ X) h₁ →
      env.code = fd.code → env.qual = fd.qualname ++ ".<locals>." → wpAny (model c.prog c.w) (A.deeper env) (execs body env) (fun fl s' => R' (.ok (.ret (retC fl))) s') E { s with heap := h₁, toks := tk₁ }) : codeAny (model c.prog c.w) A (.call (.ref f) ⟨cvs, kn.zip ckv⟩) R' s :=
  fn_enterX hK hd hco hgen hk hbody hcd hgl hbu hcl hnd hps hpk hfree hb C a R rv rk fun env h₁ tk₁ a1 a2 a3 a4 a5 a6 a7 a8 _ => h env h₁ tk₁ _ a1 a2 a3 a4 a5 a6 a7 a8

/-! the making of a Headers -/
structure HdrM (K : Frag) : Prop where
  mkx : makesIn K 182 = true
  ini : findIn K (.ref 182) "__init__" = some (some (.ref 76))
  fn : typeIn K (.ref 76) = some (.type "function")
  sa : findIn K (.ref 182) "__setattr__" = some (some (.builtin "object.__setattr__"))
  po : plainOver K 182 = true
  tk : takerIn K 182 hdrKey = some none
  hd : hasDictIn K 182 = true
theorem osa_hdr {K : Frag} {prog : Program} {w : World} {A : Around} {R : Result → Shared → Prop} {s : Shared} {x dx : Addr} {tk : Tok} {v : Value} (X : K.In s.heap) (H : HdrM K) (hx : s.heap.get? x = some (instObj 182 dx)) (hd : s.heap.get? dx = some emptyDict)
    (h : ∀ h' e t n, h'.get? dx = some (dictOf [⟨e, .str hdrKey t, v⟩] n) → Heap.SameBut dx s.heap h' → R (.ok (.ret .none)) { s with heap := h', toks := s.toks + 1 }) : codeAny (model prog w) A (.call (.builtin "object.__setattr__") ⟨[.ref x, .str hdrKey tk, v], []⟩) R s := by
  have I : InstAt s.heap x (instObj 182 dx) 182 (some emptyDict) := ⟨hx, rfl, rfl, hd⟩
  refine osa_open X I H.po H.tk fun b => ?_
  obtain ⟨cd, hc, hd'⟩ := any_some H.hd
  have e : Obj.putName hdrKey (PyData.keyHash w.params hdrKey) (.str hdrKey s.toks) v emptyDict = dictOf [⟨PyData.keyHash w.params hdrKey, .str hdrKey s.toks, v⟩] 1 := putName_dict _ _ _ _ [] 0
  have D' : (s.heap.update dx (Obj.putName hdrKey (PyData.keyHash w.params hdrKey) (.str hdrKey s.toks) v)).get? dx = some (dictOf [⟨PyData.keyHash w.params hdrKey, .str hdrKey s.toks, v⟩] 1) := e ▸ Heap.get?_update_self _ hd (e ▸ rfl)
  refine wpAny_bind (wpAny_pure (wpAny_bind (wpAny_bind (wpAny_loadPart hx (wpAny_bind ((looks_clsIn X hc).here ?_))))))
  rw [hd']
  refine wpAny_pure (a := some dx) (wpAny_bind (wpAny_pure (wpAny_bind ?_)))
  unfold nsSet
  refine wpAny_bind (wpAny_bind (wpAny_askSetting (wpAny_pure (wpAny_bind (wpAny_mkText (wpAny_bind (wpAny_loadPart hd ?_)))))))
  dsimp only
  rw [aRefKeyMayBeTheName_at, if_neg (by simp)]
  refine wpAny_updatePart hd ?_
  refine wpAny_bind (wpAny_lookBehind D' (pastItsLine_dict (by rw [sizeLine_eq]; show 1 ≤ _; omega)) ?_)
  exact wpAny_pure (h _ _ _ _ D' (Heap.SameBut.update ..))
theorem set_hdr {K : Frag} {prog : Program} {w : World} {A : Around} {E : Value → Shared → Prop} {s : Shared} {x dx : Addr} {v : Value} {Q : Unit → Shared → Prop} (X : K.In s.heap) (H : HdrM K) (hx : s.heap.get? x = some (instObj 182 dx)) (hd : s.heap.get? dx = some emptyDict)
    (h : ∀ h' e t n, h'.get? dx = some (dictOf [⟨e, .str hdrKey t, v⟩] n) → Heap.SameBut dx s.heap h' → Q () { s with heap := h', toks := s.toks + 2 }) : wpAny (model prog w) A (setAttr (.ref x) hdrKey v) Q E s :=
  set_plain X (ox := instObj 182 dx) (od := some emptyDict) ⟨hx, rfl, rfl, hd⟩ H.sa (osa_hdr (s := { s with toks := s.toks + 1 }) X H hx hd h)
end
end Mine
end -- Fw22
section -- Fw23
set_option tactic.hygienic false
open PySem PySem.W PySem.Calls PyProof.Rows
set_option linter.unusedVariables false
set_option linter.unusedSimpArgs false
set_option autoImplicit false
namespace Mine
section
variable {c : Cx} {d : Nat} {σ : List (List PyData)} {sc : Sc}
theorem Loc.perm {env : Env} {ρ : List (Option V)} {φ : Phi} {X X' : List Addr} {h : Heap} (l : Loc env sc ρ φ X h) (e : ∀ a, a ∈ X ↔ a ∈ X') : Loc env sc ρ φ X' h :=
  l.mono (List.prefix_refl _) .refl (fun a h1 h2 => absurd h1 h2) (fun _ _ _ _ e => e) fun b o q => by
    obtain ⟨q1, q2⟩ := cut_get.mp q
    refine cut_get.mpr ⟨q1, fun z => q2 ?_⟩
    rcases List.mem_append.mp z with z | z
    · exact List.mem_append.mpr (.inl z)
    · exact List.mem_append.mpr (.inr ((e b).mpr z))
set_option tactic.hygienic true in
theorem AOk.underCall {A : Around} (a : AOk A (d + 2)) (args : Args) : AOk (A.under (.builtin "type.__call__" args)) (d + 1) := by
  have f : (Code.builtin "type.__call__" args).frames = 0 := rfl
  have g : (Code.builtin "type.__call__" args).isGuard = false := by show guardIds.contains "type.__call__" = false; decide +kernel
  have cl : (Code.builtin "type.__call__" args).isCaller = false := by unfold Code.isCaller; split <;> first | rfl | (rename_i h; injection h with h; exact absurd h (by decide))
  have h1 : (Code.builtin "type.__call__" args).weight ≤ 2 := by
    unfold Code.weight
    rw [f, g, cl]
    cases (Code.builtin "type.__call__" args).isCreation <;> decide
  have h2 : (Code.builtin "type.__call__" args).cUnits ≤ 8 := by
    show 1 + 3 * (Code.builtin "type.__call__" args).frames ≤ 8
    rw [f]; decide
  refine ⟨a.hd, ?_, ?_⟩
  · have := a.dp; show A.depth + (Code.builtin "type.__call__" args).weight + 4 * (d + 1) + 8 < _; omega
  · have := a.un; show A.units + (Code.builtin "type.__call__" args).cUnits + 16 * (d + 1) + 200 < _; omega

theorem TCall.makeHdr {o : Obj} {fd : FuncData} {s1 s2 s4 : Stmt} {e1 e2 : Expr} {pa pos : Pos} {ps : List Str} {ρ₁ : Addr → List (Option V)} {P : V → List (List PyData) → Prop} (H : HdrM c.K)
    (hK : c.K.lookup 76 = some o) (hd : o.data = .func fd) (hco : fd.scope.isCoroutine = false) (hgen : fd.scope.isGenerator = false) (hk : fd.scope.kind = .function) (hbody : fd.body = .stmts [s1, s2, .Assign [.Attribute e1 hdrKey pa] e2 pos, s4]) (hcd : codeIn c.K fd.code fd.qualname = true)
    (hgl : fd.globals = mainGlobals) (hbu : fd.builtins = builtinsNs) (hcl : fd.closure = [])
    (hnd : (fd.scope.names.map (·.1)).Nodup) (hps : ps.Nodup) (hpk : (ps.all fun x => fd.scope.names.lookup x == some .local || fd.scope.names.lookup x == some .cell) = true) (hfree : (fd.scope.names.all fun x => x.2 != .free) = true)
    (hb : ∀ x, TBind c d fd [.p (.ref x)] [] [] σ ps [.p (.ref x), .d .none])
    (h1 : ∀ x, TS c d s1 (fnSc fd.scope) (rho0 fd.scope ps [.p (.ref x), .d .none]) σ fun fl ρ' σ' => fl = .next ∧ ρ' = ρ₁ x ∧ σ' = σ ++ [[]])
    (h2 : ∀ x, TS c d s2 (fnSc fd.scope) (ρ₁ x) (σ ++ [[]]) fun fl ρ' σ' => fl = .next ∧ ρ' = ρ₁ x ∧ σ' = σ ++ [[]])
    (h3 : ∀ x, TE c d e2 (fnSc fd.scope) (ρ₁ x) (σ ++ [[]]) fun v σ' => v = .r σ.length ∧ σ' = σ ++ [[]])
    (h3' : ∀ x, TE c d e1 (fnSc fd.scope) (ρ₁ x) (σ ++ [[]]) fun v σ' => v = .p (.ref x) ∧ σ' = σ ++ [[]])
    (hs : swapsWith e2 (some (.Attribute e1 hdrKey pa)) pos.line (envS (fnSc fd.scope)) = pure false)
    (h4 : ∀ x, TSS c d [s4] (fnSc fd.scope) (ρ₁ x) (σ ++ [[]]) fun fl ρ' σ' => fl = .next ∧ σ' = σ ++ [[]])
    (p : P (.hr σ.length) (σ ++ [[]])) : TCall c (d + 2) (.ref 182) [] [] [] σ P := by
  intro A X φ s cvs ckv Q E C a R rv rk K
  cases rv; cases rk
  refine wpAny_call ?_
  obtain ⟨hh, g, dr, t, os⟩ := s
  have XK := R.inK C
  refine make_core (makes_of XK H.mkx) (looks_findIn XK H.ini) (fun self => bind_fn XK self H.fn) (.inl rfl) ?_
  let x := hh.objs.size + 1
  let dx := hh.objs.size
  have kp : ∀ b o, hh.get? b = some o → ((hh.push emptyDict).push (instObj 182 hh.objs.size)).get? b = some o := fun b o e => Heap.get?_push_of_some _ (Heap.get?_push_of_some _ e)
  have hx0 : ((hh.push emptyDict).push (instObj 182 hh.objs.size)).get? x = some (instObj 182 dx) := by
    have := Heap.get?_push_size (hh.push emptyDict) (o := instObj 182 hh.objs.size) rfl
    rwa [Heap.size_push] at this
  have hd0 : ((hh.push emptyDict).push (instObj 182 hh.objs.size)).get? dx = some emptyDict := Heap.get?_push_of_some _ (Heap.get?_push_size _ rfl)
  generalize hH : (hh.push emptyDict).push (instObj 182 hh.objs.size) = H0 at kp hx0 hd0
  have fdx : hh.get? dx = none := get_none (Nat.le_refl _)
  have fx : hh.get? x = none := get_none (Nat.le_succ _)
  have xdx : x ≠ dx := Nat.succ_ne_self _
  have R0 : Rel c φ ([dx] ++ X) σ ⟨H0, g, dr, t, os⟩ := R.growX (wr := [dx]) kp (fun b hb => by rw [List.mem_singleton.mp hb]; exact fdx) (fun b hb => by rw [List.mem_singleton.mp hb]; exact ⟨_, hd0⟩) (Nat.le_refl _)
  have xφ : x ∉ φ.l := fun q => by obtain ⟨o, e⟩ := R.alive q; rw [fx] at e; cases e
  have xX : x ∉ X := fun q => by obtain ⟨o, e⟩ := R.xs x q; rw [fx] at e; cases e
  have dφ : dx ∉ φ.l := fun q => by obtain ⟨o, e⟩ := R.alive q; rw [fdx] at e; cases e
  have dX : dx ∉ X := fun q => by obtain ⟨o, e⟩ := R.xs dx q; rw [fdx] at e; cases e
  have tx : x ∉ tabs := R.tbf fx
  have td : dx ∉ tabs := R.tbf fdx
  have st0 : Step φ φ [] ⟨hh, g, dr, t, os⟩ ⟨H0, g, dr, t, os⟩ := Step.grow kp
  refine fn_enter (d := d) (kn := []) (kv := []) (ckv := []) (vs := [.p (.ref x)]) (φ := φ) (X := [dx] ++ X) (σ := σ) (ps := ps) hK hd hco hgen hk hbody hcd hgl hbu hcl hnd hps hpk hfree (hb x) C (a.underCall _) R0 (.cons rfl .nil) .nil ?_
  intro env h₁ tk₁ E' hk₁ ht₁ hf O R₁ L₁ _ _
  have ox : x ∉ own env (fnSc fd.scope) := fun q => by have := hf x q; rw [hx0] at this; cases this
  have od : dx ∉ own env (fnSc fd.scope) := fun q => by have := hf dx q; rw [hd0] at this; cases this
  have pm : ∀ a, a ∈ own env (fnSc fd.scope) ++ ([dx] ++ X) ↔ a ∈ [dx] ++ (own env (fnSc fd.scope) ++ X) := fun a => by simp only [List.mem_append, List.mem_singleton]; exact or_left_comm
  generalize hY : own env (fnSc fd.scope) ++ ([dx] ++ X) = Y at O R₁ L₁ pm
  have oY : ∀ b ∈ own env (fnSc fd.scope), b ∈ Y := O.o
  have st1 : Step φ φ (own env (fnSc fd.scope) ++ [dx]) ⟨H0, g, dr, t, os⟩ ⟨h₁, g, dr, tk₁, os⟩ := Step.grow hk₁
  have wd : ∀ a ∈ own env (fnSc fd.scope) ++ [dx], a ∈ Y := fun a ha => (pm a).mpr (by simp only [List.mem_append, List.mem_singleton] at ha ⊢; exact ha.elim (fun q => .inr (.inl q)) .inl)
  have wid : ∀ {φ φ' : Phi} {W : List Addr} {s s' : Shared} {σ : List (List PyData)}, Step φ φ' W s s' → Rel c φ Y σ s → (∀ a ∈ W, a ∈ own env (fnSc fd.scope) ++ [dx]) → Step φ φ' (own env (fnSc fd.scope) ++ [dx]) s s' := fun x R h => x.wide h fun a ha _ => R.xs a (wd a ha)
  refine wpAny_execs_cons (h1 x env _ Y φ _ _ _ O R₁ L₁ fun fl f φ₂ ρ₂ σ₂ s₂ x₂ R₂ L₂ r₂ q₂ => ?_)
  obtain ⟨rfl, rfl, rfl⟩ := q₂
  cases f <;> first | exact r₂.elim | skip
  refine wpAny_execs_cons (h2 x env _ Y φ₂ _ _ _ O R₂ L₂ fun fl f φ₃ ρ₃ σ₃ s₃ x₃ R₃ L₃ r₃ q₃ => ?_)
  obtain ⟨rfl, rfl, rfl⟩ := q₃
  cases f <;> first | exact r₃.elim | skip
  have es : env.scope = (envS (fnSc fd.scope)).scope := O.e.s
  refine wpAny_execs_cons (plainObj_wpAny_Assign_Attribute (h3 x env _ Y φ₃ _ _ _ O R₃ L₃ fun v cv φ₄ σ₄ s₄ x₄ R₄ r₄ q₄ => ?_) ((swapsWith_env es).trans hs))
  obtain ⟨rfl, rfl⟩ := q₄
  have L₄ := L₃.step x₄ (R₃.own O.o) (fun a h _ => h)
  refine h3' x env _ Y φ₄ _ _ _ O R₄ L₄ fun v ov φ₅ σ₅ s₅ x₅ R₅ r₅ q₅ => ?_
  obtain ⟨rfl, rfl⟩ := q₅
  have L₅ := L₄.step x₅ (R₄.own O.o) (fun a h _ => h)
  obtain rfl : ov = .ref x := r₅
  obtain ⟨l, hl, rfl⟩ := r₄
  have y₅ : Step φ φ₅ (own env (fnSc fd.scope)) ⟨h₁, g, dr, tk₁, os⟩ s₅ := (x₂.trans x₃).trans ((x₄.trans x₅).own R₃ O.o)
  have hx5 : s₅.heap.get? x = some (instObj 182 dx) := y₅.keep x _ (hk₁ _ _ hx0) xφ ox tx
  have hd5 : s₅.heap.get? dx = some emptyDict := y₅.keep dx _ (hk₁ _ _ hd0) dφ od td
  refine set_hdr (R₅.inK C) H hx5 hd5 fun h₆ en tn n hd6 hs6 => ?_
  have hk6 : ∀ b o, b ∉ [dx] → s₅.heap.get? b = some o → h₆.get? b = some o := fun b o hb e => hs6.extBut b o (fun q => hb (by simp [q])) e
  have ha6 : ∀ b ∈ [dx], ∃ o, h₆.get? b = some o := fun b hb => by rw [List.mem_singleton.mp hb]; exact ⟨_, hd6⟩
  have R₆ := ((R₅.perm pm).nexts (h' := h₆) (tk := s₅.toks + 2) hk6 ha6 (fun b hb q => td (List.mem_singleton.mp q ▸ hb)) (Nat.le_add_right _ _)).perm fun a => (pm a).symm
  have hU : ∀ b, Uses env (fnSc fd.scope) b → b ∉ [dx] := fun b u q => by
    rw [List.mem_singleton.mp q] at u
    rcases u with u | ⟨k, y, kd, q1, q2, q3⟩
    · exact od (u ▸ List.mem_cons_self)
    · have hkd : kd = .cell := by
        rcases q2 with q2 | q2
        · exact q2
        · have := List.all_eq_true.mp hfree (y, kd) (List.mem_of_getElem? q1)
          rw [q2] at this; cases this
      subst hkd
      refine od (mem_own_of_lookup (x := y) ?_ q3)
      exact List.mem_map.mpr ⟨(y, .cell), List.mem_filter.mpr ⟨List.mem_of_getElem? q1, rfl⟩, rfl⟩
  have L₆ : Loc env (fnSc fd.scope) (ρ₁ x) φ₅ Y h₆ := ((L₅.perm pm).nexts (τ' := φ₅.τ) .refl hU hk6).perm fun a => (pm a).symm
  have y₆ : Step φ₅ φ₅ (own env (fnSc fd.scope) ++ [dx]) s₅ { s₅ with heap := h₆, toks := s₅.toks + 2 } := Step.nexts hk6 ha6
  refine h4 x env _ Y φ₅ _ _ _ O R₆ L₆ fun fl f φ₇ ρ₇ σ₇ s₇ x₇ R₇ L₇ r₇ q₇ => ?_
  obtain ⟨rfl, rfl⟩ := q₇
  cases f <;> first | exact r₇.elim | skip
  have dφ7 : dx ∉ φ₅.l := fun q => R₅.dj _ q (wd dx (by simp))
  have hd7 : s₇.heap.get? dx = some (dictOf [⟨en, .str hdrKey tn, .ref l⟩] n) := x₇.keep dx _ hd6 dφ7 od td
  have y₇ := (st1.trans ((wid y₅ R₁ fun a h => List.mem_append.mpr (.inl h)).trans (y₆.trans (wid x₇ R₆ fun a h => List.mem_append.mpr (.inl h)))))
  have hx7 : s₇.heap.get? x = some (instObj 182 dx) := y₇.keep x _ hx0 xφ (fun q => by rcases List.mem_append.mp q with q | q; exact ox q; exact xdx (List.mem_singleton.mp q)) tx
  have xφ7 : x ∉ φ₇.l := fun q => by have := (y₇.fresh x q xφ).2; rw [hx0] at this; cases this
  have dφ7' : dx ∉ φ₇.l := fun q => R₇.dj _ q (wd dx (by simp))
  have fo : ∀ b ∈ own env (fnSc fd.scope) ++ [dx], hh.get? b = none := fun b hb => by
    rcases List.mem_append.mp hb with hb | hb
    · cases q : hh.get? b with
      | none => rfl
      | some o' => have := kp _ _ q; rw [hf b hb] at this; cases this
    · rw [List.mem_singleton.mp hb]; exact fdx
  have stA : Step φ φ₇ ([] ++ (own env (fnSc fd.scope) ++ [dx])) ⟨hh, g, dr, t, os⟩ s₇ := (Step.grow (W := [] ++ (own env (fnSc fd.scope) ++ [dx])) (tk := t) kp).trans y₇
  have stB : Step φ φ₇ [] ⟨hh, g, dr, t, os⟩ s₇ := stA.narrow fo
  have pm' : ∀ a, a ∈ Y ↔ a ∈ (own env (fnSc fd.scope) ++ [dx]) ++ X := fun a => by rw [pm a]; simp only [List.mem_append, List.mem_singleton]; exact or_left_comm.trans or_assoc.symm
  have R₈ : Rel c φ₇ X (σ ++ [[]]) s₇ := by
    have := (R₇.perm pm').drop (h' := s₇.heap) (tk := s₇.toks) (fun _ _ _ e => e) (fun a ha q => by obtain ⟨o, e⟩ := R.xs a ha; rw [fo a q] at e; cases e) (fun b hb => (R.tb b hb).1) (Nat.le_refl _)
    exact this
  refine ⟨rfl, K (.hr σ.length) (.ref x) φ₇ _ s₇ stB R₈ ⟨x, l, rfl, prefix_get (x₅.pre.trans x₇.pre) hl, dx, en, tn, n, cut_get.mpr ⟨hx7, ?_⟩, cut_get.mpr ⟨hd7, ?_⟩⟩ p⟩
  · exact fun q => (List.mem_append.mp q).elim xφ7 xX
  · exact fun q => (List.mem_append.mp q).elim dφ7' dX
end
end Mine
end -- Fw23
section -- Fw24
set_option tactic.hygienic false
open PySem PySem.W PySem.Calls PyProof.Rows
set_option linter.unusedVariables false
set_option linter.unusedSimpArgs false
set_option autoImplicit false
namespace Mine
section
variable {c : Cx} {d : Nat} {σ : List (List PyData)}
theorem TCall.typeL {i : Nat} {xs : List PyData} {P : V → List (List PyData) → Prop} (hi : σ[i]? = some xs) (p : P (.p (.type "list")) σ) : TCall c d (.type "type") [.r i] [] [] σ P := by
  intro A X φ s cvs ckv Q E C a R rv rk K
  obtain ⟨cv, rfl, r⟩ := rv.one
  obtain ⟨l, h1, rfl⟩ := r
  cases rk
  obtain ⟨items, hl, rd⟩ := R.ob i l _ h1 hi
  exact call_type_of (Tx := "list") (hl.isList.typeIs (s := s)) (by decide) (K.here R (v := .p (.type "list")) rfl p)
theorem TV2.isNotPP {v w : Value} {P : V → List (List PyData) → Prop} (hp : plainIs v w = true) (p : P (.d (.bool (!(v == w)))) σ) : TV2 c d (compareOp .IsNot) (.p v) (.p w) σ P := by
  intro A X φ s ca cb Q E C a R ra rb K
  obtain rfl : ca = v := ra
  obtain rfl : cb = w := rb
  exact wpAny_isNot_plain hp (K.here R (VRep.bool (wk := false)) p)
/-- the last name takes what stands ready for it -/
theorem TBind.dflt {fd : FuncData} {vs : List V} {ps : List Str} {t : Addr} {dv : Value} {o : Obj} {n : Nat} {w : V} (hK : c.K.lookup t = some o) (ho : o.data = .seq #[dv] n) (hw : ∀ h φ X, VRep h φ X w dv)
    (h : ∀ cvs : List Value, cvs.length = vs.length → ∃ k, bindArgs fd ⟨cvs, []⟩ = (seqItems? (.ref t) >>= k) ∧ k (some #[dv]) = pure (ps.zip (cvs ++ [dv]))) : TBind c d fd vs [] [] σ ps (vs ++ [w]) := by
  intro A X φ s cvs ckv Q E C R r _ K
  show wpAny _ A (bindArgs fd ⟨cvs, []⟩) Q E s
  obtain ⟨k, h1, h2⟩ := h cvs r.length_eq
  rw [h1]
  have e := R.inK C t o hK
  unfold seqItems?
  refine wpAny_bind (wpAny_bind (wpAny_load e ?_))
  rw [ho]
  refine wpAny_pure ?_
  rw [h2]
  exact wpAny_pure (K _ s.heap s.toks (fun _ _ e => e) (Nat.le_refl _) (r.append (.cons (hw _ _ _) .nil)))
end
end Mine
end -- Fw24
section -- G10
set_option tactic.hygienic false
open PySem PySem.W PySem.Calls PyProof.Rows
set_option linter.unusedVariables false
set_option linter.unusedSimpArgs false
set_option autoImplicit false
namespace Mine
set_option maxRecDepth 100000 in
theorem hdrMB {w : World} {base : Heap} : HdrM (hd.heap_39 w.params) := by
  have KX : (hd.heap_39 w.params).In base → True := fun _ => trivial
  have PP : PySem.Challenge.rw_wc0014_01.prog = PySem.Challenge.rw_wc0014_01.prog := rfl
  revert KX PP; k_fill; intro KX PP
  exact ⟨by k_is, by k_is, by k_is, by k_is, by k_is, by k_is, by k_is⟩
theorem hdrM {w : World} : HdrM (hd.heap_39 w.params) := hdrMB (base := {})
section
variable {w : World} {base : Heap} {s0 : Shared} {loose : List Str} {mean : ExcName → Option Value} {mg mb : Str → Option Value} {pin : Phi} {d : Nat} {σ : List (List PyData)} {P : V → List (List PyData) → Prop}
set_option maxRecDepth 100000 in
theorem headers_spec (p : P (.hr σ.length) (σ ++ [[]])) : TCall (cx w base s0 loose mean mg mb pin) (d + 2) (.ref 182) [] [] [] σ P := by
  have KX : (hd.heap_39 w.params).In base → True := fun _ => trivial
  have PP : PySem.Challenge.rw_wc0014_01.prog = PySem.Challenge.rw_wc0014_01.prog := rfl
  revert KX PP; k_fill; intro KX PP
  have hi : (σ ++ [[]])[σ.length]? = some [] := by simp
  refine TCall.makeHdr hdrM (hK := by show List.lookup 76 (hd.heap_39 w.params) = _; k_is) rfl rfl rfl rfl rfl ?hcd rfl rfl rfl ?hnd (ps := [Str.ofString "self", Str.ofString "headers"]) ?hps ?hpk rfl (fun x => TBind.dflt (vs := [.p (.ref x)]) (w := .d .none) (by show List.lookup 69 (hd.heap_39 w.params) = _; k_is) rfl (fun _ _ _ => VRep.none) ?hb)
    (ρ₁ := fun x => [some (.p (.ref x)), some (.r σ.length), none, none, none, none, none, none]) ?h1 ?h2 ?h3 ?h4 rfl ?h5 p
  case hcd => show codeIn (hd.heap_39 w.params) _ _ = true; k_is
  case hnd => decide
  case hps => decide
  case hpk => decide
  case hb =>
    intro cvs hl
    obtain ⟨x0, rfl⟩ := len1 hl
    exact ⟨_, rfl, rfl⟩

  case h1 =>
    intro x
    refine TS.assignN ?_
    refine TE.ifexp ?_
    refine TB.cmp ?_
    refine TE.loc 1 rfl ?_
    refine TE.nonec ?_
    refine TV2.isNotNoneN ?_
    refine TT.bool ?_
    show TE _ _ _ _ _ _ _
    refine TE.listT ?_
    refine TEs.nil ⟨[], rfl, by decide, ?_⟩
    exact TA.loc 1 ⟨rfl, rfl, rfl⟩
  case h2 =>
    intro x
    refine TS.ite ?_
    refine TB.cmp ?_
    refine TE.call ?_
    refine TE.bltn (by show nsIn (hd.heap_39 w.params) _ _ = _; k_is) (by boot_by_name) (by decide) ⟨_, rfl, KeepOk.type, ?_⟩
    refine TEs.cons ?_
    refine TE.loc 1 rfl ?_
    refine TEs.nil ?_
    refine TCall.typeL hi ?_
    refine TE.bltn (by show nsIn (hd.heap_39 w.params) _ _ = _; k_is) (by boot_by_name) (by decide) ?_
    refine TV2.isNotPP rfl ?_
    refine TT.bool ?_
    show TSS _ _ _ _ _ _ _
    exact TSS.nil ⟨rfl, rfl, rfl⟩
  case h3 =>
    intro x
    exact TE.loc 1 rfl ⟨rfl, rfl⟩
  case h4 =>
    intro x
    exact TE.loc 0 rfl ⟨rfl, rfl⟩
  case h5 =>
    intro x
    refine TSS.one ?_
    refine TS.ite ?_
    refine TB.plain ?_
    refine TE.boolc ?_
    refine TT.bool ?_
    show TSS _ _ _ _ _ _ _
    refine TSS.one ?_
    refine TS.for_ ?_
    refine TIter.of ?_
    refine TE.loc 1 rfl ⟨_, _, _, TItr.ref (.inr rfl) hi, ?_⟩
    show TSS _ _ _ _ _ _ _
    exact TSS.nil ⟨rfl, rfl⟩
end
end Mine
end -- G10
section -- Fw25
set_option tactic.hygienic false
open PySem PySem.W PySem.Calls PyProof.Rows
set_option linter.unusedVariables false
set_option linter.unusedSimpArgs false
set_option autoImplicit false
namespace Mine

set_option tactic.hygienic true in
theorem codeAmong_snoc_cases {pos' : Pos} {a b : Int} {c cv : Value} : ∀ (l : List Value), TriplesOk l → codeAmong pos' (l ++ [rawInt a, rawInt b, c]) = some cv → codeAmong pos' l = some cv ∨ cv = c := by
  intro l
  fun_induction TriplesOk l with
  | case1 =>
    intro _ e
    right
    simp only [List.nil_append, codeAmong, rawInt] at e
    split at e
    · cases e; rfl
    · cases e
  | case2 a' t b' u x rest ih =>
    intro h e
    simp only [List.cons_append, codeAmong] at e ⊢
    split at e
    · rename_i hc; rw [if_pos hc]; exact .inl e
    · rename_i hc; rw [if_neg hc]; exact ih h e
  | case3 l h1 h2 => intro h; exact h.elim

theorem closure_of {scope : Scope} {env : Env} (g : Str → Addr) (h : ∀ x, (x, NameKind.free) ∈ scope.names → env.cells.lookup x = some (g x)) :
    closureFor scope env = pure (((scope.names.filter fun n => n.2 == .free).map fun n => (n.1, g n.1)).reverse) := by
  have key : ∀ (names : List (Str × NameKind)) (acc : List (Str × Addr)), (∀ x, (x, NameKind.free) ∈ names → env.cells.lookup x = some (g x)) →
      (forIn names acc fun (p : Str × NameKind) (cs : List (Str × Addr)) => (do if p.2 == .free then do let a ← cellOf env p.1; pure (ForInStep.yield ((p.1, a) :: cs)) else pure (ForInStep.yield cs) : Sem _)) =
        pure (((names.filter fun n => n.2 == .free).map fun n => (n.1, g n.1)).reverse ++ acc) := by
    intro names
    induction names with
    | nil => intro acc _; rfl
    | cons p r ih =>
      intro acc hh
      obtain ⟨x, k⟩ := p
      rw [List.forIn_cons]
      by_cases hk : k = .free
      · subst hk
        have e : cellOf env x = pure (g x) := by unfold cellOf; rw [hh x List.mem_cons_self]
        simp only [beq_self_eq_true, if_true, e, pure_bind]
        rw [ih _ fun y hy => hh y (List.mem_cons_of_mem _ hy)]
        simp
      · have hb : (k == NameKind.free) = false := beq_eq_false_iff_ne.mpr hk
        simp only [hb, Bool.false_eq_true, if_false, pure_bind]
        rw [ih _ fun y hy => hh y (List.mem_cons_of_mem _ hy)]
        simp [hb]
  have := key scope.names [] h
  unfold closureFor
  rw [List.append_nil] at this
  simp only [bind_pure]
  exact this

section
variable {c : Cx} {d : Nat} {sc : Sc} {ρ : List (Option V)} {σ : List (List PyData)}

/-- a code table grows -/
theorem Rel.tabGrow {φ : Phi} {X : List Addr} {s : Shared} (R : Rel c φ X σ s) {P : Addr} (hP : P ∈ tabs) {h' : Heap} {tk : Nat} (hk : Heap.ExtBut P s.heap h') (ht : s.toks ≤ tk) (hn : TabIs (cut h' (φ.l ++ X)) h' P) :
    Rel c φ X σ { s with heap := h', toks := tk } := by
  have hPX := (R.tb P hP).1
  have hcut : ∀ b o, (cut s.heap (φ.l ++ X)).get? b = some o → (cut h' (φ.l ++ X)).get? b = some o := fun b o e => by
    obtain ⟨e1, e2⟩ := cut_get.mp e
    exact cut_get.mpr ⟨hk b o (fun q => e2 (List.mem_append.mpr (.inr (q ▸ hPX)))) e1, e2⟩
  exact {
    len := R.len
    nd := R.nd
    dj := R.dj
    ob := fun i a xs e1 e2 => by
      obtain ⟨items, ⟨o, h1⟩, h3⟩ := R.ob i a xs e1 e2
      exact ⟨items, ⟨o, hk _ _ (fun q => R.dj a (List.mem_of_getElem? e1) (q ▸ hPX)) h1⟩, RdAll.keeps .refl hcut h3⟩
    xs := fun a ha => by
      by_cases q : a = P
      · subst q; obtain ⟨ps, e, _⟩ := hn; exact ⟨_, e⟩
      · obtain ⟨o, e⟩ := R.xs a ha; exact ⟨o, hk _ _ q e⟩
    bs := fun b o e => by
      obtain ⟨h1, h2, h3⟩ := R.bs b o e
      exact ⟨hk _ _ (fun q => h3 (q ▸ hPX)) h1, h2, h3⟩
    tb := fun b hb => by
      by_cases q : b = P
      · subst q; exact ⟨hPX, hn⟩
      · exact ⟨(R.tb b hb).1, (R.tb b hb).2.keeps hcut fun o e => hk _ _ q e⟩
    env := by obtain ⟨h, t, rfl⟩ := R.env; exact ⟨h', tk, rfl⟩
    tk := R.tk.mono ht
    pl := R.pl
    pt := R.pt }
theorem Step.tabGrow {φ : Phi} {W : List Addr} {s : Shared} {P : Addr} (hP : P ∈ tabs) {h' : Heap} {tk : Nat} (hk : Heap.ExtBut P s.heap h') (hl : ∃ o, h'.get? P = some o) : Step φ φ W s { s with heap := h', toks := tk } where
  pre := List.prefix_refl _
  keep := fun b o e _ _ h9 => hk b o (fun q => h9 (q ▸ hP)) e
  fresh := fun _ h1 h2 => absurd h1 h2
  alive := fun b o e => by
    by_cases q : b = P
    · subst q; exact hl
    · exact ⟨o, hk b o q e⟩
  tau := .refl

/-- a function made within a function -/
theorem def_run {env : Env} {A : Around} {X : List Addr} {φ : Phi} {s : Shared} {name : Str} {params : Arguments} {body : List Stmt} {scope : Scope} {pos : Pos} {Q : Flow → Shared → Prop} {E : Value → Shared → Prop}
    (O : Ok c d env sc A X) (R : Rel c φ X σ s) (L : Loc env sc ρ φ X s.heap) (k : Nat) (hkk : sc.names[k]? = some (name, .cell)) (hown : name ∈ sc.own) {cd P : Addr} (hP : P ∈ tabs) (hcode : env.code = .ref cd)
    (hC : ∀ h, c.K.In h → CodeHd h cd P) (hqual : env.qual ++ name = tabQual P) {clos : List (Str × Addr)} (hcl : closureFor scope env = pure clos) (hd0 : params.defaults = []) (hk0 : params.kw_defaults = []) (ha : annTrees params none env = [])
    (h : ∀ f φ' s' doc pm cv ctv, Step φ φ' (own env sc) s s' → Rel c φ' X σ s' → Loc env sc (ρ.set k (some (.p (.ref f)))) φ' X s'.heap →
      (cut s'.heap (φ'.l ++ X)).get? f = some { cls := .type "function", data := .func (fnX name (tabQual P) params body scope clos .none .none doc pm none cv ctv) } → (cut s'.heap (φ'.l ++ X)).CodeRec cv (tabQual P) → Q .next s') :
    wpAny (model c.prog c.w) A (exec (.FunctionDef name params body [] none [] scope none name pos) env) Q E s := by
  refine nestDef_K hd0 hk0 ha ?_
  have hq : qualnameIn env name name = tabQual P := by
    unfold qualnameIn
    rw [O.e.kind hkk, if_neg (by decide)]
    exact hqual
  rw [hq]
  obtain ⟨hPX, ps, h1, h2, h3⟩ := R.tb P hP
  have hg : s.heap.Ns mainGlobals c.mg := O.c.T.g.keeps fun b o e => (R.bs b o e).1
  have hgP : mainGlobals ≠ P := fun q => by
    obtain ⟨o, es, ep, e, hd, _⟩ := hg
    rw [q, h1] at e; cases e; cases hd
  have hB : s.heap.BuiltinsAt c.mg P := by
    obtain ⟨bm, ob, b1, b2, b3, b4, b5, b6⟩ := O.c.T.bmain
    have b3' := (R.bs _ _ b3).1
    refine ⟨bm, ob, b1, b2, fun q => ?_, fun q => ?_, b3', b4, b5, b6⟩
    · obtain ⟨o, es, ep, e, hd, _⟩ := hg
      rw [← q, b3'] at e; cases e; rw [hd] at b6; cases b6
    · rw [q, h1] at b3'; cases b3'; cases b4
  have old : ∀ {b : Addr}, s.heap.objs.size ≤ b → b ∉ φ.l ++ X := fun {b} hb q => by
    have hno := get_none hb
    rcases List.mem_append.mp q with q | q
    · obtain ⟨o, e⟩ := R.alive q; rw [hno] at e; cases e
    · obtain ⟨o, e⟩ := R.xs b q; rw [hno] at e; cases e
  -- the name's store
  have store : ∀ (f : Addr) (h₁ : Heap) (tk : Nat) (doc pm cv ctv : Value), Step φ φ (own env sc) s { s with heap := h₁, toks := tk } → Rel c φ X σ { s with heap := h₁, toks := tk } → Loc env sc ρ φ X h₁ →
      (cut h₁ (φ.l ++ X)).get? f = some { cls := .type "function", data := .func (fnX name (tabQual P) params body scope clos .none .none doc pm none cv ctv) } → (cut h₁ (φ.l ++ X)).CodeRec cv (tabQual P) →
      wpAny (model c.prog c.w) A (storeName env name (.ref f)) (fun _ s'' => Q .next s'') E { s with heap := h₁, toks := tk } := by
    intro f h₁ tk doc pm cv ctv x R₁ L₁ hf hcr
    refine TN.cell (c := c) (d := d) (v := .p (.ref f)) (P := fun ρ' σ' => ρ' = ρ.set k (some (.p (.ref f))) ∧ σ' = σ) k ⟨rfl, rfl⟩ hkk hown env A X φ _ (.ref f) _ E O R₁ L₁ rfl fun φ' ρ' σ' s' x' R' L' p => ?_
    obtain ⟨rfl, rfl⟩ := p
    have hkk' := fun b o => x'.cut (X := X) (X' := X) O.o (fun a h _ => h) (b := b) (o := o)
    exact h f φ' s' doc pm cv ctv (x.trans x') R' L' (hkk' _ _ hf) (hcr.keeps hkk')
  cases hca : codeAmong pos ps.toList with
  | none =>
    refine wpAny_with_toks (n := s.toks) (Nat.le_refl _) (makeFunction_K (mg := c.mg) hcl O.e.gl hg hcode (hC _ (R.inK O.c)) h1 h2 hca hgP hB fun c' ctv doc h' tk hx hge hlt hrec htb => ?_)
    intro ht
    replace ht : s.toks ≤ tk := ht
    generalize hfo : fnMade name (tabQual P) params body scope clos doc ((c.mg "__name__").getD .none) c' ctv = fo
    have hx₁ : Heap.ExtBut P s.heap (h'.push fo) := fun b o hb e => Heap.get?_push_of_some _ (hx b o hb e)
    have hrec₁ : (cut (h'.push fo) (φ.l ++ X)).CodeRec (.ref c') (tabQual P) := by
      obtain ⟨c₂, oc, vs, t, e2, hoc, hd, hv⟩ := hrec
      cases e2
      exact ⟨c', oc, vs, t, rfl, cut_get.mpr ⟨Heap.get?_push_of_some _ hoc, old hge⟩, hd, hv⟩
    have hcutk : ∀ b o, (cut s.heap (φ.l ++ X)).get? b = some o → (cut (h'.push fo) (φ.l ++ X)).get? b = some o := fun b o e => by
      obtain ⟨e1, e2⟩ := cut_get.mp e
      exact cut_get.mpr ⟨hx₁ b o (fun q => e2 (List.mem_append.mpr (.inr (q ▸ hPX)))) e1, e2⟩
    have htb₁ : TabIs (cut (h'.push fo) (φ.l ++ X)) (h'.push fo) P := by
      refine ⟨_, Heap.get?_push_of_some _ htb, ?_, fun pos' cv e => ?_⟩
      · rw [Array.toList_append]; exact TriplesOk_snoc _ _ _ _ h2
      · rw [Array.toList_append] at e
        rcases codeAmong_snoc_cases _ h2 e with e | e
        · exact (h3 pos' cv e).keeps hcutk
        · rw [e]; exact hrec₁
    have R₁ : Rel c φ X σ { s with heap := h'.push fo, toks := tk } := R.tabGrow hP hx₁ ht htb₁
    have x₁ : ∀ W, Step φ φ W s { s with heap := h'.push fo, toks := tk } := fun W => Step.tabGrow hP hx₁ ⟨_, Heap.get?_push_of_some _ htb⟩
    refine store _ _ tk doc ((c.mg "__name__").getD .none) (.ref c') ctv (x₁ _) R₁ (L.step (x₁ []) (R.own O.o) (fun a h _ => h)) (cut_get.mpr ⟨?_, old (Nat.le_of_lt (Nat.lt_of_le_of_lt hge hlt))⟩) hrec₁
    rw [← hfo]
    exact Heap.get?_push_size _ rfl
  | some cv =>
    refine wpAny_with_toks (n := s.toks) (Nat.le_refl _) (makeFunction_hit (mg := c.mg) hcl O.e.gl hg hcode (hC _ (R.inK O.c)) h1 h2 hca hB fun ctv doc h' tk hx hge => ?_)
    intro ht
    replace ht : s.toks ≤ tk := ht
    generalize hfo : ({ cls := .type "function", data := .func (fnX name (tabQual P) params body scope clos .none .none doc ((c.mg "__name__").getD .none) none cv ctv) } : Obj) = fo
    have hx₁ : ∀ b o, s.heap.get? b = some o → (h'.push fo).get? b = some o := fun b o e => Heap.get?_push_of_some _ (hx b o e)
    have hcutk : ∀ b o, (cut s.heap (φ.l ++ X)).get? b = some o → (cut (h'.push fo) (φ.l ++ X)).get? b = some o := fun b o e => cut_get.mpr ⟨hx₁ _ _ (cut_get.mp e).1, (cut_get.mp e).2⟩
    have R₁ : Rel c φ X σ { s with heap := h'.push fo, toks := tk } := R.grow hx₁ ht
    have x₁ : ∀ W, Step φ φ W s { s with heap := h'.push fo, toks := tk } := fun W => Step.grow hx₁
    refine store _ _ tk doc ((c.mg "__name__").getD .none) cv ctv (x₁ _) R₁ (L.step (x₁ []) (R.own O.o) (fun a h _ => h)) (cut_get.mpr ⟨?_, old hge⟩) ((h3 pos cv hca).keeps hcutk)
    rw [← hfo]
    exact Heap.get?_push_size _ rfl
end
end Mine
end -- Fw25
section -- Fw26
set_option tactic.hygienic false
open PySem PySem.W PySem.Calls PyProof.Rows
set_option linter.unusedVariables false
set_option linter.unusedSimpArgs false
set_option autoImplicit false
namespace Mine
/-- a value stands so, wherever the ground of c stands -/
noncomputable def VAll (c : Cx) (v : V) (cv : Value) : Prop := ∀ φ X σ s, Rel c φ X σ s → VRep s.heap φ X v cv

section
variable {c : Cx} {d : Nat} {sc : Sc} {ρ : List (Option V)} {σ : List (List PyData)}

noncomputable abbrev Cx.re (c : Cx) (φ : Phi) (X : List Addr) (s : Shared) : Cx := { c with base := cut s.heap (φ.l ++ X), pin := φ }

theorem VRep.all {φ : Phi} {X : List Addr} {s : Shared} {v : V} {cv : Value} (r : VRep s.heap φ X v cv) : VAll (c.re φ X s) v cv := fun φ' X' σ' s' R =>
  r.mono R.pl R.pt fun b o e => by
    obtain ⟨h1, h2, h3⟩ := R.bs b o e
    exact cut_get.mpr ⟨h1, fun q => (List.mem_append.mp q).elim h2 h3⟩

theorem VRep.sub {h : Heap} {φ : Phi} {X X' : List Addr} (hX : ∀ a ∈ X', a ∈ X) {v : V} {cv : Value} (r : VRep h φ X v cv) : VRep h φ X' v cv :=
  r.mono (List.prefix_refl _) .refl fun b o e => cut_get.mpr ⟨(cut_get.mp e).1, fun q => (cut_get.mp e).2 (List.mem_append.mpr ((List.mem_append.mp q).imp id (hX _)))⟩

theorem Rel.re {φ : Phi} {X X₁ : List Addr} {s : Shared} (R : Rel c φ X σ s) (hX : ∀ a ∈ X₁, a ∈ X) (hT : ∀ b ∈ tabs, b ∈ X₁) : Rel (c.re φ X₁ s) φ X₁ σ s := by
  have hk : ∀ b o, (cut s.heap (φ.l ++ X)).get? b = some o → (cut s.heap (φ.l ++ X₁)).get? b = some o := fun b o e => by
    refine cut_get.mpr ⟨(cut_get.mp e).1, fun q => (cut_get.mp e).2 (List.mem_append.mpr ((List.mem_append.mp q).imp id (hX _)))⟩
  exact {
    len := R.len
    nd := R.nd
    dj := fun a h1 h2 => R.dj a h1 (hX _ h2)
    ob := fun i a xs e1 e2 => by
      obtain ⟨items, h1, h3⟩ := R.ob i a xs e1 e2
      exact ⟨items, h1, RdAll.keeps .refl hk h3⟩
    xs := fun a ha => R.xs a (hX _ ha)
    bs := fun b o e => ⟨(cut_get.mp e).1, fun q => (cut_get.mp e).2 (List.mem_append.mpr (.inl q)), fun q => (cut_get.mp e).2 (List.mem_append.mpr (.inr q))⟩
    tb := fun b hb => ⟨hT b hb, (R.tb b hb).2.keeps hk fun _ e => e⟩
    env := R.env
    tk := R.tk
    pl := List.prefix_refl _
    pt := .refl }
theorem Rel.reOk {φ : Phi} {X X₁ : List Addr} {s : Shared} (R : Rel c φ X σ s) (C : c.Ok) (hX : ∀ a ∈ X₁, a ∈ X) : (c.re φ X₁ s).Ok := by
  have hb : ∀ b o, c.base.get? b = some o → (cut s.heap (φ.l ++ X₁)).get? b = some o := fun b o e => by
    obtain ⟨h1, h2, h3⟩ := R.bs b o e
    exact cut_get.mpr ⟨h1, fun q => (List.mem_append.mp q).elim h2 fun q => h3 (hX _ q)⟩
  exact ⟨fun a o e => hb a o (C.X a o e), C.T.keeps hb⟩
/-- back from the new ground to the old -/
theorem Rel.unre {φ φ₀ : Phi} {X X₀ X₁ : List Addr} {s s₀ : Shared} {σ₀ : List (List PyData)} (R₀ : Rel c φ₀ X₁ σ₀ s₀) (hX : ∀ a ∈ X₀, a ∈ X₁) (R : Rel (c.re φ₀ X₀ s₀) φ X σ s) : Rel c φ X σ s where
  len := R.len
  nd := R.nd
  dj := R.dj
  ob := R.ob
  xs := R.xs
  bs := fun b o e => by
    obtain ⟨h1, h2, h3⟩ := R₀.bs b o e
    exact R.bs b o (cut_get.mpr ⟨h1, fun q => (List.mem_append.mp q).elim h2 fun q => h3 (hX _ q)⟩)
  tb := R.tb
  env := R.env
  tk := R.tk
  pl := R₀.pl.trans R.pl
  pt := R₀.pt.trans R.pt
theorem Loc.re {env : Env} {φ : Phi} {X X₁ : List Addr} {h : Heap} (L : Loc env sc ρ φ X h) (hX : ∀ a ∈ X₁, a ∈ X) : Loc env ⟨sc.s, []⟩ ρ φ X₁ h where
  len := L.len
  ns := by
    obtain ⟨m, h1, h2⟩ := L.ns
    exact ⟨m, h1, fun k x v e1 e2 => let ⟨cv, q1, q2⟩ := h2 k x v e1 e2; ⟨cv, q1, q2.sub hX⟩⟩
  cl := fun k x kd e1 e2 => by
    obtain ⟨a, ov, q1, q2, q3, q4⟩ := L.cl k x kd e1 e2
    exact ⟨a, ov, q1, q2, q3, fun v e3 => let ⟨cv, q5, q6⟩ := q4 v e3; ⟨cv, q5, q6.sub hX⟩⟩
theorem Ok.re {env : Env} {A : Around} {φ : Phi} {X X₁ : List Addr} {s : Shared} (O : Ok c d env sc A X) (R : Rel c φ X σ s) (hX : ∀ a ∈ X₁, a ∈ X) (hl : env.locals ∈ X₁) : Ok (c.re φ X₁ s) d env ⟨sc.s, []⟩ A X₁ :=
  ⟨R.reOk O.c hX, O.a, ⟨O.e.s, O.e.fn, O.e.nd, O.e.gl, O.e.bu, O.e.cn, O.e.lc⟩, fun b hb => by
    rcases List.mem_cons.mp hb with q | q
    · rw [q]; exact hl
    · cases q⟩

theorem zip_get {h : Heap} {φ : Phi} {X : List Addr} : ∀ {ps : List Str} {ws : List V} {cws : List Value}, VReps h φ X ws cws → ∀ {x : Str} {v : V}, (ps.zip ws).lookup x = some v → ∃ cv, (x, cv) ∈ ps.zip cws ∧ VRep h φ X v cv
  | ps, ws, cws, h, x, v, e => by
    induction h generalizing ps with
    | nil => cases ps <;> cases e
    | @cons w cw ws cws r rs ih =>
    cases ps with
    | nil => cases e
    | cons p ps =>
    rw [List.zip_cons_cons, List.lookup_cons] at e
    by_cases hx : x = p
    · subst hx
      simp only [beq_self_eq_true] at e
      cases e
      exact ⟨cw, by simp, r⟩
    · have hb : (x == p) = false := beq_eq_false_iff_ne.mpr hx
      rw [hb] at e
      obtain ⟨cv, h1, h2⟩ := ih _ e
      exact ⟨cv, by rw [List.zip_cons_cons]; exact List.mem_cons_of_mem _ h1, h2⟩
theorem zip_keys : ∀ {ps : List Str} {cws : List Value}, ps.Nodup → ((ps.zip cws).map (·.1)).Nodup
  | [], _, _ => by simp
  | p :: ps, [], _ => by simp
  | p :: ps, cw :: cws, nd => by
    rw [List.nodup_cons] at nd
    rw [List.zip_cons_cons, List.map_cons, List.nodup_cons]
    refine ⟨fun q => ?_, zip_keys nd.2⟩
    obtain ⟨⟨y1, y2⟩, h1, h2⟩ := List.mem_map.mp q
    have h2' : y1 = p := h2
    exact nd.1 (h2' ▸ (List.of_mem_zip h1).1)

/-- what stands under the names of an inner function -/
noncomputable def rhoF (sc : Scope) (ps : List Str) (ws : List V) (fs : List (Str × V)) : List (Option V) := sc.names.map fun n => match n.2 with
  | .free => fs.lookup n.1
  | _ => (ps.zip ws).lookup n.1

/-- a call of an inner function, its outer names held in cells -/
theorem TCall.clo {f : Addr} {o : Obj} {fd : FuncData} {body : List Stmt} {vs : List V} {ps : List Str} {fs : List (Str × V)} {P : V → List (List PyData) → Prop}
    (ho : c.base.get? f = some o) (hd : o.data = .func fd) (hco : fd.scope.isCoroutine = false) (hgen : fd.scope.isGenerator = false) (hk : fd.scope.kind = .function) (hbody : fd.body = .stmts body) (hcd : c.base.CodeRec fd.code fd.qualname)
    (hgl : fd.globals = mainGlobals) (hbu : fd.builtins = builtinsNs)
    (hnd : (fd.scope.names.map (·.1)).Nodup) (hps : ps.Nodup) (hpk : (ps.all fun x => fd.scope.names.lookup x == some .local) = true) (hnc : (fd.scope.names.all fun x => x.2 != .cell) = true)
    (hcn : (fd.closure.map (·.2)).Nodup) (hce : ∀ y a, (y, a) ∈ fd.closure → ∃ ov, c.base.IsCell a ov)
    (hfr : ∀ (k : Nat) (x : Str), fd.scope.names[k]? = some (x, NameKind.free) → ∃ (ca : Addr) (ov : Option Value), fd.closure.lookup x = some ca ∧ c.base.IsCell ca ov ∧ ∀ v, fs.lookup x = some v → ∃ cv : Value, ov = some cv ∧ VAll c v cv)
    (hb : ∀ cvs : List Value, cvs.length = vs.length → bindArgs fd ⟨cvs, []⟩ = pure (ps.zip cvs))
    (h : TFin c d body ⟨fd.scope, []⟩ (rhoF fd.scope ps vs fs) σ fun fl σ' => P (fz σ.length σ' (retV fl)) (σ'.take σ.length)) : TCall c (d + 1) (.ref f) vs [] [] σ P := by
  intro A X φ s cvs ckv Q E C a R rv rk K
  refine wpAny_call ?_
  have old : ∀ b o, c.base.get? b = some o → s.heap.get? b = some o := fun b o e => (R.bs b o e).1
  refine codeAny_call_function a.room (old f o ho) hd hco hgen hbody (hcd.keeps old) ?_
  show wpAny _ A.in1 (bindArgs fd ⟨cvs, []⟩) _ _ s
  rw [hb cvs rv.length_eq]
  refine wpAny_pure (wpAny_newFunctionEnv (fun x hx => ?_) (fun x hx => ?_) (fun h₁ hns hsb => ?_) hk)
  · have := List.all_eq_true.mp hnc x hx
    simpa using this
  · have := List.all_eq_true.mp hpk x.1 (List.of_mem_zip hx).1
    simpa using this
  generalize htk : s.toks + (ps.zip cvs).length = tk₁
  have ht₁ : s.toks ≤ tk₁ := htk ▸ Nat.le_add_right _ _
  generalize he : newEnv fd.scope s.heap.objs.size fd.globals fd.closure (fd.qualname ++ ".<locals>.") (some f) fd.code none fd.builtins = env
  have hL : env.locals = s.heap.objs.size := by rw [← he]; rfl
  have hcells : env.cells = fd.closure := by rw [← he]; rfl
  have hk₁ : ∀ b o, s.heap.get? b = some o → h₁.get? b = some o := fun b o e => hsb.extBut b o (Nat.ne_of_lt (Heap.lt_size e)) (Heap.get?_push_of_some _ e)
  have hown : own env ⟨fd.scope, []⟩ = [env.locals] := rfl
  have hfresh : ∀ b ∈ own env ⟨fd.scope, []⟩, s.heap.get? b = none := fun b hb => by
    rw [hown, List.mem_singleton] at hb
    rw [hb, hL]; exact get_none (Nat.le_refl _)
  rw [← hL] at hns
  have R₁ : Rel c φ (own env ⟨fd.scope, []⟩ ++ X) σ { s with heap := h₁, toks := tk₁ } := R.growX hk₁ hfresh (fun b hb => by
    rw [hown, List.mem_singleton] at hb
    rw [hb]; exact Heap.Ns.is hns) ht₁
  have O : Ok c d env ⟨fd.scope, []⟩ (A.deeper env) (own env ⟨fd.scope, []⟩ ++ X) := by
    refine ⟨C, a.deeper env, ⟨by rw [← he]; rfl, hk, hnd, by rw [← he]; exact hgl, by rw [← he]; exact hbu, by rw [hcells]; exact hcn, fun q => ?_⟩, fun b hb => List.mem_append.mpr (.inl hb)⟩
    rw [hcells] at q
    obtain ⟨⟨y, b⟩, h1, h2⟩ := List.mem_map.mp q
    obtain ⟨ov, o', e', _⟩ := hce y b h1
    have := old _ _ e'
    have h2' : b = env.locals := h2
    rw [h2', hL, get_none (Nat.le_refl _)] at this
    cases this
  have rws : VReps h₁ φ (own env ⟨fd.scope, []⟩ ++ X) vs cvs := rv.mono (List.prefix_refl _) .refl fun b o e => cut_growX hk₁ hfresh e
  have L : Loc env ⟨fd.scope, []⟩ (rhoF fd.scope ps vs fs) φ (own env ⟨fd.scope, []⟩ ++ X) h₁ := by
    refine ⟨by unfold rhoF; rw [List.length_map], ⟨_, hns, fun k y v e1 e2 => ?_⟩, fun k y kd e1 e2 => ?_⟩
    · have e1' : fd.scope.names[k]? = some (y, .local) := e1
      have e3 : (ps.zip vs).lookup y = some v := by
        unfold rhoF at e2
        rw [List.getElem?_map, e1'] at e2
        simpa using e2
      obtain ⟨cv, q1, q2⟩ := zip_get rws e3
      refine ⟨cv, ?_, q2⟩
      obtain ⟨i, hi⟩ := List.mem_iff_getElem?.mp (List.mem_reverse.mpr q1)
      refine lookup_of_get ?_ hi
      rw [List.map_reverse]
      exact List.pairwise_reverse.mpr ((zip_keys hps).imp fun q => Ne.symm q)
    · have e1' : fd.scope.names[k]? = some (y, kd) := e1
      have hkd : kd = .free := by
        rcases e2 with q | q
        · have := List.all_eq_true.mp hnc (y, kd) (List.mem_of_getElem? e1')
          rw [q] at this; cases this
        · exact q
      subst hkd
      obtain ⟨ca, ov, q1, ⟨oc, q2, q2'⟩, q3⟩ := hfr k y e1'
      refine ⟨ca, ov, by rw [hcells]; exact q1, ⟨oc, hk₁ _ _ (old _ _ q2), q2'⟩, (R.bs _ _ q2).2.1, fun v e3 => ?_⟩
      have e4 : fs.lookup y = some v := by
        unfold rhoF at e3
        rw [List.getElem?_map, e1'] at e3
        simpa using e3
      obtain ⟨cv, q4, q5⟩ := q3 v e4
      exact ⟨cv, q4, q5 φ _ σ _ R₁⟩
  have nolim : h₁.NoLimit := by
    obtain ⟨mc, ⟨o, es, ep, ho, r⟩, q⟩ := C.T.nolimit
    exact ⟨mc, ⟨o, es, ep, hk₁ _ _ (R.bs _ _ ho).1, r⟩, q⟩
  refine ⟨nolim, codeAny_func ?_⟩
  refine h env (A.deeper env) (own env ⟨fd.scope, []⟩ ++ X) φ _ _ _ O R₁ L fun fl fc φ₂ σ₂ s₂ X₂ hX₁ hX₂ x₂ R₂ r₂ p => ?_
  have hXX : ∀ a ∈ X, a ∈ X₂ := fun a ha => Classical.byContradiction fun hn => by
    have h1 := hX₂ a (List.mem_append.mpr (.inr ha)) hn
    obtain ⟨o, e⟩ := R.xs a ha
    rw [hfresh a h1] at e; cases e
  have hφ : φ₂.l.take σ.length = φ.l := by
    obtain ⟨t, ht⟩ := x₂.pre
    rw [← ht, ← R.len, List.take_left]
  have hφ' : (φ₂.take σ.length).l = φ.l := hφ
  have R₃ := R₂.cutTo hXX σ.length (by rw [hφ']; exact R.pl) fun b hb => (R.tb b hb).1
  have x₃ : Step φ (φ₂.take σ.length) [] s s₂ := by
    refine ⟨by rw [hφ']; exact List.prefix_refl _, fun b o e h1 _ h9 => ?_, fun a h1 h2 => absurd (hφ' ▸ h1) h2, fun b o e => ?_, x₂.tau⟩
    · refine x₂.keep b o (hk₁ _ _ e) h1 (fun q => ?_) h9
      rw [hfresh b q] at e; cases e
    · exact x₂.alive b o (hk₁ _ _ e)
  have rr := R₂.fzFl hXX (n := σ.length) (fl := fl) (f := fc) r₂
  have fin := K _ (retC fc) _ _ s₂ x₃ R₃ rr p
  cases fc <;> exact fin
end
end Mine
end -- Fw26
section -- Fw27
set_option tactic.hygienic false
open PySem PySem.W PySem.Calls PyProof.Rows
set_option linter.unusedVariables false
set_option linter.unusedSimpArgs false
set_option autoImplicit false
namespace Mine

theorem execs_app (env : Env) (b : List Stmt) : ∀ a : List Stmt, execs (a ++ b) env = (execs a env >>= fun f => match f with | .next => execs b env | f => pure f)
  | [] => by
    show execs b env = (pure Flow.next >>= _)
    rw [pure_bind]
  | st :: r => by
    rw [List.cons_append, execs_cons, execs_cons, bind_assoc]
    congr 1
    funext f
    cases f with
    | next => exact execs_app env b r
    | _ => simp only [pure_bind]
theorem wpAny_execs_app {M : Model} {A : Around} {E : Value → Shared → Prop} {s : Shared} {env : Env} {a b : List Stmt} {Q : Flow → Shared → Prop}
    (h : wpAny M A (execs a env) (fun f s' => match f with | .next => wpAny M A (execs b env) Q E s' | f => Q f s') E s) : wpAny M A (execs (a ++ b) env) Q E s := by
  rw [execs_app]
  refine wpAny_bind (wpAny_mono h (fun f s' h' => ?_) fun _ _ e => e)
  cases f <;> first | exact h' | exact wpAny_pure h'

noncomputable def closOf (scope : Scope) (env : Env) : List (Str × Addr) := ((scope.names.filter fun n => n.2 == .free).map fun n => (n.1, (env.cells.lookup n.1).getD 0)).reverse
theorem mem_closOf {scope : Scope} {env : Env} {y : Str} {a : Addr} (h : (y, a) ∈ closOf scope env) : (y, NameKind.free) ∈ scope.names ∧ a = (env.cells.lookup y).getD 0 := by
  unfold closOf at h
  rw [List.mem_reverse] at h
  obtain ⟨⟨n1, n2⟩, h1, h2⟩ := List.mem_map.mp h
  obtain ⟨h3, h4⟩ := List.mem_filter.mp h1
  have h5 : n2 = .free := by simpa using h4
  cases h2; subst h5
  exact ⟨h3, rfl⟩
theorem closOf_keys {scope : Scope} {env : Env} (nd : (scope.names.map (·.1)).Nodup) : ((closOf scope env).map (·.1)).Nodup := by
  unfold closOf
  rw [List.map_reverse]
  refine List.pairwise_reverse.mpr (List.Pairwise.imp (fun q => Ne.symm q) ?_)
  rw [List.map_map]
  exact nd.sublist ((List.filter_sublist).map _)
theorem closOf_get {scope : Scope} {env : Env} (nd : (scope.names.map (·.1)).Nodup) {x : Str} {a : Addr} (h : (x, NameKind.free) ∈ scope.names) (e : env.cells.lookup x = some a) : (closOf scope env).lookup x = some a := by
  have hm : (x, a) ∈ closOf scope env := by
    unfold closOf
    rw [List.mem_reverse]
    exact List.mem_map.mpr ⟨(x, .free), List.mem_filter.mpr ⟨h, rfl⟩, by simp [e]⟩
  obtain ⟨i, hi⟩ := List.mem_iff_getElem?.mp hm
  exact lookup_of_get (closOf_keys nd) hi

noncomputable def CellAt (c : Cx) (clos : List (Str × Addr)) (x : Str) (v : V) : Prop := ∃ ca cv, clos.lookup x = some ca ∧ c.base.IsCell ca (some cv) ∧ VAll c v cv

/-- all that an inner function's free names are cells of the outer one -/
noncomputable abbrev freesIn (scope : Scope) (sc : Sc) : Bool := scope.names.all fun n => n.2 != .free || (sc.names.contains (n.1, .cell) && sc.own.contains n.1)

structure CloK (c : Cx) (f : Addr) (name qual : Str) (params : Arguments) (body : List Stmt) (scope : Scope) (clos : List (Str × Addr)) : Prop where
  fn : ∃ doc pm cv ctv, c.base.get? f = some { cls := .type "function", data := .func (fnX name qual params body scope clos .none .none doc pm none cv ctv) } ∧ c.base.CodeRec cv qual
  cn : (clos.map (·.2)).Nodup
  ce : ∀ y a, (y, a) ∈ clos → ∃ ov, c.base.IsCell a ov

theorem CloK.keep {c : Cx} {f : Addr} {name qual : Str} {params : Arguments} {body : List Stmt} {scope : Scope} {clos : List (Str × Addr)} (k : CloK c f name qual params body scope clos) : KeepOk c (.ref f) := by
  obtain ⟨doc, pm, cv, ctv, h, _⟩ := k.fn
  exact KeepOk.fn h

section
variable {c : Cx} {d : Nat} {sc : Sc} {ρ : List (Option V)} {σ : List (List PyData)}

theorem TCall.inner {f : Addr} {name qual : Str} {params : Arguments} {body : List Stmt} {scope : Scope} {clos : List (Str × Addr)} {vs : List V} {ps : List Str} {fs : List (Str × V)} {P : V → List (List PyData) → Prop}
    (k : CloK c f name qual params body scope clos) (hfr : ∀ (i : Nat) (x : Str), scope.names[i]? = some (x, NameKind.free) → ∃ v, fs.lookup x = some v ∧ CellAt c clos x v)
    (hb : ∀ (fd : FuncData) (cvs : List Value), fd.params = params → fd.defaults = .none → fd.kwdefaults = .none → fd.scope = scope → cvs.length = vs.length → bindArgs fd ⟨cvs, []⟩ = pure (ps.zip cvs))
    (h : TFin c d body ⟨scope, []⟩ (rhoF scope ps vs fs) σ fun fl σ' => P (fz σ.length σ' (retV fl)) (σ'.take σ.length))
    (hco : scope.isCoroutine = false := by rfl) (hgen : scope.isGenerator = false := by rfl) (hk : scope.kind = .function := by rfl)
    (hnd : (scope.names.map (·.1)).Nodup := by decide) (hps : ps.Nodup := by decide) (hpk : (ps.all fun x => scope.names.lookup x == some .local) = true := by decide) (hnc : (scope.names.all fun x => x.2 != .cell) = true := by decide) :
    TCall c (d + 1) (.ref f) vs [] [] σ P := by
  obtain ⟨doc, pm, cv, ctv, ho, hcd⟩ := k.fn
  refine TCall.clo (fs := fs) (ps := ps) ho rfl hco hgen hk rfl hcd rfl rfl hnd hps hpk hnc k.cn k.ce (fun i x e => ?_) (fun cvs hl => hb _ cvs rfl rfl rfl rfl hl) h
  obtain ⟨v, h1, ca, cv, h2, h3, h4⟩ := hfr i x e
  refine ⟨ca, some cv, h2, h3, fun v' e' => ⟨cv, rfl, ?_⟩⟩
  rw [h1] at e'; cases e'; exact h4

/-- a call of a function that makes a function within -/
theorem TCall.nest {f₀ : Addr} {o : Obj} {fd : FuncData} {pre rest : List Stmt} {vs ws : List V} {ps : List Str} {P : V → List (List PyData) → Prop} {ρp : List (Option V)} {σp : List (List PyData)} {name : Str} {params : Arguments} {body : List Stmt} {scope : Scope} {pos : Pos} {cd T : Addr} (k : Nat)
    (hK : c.K.lookup f₀ = some o) (hd : o.data = .func fd) (hco : fd.scope.isCoroutine = false) (hgen : fd.scope.isGenerator = false) (hk : fd.scope.kind = .function) (hbody : fd.body = .stmts (pre ++ .FunctionDef name params body [] none [] scope none name pos :: rest)) (hcd : codeIn c.K fd.code fd.qualname = true)
    (hgl : fd.globals = mainGlobals) (hbu : fd.builtins = builtinsNs) (hcl : fd.closure = [])
    (hnd : (fd.scope.names.map (·.1)).Nodup) (hps : ps.Nodup) (hpk : (ps.all fun x => fd.scope.names.lookup x == some .local || fd.scope.names.lookup x == some .cell) = true) (hfree : (fd.scope.names.all fun x => x.2 != .free) = true)
    (hb : TBind c d fd vs [] [] σ ps ws)
    (hkk : fd.scope.names[k]? = some (name, .cell)) (hT : T ∈ tabs) (hcode : fd.code = .ref cd) (hC : ∀ h, c.K.In h → CodeHd h cd T) (hqual : fd.qualname ++ ".<locals>." ++ name = tabQual T)
    (hfi : freesIn scope (fnSc fd.scope) = true) (hin : (scope.names.map (·.1)).Nodup) (hd0 : params.defaults = []) (hk0 : params.kw_defaults = []) (ha : ∀ env, annTrees params none env = [])
    (hpre : TSS c d pre (fnSc fd.scope) (rho0 fd.scope ps ws) σ fun fl ρ₁ σ₁ => fl = .next ∧ ρ₁ = ρp ∧ σ₁ = σp)
    (h : ∀ (base : Heap) (pin : Phi) (f : Addr) (clos : List (Str × Addr)), CloK { c with base := base, pin := pin } f name (tabQual T) params body scope clos →
      (∀ (i : Nat) (x : Str) (v : V), fd.scope.names[i]? = some (x, .cell) → (ρp.set k (some (.p (.ref f))))[i]? = some (some v) → (x, NameKind.free) ∈ scope.names → CellAt { c with base := base, pin := pin } clos x v) →
      TSS { c with base := base, pin := pin } d rest ⟨fd.scope, []⟩ (ρp.set k (some (.p (.ref f)))) σp fun fl _ σ' => P (fz σ.length σ' (retV fl)) (σ'.take σ.length)) :
    TCall c (d + 1) (.ref f₀) vs [] [] σ P := by
  intro A X φ s cvs ckv Q E C a R rv rk K
  refine wpAny_call ?_
  refine fn_enter hK hd hco hgen hk hbody hcd hgl hbu hcl hnd hps hpk hfree hb C a R rv rk ?_
  intro env h₁ tk₁ E' hk₁ ht₁ hf O R₁ L₁ hec heq
  have hoX : ∀ b ∈ own env (fnSc fd.scope), b ∉ X := fun b hb q => by
    obtain ⟨o, e⟩ := R.xs b q
    rw [hf b hb] at e; cases e
  have hpre' : ∀ (Q : Flow → Shared → Prop), (∀ φ₂ s₂, Step φ φ₂ (own env (fnSc fd.scope)) { s with heap := h₁, toks := tk₁ } s₂ → Rel c φ₂ (own env (fnSc fd.scope) ++ X) σp s₂ → Loc env (fnSc fd.scope) ρp φ₂ (own env (fnSc fd.scope) ++ X) s₂.heap → wpAny (model c.prog c.w) (A.deeper env) (execs (.FunctionDef name params body [] none [] scope none name pos :: rest) env) Q E' s₂) →
      wpAny (model c.prog c.w) (A.deeper env) (execs (pre ++ .FunctionDef name params body [] none [] scope none name pos :: rest) env) Q E' { s with heap := h₁, toks := tk₁ } := by
    intro Q hQ
    refine wpAny_execs_app (hpre env _ _ φ _ _ _ O R₁ L₁ fun fl fc φ₂ ρ₂ σ₂ s₂ x₂ R₂ L₂ r₂ p => ?_)
    obtain ⟨rfl, rfl, rfl⟩ := p
    cases fc <;> first | exact r₂.elim | skip
    exact hQ _ _ x₂ R₂ L₂
  refine hpre' _ fun φ₂ s₂ x₂ R₂ L₂ => ?_
  have hget : ∀ x, (x, NameKind.free) ∈ scope.names → ∃ i, fd.scope.names[i]? = some (x, NameKind.cell) ∧ x ∈ (fnSc fd.scope).own := fun x hx => by
    have h1 := List.all_eq_true.mp hfi (x, .free) hx
    simp only [bne_self_eq_false, Bool.false_or, Bool.and_eq_true] at h1
    obtain ⟨i, hi⟩ := List.mem_iff_getElem?.mp (List.contains_iff_mem.mp h1.1)
    exact ⟨i, hi, List.contains_iff_mem.mp h1.2⟩
  have hclos : closureFor scope env = pure (closOf scope env) := closure_of (fun x => (env.cells.lookup x).getD 0) fun x hx => by
    obtain ⟨i, hi, _⟩ := hget x hx
    obtain ⟨ca, ov, q1, _⟩ := L₂.cl i x _ hi (.inl rfl)
    rw [q1]; rfl
  have hnk : name ∈ (fnSc fd.scope).own := List.mem_map.mpr ⟨(name, .cell), List.mem_filter.mpr ⟨List.mem_of_getElem? hkk, rfl⟩, rfl⟩
  refine wpAny_execs_cons (def_run O R₂ L₂ k hkk hnk hT (hec.trans hcode) hC (by rw [heq]; exact hqual) hclos hd0 hk0 (ha env) fun f φ₃ s₃ doc pm cv ctv x₃ R₃ L₃ hfo hcr => ?_)
  -- the new ground
  have hX₁ : ∀ a ∈ env.locals :: X, a ∈ own env (fnSc fd.scope) ++ X := fun a ha => by
    rcases List.mem_cons.mp ha with q | q
    · rw [q]; exact List.mem_append.mpr (.inl List.mem_cons_self)
    · exact List.mem_append.mpr (.inr q)
  have hTX : ∀ b ∈ tabs, b ∈ env.locals :: X := fun b hb => List.mem_cons_of_mem _ (R.tb b hb).1
  have hsub : ∀ b o, (cut s₃.heap (φ₃.l ++ (own env (fnSc fd.scope) ++ X))).get? b = some o → (cut s₃.heap (φ₃.l ++ (env.locals :: X))).get? b = some o := fun b o e =>
    cut_get.mpr ⟨(cut_get.mp e).1, fun q => (cut_get.mp e).2 (List.mem_append.mpr ((List.mem_append.mp q).imp id (hX₁ _)))⟩
  have hcell : ∀ (i : Nat) (x : Str), fd.scope.names[i]? = some (x, NameKind.cell) → ∃ (ca : Addr) (ov : Option Value), env.cells.lookup x = some ca ∧ (cut s₃.heap (φ₃.l ++ (env.locals :: X))).IsCell ca ov ∧ ∀ v, (ρp.set k (some (.p (.ref f))))[i]? = some (some v) → ∃ cv, ov = some cv ∧ VAll (c.re φ₃ (env.locals :: X) s₃) v cv := fun i x hi => by
    obtain ⟨ca, ov, q1, ⟨oc, q2, q2'⟩, q3, q4⟩ := L₃.cl i x _ hi (.inl rfl)
    have hxo : x ∈ (fnSc fd.scope).own := List.mem_map.mpr ⟨(x, .cell), List.mem_filter.mpr ⟨List.mem_of_getElem? hi, rfl⟩, rfl⟩
    have hca : ca ∈ own env (fnSc fd.scope) := mem_own_of_lookup hxo q1
    refine ⟨ca, ov, q1, ⟨oc, cut_get.mpr ⟨q2, fun q => ?_⟩, q2'⟩, fun v e => ?_⟩
    · rcases List.mem_append.mp q with q | q
      · exact q3 q
      · rcases List.mem_cons.mp q with q | q
        · exact O.e.lc (List.mem_map.mpr ⟨(x, ca), PySem.mem_of_lookup q1, q⟩)
        · exact hoX _ hca q
    · obtain ⟨cv, q5, q6⟩ := q4 v e
      exact ⟨cv, q5, (q6.sub hX₁).all⟩
  have O' := O.re (c := c) R₃ hX₁ List.mem_cons_self
  have R' := R₃.re hX₁ hTX
  have L' := L₃.re (sc := fnSc fd.scope) hX₁
  have CK : CloK (c.re φ₃ (env.locals :: X) s₃) f name (tabQual T) params body scope (closOf scope env) := by
    refine ⟨⟨doc, pm, cv, ctv, hsub _ _ hfo, hcr.keeps hsub⟩, ?_, fun y a hy => ?_⟩
    · have hpw := closOf_keys (env := env) hin
      rw [List.Nodup, List.pairwise_map] at hpw ⊢
      refine List.Pairwise.imp_of_mem (fun {p q} hp hq hne e => hne ?_) hpw
      obtain ⟨p1, p2⟩ := p
      obtain ⟨q1, q2⟩ := q
      obtain ⟨m1, e1⟩ := mem_closOf hp
      obtain ⟨m2, e2⟩ := mem_closOf hq
      obtain ⟨i, hi, _⟩ := hget _ m1
      obtain ⟨j, hj, _⟩ := hget _ m2
      obtain ⟨ca, _, r1, _⟩ := hcell i _ hi
      obtain ⟨cb, _, r2, _⟩ := hcell j _ hj
      rw [r1] at e1; rw [r2] at e2
      have e1' : p2 = ca := e1
      have e2' : q2 = cb := e2
      have e3 : p2 = q2 := e
      have : ca = cb := by rw [← e1', ← e2', e3]
      subst this
      exact cell_addr_inj O.e.cn r1 r2
    · obtain ⟨m1, e1⟩ := mem_closOf hy
      obtain ⟨i, hi, _⟩ := hget _ m1
      obtain ⟨ca, ov, r1, r2, _⟩ := hcell i _ hi
      rw [r1] at e1
      have e1' : a = ca := e1
      rw [e1']; exact ⟨ov, r2⟩
  have key := h (cut s₃.heap (φ₃.l ++ (env.locals :: X))) φ₃ f (closOf scope env) CK fun i x v hi hv hx => by
    obtain ⟨ca, ov, r1, r2, r3⟩ := hcell i x hi
    obtain ⟨cv, rfl, r4⟩ := r3 v hv
    exact ⟨ca, cv, closOf_get hin hx r1, r2, r4⟩
  refine key env _ _ φ₃ s₃ _ _ O' R' L' fun fl fc φ₄ ρ₄ σ₄ s₄ x₄ R₄ L₄ r₄ p => ?_
  have R₅ : Rel c φ₄ (env.locals :: X) σ₄ s₄ := Rel.unre R₃ hX₁ R₄
  have hXX : ∀ a ∈ X, a ∈ env.locals :: X := fun a ha => List.mem_cons_of_mem _ ha
  have xs : ∀ {W : List Addr}, (∀ a ∈ W, a ∈ own env (fnSc fd.scope)) → ∀ {φ φ' : Phi} {s s' : Shared} {σ : List (List PyData)}, Step φ φ' W s s' → Rel c φ (own env (fnSc fd.scope) ++ X) σ s → Step φ φ' (own env (fnSc fd.scope)) s s' := by
    intro W hW φ φ' s s' σ x R
    exact x.wide hW fun a ha _ => R.xs a (List.mem_append.mpr (.inl ha))
  have x₄' : Step φ₃ φ₄ (own env (fnSc fd.scope)) s₃ s₄ := xs (fun a ha => by rcases List.mem_cons.mp ha with q | q; exact q ▸ List.mem_cons_self; cases q) x₄ R₃
  have xall : Step φ φ₄ ([] ++ own env (fnSc fd.scope)) s s₄ := (Step.grow (W := [] ++ own env (fnSc fd.scope)) (tk := tk₁) hk₁).trans ((x₂.trans x₃).trans x₄')
  have xn : Step φ φ₄ [] s s₄ := xall.narrow hf
  have hφ : φ₄.l.take σ.length = φ.l := by
    obtain ⟨t, ht⟩ := xn.pre
    rw [← ht, ← R.len, List.take_left]
  have hφ' : (φ₄.take σ.length).l = φ.l := hφ
  have R₆ := R₅.cutTo hXX σ.length (by rw [hφ']; exact R.pl) fun b hb => (R.tb b hb).1
  have x₆ : Step φ (φ₄.take σ.length) [] s s₄ :=
    ⟨by rw [hφ']; exact List.prefix_refl _, xn.keep, fun a h1 h2 => absurd (hφ' ▸ h1) h2, xn.alive, xn.tau⟩
  have rr := R₅.fzFl hXX (n := σ.length) (fl := fl) (f := fc) r₄
  exact K _ (retC fc) _ _ s₄ x₆ R₆ rr p
end
end Mine
end -- Fw27
section -- Fw28
set_option tactic.hygienic false
open PySem PySem.W PySem.Calls PyProof.Rows
set_option linter.unusedVariables false
set_option linter.unusedSimpArgs false
set_option autoImplicit false
namespace Mine
section
variable {c : Cx} {d : Nat} {sc : Sc} {ρ : List (Option V)} {σ : List (List PyData)} {P : V → List (List PyData) → Prop}
theorem TV2.shrII {wa wb : Bool} {i j : Int} (h0 : 0 ≤ j) (p : P (.d (.int (i.fdiv (2 ^ j.toNat)))) σ) : TV2 c d (binaryOp .RShift) (.e wa (.int i)) (.e wb (.int j)) σ P := by
  intro A X φ s ca cb Q E C a R ra rb K
  obtain ⟨t, rfl⟩ := ra.int_inv
  obtain ⟨u, rfl⟩ := rb.int_inv
  exact rshift_int h0 (K.intN R p)
theorem TV2.subIL {value slice : Expr} {v : V} {wk wb : Bool} {xs : List PyData} {k : Int} {x : PyData} (h : IsL σ v wk xs) (h0 : 0 ≤ k) (h1 : k < 2 ^ 63) (hx : xs[k.toNat]? = some x) (p : P (.e wk x) σ) (hs : noSlice slice = true := by rfl) : TV2 c d (subscriptTail value slice) v (.e wb (.int k)) σ P := by
  cases h with
  | v => exact TV2.subLI h0 h1 hx p hs
  | r hi => exact TV2.subRI hi h0 h1 hx p hs
end

/-- the number that digits tell, the least first -/
noncomputable def d2i (n : Nat) : List Int → Int
  | [] => 0
  | x :: r => x + d2i n r * 2 ^ n
theorem d2i_app (n : Nat) : ∀ a b : List Int, d2i n (a ++ b) = d2i n a + d2i n b * 2 ^ (n * a.length)
  | [], b => by simp [d2i]
  | x :: r, b => by
    simp only [List.cons_append, d2i, d2i_app n r b, List.length_cons]
    rw [Nat.mul_add, Nat.mul_one, Int.pow_add, Int.add_mul, Int.mul_assoc]
    omega
theorem d2i_bd (n : Nat) : ∀ a : List Int, (∀ x ∈ a, 0 ≤ x ∧ x < 2 ^ n) → 0 ≤ d2i n a ∧ d2i n a < 2 ^ (n * a.length)
  | [], _ => by simp [d2i]
  | x :: r, h => by
    have ⟨h1, h2⟩ := d2i_bd n r fun y hy => h y (List.mem_cons_of_mem _ hy)
    have ⟨h3, h4⟩ := h x List.mem_cons_self
    have hp : (0 : Int) < 2 ^ n := Int.pow_pos (by omega)
    simp only [d2i, List.length_cons, Nat.mul_add, Nat.mul_one, Int.pow_add]
    have h5 : 0 ≤ d2i n r * 2 ^ n := Int.mul_nonneg h1 (Int.le_of_lt hp)
    refine ⟨by omega, ?_⟩
    have h6 : (d2i n r + 1) * 2 ^ n ≤ 2 ^ (n * r.length) * 2 ^ n := Int.mul_le_mul_of_nonneg_right (by omega) (Int.le_of_lt hp)
    rw [Int.add_mul, Int.one_mul] at h6
    omega

/-- the part of a list from i to j -/
noncomputable abbrev cutL {α : Type} (l : List α) (i j : Nat) : List α := (l.drop i).take (j - i)
theorem cutL_app {α : Type} (l : List α) {i m j : Nat} (h1 : i ≤ m) (h2 : m ≤ j) : cutL l i j = cutL l i m ++ cutL l m j := by
  unfold cutL
  have e : j - i = (m - i) + (j - m) := by omega
  rw [e, List.take_add, List.drop_drop]
  have : i + (m - i) = m := by omega
  rw [this]
theorem cutL_len {α : Type} (l : List α) {i j : Nat} (h1 : i ≤ j) (h2 : j ≤ l.length) : (cutL l i j).length = j - i := by
  unfold cutL
  rw [List.length_take, List.length_drop]; omega
theorem cutL_one {α : Type} (l : List α) {i : Nat} {x : α} (h : l[i]? = some x) : cutL l i (i + 1) = [x] := by
  unfold cutL
  have hi := (List.getElem?_eq_some_iff.mp h)
  obtain ⟨hl, e⟩ := hi
  rw [List.drop_eq_getElem_cons hl, e]
  have : i + 1 - i = 1 := by omega
  rw [this]; rfl
theorem cutL_all {α : Type} (l : List α) : cutL l 0 l.length = l := by simp [cutL]
theorem cutL_mem {α : Type} {l : List α} {i j : Nat} {x : α} (h : x ∈ cutL l i j) : x ∈ l := List.mem_of_mem_drop (List.mem_of_mem_take h)
end Mine
end -- Fw28
section -- B5
set_option tactic.hygienic false
open PySem PySem.W PySem.Calls PyProof.Rows
set_option linter.unusedVariables false
set_option linter.unusedSimpArgs false
set_option autoImplicit false
namespace Mine
theorem bitAnd_nat (x y : Nat) : Builtin.bitAnd (x : Int) (y : Int) = ((x &&& y : Nat) : Int) := by
  unfold Builtin.bitAnd
  have h1 : decide ((0 : Int) ≤ (x : Int)) = true := by simp
  have h2 : decide ((0 : Int) ≤ (y : Int)) = true := by simp
  rw [h1, h2]
  simp
theorem bitNot_not (x : Int) : Builtin.bitNot (Builtin.bitNot x) = x := by unfold Builtin.bitNot; omega
theorem bitOr_nat (x y : Nat) : Builtin.bitOr (x : Int) (y : Int) = ((x ||| y : Nat) : Int) := by
  unfold Builtin.bitOr Builtin.bitAnd
  have h1 : decide ((0 : Int) ≤ Builtin.bitNot (x : Int)) = false := by rw [decide_eq_false_iff_not]; unfold Builtin.bitNot; omega
  have h2 : decide ((0 : Int) ≤ Builtin.bitNot (y : Int)) = false := by rw [decide_eq_false_iff_not]; unfold Builtin.bitNot; omega
  rw [h1, h2]
  simp only [bitNot_not, Int.toNat_natCast]
theorem high_bit (x s i : Nat) : (x / 2 ^ s * 2 ^ s).testBit i = (decide (s ≤ i) && x.testBit i) := by
  rw [← Nat.shiftLeft_eq, ← Nat.shiftRight_eq_div_pow, Nat.testBit_shiftLeft]
  by_cases h : s ≤ i
  · simp only [h, decide_true, Bool.true_and, Nat.testBit_shiftRight]
    congr 1; omega
  · simp [h]
theorem xor_low (x s : Nat) : Builtin.bitXor (x : Int) ((x / 2 ^ s * 2 ^ s : Nat) : Int) = ((x % 2 ^ s : Nat) : Int) := by
  unfold Builtin.bitXor
  rw [bitOr_nat, bitAnd_nat]
  have h1 : x ||| x / 2 ^ s * 2 ^ s = x := by
    apply Nat.eq_of_testBit_eq
    intro i
    rw [Nat.testBit_or, high_bit]
    cases x.testBit i <;> simp
  have h2 : x &&& x / 2 ^ s * 2 ^ s = x / 2 ^ s * 2 ^ s := by
    apply Nat.eq_of_testBit_eq
    intro i
    rw [Nat.testBit_and, high_bit]
    cases x.testBit i <;> simp
  rw [h1, h2]
  have := Nat.div_add_mod x (2 ^ s)
  rw [Nat.mul_comm] at this
  omega

/-- the k digits of a, the least first -/
noncomputable def digs (n : Nat) : Nat → Nat → List Nat
  | 0, _ => []
  | k + 1, a => a % 2 ^ n :: digs n k (a / 2 ^ n)
theorem digs_len (n : Nat) : ∀ k a, (digs n k a).length = k
  | 0, _ => rfl
  | k + 1, a => by simp [digs, digs_len n k]
theorem digs_one {n a : Nat} (h : a < 2 ^ n) : digs n 1 a = [a] := by simp [digs, Nat.mod_eq_of_lt h]
theorem digs_app (n : Nat) : ∀ p q x, digs n (p + q) x = digs n p (x % 2 ^ (n * p)) ++ digs n q (x / 2 ^ (n * p))
  | 0, q, x => by simp [digs]
  | p + 1, q, x => by
    have e : p + 1 + q = (p + q) + 1 := by omega
    rw [e]
    simp only [digs, List.cons_append]
    have e2 : 2 ^ (n * (p + 1)) = 2 ^ n * 2 ^ (n * p) := by rw [Nat.mul_add, Nat.mul_one, Nat.pow_add, Nat.mul_comm]
    rw [e2, Nat.mod_mul_right_mod, Nat.mod_mul_right_div_self, ← Nat.div_div_eq_div_mul, digs_app n p q]
theorem digs_get (n : Nat) : ∀ k a i, i < k → (digs n k a)[i]? = some (a / 2 ^ (n * i) % 2 ^ n)
  | 0, a, i, h => by omega
  | k + 1, a, 0, h => by simp [digs]
  | k + 1, a, i + 1, h => by
    have := digs_get n k (a / 2 ^ n) i (by omega)
    simp only [digs, List.getElem?_cons_succ, this]
    rw [Nat.div_div_eq_div_mul, ← Nat.pow_add]
    congr 4
    rw [Nat.mul_add]; omega

noncomputable abbrev natD (l : List Nat) : List PyData := l.map fun x : Nat => PyData.int (x : Int)
/-- zs laid into ys from L on -/
noncomputable def put {α : Type} (ys : List α) (L : Nat) (zs : List α) : List α := ys.take L ++ zs ++ ys.drop (L + zs.length)
theorem put_len {α : Type} {ys zs : List α} {L : Nat} (h : L + zs.length ≤ ys.length) : (put ys L zs).length = ys.length := by
  unfold put
  rw [List.length_append, List.length_append, List.length_take, List.length_drop]; omega
theorem put_one {α : Type} {ys : List α} {L : Nat} {x : α} (h : L < ys.length) : ys.set L x = put ys L [x] := by
  unfold put
  rw [List.set_eq_take_append_cons_drop, if_pos h]
  simp
theorem put_put {α : Type} {ys a b : List α} {L : Nat} (h : L + a.length + b.length ≤ ys.length) : put (put ys L a) (L + a.length) b = put ys L (a ++ b) := by
  have h1 : (ys.take L ++ a).length = L + a.length := by rw [List.length_append, List.length_take]; omega
  unfold put
  rw [List.take_append_of_le_length (Nat.le_of_eq h1.symm), List.take_of_length_le (Nat.le_of_eq h1), List.drop_append, h1, List.drop_drop]
  rw [List.drop_eq_nil_of_le (by omega), List.nil_append, List.length_append]
  have : L + a.length + (L + a.length + b.length - (L + a.length)) = L + (a.length + b.length) := by omega
  rw [this]
  simp [List.append_assoc]
theorem put_all {α : Type} {ys zs : List α} (h : zs.length = ys.length) : put ys 0 zs = zs := by
  unfold put
  simp [h]
theorem put_ints (ys zs : List Nat) (L : Nat) : natD (put ys L zs) = put (natD ys) L (natD zs) := by
  unfold put
  simp
theorem bits_lt (a : Nat) : a < 2 ^ (Builtin.Int.intBits (a : Int)) := by
  unfold Builtin.Int.intBits
  by_cases h : a = 0
  · subst h; decide
  · have hb : ((a : Int) == 0) = false := by rw [beq_eq_false_iff_ne]; omega
    rw [hb]
    simp only [Bool.false_eq_true, if_false, Int.natAbs_natCast]
    exact Nat.lt_log2_self
theorem bits_le {a m : Nat} (h : a < 2 ^ m) : Builtin.Int.intBits (a : Int) ≤ m := by
  unfold Builtin.Int.intBits
  by_cases h0 : a = 0
  · subst h0; simp
  · have hb : ((a : Int) == 0) = false := by rw [beq_eq_false_iff_ne]; omega
    rw [hb]
    simp only [Bool.false_eq_true, if_false, Int.natAbs_natCast]
    exact (Nat.log2_lt h0).mpr h
end Mine
end -- B5
section -- G11
set_option tactic.hygienic false
open PySem PySem.W PySem.Calls PyProof.Rows
set_option linter.unusedVariables false
set_option linter.unusedSimpArgs false
set_option autoImplicit false
namespace Mine
theorem mid_eq (L R : Nat) : ((L : Int) + (R : Int)).fdiv (2 ^ (1 : Int).toNat) = (((L + R) / 2 : Nat) : Int) := by
  show ((L : Int) + (R : Int)).fdiv 2 = _
  rw [Int.fdiv_eq_ediv_of_nonneg _ (by omega)]
  omega
section
variable {w : World} {base : Heap} {s0 : Shared} {loose : List Str} {mean : ExcName → Option Value} {mg mb : Str → Option Value} {pin : Phi} {d : Nat} {σ : List (List PyData)} {P : V → List (List PyData) → Prop}
set_option maxRecDepth 100000 in
theorem digits2int_spec {v : V} {ds : List Int} {n : Nat} (hv : IsL σ v false (ds.map .int)) (hn : n * ds.length ≤ 60) (hlen : ds.length ≤ 8) (hds : ∀ x ∈ ds, 0 ≤ x ∧ x < 2 ^ n) (p : P (.d (.int (d2i n ds))) σ) :
    TCall (cx w base s0 loose mean mg mb pin) (d + 10) (.ref 200) [v, .d (.int n)] [] [] σ P := by
  have KX : (hd.heap_39 w.params).In base → True := fun _ => trivial
  have PP : PySem.Challenge.rw_wc0014_01.prog = PySem.Challenge.rw_wc0014_01.prog := rfl
  revert KX PP; k_fill; intro KX PP
  refine TCall.nest (pre := []) (ps := [Str.ofString "digits", Str.ofString "n"]) (ws := [v, .d (.int n)]) (ρp := [some v, some (.d (.int n)), none, none]) (σp := σ) (T := 195) 2 (hK := by show List.lookup 200 (hd.heap_39 w.params) = _; k_is) rfl rfl rfl rfl rfl ?hcd rfl rfl rfl ?hnd ?hps ?hpk rfl (TBind.plain ?hb) rfl (by decide) rfl ?hC ?hq rfl ?hin rfl rfl (fun _ => rfl) ?hpre ?hmain
  case hcd => show codeIn (hd.heap_39 w.params) _ _ = true; k_is
  case hnd => decide
  case hps => decide
  case hpk => decide
  case hin => decide
  case hq => decide
  case hC =>
    intro h X
    exact ⟨_, _, _, _, _, _, _, _, _, X 199 _ (by show List.lookup 199 (hd.heap_39 w.params) = _; k_is), rfl, rfl, rfl, rfl, rfl, rfl, rfl, rfl, by decide⟩
  case hb =>
    intro cvs hl
    obtain ⟨x0, x1, rfl⟩ := len2 hl
    rfl
  case hpre => exact TSS.nil ⟨rfl, rfl, rfl⟩
  case hmain =>
    intro base' pin' f clos CK CA
    have c0 := CA 0 (Str.ofString "digits") v rfl rfl (by decide)
    have c2 := CA 2 (Str.ofString "inner") (.p (.ref f)) rfl rfl (by decide)
    have c1 := CA 1 (Str.ofString "n") (.d (.int n)) rfl rfl (by decide)
    have inner : ∀ (k : Nat) (L R : Nat) (dd : Nat) (P : V → List (List PyData) → Prop), L < R → R ≤ ds.length → R - L ≤ k → P (.d (.int (d2i n (cutL ds L R)))) σ →
        TCall (cx w base' s0 loose mean mg mb pin') (dd + k) (.ref f) [.d (.int L), .d (.int R)] [] [] σ P := by
      intro k
      induction k with
      | zero => intro L R dd P h1 h2 h3; omega
      | succ k ih =>
        intro L R dd P h1 h2 h3 p
        refine TCall.inner (fs := [(Str.ofString "digits", v), (Str.ofString "inner", .p (.ref f)), (Str.ofString "n", .d (.int n))]) (ps := [Str.ofString "L", Str.ofString "R"]) CK ?hfr ?hb ?hm
        case hfr =>
          intro i x e
          rcases i with _ | _ | _ | _ | _ | _ | _ | i
          · cases e
          · cases e
          · cases e
          · cases e
          · cases e; exact ⟨_, rfl, c0⟩
          · cases e; exact ⟨_, rfl, c2⟩
          · cases e; exact ⟨_, rfl, c1⟩
          · cases e
        case hb =>
          intro fd cvs e1 e2 e3 e4 hl
          obtain ⟨⟩ := fd
          simp only at e1 e2 e3 e4
          subst e1; subst e2; subst e3; subst e4
          obtain ⟨x0, x1, rfl⟩ := len2 hl
          rfl
        case hm =>
          refine TFin.rho (ρ' := [some (.d (.int L)), some (.d (.int R)), none, none, some v, some (.p (.ref f)), some (.d (.int n))]) ?_
          refine TFin.of ?_
          refine TSS.cons ?_
          refine TS.ite ?_
          refine TB.cmp ?_
          refine TE.binop ?_
          refine TE.loc 0 rfl ?_
          refine TE.int ?_
          refine TV2.addII ?_
          refine TE.loc 1 rfl ?_
          refine TV2.eqDD rfl rfl ?_
          refine TT.bool ?_
          by_cases hLR : L + 1 = R
          · have he : PyData.eqv (.int ((L : Int) + 1)) (.int (R : Int)) = true := by simp [PyData.eqv]; omega
            rw [he]
            show TSS _ _ _ _ _ _ _
            refine TSS.one ?_
            refine TS.ret ?_
            refine TE.sub ?_
            refine TE.free 4 rfl ?_
            refine TE.loc 0 rfl ?_
            have hL : ds[L]? = some ds[L] := List.getElem?_eq_getElem (by omega)
            refine TV2.subIL hv (x := .int ds[L]) (by omega) (by omega) (by rw [Int.toNat_natCast, List.getElem?_map, hL]; rfl) ?_
            subst hLR
            rw [cutL_one ds hL] at p
            show P _ _
            simpa [fz, retV, d2i] using p
          · have he : PyData.eqv (.int ((L : Int) + 1)) (.int (R : Int)) = false := by simp [PyData.eqv]; omega
            rw [he]
            show TSS _ _ _ _ _ _ _
            refine TSS.nil ?_
            have hm1 : L < (L + R) / 2 := by omega
            have hm2 : (L + R) / 2 < R := by omega
            refine TSS.cons ?_
            refine TS.assign ?_
            refine TE.binop ?_
            refine TE.binop ?_
            refine TE.loc 0 rfl ?_
            refine TE.loc 1 rfl ?_
            refine TV2.addII ?_
            refine TE.int ?_
            refine TV2.shrII (by decide) ?_
            rw [mid_eq]
            generalize hM : (L + R) / 2 = M at hm1 hm2
            refine TA.loc 2 ?_
            refine TSS.cons ?_
            refine TS.assign ?_
            refine TE.binop ?_
            refine TE.binop ?_
            refine TE.loc 2 rfl ?_
            refine TE.loc 0 rfl ?_
            refine TV2.subII ?_
            refine TE.free 6 rfl ?_
            have hb1 : ((M : Int) - (L : Int)).natAbs < 2 ^ 64 := by omega
            refine TV2.mulII (IntMulOk.of_left (intBits_le hb1)) ?_
            have hsh : ((M : Int) - (L : Int)) * (n : Int) = ((n * (M - L) : Nat) : Int) := by rw [Int.natCast_mul, Int.mul_comm]; congr 1; omega
            rw [hsh]
            refine TA.loc 3 ?_
            have hsn : n * (M - L) ≤ 60 := Nat.le_trans (Nat.mul_le_mul_left n (by omega)) hn
            refine TSS.one ?_
            refine TS.ret ?_
            refine TE.binop ?_
            refine TE.binop ?_
            refine TE.call ?_
            refine TE.free 5 rfl ⟨_, rfl, CK.keep, ?_⟩
            refine TEs.cons ?_
            refine TE.loc 2 rfl ?_
            refine TEs.cons ?_
            refine TE.loc 1 rfl ?_
            refine TEs.nil ?_
            refine ih M R dd _ hm2 h2 (by omega) ?_
            refine TE.loc 3 rfl ?_
            have bd := d2i_bd n (cutL ds M R) fun x hx => hds x (cutL_mem hx)
            have hn2 : n * (cutL ds M R).length ≤ 60 := by rw [cutL_len ds (by omega) h2]; exact Nat.le_trans (Nat.mul_le_mul_left n (by omega)) hn
            have bd2 : d2i n (cutL ds M R) < 2 ^ 60 := Int.lt_of_lt_of_le bd.2 (by exact_mod_cast Nat.pow_le_pow_right (by decide) hn2)
            refine TV2.shlII (by omega) (by omega) (by omega) ?_
            refine TE.call ?_
            refine TE.free 5 rfl ⟨_, rfl, CK.keep, ?_⟩
            refine TEs.cons ?_
            refine TE.loc 0 rfl ?_
            refine TEs.cons ?_
            refine TE.loc 2 rfl ?_
            refine TEs.nil ?_
            refine ih L M dd _ hm1 (by omega) (by omega) ?_
            refine TV2.addII ?_
            have hj : d2i n (cutL ds M R) * 2 ^ ((n * (M - L) : Nat) : Int).toNat + d2i n (cutL ds L M) = d2i n (cutL ds L R) := by
              rw [cutL_app ds (Nat.le_of_lt hm1) (Nat.le_of_lt hm2), d2i_app, cutL_len ds (Nat.le_of_lt hm1) (by omega), Int.toNat_natCast]; omega
            rw [hj]
            show P _ _
            simpa [fz, retV] using p
    refine TSS.one ?_
    refine TS.ret ?_
    refine TE.ifexp ?_
    refine TB.plain ?_
    refine TE.cell 0 rfl ?_
    refine TT.list hv (by simp; omega) ?_
    cases ds with
    | nil =>
      show TE _ _ _ _ _ _ _
      refine TE.int ?_
      show P _ _
      simpa [fz, retV, d2i] using p
    | cons x r =>
      show TE _ _ _ _ _ _ _
      refine TE.call ?_
      refine TE.cell 2 rfl ⟨_, rfl, CK.keep, ?_⟩
      refine TEs.cons ?_
      refine TE.int ?_
      refine TEs.cons ?_
      refine TE.call ?_
      refine TE.bltn (by show nsIn (hd.heap_39 w.params) _ _ = _; k_is) (by boot_by_name) (by decide) ⟨_, rfl, KeepOk.builtin, ?_⟩
      refine TEs.cons ?_
      refine TE.cell 0 rfl ?_
      refine TEs.nil ?_
      refine TCall.lenL hv (by simp; simp at hlen; omega) ?_
      refine TEs.nil ?_
      have hll : ((((x :: r).map PyData.int).length : Nat) : Int) = (((x :: r).length : Nat) : Int) := by rw [List.length_map]
      rw [hll]
      refine inner 9 0 (x :: r).length d _ (by simp) (Nat.le_refl _) (by omega) ?_
      rw [cutL_all]
      show P _ _
      simpa [fz, retV] using p
end
end Mine
end -- G11
section -- G12
set_option tactic.hygienic false
open PySem PySem.W PySem.Calls PyProof.Rows
set_option linter.unusedVariables false
set_option linter.unusedSimpArgs false
set_option autoImplicit false
namespace Mine
theorem shr_nat (x k : Nat) : ((x : Int)).fdiv (2 ^ ((k : Nat) : Int).toNat) = ((x / 2 ^ k : Nat) : Int) := by
  rw [Int.toNat_natCast, Int.fdiv_eq_ediv_of_nonneg _ (Int.le_of_lt (Int.pow_pos (by omega)))]
  simp
section
variable {w : World} {base : Heap} {s0 : Shared} {loose : List Str} {mean : ExcName → Option Value} {mg mb : Str → Option Value} {pin : Phi} {d : Nat} {σ : List (List PyData)} {P : V → List (List PyData) → Prop}
/-- how many digits -/
noncomputable abbrev digN (n a : Nat) : Nat := (Builtin.Int.intBits (a : Int) + n - 1) / n
set_option maxRecDepth 100000 in
theorem int2digits_spec {a n : Nat} (ha : a < 2 ^ 24) (hn0 : 1 ≤ n) (hn : n ≤ 8) (p : P (.d (.list (natD (digs n (digN n a) a)))) σ) :
    TCall (cx w base s0 loose mean mg mb pin) (d + 27) (.ref 193) [.d (.int a), .d (.int n)] [] [] σ P := by
  have hbits : Builtin.Int.intBits (a : Int) ≤ 24 := bits_le (m := 24) ha
  have hdn : digN n a ≤ 24 := by
    show (Builtin.Int.intBits (a : Int) + n - 1) / n ≤ 24
    refine Nat.div_le_of_le_mul ?_
    have : Builtin.Int.intBits (a : Int) ≤ n * Builtin.Int.intBits (a : Int) := Nat.le_mul_of_pos_left _ hn0
    have h9 : n * Builtin.Int.intBits (a : Int) ≤ n * 24 := Nat.mul_le_mul_left n hbits
    by_cases hz : Builtin.Int.intBits (a : Int) = 0
    · rw [hz]; omega
    · omega
  have hdl : n * digN n a ≤ 32 := by
    have : n * digN n a ≤ Builtin.Int.intBits (a : Int) + n - 1 := Nat.mul_div_le _ _
    omega
  have hda : a < 2 ^ (n * digN n a) := by
    refine Nat.lt_of_lt_of_le (bits_lt a) (Nat.pow_le_pow_right (by decide) ?_)
    have h1 := Nat.lt_mul_div_succ (Builtin.Int.intBits (a : Int) + n - 1) hn0
    have h2 : n * ((Builtin.Int.intBits (a : Int) + n - 1) / n + 1) = n * digN n a + n := by rw [Nat.mul_add, Nat.mul_one]
    omega
  generalize hkd : digN n a = kd at p hdn hdl hda
  have KX : (hd.heap_39 w.params).In base → True := fun _ => trivial
  have PP : PySem.Challenge.rw_wc0014_01.prog = PySem.Challenge.rw_wc0014_01.prog := rfl
  revert KX PP; k_fill; intro KX PP
  refine TCall.nest (pre := [_]) (ps := [Str.ofString "a", Str.ofString "n"]) (ws := [.d (.int a), .d (.int n)]) (ρp := [some (.d (.int a)), some (.d (.int n)), some (.r σ.length), none, none]) (σp := σ ++ [natD (List.replicate kd 0)]) (T := 188) 3 (hK := by show List.lookup 193 (hd.heap_39 w.params) = _; k_is) rfl rfl rfl rfl rfl ?hcd rfl rfl rfl ?hnd ?hps ?hpk rfl (TBind.plain ?hb) rfl (by decide) rfl ?hC ?hq rfl ?hin rfl rfl (fun _ => rfl) ?hpre ?hmain
  case hcd => show codeIn (hd.heap_39 w.params) _ _ = true; k_is
  case hnd => decide
  case hps => decide
  case hpk => decide
  case hin => decide
  case hq => decide
  case hC =>
    intro h X
    exact ⟨_, _, _, _, _, _, _, _, _, X 192 _ (by show List.lookup 192 (hd.heap_39 w.params) = _; k_is), rfl, rfl, rfl, rfl, rfl, rfl, rfl, rfl, by decide⟩
  case hb =>
    intro cvs hl
    obtain ⟨x0, x1, rfl⟩ := len2 hl
    rfl
  case hpre =>
    refine TSS.one ?_
    refine TS.assign ?_
    refine TE.binop ?_
    refine TE.list ?_
    refine TEs.cons ?_
    refine TE.int ?_
    refine TEs.nil ⟨false, [.int 0], rfl, by decide, ?_⟩
    refine TE.binop ?_
    refine TE.binop ?_
    refine TE.binop ?_
    refine TE.meth ?_
    refine TE.loc 0 rfl ⟨_, TGet.bitLength, KeepOk.builtin, ?_⟩
    refine TEs.nil ?_
    refine TCall.bitLength ?_
    refine TE.cell 1 rfl ?_
    refine TV2.addII ?_
    refine TE.int ?_
    refine TV2.subII ?_
    refine TE.cell 1 rfl ?_
    refine TV2.divII (by omega) (noPylong _ (Nat.lt_trans (show (n : Int).natAbs < 9 by omega) (Nat.lt_of_lt_of_le (show 9 < 2 ^ 4 by decide) (Nat.pow_le_pow_right (by decide) (by decide))))) ?_
    have hq : ((Builtin.Int.intBits (a : Int) : Int) + (n : Int) - 1).fdiv (n : Int) = (kd : Int) := by
      rw [Int.fdiv_eq_ediv_of_nonneg _ (by omega), ← hkd]
      have : (Builtin.Int.intBits (a : Int) : Int) + (n : Int) - 1 = ((Builtin.Int.intBits (a : Int) + n - 1 : Nat) : Int) := by omega
      rw [this]; rfl
    rw [hq]
    refine TV2.mulLI (by omega) (by omega) ?_
    rw [Int.toNat_natCast, show List.replicate kd (PyData.int 0) = natD (List.replicate kd 0) by simp [natD]]
    refine TA.cell 2 ?_
    exact ⟨rfl, rfl, rfl⟩
  case hmain =>
    intro base' pin' f clos CK CA
    have c2 := CA 2 (Str.ofString "a_digits") (.r σ.length) rfl rfl (by decide)
    have c3 := CA 3 (Str.ofString "inner") (.p (.ref f)) rfl rfl (by decide)
    have c1 := CA 1 (Str.ofString "n") (.d (.int n)) rfl rfl (by decide)
    have inner : ∀ (k : Nat) (x L R : Nat) (ys : List Nat) (dd : Nat) (P : V → List (List PyData) → Prop), L < R → R ≤ ys.length → R - L ≤ k → ys.length = kd → x < 2 ^ (n * (R - L)) → P (.d .none) (σ ++ [natD (put ys L (digs n (R - L) x))]) →
        TCall (cx w base' s0 loose mean mg mb pin') (dd + k) (.ref f) [.d (.int x), .d (.int L), .d (.int R)] [] [] (σ ++ [natD ys]) P := by
      intro k
      induction k with
      | zero => intro x L R ys dd P h1 h2 h3; omega
      | succ k ih =>
        intro x L R ys dd P h1 h2 h3 hys hx p
        refine TCall.inner (fs := [(Str.ofString "a_digits", .r σ.length), (Str.ofString "inner", .p (.ref f)), (Str.ofString "n", .d (.int n))]) (ps := [Str.ofString "x", Str.ofString "L", Str.ofString "R"]) CK ?hfr ?hb ?hm
        case hfr =>
          intro i x e
          rcases i with _ | _ | _ | _ | _ | _ | _ | _ | _ | _ | i
          · cases e
          · cases e
          · cases e
          · cases e
          · cases e
          · cases e
          · cases e
          · cases e; exact ⟨_, rfl, c2⟩
          · cases e; exact ⟨_, rfl, c3⟩
          · cases e; exact ⟨_, rfl, c1⟩
          · cases e
        case hb =>
          intro fd cvs e1 e2 e3 e4 hl
          obtain ⟨⟩ := fd
          simp only at e1 e2 e3 e4
          subst e1; subst e2; subst e3; subst e4
          obtain ⟨x0, x1, x2, rfl⟩ := len3 hl
          rfl
        case hm =>
          have hget : ∀ zs : List Nat, (σ ++ [natD zs])[σ.length]? = some (natD zs) := fun zs => by rw [List.getElem?_append_right (Nat.le_refl _), Nat.sub_self]; rfl
          have hset : ∀ (zs : List PyData) (ys : List PyData), (σ ++ [ys]).set σ.length zs = σ ++ [zs] := fun zs ys => by rw [List.set_append_right _ _ (Nat.le_refl _), Nat.sub_self]; rfl
          have htake : ∀ ys : List PyData, (σ ++ [ys]).take (σ.length + 1) = σ ++ [ys] := fun ys => List.take_of_length_le (by simp)
          have hxl : x < 2 ^ 60 := Nat.lt_of_lt_of_le hx (Nat.pow_le_pow_right (by decide) (Nat.le_trans (Nat.mul_le_mul_left n (show R - L ≤ kd by omega)) (by omega)))
          refine TFin.rho (ρ' := [some (.d (.int x)), some (.d (.int L)), some (.d (.int R)), none, none, none, none, some (.r σ.length), some (.p (.ref f)), some (.d (.int n))]) ?_
          refine TFin.of ?_
          refine TSS.cons ?_
          refine TS.ite ?_
          refine TB.cmp ?_
          refine TE.binop ?_
          refine TE.loc 1 rfl ?_
          refine TE.int ?_
          refine TV2.addII ?_
          refine TE.loc 2 rfl ?_
          refine TV2.eqDD rfl rfl ?_
          refine TT.bool ?_
          by_cases hLR : L + 1 = R
          · have he : PyData.eqv (.int ((L : Int) + 1)) (.int (R : Int)) = true := by simp [PyData.eqv]; omega
            rw [he]
            show TSS _ _ _ _ _ _ _
            refine TSS.cons ?_
            refine TS.assign ?_
            refine TE.loc 0 rfl ?_
            refine TA.sub ?_
            refine TE.free 7 rfl ?_
            refine TE.loc 1 rfl ?_
            refine ⟨σ.length, natD ys, false, L, rfl, rfl, hget ys, by simp; omega, by simp; omega, ?_⟩
            rw [hset]
            refine TSS.one ?_
            refine TS.retNone ?_
            subst hLR
            have e1 : L + 1 - L = 1 := by omega
            rw [e1, digs_one (by rwa [e1, Nat.mul_one] at hx), put_ints, show natD [x] = [PyData.int (x : Int)] from rfl, ← put_one (by simp; omega)] at p
            show P _ _
            simpa [fz, retV, htake] using p
          · have he : PyData.eqv (.int ((L : Int) + 1)) (.int (R : Int)) = false := by simp [PyData.eqv]; omega
            rw [he]
            show TSS _ _ _ _ _ _ _
            refine TSS.nil ?_
            have hm1 : L < (L + R) / 2 := by omega
            have hm2 : (L + R) / 2 < R := by omega
            refine TSS.cons ?_
            refine TS.assign ?_
            refine TE.binop ?_
            refine TE.binop ?_
            refine TE.loc 1 rfl ?_
            refine TE.loc 2 rfl ?_
            refine TV2.addII ?_
            refine TE.int ?_
            refine TV2.shrII (by decide) ?_
            rw [mid_eq]
            generalize hM : (L + R) / 2 = M at hm1 hm2
            refine TA.loc 3 ?_
            refine TSS.cons ?_
            refine TS.assign ?_
            refine TE.binop ?_
            refine TE.binop ?_
            refine TE.loc 3 rfl ?_
            refine TE.loc 1 rfl ?_
            refine TV2.subII ?_
            refine TE.free 9 rfl ?_
            have hb1 : ((M : Int) - (L : Int)).natAbs < 2 ^ 64 := by omega
            refine TV2.mulII (IntMulOk.of_left (intBits_le hb1)) ?_
            have hsh : ((M : Int) - (L : Int)) * (n : Int) = ((n * (M - L) : Nat) : Int) := by rw [Int.natCast_mul, Int.mul_comm]; congr 1; omega
            rw [hsh]
            refine TA.loc 4 ?_
            have hsn : n * (M - L) ≤ 32 := Nat.le_trans (Nat.mul_le_mul_left n (show M - L ≤ kd by omega)) hdl
            refine TSS.cons ?_
            refine TS.assign ?_
            refine TE.binop ?_
            refine TE.loc 0 rfl ?_
            refine TE.loc 4 rfl ?_
            refine TV2.shrII (by omega) ?_
            rw [shr_nat]
            refine TA.loc 5 ?_
            have hup : x / 2 ^ (n * (M - L)) ≤ x := Nat.div_le_self _ _
            refine TSS.cons ?_
            refine TS.assign ?_
            refine TE.binop ?_
            refine TE.loc 0 rfl ?_
            refine TE.binop ?_
            refine TE.loc 5 rfl ?_
            refine TE.loc 4 rfl ?_
            refine TV2.shlII (by omega) (by omega) (by rw [Int.natAbs_natCast]; exact Nat.lt_of_le_of_lt hup (Nat.lt_trans hxl (by decide))) ?_
            have hlow : ((x / 2 ^ (n * (M - L)) : Nat) : Int) * 2 ^ ((n * (M - L) : Nat) : Int).toNat = ((x / 2 ^ (n * (M - L)) * 2 ^ (n * (M - L)) : Nat) : Int) := by rw [Int.toNat_natCast]; simp
            rw [hlow]
            refine TV2.xorII ?_
            rw [xor_low]
            refine TA.loc 6 ?_
            have hsum : (M - L) + (R - M) = R - L := by omega
            have hx2 : x / 2 ^ (n * (M - L)) < 2 ^ (n * (R - M)) := by
              rw [Nat.div_lt_iff_lt_mul (Nat.pow_pos (by decide)), ← Nat.pow_add, ← Nat.mul_add, Nat.add_comm (R - M), hsum]; exact hx
            refine TSS.cons ?_
            refine TS.expr ?_
            refine TE.call ?_
            refine TE.free 8 rfl ⟨_, rfl, CK.keep, ?_⟩
            refine TEs.cons ?_
            refine TE.loc 6 rfl ?_
            refine TEs.cons ?_
            refine TE.loc 1 rfl ?_
            refine TEs.cons ?_
            refine TE.loc 3 rfl ?_
            refine TEs.nil ?_
            have hl1 : (put ys L (digs n (M - L) (x % 2 ^ (n * (M - L))))).length = ys.length := put_len (by rw [digs_len]; omega)
            refine ih _ L M ys dd _ hm1 (by omega) (by omega) hys (Nat.mod_lt _ (Nat.pow_pos (by decide))) ?_
            refine TSS.one ?_
            refine TS.expr ?_
            refine TE.call ?_
            refine TE.free 8 rfl ⟨_, rfl, CK.keep, ?_⟩
            refine TEs.cons ?_
            refine TE.loc 5 rfl ?_
            refine TEs.cons ?_
            refine TE.loc 3 rfl ?_
            refine TEs.cons ?_
            refine TE.loc 2 rfl ?_
            refine TEs.nil ?_
            refine ih _ M R _ dd _ hm2 (by omega) (by omega) (by omega) hx2 ?_
            have hML : M = L + (digs n (M - L) (x % 2 ^ (n * (M - L)))).length := by rw [digs_len]; omega
            have hpp : put (put ys L (digs n (M - L) (x % 2 ^ (n * (M - L))))) M (digs n (R - M) (x / 2 ^ (n * (M - L)))) = put ys L (digs n (R - L) x) := by
              have := put_put (ys := ys) (L := L) (a := digs n (M - L) (x % 2 ^ (n * (M - L)))) (b := digs n (R - M) (x / 2 ^ (n * (M - L)))) (by rw [digs_len, digs_len]; omega)
              rw [← hML, ← digs_app, hsum] at this; exact this
            rw [hpp]
            show P _ _
            simpa [fz, retV, htake] using p
    have hget : ∀ zs : List PyData, (σ ++ [zs])[σ.length]? = some zs := fun zs => by rw [List.getElem?_append_right (Nat.le_refl _), Nat.sub_self]; rfl
    have hend : ∀ zs : List PyData, P (.d (.list zs)) σ → P (fz σ.length (σ ++ [zs]) (retV (.ret (.r σ.length)))) ((σ ++ [zs]).take σ.length) := fun zs h => by
      show P (fz σ.length (σ ++ [zs]) (.r σ.length)) _
      rw [fz_r_ge (Nat.lt_irrefl _) (hget zs), List.take_left]; exact h
    refine TSS.cons ?_
    refine TS.ite ?_
    refine TB.plain ?_
    refine TE.loc 0 rfl ?_
    refine TT.int ?_
    by_cases hz : a = 0
    · subst hz
      show TSS _ _ _ _ _ _ _
      refine TSS.nil ?_
      refine TSS.one ?_
      refine TS.ret ?_
      refine TE.cell 2 rfl ?_
      have hk0 : kd = 0 := by rw [← hkd]; show (0 + n - 1) / n = 0; exact Nat.div_eq_of_lt (by omega)
      subst hk0
      exact hend _ p
    · have hb0 : ((a : Int) != 0) = true := by simp; omega
      rw [hb0]
      show TSS _ _ _ _ _ _ _
      refine TSS.one ?_
      refine TS.expr ?_
      refine TE.call ?_
      refine TE.cell 3 rfl ⟨_, rfl, CK.keep, ?_⟩
      refine TEs.cons ?_
      refine TE.loc 0 rfl ?_
      refine TEs.cons ?_
      refine TE.int ?_
      refine TEs.cons ?_
      refine TE.call ?_
      refine TE.bltn (by show nsIn (hd.heap_39 w.params) _ _ = _; k_is) (by boot_by_name) (by decide) ⟨_, rfl, KeepOk.builtin, ?_⟩
      refine TEs.cons ?_
      refine TE.cell 2 rfl ?_
      refine TEs.nil ?_
      refine TCall.lenL (IsL.r (hget _)) (by simp; omega) ?_
      refine TEs.nil ?_
      have hll : (((natD (List.replicate kd 0)).length : Nat) : Int) = ((kd : Nat) : Int) := by simp
      rw [hll]
      have hk1 : 0 < kd := by
        rcases Nat.eq_zero_or_pos kd with h | h
        · rw [h] at hda; simp at hda; omega
        · exact h
      refine inner 26 a 0 kd (List.replicate kd 0) d _ hk1 (by simp) (by omega) (by simp) (by simpa using hda) ?_
      rw [put_all (by rw [digs_len]; simp), Nat.sub_zero]
      refine TSS.one ?_
      refine TS.ret ?_
      refine TE.cell 2 rfl ?_
      exact hend _ p
end
end Mine
end -- G12
section -- B2
set_option tactic.hygienic false
open PySem
set_option linter.unusedVariables false
set_option linter.unusedSimpArgs false
set_option linter.unusedSectionVars false
set_option autoImplicit false
namespace Mine

/-! words; false an a, true a b -/
noncomputable abbrev Word := List Bool
section
variable {α β : Type} [DecidableEq α] [DecidableEq β]
noncomputable def go (da db : α → α) (x : α) (w : Word) : α := w.foldl (fun x l => if l then db x else da x) x
theorem go_snoc {da db : α → α} {x : α} {w : Word} {l : Bool} : go da db x (w ++ [l]) = if l then db (go da db x w) else da (go da db x w) := by
  unfold go; rw [List.foldl_append]; rfl
theorem go_cons {da db : α → α} {x : α} {l : Bool} {w : Word} : go da db x (l :: w) = go da db (if l then db x else da x) w := rfl

/-- two lists of one pattern of likeness -/
structure Like (l : List α) (m : List β) : Prop where
  len : l.length = m.length
theorem idx_like {γ : Type} (f : γ → α) (g : γ → β) : ∀ (ws : List γ) (v : γ), (∀ u ∈ ws, f u = f v ↔ g u = g v) → idx (ws.map f) (f v) = idx (ws.map g) (g v)
  | [], v, _ => rfl
  | w :: ws, v, h => by
    have hw := h w List.mem_cons_self
    have ih := idx_like f g ws v fun u hu => h u (List.mem_cons_of_mem _ hu)
    unfold idx at ih ⊢
    rw [List.map_cons, List.map_cons, List.idxOf_cons, List.idxOf_cons]
    by_cases e : f w = f v
    · have e' := hw.mp e
      rw [e, e']; simp
    · have e' : ¬ g w = g v := fun q => e (hw.mpr q)
      have h1 : (f w == f v) = false := beq_eq_false_iff_ne.mpr e
      have h2 : (g w == g v) = false := beq_eq_false_iff_ne.mpr e'
      rw [h1, h2, ih]
theorem mem_like {γ : Type} (f : γ → α) (g : γ → β) (ws : List γ) (v : γ) (h : ∀ u ∈ ws, f u = f v ↔ g u = g v) : f v ∈ ws.map f ↔ g v ∈ ws.map g := by
  rw [List.mem_map, List.mem_map]
  constructor
  · rintro ⟨u, hu, e⟩; exact ⟨u, hu, (h u hu).mp e⟩
  · rintro ⟨u, hu, e⟩; exact ⟨u, hu, (h u hu).mpr e⟩
theorem addS_like {γ : Type} (f : γ → α) (g : γ → β) (ws : List γ) (v : γ) (h : ∀ u ∈ ws, f u = f v ↔ g u = g v) : ∃ ws' : List γ, addS (ws.map f) (f v) = ws'.map f ∧ addS (ws.map g) (g v) = ws'.map g := by
  have := mem_like f g ws v h
  unfold addS
  by_cases e : f v ∈ ws.map f
  · exact ⟨ws, by rw [if_pos e], by rw [if_pos (this.mp e)]⟩
  · exact ⟨ws ++ [v], by rw [if_neg e]; simp, by rw [if_neg fun q => e (this.mpr q)]; simp⟩

/-- machines that tell words apart alike make one table -/
theorem brun_like {da db : α → α} {fin : α → Bool} {da' db' : β → β} {fin' : β → Bool} {x : α} {y : β} (hs : ∀ u v : Word, go da db x u = go da db x v ↔ go da' db' y u = go da' db' y v) (hf : ∀ u : Word, fin (go da db x u) = fin' (go da' db' y u)) :
    ∀ (k : Nat) (ws : List Word) (rows : List Row), (brun da db fin k ⟨ws.map (go da db x), rows⟩).rows = (brun da' db' fin' k ⟨ws.map (go da' db' y), rows⟩).rows
  | 0, ws, rows => rfl
  | k + 1, ws, rows => by
    cases e : ws[rows.length]? with
    | none =>
      rw [brun_end (by have := List.getElem?_eq_none_iff.mp e; simpa using this), brun_end (by have := List.getElem?_eq_none_iff.mp e; simpa using this)]
    | some w =>
      rw [brun_go (here := go da db x w) (by simp [e]), brun_go (here := go da' db' y w) (by simp [e])]
      have a1 : da (go da db x w) = go da db x (w ++ [false]) := by rw [go_snoc]; rfl
      have a2 : da' (go da' db' y w) = go da' db' y (w ++ [false]) := by rw [go_snoc]; rfl
      have b1 : db (go da db x w) = go da db x (w ++ [true]) := by rw [go_snoc]; rfl
      have b2 : db' (go da' db' y w) = go da' db' y (w ++ [true]) := by rw [go_snoc]; rfl
      unfold bstep
      dsimp only
      rw [a1, a2, b1, b2]
      obtain ⟨ws₁, h1, h2⟩ := addS_like (go da db x) (go da' db' y) ws (w ++ [false]) fun u _ => hs _ _
      rw [h1, h2]
      obtain ⟨ws₂, h3, h4⟩ := addS_like (go da db x) (go da' db' y) ws₁ (w ++ [true]) fun u _ => hs _ _
      rw [h3, h4, idx_like (go da db x) (go da' db' y) ws₁ (w ++ [false]) fun u _ => hs _ _, idx_like (go da db x) (go da' db' y) ws₂ (w ++ [true]) fun u _ => hs _ _, hf w]
      exact brun_like hs hf k ws₂ _
theorem bfs_like {da db : α → α} {fin : α → Bool} {da' db' : β → β} {fin' : β → Bool} {x : α} {y : β} (hs : ∀ u v : Word, go da db x u = go da db x v ↔ go da' db' y u = go da' db' y v) (hf : ∀ u : Word, fin (go da db x u) = fin' (go da' db' y u)) (B : Nat) :
    (bfs da db fin B x).rows = (bfs da' db' fin' B y).rows := brun_like hs hf B [[]] []

/-! what a whole table tells -/
/-- st is done and its rows tell its sets' ways -/
structure Whole (da db : α → α) (fin : α → Bool) (x : α) (st : Run α) : Prop where
  len : st.rows.length = st.sets.length
  nd : st.sets.Nodup
  hd : st.sets[0]? = some x
  row : ∀ (i : Nat) (s : α), st.sets[i]? = some s → st.rows[i]? = some (idx st.sets (da s), idx st.sets (db s), fin s) ∧ da s ∈ st.sets ∧ db s ∈ st.sets
  reach : ∀ s ∈ st.sets, ∃ w, go da db x w = s

structure Part (da db : α → α) (fin : α → Bool) (x : α) (st : Run α) : Prop where
  le : st.rows.length ≤ st.sets.length
  nd : st.sets.Nodup
  hd : st.sets[0]? = some x
  row : ∀ (i : Nat) (s : α), i < st.rows.length → st.sets[i]? = some s → st.rows[i]? = some (idx st.sets (da s), idx st.sets (db s), fin s) ∧ da s ∈ st.sets ∧ db s ∈ st.sets
  reach : ∀ s ∈ st.sets, ∃ w, go da db x w = s
theorem idx_prefix {l m : List α} (h : l <+: m) {x : α} (hx : x ∈ l) : idx m x = idx l x := by
  obtain ⟨t, rfl⟩ := h
  unfold idx; rw [List.idxOf_append, if_pos hx]
theorem prefix_some {l m : List α} (h : l <+: m) {i : Nat} {x : α} (e : l[i]? = some x) : m[i]? = some x := by
  obtain ⟨t, rfl⟩ := h
  rw [List.getElem?_append_left (List.getElem?_eq_some_iff.mp e).1]; exact e
theorem Part.step {da db : α → α} {fin : α → Bool} {x : α} {st : Run α} (p : Part da db fin x st) {here : α} (hh : st.sets[st.rows.length]? = some here) : Part da db fin x (bstep da db fin here st) := by
  have hlt : st.rows.length < st.sets.length := (List.getElem?_eq_some_iff.mp hh).1
  have pre : st.sets <+: addS (addS st.sets (da here)) (db here) := addS_prefix.trans addS_prefix
  obtain ⟨w, hw⟩ := p.reach here (List.mem_of_getElem? hh)
  refine ⟨?_, addS_nodup (addS_nodup p.nd), prefix_some pre p.hd, fun i s hi hs => ?_, fun s hs => ?_⟩
  · show (st.rows ++ [_]).length ≤ (addS (addS st.sets _) _).length
    rw [List.length_append, List.length_singleton]
    exact Nat.le_trans hlt pre.length_le
  · replace hs : (addS (addS st.sets (da here)) (db here))[i]? = some s := hs
    show (st.rows ++ [(idx (addS st.sets (da here)) (da here), idx (addS (addS st.sets (da here)) (db here)) (db here), fin here)])[i]? = some (idx (addS (addS st.sets (da here)) (db here)) (da s), idx (addS (addS st.sets (da here)) (db here)) (db s), fin s) ∧ da s ∈ addS (addS st.sets (da here)) (db here) ∧ db s ∈ addS (addS st.sets (da here)) (db here)
    rw [bstep_rows] at hi
    by_cases h : i < st.rows.length
    · have hs' : st.sets[i]? = some st.sets[i] := List.getElem?_eq_getElem (by omega)
      have := prefix_some pre hs'
      rw [hs] at this; cases this
      obtain ⟨h1, h2, h3⟩ := p.row i _ h hs'
      rw [List.getElem?_append_left h, h1, idx_prefix pre h2, idx_prefix pre h3]
      exact ⟨rfl, pre.subset h2, pre.subset h3⟩
    · have hi' : i = st.rows.length := by omega
      subst hi'
      have := prefix_some pre hh
      rw [hs] at this; cases this
      rw [List.getElem?_append_right (Nat.le_refl _), Nat.sub_self, idx_prefix addS_prefix addS_mem]
      exact ⟨rfl, addS_sub addS_mem, addS_mem⟩
  · refine addS_u (U := fun s => ∃ w, go da db x w = s) (addS_u p.reach ?_) ?_ s hs
    · exact ⟨w ++ [false], by rw [go_snoc, hw]; rfl⟩
    · exact ⟨w ++ [true], by rw [go_snoc, hw]; rfl⟩
theorem Part.run {da db : α → α} {fin : α → Bool} {x : α} : ∀ (k : Nat) {st : Run α}, Part da db fin x st → Part da db fin x (brun da db fin k st)
  | 0, st, p => p
  | k + 1, st, p => by
    cases e : st.sets[st.rows.length]? with
    | none => rw [brun_end (List.getElem?_eq_none_iff.mp e)]; exact p
    | some here => rw [brun_go e]; exact Part.run k (p.step e)
theorem brun_rows {da db : α → α} {fin : α → Bool} : ∀ (k : Nat) (st : Run α), (brun da db fin k st).sets.length ≤ (brun da db fin k st).rows.length ∨ (brun da db fin k st).rows.length = st.rows.length + k
  | 0, st => .inr rfl
  | k + 1, st => by
    cases e : st.sets[st.rows.length]? with
    | none => have h := List.getElem?_eq_none_iff.mp e; rw [brun_end h]; exact .inl h
    | some here =>
      rw [brun_go e]
      rcases brun_rows k (bstep da db fin here st) with h | h
      · exact .inl h
      · right; rw [h, bstep_rows]; omega
/-- a run within a bound comes to its end -/
theorem bfs_whole {da db : α → α} {fin : α → Bool} {x : α} {B : Nat} {univ : List α} (hx : x ∈ univ) (hu : ∀ s ∈ univ, da s ∈ univ ∧ db s ∈ univ) (hB : univ.length ≤ B) : Whole da db fin x (bfs da db fin B x) := by
  have p : Part da db fin x (bfs da db fin B x) := Part.run B ⟨by simp, by simp, rfl, fun i s hi => absurd hi (Nat.not_lt_zero _), fun s hs => ⟨[], by rw [List.mem_singleton.mp hs]; rfl⟩⟩
  have hin : ∀ w, go da db x w ∈ univ := fun w => by
    have : ∀ (w : Word) (s : α), s ∈ univ → go da db s w ∈ univ := by
      intro w
      induction w with
      | nil => intro s hs; exact hs
      | cons l w ih =>
        intro s hs
        rw [go_cons]
        cases l
        · exact ih _ (hu s hs).1
        · exact ih _ (hu s hs).2
    exact this w x hx
  have hlen : (bfs da db fin B x).sets.length ≤ B := Nat.le_trans (nodup_len p.nd fun s hs => by obtain ⟨w, rfl⟩ := p.reach s hs; exact hin w) hB
  have hdone : (bfs da db fin B x).sets.length ≤ (bfs da db fin B x).rows.length := by
    rcases brun_rows (da := da) (db := db) (fin := fin) B ⟨[x], []⟩ with h | h
    · exact h
    · have h' : (bfs da db fin B x).rows.length = 0 + B := h
      omega
  exact ⟨Nat.le_antisymm p.le hdone, p.nd, p.hd, fun i s hs => p.row i s (by have := (List.getElem?_eq_some_iff.mp hs).1; omega) hs, p.reach⟩
end
end Mine
end -- B2
section -- B3
set_option tactic.hygienic false
open PySem
set_option linter.unusedVariables false
set_option linter.unusedSimpArgs false
set_option linter.unusedSectionVars false
set_option autoImplicit false
namespace Mine

/-! a table walked -/
noncomputable def selR (l : Bool) (r : Row) : Nat := if l then r.2.1 else r.1
noncomputable def rgo (rows : List Row) (i : Nat) (w : Word) : Nat := w.foldl (fun i l => selR l (rowAt rows i)) i
noncomputable def rF (rows : List Row) (i : Nat) (w : Word) : Bool := (rowAt rows (rgo rows i w)).2.2
theorem rgo_cons {rows : List Row} {i : Nat} {l : Bool} {w : Word} : rgo rows i (l :: w) = rgo rows (selR l (rowAt rows i)) w := rfl
theorem rgo_snoc {rows : List Row} {i : Nat} {l : Bool} {w : Word} : rgo rows i (w ++ [l]) = selR l (rowAt rows (rgo rows i w)) := by
  unfold rgo; rw [List.foldl_append]; rfl
theorem rgo_app {rows : List Row} {i : Nat} {u v : Word} : rgo rows i (u ++ v) = rgo rows (rgo rows i u) v := by
  unfold rgo; rw [List.foldl_append]
theorem rF_cons {rows : List Row} {i : Nat} {l : Bool} {w : Word} : rF rows i (l :: w) = rF rows (selR l (rowAt rows i)) w := rfl
theorem rF_app {rows : List Row} {i : Nat} {u v : Word} : rF rows i (u ++ v) = rF rows (rgo rows i u) v := by unfold rF; rw [rgo_app]
noncomputable def Closed (rows : List Row) : Prop := ∀ r ∈ rows, r.1 < rows.length ∧ r.2.1 < rows.length
theorem Closed.sel {rows : List Row} (h : Closed rows) {i : Nat} (hi : i < rows.length) (l : Bool) : selR l (rowAt rows i) < rows.length := by
  obtain ⟨h1, h2⟩ := h _ (rowAt_mem hi)
  cases l
  · exact h1
  · exact h2
theorem Closed.go {rows : List Row} (h : Closed rows) : ∀ (w : Word) {i : Nat}, i < rows.length → rgo rows i w < rows.length
  | [], i, hi => hi
  | l :: w, i, hi => by rw [rgo_cons]; exact h.go w (h.sel hi l)

section
variable {α : Type} [DecidableEq α]
theorem Whole.rowAt {da db : α → α} {fin : α → Bool} {x : α} {st : Run α} (W : Whole da db fin x st) {i : Nat} {s : α} (h : st.sets[i]? = some s) : Mine.rowAt st.rows i = (idx st.sets (da s), idx st.sets (db s), fin s) ∧ da s ∈ st.sets ∧ db s ∈ st.sets := by
  obtain ⟨h1, h2, h3⟩ := W.row i s h
  refine ⟨?_, h2, h3⟩
  unfold Mine.rowAt; rw [h1]; rfl
theorem Whole.closed {da db : α → α} {fin : α → Bool} {x : α} {st : Run α} (W : Whole da db fin x st) : Closed st.rows := fun r hr => by
  obtain ⟨i, hi⟩ := List.mem_iff_getElem?.mp hr
  have hlt : i < st.sets.length := by rw [← W.len]; exact (List.getElem?_eq_some_iff.mp hi).1
  obtain ⟨h1, h2, h3⟩ := W.row i _ (List.getElem?_eq_getElem hlt)
  rw [hi] at h1; cases h1
  rw [W.len]
  exact ⟨idx_lt h2, idx_lt h3⟩
theorem Whole.walk {da db : α → α} {fin : α → Bool} {x : α} {st : Run α} (W : Whole da db fin x st) : ∀ (w : Word) {i : Nat} {s : α}, st.sets[i]? = some s → st.sets[rgo st.rows i w]? = some (Mine.go da db s w)
  | [], i, s, h => h
  | l :: w, i, s, h => by
    obtain ⟨h1, h2, h3⟩ := W.rowAt h
    rw [rgo_cons, go_cons]
    refine W.walk w ?_
    rw [h1]
    cases l
    · exact idx_get h2
    · exact idx_get h3
theorem Whole.tells {da db : α → α} {fin : α → Bool} {x : α} {st : Run α} (W : Whole da db fin x st) (w : Word) {i : Nat} {s : α} (h : st.sets[i]? = some s) : rF st.rows i w = fin (Mine.go da db s w) := by
  unfold rF
  rw [(W.rowAt (W.walk w h)).1]
theorem Whole.pos {da db : α → α} {fin : α → Bool} {x : α} {st : Run α} (W : Whole da db fin x st) : 0 < st.rows.length := by
  rw [W.len]; exact (List.getElem?_eq_some_iff.mp W.hd).1
/-- each place of the table is come to -/
theorem Whole.at {da db : α → α} {fin : α → Bool} {x : α} {st : Run α} (W : Whole da db fin x st) {i : Nat} (h : i < st.rows.length) : ∃ w, rgo st.rows 0 w = i := by
  rw [W.len] at h
  obtain ⟨w, hw⟩ := W.reach st.sets[i] (List.getElem_mem h)
  refine ⟨w, ?_⟩
  have h1 := W.walk w W.hd
  rw [hw] at h1
  have h2 : st.sets[i]? = some st.sets[i] := List.getElem?_eq_getElem h
  exact nodup_inj W.nd h1 h2
theorem bfs_more {da db : α → α} {fin : α → Bool} {x : α} {B : Nat} (W : Whole da db fin x (bfs da db fin B x)) : ∀ k, bfs da db fin (B + k) x = bfs da db fin B x := fun k => by
  have app : ∀ (m k : Nat) (st : Run α), brun da db fin (m + k) st = brun da db fin k (brun da db fin m st) := by
    intro m
    induction m with
    | zero => intro k st; rw [Nat.zero_add]; rfl
    | succ m ih =>
      intro k st
      cases e : st.sets[st.rows.length]? with
      | none =>
        have h := List.getElem?_eq_none_iff.mp e
        rw [brun_end h, brun_end h, brun_end h]
      | some here => rw [show m + 1 + k = (m + k) + 1 by omega, brun_go e, brun_go e, ih]
  unfold bfs
  rw [app, brun_end]
  exact Nat.le_of_eq W.len.symm
end

/-! the second reckoning: a table laid backwards -/
noncomputable def sStep (rows : List Row) (l : Bool) (here : List Nat) : List Nat := (List.range rows.length).filter fun p => here.contains (selR l (rowAt rows p))
noncomputable def sStart (rows : List Row) : List Nat := (List.range rows.length).filter fun p => (rowAt rows p).2.2
noncomputable def sFin (here : List Nat) : Bool := here.contains 0
noncomputable def secondRun (rows : List Row) : Run (List Nat) := bfs (sStep rows false) (sStep rows true) sFin 256 (sStart rows)
theorem second_go {rows : List Row} (C : Closed rows) (w : Word) : go (sStep rows false) (sStep rows true) (sStart rows) w = (List.range rows.length).filter fun p => rF rows p w.reverse := by
  have : ∀ (r : Word), go (sStep rows false) (sStep rows true) (sStart rows) r.reverse = (List.range rows.length).filter fun p => rF rows p r := by
    intro r
    induction r with
    | nil => rfl
    | cons l r ih =>
      rw [List.reverse_cons, go_snoc, ih]
      have e : (if l = true then sStep rows true ((List.range rows.length).filter fun p => rF rows p r) else sStep rows false ((List.range rows.length).filter fun p => rF rows p r)) = sStep rows l ((List.range rows.length).filter fun p => rF rows p r) := by cases l <;> rfl
      rw [e]
      unfold sStep
      refine List.filter_congr fun p hp => ?_
      have hp' := List.mem_range.mp hp
      have hs := C.sel hp' l
      rw [Bool.eq_iff_iff, List.contains_iff_mem, List.mem_filter, List.mem_range, rF_cons]
      exact ⟨fun h => h.2, fun h => ⟨hs, h⟩⟩
  have h := this w.reverse
  rwa [List.reverse_reverse] at h
theorem filter_range_eq {n : Nat} {f g : Nat → Bool} : (List.range n).filter f = (List.range n).filter g ↔ ∀ p, p < n → f p = g p := by
  constructor
  · intro h p hp
    have : p ∈ (List.range n).filter f ↔ p ∈ (List.range n).filter g := by rw [h]
    rw [List.mem_filter, List.mem_filter, List.mem_range] at this
    rw [Bool.eq_iff_iff]
    exact ⟨fun q => (this.mp ⟨hp, q⟩).2, fun q => (this.mpr ⟨hp, q⟩).2⟩
  · intro h
    exact List.filter_congr fun p hp => h p (List.mem_range.mp hp)
theorem second_eq {α : Type} [DecidableEq α] {da db : α → α} {fin : α → Bool} {x : α} {st : Run α} (W : Whole da db fin x st) (u v : Word) :
    go (sStep st.rows false) (sStep st.rows true) (sStart st.rows) u = go (sStep st.rows false) (sStep st.rows true) (sStart st.rows) v ↔ ∀ w : Word, rF st.rows 0 (w ++ u.reverse) = rF st.rows 0 (w ++ v.reverse) := by
  rw [second_go W.closed, second_go W.closed, filter_range_eq]
  constructor
  · intro h w
    rw [rF_app, rF_app]
    exact h _ (W.closed.go w W.pos)
  · intro h p hp
    obtain ⟨w, rfl⟩ := W.at hp
    rw [← rF_app, ← rF_app]
    exact h w
theorem second_fin {α : Type} [DecidableEq α] {da db : α → α} {fin : α → Bool} {x : α} {st : Run α} (W : Whole da db fin x st) (u : Word) : sFin (go (sStep st.rows false) (sStep st.rows true) (sStart st.rows) u) = rF st.rows 0 u.reverse := by
  rw [second_go W.closed]
  unfold sFin
  rw [Bool.eq_iff_iff, List.contains_iff_mem, List.mem_filter, List.mem_range]
  exact ⟨fun h => h.2, fun h => ⟨W.pos, h⟩⟩

/-! the machine and the machine turned round -/
noncomputable def lb (l : Bool) : Nat := if l then 1 else 0
noncomputable def Rel3 (ls : List Int) : Word → Nat → Nat → Prop
  | [], p, q => p = q
  | l :: w, p, q => ∃ r, r < 3 ∧ lit ls (p + 3 * lb l + 6 * r) = true ∧ Rel3 ls w r q
theorem pStep_mem {ls : List Int} {m : Nat} {S : List Nat} {r : Nat} : r ∈ pStep ls m S ↔ r < 3 ∧ ∃ p, p ∈ S ∧ lit ls (p + 3 * m + 6 * r) = true := by
  unfold pStep
  rw [List.mem_filter, List.any_eq_true]
  have : r ∈ [0, 1, 2] ↔ r < 3 := by simp; omega
  rw [this]
theorem goP_mem {ls : List Int} : ∀ (w : Word) (S : List Nat) (q : Nat), q ∈ go (pStep ls 0) (pStep ls 1) S w ↔ ∃ p, p ∈ S ∧ Rel3 ls w p q
  | [], S, q => ⟨fun h => ⟨q, h, rfl⟩, fun ⟨p, h, e⟩ => by cases e; exact h⟩
  | l :: w, S, q => by
    rw [go_cons, goP_mem w]
    have e : (if l then pStep ls 1 S else pStep ls 0 S) = pStep ls (lb l) S := by cases l <;> rfl
    rw [e]
    constructor
    · rintro ⟨r, hr, h⟩
      obtain ⟨h1, p, h2, h3⟩ := pStep_mem.mp hr
      exact ⟨p, h2, r, h1, h3, h⟩
    · rintro ⟨p, h2, r, h1, h3, h⟩
      exact ⟨r, pStep_mem.mpr ⟨h1, p, h2, h3⟩, h⟩
theorem Rel3.snoc {ls : List Int} : ∀ {w : Word} {l : Bool} {p q : Nat}, Rel3 ls (w ++ [l]) p q ↔ ∃ r, Rel3 ls w p r ∧ q < 3 ∧ lit ls (r + 3 * lb l + 6 * q) = true
  | [], l, p, q => by
    constructor
    · rintro ⟨r, h1, h2, rfl⟩; exact ⟨p, rfl, h1, h2⟩
    · rintro ⟨r, rfl, h1, h2⟩; exact ⟨q, h1, h2, rfl⟩
  | k :: w, l, p, q => by
    constructor
    · rintro ⟨r, h1, h2, h⟩
      obtain ⟨t, h3, h4⟩ := Rel3.snoc.mp h
      exact ⟨t, ⟨r, h1, h2, h3⟩, h4⟩
    · rintro ⟨t, ⟨r, h1, h2, h3⟩, h4⟩
      exact ⟨r, h1, h2, Rel3.snoc.mpr ⟨t, h3, h4⟩⟩
noncomputable def turnedL (ls : List Int) : List Int := ((List.range 18).map fun way => (ls[way / 6 + way / 3 % 2 * 3 + way % 3 * 6]?).getD 0) ++ (ls.drop 21).take 3 ++ (ls.drop 18).take 3
theorem turned_way {ls : List Int} {p q : Nat} (l : Bool) (hp : p < 3) (hq : q < 3) : lit (turnedL ls) (p + 3 * lb l + 6 * q) = lit ls (q + 3 * lb l + 6 * p) := by
  have hl : lb l < 2 := by cases l <;> decide
  have hk : p + 3 * lb l + 6 * q < 18 := by omega
  unfold lit turnedL
  rw [List.append_assoc, List.getElem?_append_left (by simpa using hk), List.getElem?_map, List.getElem?_range hk]
  simp only [Option.map_some, Option.getD_some]
  have e1 : (p + 3 * lb l + 6 * q) / 6 = q := by omega
  have e2 : (p + 3 * lb l + 6 * q) / 3 % 2 = lb l := by omega
  have e3 : (p + 3 * lb l + 6 * q) % 3 = p := by omega
  rw [e1, e2, e3]
  have : q + lb l * 3 + p * 6 = q + 3 * lb l + 6 * p := by omega
  rw [this]
theorem turned_end {ls : List Int} (h : ls.length = 24) {p : Nat} (hp : p < 3) : lit (turnedL ls) (18 + p) = lit ls (21 + p) ∧ lit (turnedL ls) (21 + p) = lit ls (18 + p) := by
  unfold lit turnedL
  constructor
  · rw [List.append_assoc, List.getElem?_append_right (by simp), List.length_map, List.length_range, show 18 + p - 18 = p by omega, List.getElem?_append_left (by simp; omega), List.getElem?_take, if_pos hp, List.getElem?_drop]
  · rw [List.getElem?_append_right (by simp; omega)]
    simp only [List.length_append, List.length_map, List.length_range, List.length_take, List.length_drop]
    rw [show 21 + p - (18 + min 3 (ls.length - 21)) = p by omega, List.getElem?_take, if_pos hp, List.getElem?_drop]
theorem Rel3.lt {ls : List Int} : ∀ {w : Word} {p q : Nat}, p < 3 → Rel3 ls w p q → q < 3
  | [], p, q, hp, h => by cases h; exact hp
  | l :: w, p, q, hp, ⟨r, h1, _, h⟩ => Rel3.lt h1 h
theorem rel_turned {ls : List Int} : ∀ {w : Word} {p q : Nat}, p < 3 → q < 3 → (Rel3 (turnedL ls) w p q ↔ Rel3 ls w.reverse q p)
  | [], p, q, _, _ => by
    show p = q ↔ q = p
    exact eq_comm
  | l :: w, p, q, hp, hq => by
    rw [List.reverse_cons, Rel3.snoc]
    constructor
    · rintro ⟨r, h1, h2, h⟩
      refine ⟨r, (rel_turned h1 hq).mp h, hp, ?_⟩
      rw [← turned_way l hp h1]; exact h2
    · rintro ⟨r, h, _, h2⟩
      have hr := Rel3.lt hq h
      exact ⟨r, hr, by rw [turned_way l hp hr]; exact h2, (rel_turned hr hq).mpr h⟩
noncomputable def accept (ls : List Int) (w : Word) : Bool := pFin ls (go (pStep ls 0) (pStep ls 1) (pStart ls) w)
theorem pStart_mem {ls : List Int} {p : Nat} : p ∈ pStart ls ↔ p < 3 ∧ lit ls (21 + p) = true := by
  unfold pStart
  rw [List.mem_filter]
  have : p ∈ [0, 1, 2] ↔ p < 3 := by simp; omega
  rw [this]
theorem accept_iff {ls : List Int} {w : Word} : accept ls w = true ↔ ∃ p q, p < 3 ∧ q < 3 ∧ lit ls (21 + p) = true ∧ Rel3 ls w p q ∧ lit ls (18 + q) = true := by
  unfold accept pFin
  rw [List.any_eq_true]
  constructor
  · rintro ⟨q, h1, h2⟩
    obtain ⟨p, h3, h4⟩ := (goP_mem w _ q).mp h1
    obtain ⟨h5, h6⟩ := pStart_mem.mp h3
    exact ⟨p, q, h5, Rel3.lt h5 h4, h6, h4, h2⟩
  · rintro ⟨p, q, h5, _, h6, h4, h2⟩
    exact ⟨q, (goP_mem w _ q).mpr ⟨p, pStart_mem.mpr ⟨h5, h6⟩, h4⟩, h2⟩
theorem accept_turned {ls : List Int} (hl : ls.length = 24) (w : Word) : accept (turnedL ls) w = accept ls w.reverse := by
  rw [Bool.eq_iff_iff, accept_iff, accept_iff]
  constructor
  · rintro ⟨p, q, hp, hq, h1, h2, h3⟩
    exact ⟨q, p, hq, hp, by rw [← (turned_end hl hq).1]; exact h3, (rel_turned hp hq).mp h2, by rw [← (turned_end hl hp).2]; exact h1⟩
  · rintro ⟨q, p, hq, hp, h3, h2, h1⟩
    exact ⟨p, q, hp, hq, by rw [(turned_end hl hp).2]; exact h1, (rel_turned hp hq).mpr h2, by rw [(turned_end hl hq).1]; exact h3⟩
theorem plain_whole (ls : List Int) : Whole (pStep ls 0) (pStep ls 1) (pFin ls) (pStart ls) (plainRun ls) :=
  bfs_whole (univ := univ3) (univ3_filter _) (fun s _ => ⟨univ3_filter _, univ3_filter _⟩) (by decide)
theorem plain_len (ls : List Int) : (plainRun ls).rows.length ≤ 8 := by
  rw [(plain_whole ls).len]
  exact nodup_len (m := univ3) (plain_whole ls).nd fun s hs => by
    obtain ⟨w, rfl⟩ := (plain_whole ls).reach s hs
    have : ∀ (w : Word) (S : List Nat), S ∈ univ3 → go (pStep ls 0) (pStep ls 1) S w ∈ univ3 := by
      intro w
      induction w with
      | nil => intro S hS; exact hS
      | cons l w ih =>
        intro S hS
        rw [go_cons]
        cases l
        · exact ih (pStep ls 0 S) (univ3_filter _)
        · exact ih (pStep ls 1 S) (univ3_filter _)
    exact this w _ (univ3_filter _)
theorem plain_tells (ls : List Int) (w : Word) : rF (plainRun ls).rows 0 w = accept ls w := (plain_whole ls).tells w (plain_whole ls).hd
end Mine
end -- B3
section -- B4
set_option tactic.hygienic false
open PySem
set_option linter.unusedVariables false
set_option linter.unusedSimpArgs false
set_option linter.unusedSectionVars false
set_option autoImplicit false
namespace Mine

/-! classes parted by the classes that a and b lead to -/
noncomputable def kt (rows : List Row) : Nat → List Nat
  | 0 => kinds0 rows
  | t + 1 => turnK rows (kt rows t)
theorem foldl_const {α β : Type} (f : β → β) : ∀ (l : List α) (x : β), l.foldl (fun k _ => f k) x = Nat.repeat f l.length x
  | [], x => rfl
  | a :: l, x => by
    rw [List.foldl_cons, foldl_const f l]
    have : ∀ (n : Nat) (x : β), Nat.repeat f n (f x) = Nat.repeat f (n + 1) x := by
      intro n
      induction n with
      | zero => intro x; rfl
      | succ n ih => intro x; show f _ = f _; rw [ih]
    exact this _ _
theorem kindsF_kt (rows : List Row) : kindsF rows = kt rows rows.length := by
  unfold kindsF
  rw [foldl_const (turnK rows)]
  have : ∀ n, Nat.repeat (turnK rows) n (kinds0 rows) = kt rows n := by
    intro n
    induction n with
    | zero => rfl
    | succ n ih => show turnK rows _ = _; rw [ih]; rfl
  exact this _
theorem tales_get (k : List Nat) : ∀ (rs : List Row) (p i : Nat), i < rs.length → (talesFrom k p rs)[i]? = some (kd k (p + i), kd k (rowAt rs i).1, kd k (rowAt rs i).2.1)
  | [], p, i, h => by simp at h
  | r :: rs, p, 0, h => rfl
  | r :: rs, p, i + 1, h => by
    have := tales_get k rs (p + 1) i (by simpa using h)
    rw [talesFrom, List.getElem?_cons_succ, this]
    have e : rowAt (r :: rs) (i + 1) = rowAt rs i := by simp [rowAt]
    rw [e]
    congr 3
    omega
theorem idx_inj {α : Type} [DecidableEq α] {l : List α} {x y : α} (hx : x ∈ l) (hy : y ∈ l) (h : idx l x = idx l y) : x = y := by
  have h1 := idx_get hx
  have h2 := idx_get hy
  rw [h, h2] at h1
  exact (Option.some.inj h1).symm
theorem turn_eq {rows : List Row} {k : List Nat} {i j : Nat} (hi : i < rows.length) (hj : j < rows.length) :
    kd (turnK rows k) i = kd (turnK rows k) j ↔ kd k i = kd k j ∧ kd k (rowAt rows i).1 = kd k (rowAt rows j).1 ∧ kd k (rowAt rows i).2.1 = kd k (rowAt rows j).2.1 := by
  have gi := tales_get k rows 0 i hi
  have gj := tales_get k rows 0 j hj
  rw [Nat.zero_add] at gi gj
  have ei : kd (turnK rows k) i = idx (talesFrom k 0 rows) (kd k i, kd k (rowAt rows i).1, kd k (rowAt rows i).2.1) := by
    unfold kd turnK; rw [List.getElem?_map, gi]; rfl
  have ej : kd (turnK rows k) j = idx (talesFrom k 0 rows) (kd k j, kd k (rowAt rows j).1, kd k (rowAt rows j).2.1) := by
    unfold kd turnK; rw [List.getElem?_map, gj]; rfl
  rw [ei, ej]
  constructor
  · intro h
    have := idx_inj (List.mem_of_getElem? gi) (List.mem_of_getElem? gj) h
    simpa using this
  · rintro ⟨h1, h2, h3⟩
    rw [h1, h2, h3]
/-- a class's number is a place of the class -/
theorem turn_rep {rows : List Row} {k : List Nat} {i : Nat} (hi : i < rows.length) : kd (turnK rows k) (kd (turnK rows k) i) = kd (turnK rows k) i := by
  have gi := tales_get k rows 0 i hi
  rw [Nat.zero_add] at gi
  have ei : kd (turnK rows k) i = idx (talesFrom k 0 rows) (kd k i, kd k (rowAt rows i).1, kd k (rowAt rows i).2.1) := by
    unfold kd turnK; rw [List.getElem?_map, gi]; rfl
  have hm := List.mem_of_getElem? gi
  have hr := idx_get hm
  rw [ei]
  generalize (kd k i, kd k (rowAt rows i).1, kd k (rowAt rows i).2.1) = x at hr ⊢
  unfold kd turnK
  rw [List.getElem?_map, hr]; rfl
theorem kinds0_eq {rows : List Row} {i j : Nat} (hi : i < rows.length) (hj : j < rows.length) : kd (kinds0 rows) i = kd (kinds0 rows) j ↔ (rowAt rows i).2.2 = (rowAt rows j).2.2 := by
  have h : ∀ i, i < rows.length → kd (kinds0 rows) i = if (rowAt rows i).2.2 then 1 else 0 := fun i hi => by
    simp [kd, kinds0, rowAt, hi]
  rw [h i hi, h j hj]
  cases (rowAt rows i).2.2 <;> cases (rowAt rows j).2.2 <;> simp

section
variable {rows : List Row} (C : Closed rows)
include C
theorem kt_down {t : Nat} {i j : Nat} (hi : i < rows.length) (hj : j < rows.length) (h : kd (kt rows (t + 1)) i = kd (kt rows (t + 1)) j) : kd (kt rows t) i = kd (kt rows t) j := ((turn_eq hi hj).mp h).1
theorem kt_le : ∀ {t s : Nat}, s ≤ t → ∀ {i j : Nat}, i < rows.length → j < rows.length → kd (kt rows t) i = kd (kt rows t) j → kd (kt rows s) i = kd (kt rows s) j
  | 0, s, h, i, j, hi, hj, e => by have : s = 0 := by omega
                                   subst this; exact e
  | t + 1, s, h, i, j, hi, hj, e => by
    by_cases hs : s = t + 1
    · subst hs; exact e
    · exact kt_le (by omega) hi hj (kt_down C hi hj e)
theorem kt_same : ∀ (t : Nat) {i j : Nat}, i < rows.length → j < rows.length → (∀ w, rF rows i w = rF rows j w) → kd (kt rows t) i = kd (kt rows t) j
  | 0, i, j, hi, hj, h => (kinds0_eq hi hj).mpr (h [])
  | t + 1, i, j, hi, hj, h => (turn_eq hi hj).mpr ⟨kt_same t hi hj h, kt_same t (C.sel hi false) (C.sel hj false) fun w => by have := h (false :: w); rwa [rF_cons, rF_cons] at this,
      kt_same t (C.sel hi true) (C.sel hj true) fun w => by have := h (true :: w); rwa [rF_cons, rF_cons] at this⟩
noncomputable def Still (rows : List Row) (t : Nat) : Prop := ∀ i j, i < rows.length → j < rows.length → kd (kt rows t) i = kd (kt rows t) j → kd (kt rows (t + 1)) i = kd (kt rows (t + 1)) j
theorem still_tells {t : Nat} (S : Still rows t) : ∀ (w : Word) {i j : Nat}, i < rows.length → j < rows.length → kd (kt rows t) i = kd (kt rows t) j → rF rows i w = rF rows j w
  | [], i, j, hi, hj, h => (kinds0_eq hi hj).mp (kt_le C (Nat.zero_le _) hi hj h)
  | l :: w, i, j, hi, hj, h => by
    obtain ⟨_, h1, h2⟩ := (turn_eq hi hj).mp (S i j hi hj h)
    rw [rF_cons, rF_cons]
    refine still_tells S w (C.sel hi l) (C.sel hj l) ?_
    cases l
    · exact h1
    · exact h2
end

theorem first_of (f : Nat → Nat) : ∀ i : Nat, ∃ r, r ≤ i ∧ f r = f i ∧ ∀ x, x < r → f x ≠ f r := by
  intro i
  induction i using Nat.strongRecOn with
  | ind i ih =>
    by_cases h : ∃ x, x < i ∧ f x = f i
    · obtain ⟨x, hx, e⟩ := h
      obtain ⟨r, h1, h2, h3⟩ := ih x hx
      exact ⟨r, by omega, h2.trans e, h3⟩
    · exact ⟨i, Nat.le_refl _, rfl, fun x hx e => h ⟨x, hx, e⟩⟩
noncomputable def isFirst (f : Nat → Nat) (i : Nat) : Bool := (List.range i).all fun x => f x != f i
theorem isFirst_iff {f : Nat → Nat} {i : Nat} : isFirst f i = true ↔ ∀ x, x < i → f x ≠ f i := by
  unfold isFirst
  rw [List.all_eq_true]
  constructor
  · intro h x hx; have := h x (List.mem_range.mpr hx); simpa using this
  · intro h x hx; have := h x (List.mem_range.mp hx); simpa using this
theorem filter_le {α : Type} {p q : α → Bool} : ∀ {l : List α}, (∀ x ∈ l, p x = true → q x = true) → (l.filter p).length ≤ (l.filter q).length
  | [], _ => Nat.le_refl _
  | x :: l, h => by
    have ih := filter_le (l := l) fun y hy => h y (List.mem_cons_of_mem _ hy)
    rw [List.filter_cons, List.filter_cons]
    cases hp : p x with
    | true => rw [h x List.mem_cons_self hp]; simp only [if_true, List.length_cons]; omega
    | false => cases q x <;> simp <;> omega
theorem filter_lt {α : Type} {p q : α → Bool} : ∀ {l : List α}, (∀ x ∈ l, p x = true → q x = true) → (∃ x ∈ l, q x = true ∧ p x = false) → (l.filter p).length < (l.filter q).length
  | [], _, ⟨x, h, _⟩ => nomatch h
  | x :: l, h, ⟨y, hy, hq, hp⟩ => by
    have hl := fun y hy => h y (List.mem_cons_of_mem x hy)
    rw [List.filter_cons, List.filter_cons]
    rcases List.mem_cons.mp hy with rfl | hy
    · rw [hq, hp]
      have := filter_le hl
      simp only [if_true, List.length_cons]
      show _ < _
      simp
      omega
    · have ih := filter_lt hl ⟨y, hy, hq, hp⟩
      cases hpx : p x with
      | true => rw [h x List.mem_cons_self hpx]; simp only [if_true, List.length_cons]; omega
      | false => cases q x <;> simp <;> omega
noncomputable def cnt (rows : List Row) (t : Nat) : Nat := ((List.range rows.length).filter (isFirst (kd (kt rows t)))).length
theorem cnt_grows {rows : List Row} (C : Closed rows) {t : Nat} (h : ¬ Still rows t) : cnt rows t < cnt rows (t + 1) := by
  unfold cnt
  have sub : ∀ x ∈ List.range rows.length, isFirst (kd (kt rows t)) x = true → isFirst (kd (kt rows (t + 1))) x = true := fun x hx hf => by
    have hx' := List.mem_range.mp hx
    rw [isFirst_iff] at hf ⊢
    exact fun y hy e => hf y hy (kt_down C (by omega) hx' e)
  refine filter_lt sub ?_
  refine Classical.byContradiction fun hno => h fun i j hi hj e => ?_
  have all : ∀ x, x < rows.length → isFirst (kd (kt rows (t + 1))) x = true → isFirst (kd (kt rows t)) x = true := fun x hx hf => by
    cases q : isFirst (kd (kt rows t)) x with
    | true => rfl
    | false => exact absurd ⟨x, List.mem_range.mpr hx, hf, q⟩ hno
  obtain ⟨r, r1, r2, r3⟩ := first_of (kd (kt rows (t + 1))) i
  obtain ⟨r', r1', r2', r3'⟩ := first_of (kd (kt rows (t + 1))) j
  have hr : r < rows.length := by omega
  have hr' : r' < rows.length := by omega
  have f1 := isFirst_iff.mp (all r hr (isFirst_iff.mpr r3))
  have f2 := isFirst_iff.mp (all r' hr' (isFirst_iff.mpr r3'))
  have e1 := kt_down C hr hi r2
  have e2 := kt_down C hr' hj r2'
  have e3 : kd (kt rows t) r = kd (kt rows t) r' := by rw [e1, e2, e]
  have : r = r' := by
    rcases Nat.lt_trichotomy r r' with q | q | q
    · exact absurd e3 (f2 r q)
    · exact q
    · exact absurd e3.symm (f1 r' q)
  rw [← r2, ← r2', this]
theorem cnt_le (rows : List Row) (t : Nat) : cnt rows t ≤ rows.length := by
  unfold cnt
  have := List.length_filter_le (isFirst (kd (kt rows t))) (List.range rows.length)
  simpa using this
theorem cnt_pos {rows : List Row} (h : 0 < rows.length) (t : Nat) : 0 < cnt rows t := by
  unfold cnt
  exact List.length_pos_of_mem (List.mem_filter.mpr ⟨List.mem_range.mpr h, isFirst_iff.mpr fun x hx => absurd hx (Nat.not_lt_zero _)⟩)
theorem still_some {rows : List Row} (C : Closed rows) (h : 0 < rows.length) : ∃ t, t < rows.length ∧ Still rows t := Classical.byContradiction fun hno => by
  have grow : ∀ t, t ≤ rows.length → t + 1 ≤ cnt rows t := by
    intro t
    induction t with
    | zero => intro _; exact cnt_pos h 0
    | succ t ih =>
      intro ht
      have := cnt_grows C (t := t) fun S => hno ⟨t, by omega, S⟩
      have := ih (by omega)
      omega
  have := grow rows.length (Nat.le_refl _)
  have := cnt_le rows rows.length
  omega
theorem kinds_tell {rows : List Row} (C : Closed rows) (h : 0 < rows.length) {i j : Nat} (hi : i < rows.length) (hj : j < rows.length) : kd (kindsF rows) i = kd (kindsF rows) j ↔ ∀ w, rF rows i w = rF rows j w := by
  rw [kindsF_kt]
  constructor
  · intro e w
    obtain ⟨t, ht, S⟩ := still_some C h
    exact still_tells C S w hi hj (kt_le C (Nat.le_of_lt ht) hi hj e)
  · exact kt_same C _ hi hj
theorem kinds_rep {rows : List Row} (h : 0 < rows.length) {i : Nat} (hi : i < rows.length) : kd (kindsF rows) (kd (kindsF rows) i) = kd (kindsF rows) i := by
  rw [kindsF_kt]
  obtain ⟨n, hn⟩ : ∃ n, rows.length = n + 1 := ⟨rows.length - 1, by omega⟩
  rw [hn]
  exact turn_rep hi

/-! the least machine's ways -/
theorem least_go {rows : List Row} (C : Closed rows) (h : 0 < rows.length) (u : Word) :
    go (fun k => kd (kindsF rows) (rowAt rows k).1) (fun k => kd (kindsF rows) (rowAt rows k).2.1) (kd (kindsF rows) 0) u = kd (kindsF rows) (rgo rows 0 u) := by
  have : ∀ (r : Word), go (fun k => kd (kindsF rows) (rowAt rows k).1) (fun k => kd (kindsF rows) (rowAt rows k).2.1) (kd (kindsF rows) 0) r.reverse = kd (kindsF rows) (rgo rows 0 r.reverse) := by
    intro r
    induction r with
    | nil => rfl
    | cons l r ih =>
      rw [List.reverse_cons, go_snoc, rgo_snoc, ih]
      have hn := C.go r.reverse h
      have hk := kd_lt rows h (rgo rows 0 r.reverse)
      have same : ∀ w, rF rows (kd (kindsF rows) (rgo rows 0 r.reverse)) w = rF rows (rgo rows 0 r.reverse) w := (kinds_tell C h hk hn).mp (kinds_rep h hn)
      have key : kd (kindsF rows) (selR l (rowAt rows (kd (kindsF rows) (rgo rows 0 r.reverse)))) = kd (kindsF rows) (selR l (rowAt rows (rgo rows 0 r.reverse))) :=
        (kinds_tell C h (C.sel hk l) (C.sel hn l)).mpr fun w => by rw [← rF_cons, ← rF_cons]; exact same (l :: w)
      cases l <;> exact key
  have := this u.reverse
  rwa [List.reverse_reverse] at this
theorem least_eq {rows : List Row} (C : Closed rows) (h : 0 < rows.length) (u v : Word) :
    go (fun k => kd (kindsF rows) (rowAt rows k).1) (fun k => kd (kindsF rows) (rowAt rows k).2.1) (kd (kindsF rows) 0) u = go (fun k => kd (kindsF rows) (rowAt rows k).1) (fun k => kd (kindsF rows) (rowAt rows k).2.1) (kd (kindsF rows) 0) v ↔
      ∀ w : Word, rF rows 0 (u ++ w) = rF rows 0 (v ++ w) := by
  rw [least_go C h, least_go C h, kinds_tell C h (C.go u h) (C.go v h)]
  constructor
  · intro e w; rw [rF_app, rF_app]; exact e w
  · intro e w; have := e w; rwa [rF_app, rF_app] at this
theorem least_fin {rows : List Row} (C : Closed rows) (h : 0 < rows.length) (u : Word) :
    (rowAt rows (go (fun k => kd (kindsF rows) (rowAt rows k).1) (fun k => kd (kindsF rows) (rowAt rows k).2.1) (kd (kindsF rows) 0) u)).2.2 = rF rows 0 u := by
  rw [least_go C h]
  have hn := C.go u h
  have hk := kd_lt rows h (rgo rows 0 u)
  have same := (kinds_tell C h hk hn).mp (kinds_rep h hn) []
  exact same

/-- Brzozowski: turned round and made to go one way at a time, and that twice -/
theorem brzozowski {ls : List Int} (hl : ls.length = 24) : (secondRun (plainRun (turnedL ls)).rows).rows = (leastRun (plainRun ls).rows).rows := by
  have W1 := plain_whole (turnedL ls)
  have W2 := plain_whole ls
  have C2 := W2.closed
  have P2 := W2.pos
  have tells1 : ∀ w, rF (plainRun (turnedL ls)).rows 0 w = accept ls w.reverse := fun w => by rw [plain_tells, accept_turned hl]
  have tells2 : ∀ w, rF (plainRun ls).rows 0 w = accept ls w := plain_tells ls
  have e1 : (secondRun (plainRun (turnedL ls)).rows).rows = (bfs (fun k => kd (kindsF (plainRun ls).rows) (rowAt (plainRun ls).rows k).1) (fun k => kd (kindsF (plainRun ls).rows) (rowAt (plainRun ls).rows k).2.1) (fun k => (rowAt (plainRun ls).rows k).2.2) 256 (kd (kindsF (plainRun ls).rows) 0)).rows := by
    unfold secondRun
    refine bfs_like (fun u v => ?_) (fun u => ?_) 256
    · rw [second_eq W1, least_eq C2 P2]
      constructor
      · intro h w
        have := h w.reverse
        rw [tells1, tells1, List.reverse_append, List.reverse_append, List.reverse_reverse, List.reverse_reverse, List.reverse_reverse] at this
        rw [tells2, tells2]; exact this
      · intro h w
        have := h w.reverse
        rw [tells2, tells2] at this
        rw [tells1, tells1, List.reverse_append, List.reverse_append, List.reverse_reverse, List.reverse_reverse]; exact this
    · rw [second_fin W1, least_fin C2 P2, tells1, tells2, List.reverse_reverse]
  have W3 : Whole (fun k => kd (kindsF (plainRun ls).rows) (rowAt (plainRun ls).rows k).1) (fun k => kd (kindsF (plainRun ls).rows) (rowAt (plainRun ls).rows k).2.1) (fun k => (rowAt (plainRun ls).rows k).2.2) (kd (kindsF (plainRun ls).rows) 0) (leastRun (plainRun ls).rows) :=
    bfs_whole (univ := List.range (plainRun ls).rows.length) (List.mem_range.mpr (kd_lt _ P2 _)) (fun s _ => ⟨List.mem_range.mpr (kd_lt _ P2 _), List.mem_range.mpr (kd_lt _ P2 _)⟩) (by simpa using plain_len ls)
  rw [e1]
  have := bfs_more W3 248
  exact congrArg Run.rows this
end Mine
end -- B4
section -- B6
set_option tactic.hygienic false
open PySem PySem.W PySem.Calls PyProof.Rows
set_option linter.unusedVariables false
set_option linter.unusedSimpArgs false
set_option autoImplicit false
namespace Mine
/-! sets of places as numbers -/
noncomputable def e2n (n : Nat) : List Nat → Nat
  | [] => 0
  | x :: r => x + e2n n r * 2 ^ n
theorem d2i_nat (n : Nat) : ∀ l : List Nat, d2i n (l.map fun x : Nat => (x : Int)) = (e2n n l : Int)
  | [] => rfl
  | x :: r => by simp [d2i, e2n, d2i_nat n r]
noncomputable abbrev dig (n a p : Nat) : Nat := a / 2 ^ (n * p) % 2 ^ n
theorem e2n_lt (n : Nat) : ∀ l : List Nat, (∀ x ∈ l, x < 2 ^ n) → e2n n l < 2 ^ (n * l.length)
  | [], _ => by simp [e2n]
  | x :: r, h => by
    have h1 := e2n_lt n r fun y hy => h y (List.mem_cons_of_mem _ hy)
    have h2 := h x List.mem_cons_self
    simp only [e2n, List.length_cons, Nat.mul_add, Nat.mul_one, Nat.pow_add]
    have h3 : (e2n n r + 1) * 2 ^ n ≤ 2 ^ (n * r.length) * 2 ^ n := Nat.mul_le_mul_right _ h1
    rw [Nat.add_mul, Nat.one_mul] at h3
    omega
theorem dig_e2n (n : Nat) : ∀ (l : List Nat) (p : Nat), (∀ x ∈ l, x < 2 ^ n) → dig n (e2n n l) p = (l[p]?).getD 0
  | [], p, _ => by simp [e2n, dig]
  | x :: r, 0, h => by
    have h2 := h x List.mem_cons_self
    simp only [dig, e2n, Nat.mul_zero, Nat.pow_zero, Nat.div_one, List.getElem?_cons_zero, Option.getD_some]
    rw [Nat.add_mul_mod_self_right, Nat.mod_eq_of_lt h2]
  | x :: r, p + 1, h => by
    have h1 := dig_e2n n r p fun y hy => h y (List.mem_cons_of_mem _ hy)
    have h2 := h x List.mem_cons_self
    simp only [dig, List.getElem?_cons_succ] at h1 ⊢
    rw [← h1]
    have e : n * (p + 1) = n + n * p := by rw [Nat.mul_add]; omega
    rw [e, Nat.pow_add, ← Nat.div_div_eq_div_mul]
    congr 2
    show (x + e2n n r * 2 ^ n) / 2 ^ n = _
    rw [Nat.add_mul_div_right _ _ (Nat.pow_pos (by decide)), Nat.div_eq_of_lt h2, Nat.zero_add]
noncomputable def bitsN (N : Nat) (S : List Nat) : List Nat := (List.range N).map fun p => if p ∈ S then 1 else 0
theorem bitsN_len (N : Nat) (S : List Nat) : (bitsN N S).length = N := by simp [bitsN]
theorem bitsN_lt {n N : Nat} {S : List Nat} (hn : 1 ≤ n) : ∀ x ∈ bitsN N S, x < 2 ^ n := fun x hx => by
  obtain ⟨p, _, rfl⟩ := List.mem_map.mp hx
  have : 2 ^ 1 ≤ 2 ^ n := Nat.pow_le_pow_right (by decide) hn
  split <;> omega
theorem bitsN_get {N p : Nat} {S : List Nat} (h : p < N) : (bitsN N S)[p]? = some (if p ∈ S then 1 else 0) := by
  unfold bitsN
  rw [List.getElem?_map, List.getElem?_range h]; rfl
theorem bitsN_congr {N : Nat} {S T : List Nat} (h : ∀ p, p < N → (p ∈ S ↔ p ∈ T)) : bitsN N S = bitsN N T := by
  unfold bitsN
  refine List.map_congr_left fun p hp => ?_
  have := h p (List.mem_range.mp hp)
  by_cases hs : p ∈ S
  · rw [if_pos hs, if_pos (this.mp hs)]
  · rw [if_neg hs, if_neg fun q => hs (this.mpr q)]
theorem bitsN_set {N j : Nat} {S : List Nat} : (bitsN N S).set j 1 = bitsN N (j :: S) := by
  apply List.ext_getElem?
  intro p
  by_cases hp : p < N
  · rw [List.getElem?_set, bitsN_len, bitsN_get hp, bitsN_get hp]
    by_cases hj : j = p
    · subst hj; simp [hp]
    · have : ¬ p = j := fun e => hj e.symm
      simp [hj, this]
  · rw [List.getElem?_eq_none (by rw [List.length_set, bitsN_len]; omega), List.getElem?_eq_none (by rw [bitsN_len]; omega)]
theorem bitsN_nil (N : Nat) : bitsN N [] = List.replicate N 0 := by
  apply List.ext_getElem?
  intro p
  by_cases hp : p < N
  · rw [bitsN_get hp]; simp [hp]
  · rw [List.getElem?_eq_none (by rw [bitsN_len]; omega), List.getElem?_eq_none (by simp; omega)]
/-- the number of a set of places, n bits for each of N places -/
noncomputable def enc (n N : Nat) (S : List Nat) : Nat := e2n n (bitsN N S)
theorem enc_lt {n N : Nat} {S : List Nat} (hn : 1 ≤ n) : enc n N S < 2 ^ (n * N) := by
  have := e2n_lt n (bitsN N S) (bitsN_lt hn)
  rwa [bitsN_len] at this
theorem dig_enc {n N p : Nat} {S : List Nat} (hn : 1 ≤ n) (hp : p < N) : dig n (enc n N S) p = if p ∈ S then 1 else 0 := by
  unfold enc
  rw [dig_e2n n _ p (bitsN_lt hn), bitsN_get hp]; rfl
noncomputable def SetN (N : Nat) (S : List Nat) : Prop := S = (List.range N).filter fun p => decide (p ∈ S)
theorem SetN.of (N : Nat) (f : Nat → Bool) : SetN N ((List.range N).filter f) := by
  unfold SetN
  refine List.filter_congr fun p hp => ?_
  rw [Bool.eq_iff_iff, decide_eq_true_iff, List.mem_filter]
  simp [List.mem_range.mp hp]
theorem SetN.lt {N : Nat} {S : List Nat} (h : SetN N S) {p : Nat} (hp : p ∈ S) : p < N := by
  rw [h] at hp
  exact List.mem_range.mp (List.mem_filter.mp hp).1
theorem SetN.ext {N : Nat} {S T : List Nat} (h : SetN N S) (h' : SetN N T) (e : ∀ p, p < N → (p ∈ S ↔ p ∈ T)) : S = T := by
  rw [h, h']
  refine List.filter_congr fun p hp => ?_
  have := e p (List.mem_range.mp hp)
  rw [Bool.eq_iff_iff, decide_eq_true_iff, decide_eq_true_iff]; exact this
theorem enc_inj {n N : Nat} {S T : List Nat} (hn : 1 ≤ n) (h : SetN N S) (h' : SetN N T) (e : enc n N S = enc n N T) : S = T := by
  refine h.ext h' fun p hp => ?_
  have h1 := dig_enc (S := S) hn hp
  have h2 := dig_enc (S := T) hn hp
  rw [e, h2] at h1
  by_cases hs : p ∈ S
  · rw [if_pos hs] at h1
    refine ⟨fun _ => Classical.byContradiction fun q => ?_, fun _ => hs⟩
    rw [if_neg q] at h1; omega
  · rw [if_neg hs] at h1
    refine ⟨fun q => absurd q hs, fun q => ?_⟩
    rw [if_pos q] at h1; omega
theorem range_filter_le {m M : Nat} (h : m ≤ M) {f : Nat → Bool} (h0 : ∀ p, m ≤ p → f p = false) : (List.range M).filter f = (List.range m).filter f := by
  obtain ⟨j, rfl⟩ := Nat.exists_eq_add_of_le h
  rw [List.range_add, List.filter_append]
  have : ((List.range j).map (m + ·)).filter f = [] := by
    rw [List.filter_eq_nil_iff]
    intro x hx
    obtain ⟨i, _, rfl⟩ := List.mem_map.mp hx
    rw [h0 _ (Nat.le_add_right _ _)]; decide
  rw [this, List.append_nil]
theorem digN_lt {n a : Nat} (hn0 : 1 ≤ n) : a < 2 ^ (n * digN n a) := by
  refine Nat.lt_of_lt_of_le (bits_lt a) (Nat.pow_le_pow_right (by decide) ?_)
  have h1 := Nat.lt_mul_div_succ (Builtin.Int.intBits (a : Int) + n - 1) hn0
  have h2 : n * ((Builtin.Int.intBits (a : Int) + n - 1) / n + 1) = n * digN n a + n := by rw [Nat.mul_add, Nat.mul_one]
  omega
theorem dig_zero {n a k p : Nat} (h : a < 2 ^ (n * k)) (hp : k ≤ p) : dig n a p = 0 := by
  have : a < 2 ^ (n * p) := Nat.lt_of_lt_of_le h (Nat.pow_le_pow_right (by decide) (Nat.mul_le_mul_left n hp))
  simp [dig, Nat.div_eq_of_lt this]
/-- the places of a number are those of its set -/
theorem places_enc {n N : Nat} {S : List Nat} (hn : 1 ≤ n) (h : SetN N S) : (List.range (digN n (enc n N S))).filter (fun p => dig n (enc n N S) p == 1) = S := by
  have h1 : ∀ p, digN n (enc n N S) ≤ p → (fun p => dig n (enc n N S) p == 1) p = false := fun p hp => by simp [dig_zero (digN_lt hn) hp]
  have h2 : ∀ p, N ≤ p → (fun p => dig n (enc n N S) p == 1) p = false := fun p hp => by simp [dig_zero (enc_lt (S := S) hn) hp]
  rw [← range_filter_le (Nat.le_max_left _ N) h1, range_filter_le (Nat.le_max_right _ N) h2]
  conv => rhs; rw [h]
  refine List.filter_congr fun p hp => ?_
  rw [dig_enc hn (List.mem_range.mp hp)]
  by_cases hs : p ∈ S <;> simp [hs]
theorem digs_places (n k a : Nat) : (List.range k).filter (fun p => dig n a p == 1) = (List.range (digs n k a).length).filter fun p => ((digs n k a)[p]?).getD 0 == 1 := by
  rw [digs_len]
  refine List.filter_congr fun p hp => ?_
  rw [digs_get n k a p (List.mem_range.mp hp)]; rfl

/-! what two numbers have in common -/
theorem e2n_and (n : Nat) : ∀ l m : List Nat, l.length = m.length → (∀ x ∈ l, x < 2 ^ n) → (∀ x ∈ m, x < 2 ^ n) → e2n n l &&& e2n n m = e2n n (List.zipWith (fun x y => x &&& y) l m)
  | [], [], _, _, _ => by simp [e2n]
  | x :: r, y :: t, h, h1, h2 => by
    have ih := e2n_and n r t (by simpa using h) (fun z hz => h1 z (List.mem_cons_of_mem _ hz)) (fun z hz => h2 z (List.mem_cons_of_mem _ hz))
    have hx := h1 x List.mem_cons_self
    have hy := h2 y List.mem_cons_self
    have hxy : x &&& y < 2 ^ n := Nat.lt_of_le_of_lt Nat.and_le_left hx
    simp only [e2n, List.zipWith_cons_cons, ← ih]
    have c : ∀ a b : Nat, a + b * 2 ^ n = 2 ^ n * b + a := fun a b => by rw [Nat.mul_comm]; omega
    rw [c, c, c]
    apply Nat.eq_of_testBit_eq
    intro i
    rw [Nat.testBit_and, Nat.testBit_two_pow_mul_add _ hx, Nat.testBit_two_pow_mul_add _ hy, Nat.testBit_two_pow_mul_add _ hxy]
    split <;> simp
theorem e2n_zero {n : Nat} : ∀ {l : List Nat}, e2n n l = 0 ↔ ∀ x ∈ l, x = 0
  | [] => by simp [e2n]
  | x :: r => by
    have hp : 0 < 2 ^ n := Nat.pow_pos (by decide)
    simp only [e2n, List.mem_cons, forall_eq_or_imp, ← e2n_zero (l := r) (n := n)]
    constructor
    · intro h
      have h1 : x = 0 := by omega
      have h2 : e2n n r * 2 ^ n = 0 := by omega
      exact ⟨h1, (Nat.mul_eq_zero.mp h2).resolve_right (by omega)⟩
    · rintro ⟨h1, h2⟩; rw [h1, h2]; simp
theorem enc_and {n N : Nat} {S T : List Nat} (hn : 1 ≤ n) (hS : SetN N S) : (enc n N S &&& enc n N T != 0) = S.any fun p => decide (p ∈ T) := by
  unfold enc
  rw [e2n_and n _ _ (by rw [bitsN_len, bitsN_len]) (bitsN_lt hn) (bitsN_lt hn), Bool.eq_iff_iff, bne_iff_ne, Ne, e2n_zero, List.any_eq_true]
  have hz : ∀ i, i < N → (List.zipWith (fun x y => x &&& y) (bitsN N S) (bitsN N T))[i]? = some ((if i ∈ S then 1 else 0) &&& (if i ∈ T then 1 else 0)) := fun i hi => by
    rw [List.getElem?_zipWith, bitsN_get hi, bitsN_get hi]
  constructor
  · intro h
    refine Classical.byContradiction fun hno => h fun x hx => ?_
    obtain ⟨i, hi⟩ := List.mem_iff_getElem?.mp hx
    have hiN : i < N := by
      have := (List.getElem?_eq_some_iff.mp hi).1
      simpa [bitsN_len] using this
    rw [hz i hiN] at hi
    cases hi
    by_cases h1 : i ∈ S
    · by_cases h2 : i ∈ T
      · exact absurd ⟨i, h1, by simpa using h2⟩ hno
      · simp [h2]
    · simp [h1]
  · rintro ⟨p, hp, hq⟩ h
    have hpN := hS.lt hp
    have hq' : p ∈ T := by simpa using hq
    have := h _ (List.mem_of_getElem? (hz p hpN))
    simp [hp, hq'] at this

/-! the reckoning of _law_made -/
noncomputable def univN : Nat → List (List Nat)
  | 0 => [[]]
  | N + 1 => univN N ++ (univN N).map fun l => l ++ [N]
theorem univN_len : ∀ N, (univN N).length = 2 ^ N
  | 0 => rfl
  | N + 1 => by rw [univN, List.length_append, List.length_map, univN_len N, Nat.pow_succ]; omega
theorem filter_univN (f : Nat → Bool) : ∀ N, (List.range N).filter f ∈ univN N
  | 0 => by simp [univN]
  | N + 1 => by
    rw [List.range_succ, List.filter_append, univN]
    have ih := filter_univN f N
    by_cases h : f N = true
    · exact List.mem_append.mpr (.inr (List.mem_map.mpr ⟨_, ih, by simp [h]⟩))
    · have h' : f N = false := by simpa using h
      exact List.mem_append.mpr (.inl (by simpa [h'] using ih))
theorem SetN.univ {N : Nat} {S : List Nat} (h : SetN N S) : S ∈ univN N := by rw [h]; exact filter_univN _ N
noncomputable def mStep (N : Nat) (nxt : Nat → Nat → List Nat) (l : Nat) (S : List Nat) : List Nat := (List.range N).filter fun j => S.any fun p => decide (j ∈ nxt l p)
noncomputable def mFin (T S : List Nat) : Bool := S.any fun p => decide (p ∈ T)
noncomputable def madeRun (N : Nat) (nxt : Nat → Nat → List Nat) (S₀ T : List Nat) : Run (List Nat) := bfs (mStep N nxt 0) (mStep N nxt 1) (mFin T) 256 S₀
theorem mStep_set (N : Nat) (nxt : Nat → Nat → List Nat) (l : Nat) (S : List Nat) : SetN N (mStep N nxt l S) := SetN.of _ _
theorem mStep_bits {N : Nat} {nxt : Nat → Nat → List Nat} {l : Nat} {S D : List Nat} (h : ∀ j, j ∈ D ↔ ∃ p, p ∈ S ∧ j ∈ nxt l p) : bitsN N D = bitsN N (mStep N nxt l S) :=
  bitsN_congr fun j hj => by
    rw [h, mStep, List.mem_filter, List.any_eq_true]
    simp [hj]
end Mine
end -- B6
section -- B7
set_option tactic.hygienic false
open PySem PySem.W PySem.Calls PyProof.Rows
set_option linter.unusedVariables false
set_option linter.unusedSimpArgs false
set_option autoImplicit false
namespace Mine
/-! the letters and the names -/
noncomputable def letterS (j : Nat) : Str := tx [112 + j]
noncomputable def namesS (N : Nat) : Str := tx ((List.range N).map (112 + ·))
noncomputable def nmU (l p : Nat) : Str := if l = 0 then tx [80 + p, 97] else tx [80 + p, 97, 80 + p, 97]
noncomputable def nameT (l p : Nat) : Str := if l = 0 then tx [112 + p, 97] else tx [112 + p, 97, 112 + p, 97]
set_option maxRecDepth 100000 in
theorem up_letter : ∀ p, p < 8 → Txt.upper (letterS p) = tx [80 + p] := by decide +kernel
theorem up_add : ∀ p, p < 8 → tx [80 + p] ++ Str.ofString "a" = tx [80 + p, 97] := by decide +kernel
theorem up_mul : ∀ l : Nat, l < 2 → ∀ p : Nat, p < 8 → Txt.mul (tx [80 + p, 97]) ((l : Int) + 1) = nmU l p := by decide +kernel
set_option maxRecDepth 100000 in
theorem low_nmU : ∀ l, l < 2 → ∀ p, p < 8 → Txt.lower (nmU l p) = nameT l p := by decide +kernel
theorem nameT_ok : ∀ l, l < 2 → ∀ p, p < 8 → nameT l p ∈ okTexts ∧ SeqAt.shaped (.str (nameT l p)) = true := by decide +kernel
theorem nmU_len : ∀ l, l < 2 → ∀ p, p < 8 → (nmU l p).length ≤ 1000 := by decide +kernel
theorem letter_ok : ∀ p, p < 8 → letterS p ∈ okTexts ∧ SeqAt.shaped (.str (letterS p)) = true := by decide +kernel
theorem letter_inj : ∀ p, p < 8 → ∀ q, q < 8 → letterS p = letterS q → p = q := by decide +kernel
theorem nameT_inj (l : Nat) (hl : l < 2) (p : Nat) (hp : p < 8) (m : Nat) (hm : m < 2) (q : Nat) (hq : q < 8) (h : nameT l p = nameT m q) : l = m ∧ p = q := by
  have : ∀ l : Fin 2, ∀ p : Fin 8, ∀ m : Fin 2, ∀ q : Fin 8, nameT l.val p.val = nameT m.val q.val → l.val = m.val ∧ p.val = q.val := by decide +kernel
  exact this ⟨l, hl⟩ ⟨p, hp⟩ ⟨m, hm⟩ ⟨q, hq⟩ h
theorem up_mulok : ∀ l : Nat, l < 2 → ∀ p : Nat, p < 8 → MulOk (tx [80 + p, 97]) ((l : Int) + 1) := by
  intro l hl p hp
  rcases l with _ | _ | l
  · refine ⟨by decide, fun _ h => by simp at h, fun _ h => by simp at h⟩
  · refine ⟨by decide, fun _ _ => ?_, fun _ _ => ?_⟩
    · show ¬ ((2 : Int) > (2 ^ 63 - 1) / 2); decide
    · show Builtin.Str.tooLong (2 * 2) = false; decide
  · omega
theorem names_ascii : ∀ N, N ≤ 8 → (namesS N).cps.all (· < 128) = true := fun N hN => by
  have : ∀ N, N < 9 → (namesS N).cps.all (· < 128) = true := by decide +kernel
  exact this N (by omega)
theorem names_chrs : ∀ N, N ≤ 8 → chrs (namesS N) = ((List.range N).map letterS).map .str := fun N hN => by
  unfold chrs namesS tx letterS
  simp [tx]
theorem names_len (N : Nat) : (namesS N).length = N := by
  show ((List.range N).map (112 + ·)).toArray.size = N
  simp
theorem names_get {N p : Nat} (h : p < N) : (namesS N).cps[p]? = some (112 + p) := by
  show ((List.range N).map (112 + ·)).toArray[p]? = _
  simp [h]
theorem letters_get {N p : Nat} (h : p < N) : ((List.range N).map letterS)[p]? = some (letterS p) := by simp [h]
theorem letters_first {N p m : Nat} (hN : N ≤ 8) (hp : p < N) (hm : m < p) : ((List.range N).map letterS)[m]? ≠ some (letterS p) := by
  rw [letters_get (by omega)]
  intro e
  have := letter_inj m (by omega) p (by omega) (Option.some.inj e)
  omega
theorem letters_shaped {N : Nat} (hN : N ≤ 8) : ∀ y ∈ (List.range N).map letterS, SeqAt.shaped (.str y) = true := fun y hy => by
  obtain ⟨p, hp, rfl⟩ := List.mem_map.mp hy
  exact (letter_ok p (by have := List.mem_range.mp hp; omega)).2
end Mine
end -- B7
section -- G13
set_option tactic.hygienic false
open PySem PySem.W PySem.Calls PyProof.Rows
set_option linter.unusedVariables false
set_option linter.unusedSimpArgs false
set_option autoImplicit false
namespace Mine
noncomputable abbrev eI (n N : Nat) (S : List Nat) : Int := ((enc n N S : Nat) : Int)
noncomputable abbrev setsD (n N : Nat) (Ss : List (List Nat)) : List PyData := (Ss.map (eI n N)).map PyData.int
theorem jx {σ j j2 : List (List PyData)} {a b r : List PyData} : (σ ++ [a, b] ++ (j ++ [r] ++ j2))[σ.length + 2 + j.length]? = some r := by
  rw [← List.append_assoc, ← List.append_assoc, List.getElem?_append_left (by simp; omega), List.getElem?_append_right (by simp; omega)]
  simp
  have : σ.length + 2 + j.length - (σ.length + (j.length + 1 + 1)) = 0 := by omega
  rw [this]; rfl
theorem jst {σ j j2 : List (List PyData)} {a b r c : List PyData} : (σ ++ [a, b] ++ (j ++ [r] ++ j2)).set (σ.length + 2 + j.length) c = σ ++ [a, b] ++ (j ++ [c] ++ j2) := by
  rw [← List.append_assoc, ← List.append_assoc, List.set_append_left _ _ (by simp; omega), List.set_append_right _ _ (by simp; omega)]
  simp
  have : σ.length + 2 + j.length - (σ.length + (j.length + 1 + 1)) = 0 := by omega
  rw [this]; rfl
theorem lx {B : List (List PyData)} {x : List PyData} : (B ++ [x])[B.length]? = some x := by simp
theorem lst {B : List (List PyData)} {x y : List PyData} : (B ++ [x]).set B.length y = B ++ [y] := by simp
theorem ix_left {σ J : List (List PyData)} {i : Nat} {x : List PyData} (h : σ[i]? = some x) : (σ ++ J)[i]? = some x := by
  rw [List.getElem?_append_left (List.getElem?_eq_some_iff.mp h).1]; exact h
noncomputable abbrev isOne (x : PyData) : Bool := (snd2 x).eqv (.int 1)
theorem enum_places : ∀ (ds : List Nat) (k : Nat), ((enumL k (natD ds)).filter isOne).map fst2 = natD (((List.range ds.length).filter fun p => (ds[p]?).getD 0 == 1).map (k + ·))
  | [], k => rfl
  | x :: r, k => by
    have ih := enum_places r (k + 1)
    have e1 : enumL k (natD (x :: r)) = .tuple [.int (k : Int), .int (x : Int)] :: enumL (k + 1) (natD r) := rfl
    have e2 : (List.range (x :: r).length).filter (fun p => ((x :: r)[p]?).getD 0 == 1) = (if x == 1 then [0] else []) ++ ((List.range r.length).filter fun p => (r[p]?).getD 0 == 1).map (· + 1) := by
      rw [List.length_cons, List.range_succ_eq_map, List.filter_cons, List.filter_map]
      have : ((fun p => ((x :: r)[p]?).getD 0 == 1) ∘ Nat.succ) = fun p => (r[p]?).getD 0 == 1 := by
        funext p; simp
      rw [this]
      simp only [List.getElem?_cons_zero, Option.getD_some]
      split <;> rfl
    rw [e1, e2, List.filter_cons]
    have e3 : isOne (.tuple [.int (k : Int), .int (x : Int)]) = (x == 1) := by
      show ((x : Int) == 1) = _
      rw [Bool.eq_iff_iff]; simp; omega
    rw [e3]
    have e4 : (((List.range r.length).filter fun p => (r[p]?).getD 0 == 1).map (· + 1)).map (k + ·) = ((List.range r.length).filter fun p => (r[p]?).getD 0 == 1).map (k + 1 + ·) := by
      rw [List.map_map]; refine List.map_congr_left fun p _ => ?_; show k + (p + 1) = k + 1 + p; omega
    cases hx : (x == 1) with
    | true =>
      simp only [if_true, List.map_cons, List.map_append, ih, e4]
      show PyData.int (k : Int) :: _ = _
      simp [natD]
    | false =>
      simp only [Bool.false_eq_true, if_false, List.nil_append, ih, e4]
noncomputable def mLet (N : Nat) (nxt : Nat → Nat → List Nat) (here : List Nat) (st : List (List Nat) × List Nat) (m : Nat) : List (List Nat) × List Nat :=
  (addS st.1 (mStep N nxt m here), st.2 ++ [idx (addS st.1 (mStep N nxt m here)) (mStep N nxt m here)])
theorem enc_count {n N : Nat} {Ss : List (List Nat)} {S : List Nat} (hn : 1 ≤ n) (h : ∀ x ∈ Ss, SetN N x) (hS : SetN N S) : ((Ss.map (eI n N)).count (eI n N S) = 0) ↔ S ∉ Ss := by
  rw [List.count_eq_zero]
  constructor
  · intro h1 h2; exact h1 (List.mem_map.mpr ⟨S, h2, rfl⟩)
  · intro h1 h2
    obtain ⟨x, hx, e⟩ := List.mem_map.mp h2
    have : enc n N x = enc n N S := by exact_mod_cast e
    rw [enc_inj hn (h x hx) hS this] at hx
    exact h1 hx
theorem enc_idx {n N : Nat} {Ss : List (List Nat)} {S : List Nat} (hn : 1 ≤ n) (h : ∀ x ∈ Ss, SetN N x) (hS : S ∈ Ss) : (Ss.map (eI n N))[idx Ss S]? = some (eI n N S) ∧ ∀ m, m < idx Ss S → (Ss.map (eI n N))[m]? ≠ some (eI n N S) := by
  refine ⟨by rw [List.getElem?_map, idx_get hS]; rfl, fun m hm e => ?_⟩
  have hlt : m < Ss.length := Nat.lt_trans hm (idx_lt hS)
  rw [List.getElem?_map, List.getElem?_eq_getElem hlt] at e
  have e2 : enc n N Ss[m] = enc n N S := by exact_mod_cast Option.some.inj e
  have e3 := enc_inj hn (h _ (List.getElem_mem hlt)) (h S hS) e2
  have := (idx_first hS).2 m hm
  rw [List.getElem?_map, List.getElem?_eq_getElem hlt] at this
  simp [e3] at this
section
variable {w : World} {base : Heap} {s0 : Shared} {loose : List Str} {mean : ExcName → Option Value} {mg mb : Str → Option Value} {pin : Phi} {d : Nat} {σ : List (List PyData)} {P : V → List (List PyData) → Prop}
theorem or_shift {a b c d : Prop} : (((a ∨ b) ∨ c) ∨ d) ↔ ((b ∨ a ∨ c) ∨ d) := by
  constructor
  · rintro (((h | h) | h) | h)
    · exact .inl (.inr (.inl h))
    · exact .inl (.inl h)
    · exact .inl (.inr (.inr h))
    · exact .inr h
  · rintro ((h | h | h) | h)
    · exact .inl (.inl (.inr h))
    · exact .inl (.inl (.inl h))
    · exact .inl (.inr h)
    · exact .inr h
theorem digN_le {n a : Nat} (ha : a < 2 ^ 24) (hn0 : 1 ≤ n) : digN n a ≤ 1000 := by
  have hbits : Builtin.Int.intBits (a : Int) ≤ 24 := bits_le (m := 24) ha
  show (Builtin.Int.intBits (a : Int) + n - 1) / n ≤ 1000
  refine Nat.div_le_of_le_mul ?_
  have h9 : n * 24 ≤ n * 1000 := Nat.mul_le_mul_left n (by decide)
  omega
noncomputable def rM0 (n N i : Nat) (S₀ T : List Nat) (sl : Nat) (v7 v8 v9 v10 v11 v12 v13 v14 : Option V) : List (Option V) := [some (.hr i), some (.d (.int (eI n N S₀))), some (.d (.int (eI n N T))), some (.d (.str (namesS N))), some (.d (.int (n : Int))), some (.r sl), some (.r (sl + 1)), v7, v8, v9, v10, v11, v12, v13, v14, none, none, none, none, none, none, none, none, none, none]
noncomputable def rM1 (n N i : Nat) (S₀ T : List Nat) (sl : Nat) (here : List Nat) (jl : Nat) (v9 v11 v12 v13 v14 : Option V) : List (Option V) := rM0 n N i S₀ T sl (some (.d (.int (eI n N here)))) (some (.r (sl + 2 + jl))) v9 (some (.d (.list (natD here)))) v11 v12 v13 v14
set_option maxRecDepth 100000 in
theorem made_spec {i N n : Nat} {hs : List (Str × Str)} {nxt : Nat → Nat → List Nat} {S₀ T : List Nat} (hi : σ[i]? = some (hs.map pairD)) (hlen' : hs.length ≤ 1000) (hks : ∀ h ∈ hs, h.1.length ≤ 1000 ∧ SeqAt.shaped (.str (Txt.lower h.1)) = true) (hN0 : 1 ≤ N) (hN : N ≤ 8) (hn0 : 1 ≤ n) (hn : n ≤ 3) (hS : SetN N S₀) (hnx : ∀ l p j, j ∈ nxt l p → j < N) (htell : ∀ l p, l < 2 → p < N → tellsOf hs (nameT l p) = (nxt l p).map fun j => .str (letterS j)) (p : P (.d (rowsD (madeRun N nxt S₀ T).rows)) σ) : TCall (cx w base s0 loose mean mg mb pin) (d + 30) (.ref 254) [.hr i, .d (.int (eI n N S₀)), .d (.int (eI n N T)), .d (.str (namesS N)), .d (.int (n : Int))] [] [] σ P := by
  have KX : (hd.heap_39 w.params).In base → True := fun _ => trivial
  have PP : PySem.Challenge.rw_wc0014_01.prog = PySem.Challenge.rw_wc0014_01.prog := rfl
  revert KX PP; k_fill; intro KX PP
  refine TCall.def_ (hK := by show List.lookup 254 (hd.heap_39 w.params) = _; k_is) rfl rfl rfl rfl rfl ?hcd rfl rfl rfl ?hnd ?hps ?hpk rfl (TBind.plain (ps := [Str.ofString "table", Str.ofString "first", Str.ofString "taken", Str.ofString "names", Str.ofString "size"]) ?hb) ?hmain
  case hcd => show codeIn (hd.heap_39 w.params) _ _ = true; k_is
  case hnd => decide
  case hps => decide
  case hpk => decide
  case hb =>
    intro cvs hl
    obtain ⟨x0, x1, x2, x3, x4, rfl⟩ := len5 hl
    rfl
  case hmain =>
    have hN8 : 2 ^ N ≤ 256 := Nat.le_trans (Nat.pow_le_pow_right (by decide) hN) (by decide)
    have henc : ∀ S, enc n N S < 2 ^ 24 := fun S => Nat.lt_of_lt_of_le (enc_lt hn0) (Nat.pow_le_pow_right (by decide) (Nat.le_trans (Nat.mul_le_mul hn hN) (by decide)))
    refine TFin.of ?_
    refine TSS.cons ?_
    refine TS.assignS [Str.ofString "sets", Str.ofString "rows"] ?_
    refine TEs.cons ?_
    refine TE.listT ?_
    refine TEs.cons ?_
    refine TE.loc 1 rfl ?_
    refine TEs.nil ⟨[.int (eI n N S₀)], rfl, by simp, ?_⟩
    refine TEs.cons ?_
    refine TE.listT ?_
    refine TEs.nil ⟨[], rfl, by decide, ?_⟩
    refine TEs.nil ⟨rfl, by simp, ?_⟩
    refine TN.loc 6 ?_
    refine TN.loc 5 ?_
    refine TSS.cons ?_
    refine TS.whileN (fun m ρ' σ' => ∃ (st : Run (List Nat)) (junk : List (List PyData)) (v7 v8 v9 v10 v11 v12 v13 v14 : Option V), ρ' = (rM0 n N i S₀ T σ.length v7 v8 v9 v10 v11 v12 v13 v14) ∧ σ' = σ ++ [setsD n N st.sets, st.rows.map rowD] ++ junk ∧ ROk (mStep N nxt 0) (mStep N nxt 1) (SetN N) st ∧ brun (mStep N nxt 0) (mStep N nxt 1) (mFin T) (256 - st.rows.length) st = madeRun N nxt S₀ T ∧ m = 256 - st.rows.length) 256 ?_ ?_
    · refine ⟨⟨[S₀], []⟩, [], none, none, none, none, none, none, none, none, ?_, by simp, ROk.start hS, rfl, rfl⟩
      simp only [List.length_append, List.length_singleton]; rfl
    rintro m ρ' σ' ⟨st, junk, v7, v8, v9, v10, v11, v12, v13, v14, rfl, rfl, ok, hrun, rfl⟩
    intro Nw Pw hNw hPw
    have hS8 : st.sets.length ≤ 256 := Nat.le_trans (ok.len (univ := univN N) fun x h => SetN.univ h) (by rw [univN_len]; exact hN8)
    have hR8 : st.rows.length ≤ 256 := Nat.le_trans ok.le hS8
    refine TB.cmp ?_
    refine TE.call ?_
    refine TE.bltn (by show nsIn (hd.heap_39 w.params) _ _ = _; k_is) (by boot_by_name) (by decide) ⟨_, rfl, KeepOk.builtin, ?_⟩
    refine TEs.cons ?_
    refine TE.loc 6 rfl ?_
    refine TEs.nil ?_
    refine TCall.lenL (IsL.r ix1) (by simp; omega) ?_
    refine TE.call ?_
    refine TE.bltn (by show nsIn (hd.heap_39 w.params) _ _ = _; k_is) (by boot_by_name) (by decide) ⟨_, rfl, KeepOk.builtin, ?_⟩
    refine TEs.cons ?_
    refine TE.loc 5 rfl ?_
    refine TEs.nil ?_
    refine TCall.lenL (IsL.r ix0) (by simp; omega) ?_
    refine TV2.ltII ?_
    refine TT.bool ?_
    simp only [List.length_map]
    by_cases hlt : st.rows.length < st.sets.length
    · rw [show decide ((st.rows.length : Int) < (st.sets.length : Int)) = true by simpa using hlt]
      have hh : st.sets[st.rows.length]? = some st.sets[st.rows.length] := List.getElem?_eq_getElem hlt
      generalize st.sets[st.rows.length] = here at hh
      have hu := ok.u here (List.mem_of_getElem? hh)
      show TSS _ _ _ _ _ _ _
      refine TSS.cons ?_
      refine TS.assignS [Str.ofString "here", Str.ofString "row"] ?_
      refine TEs.cons ?_
      refine TE.call ?_
      refine TE.glob (v := .ref 221) (by show nsIn (hd.heap_39 w.params) _ _ = _; k_is) ⟨_, rfl, KeepOk.old (by show keepIn (hd.heap_39 w.params) _ = _; k_is), ?_⟩
      refine TEs.cons ?_
      refine TE.loc 5 rfl ?_
      refine TEs.cons ?_
      refine TE.call ?_
      refine TE.bltn (by show nsIn (hd.heap_39 w.params) _ _ = _; k_is) (by boot_by_name) (by decide) ⟨_, rfl, KeepOk.builtin, ?_⟩
      refine TEs.cons ?_
      refine TE.loc 6 rfl ?_
      refine TEs.nil ?_
      refine TCall.lenL (IsL.r ix1) (by simp; omega) ?_
      refine TEs.nil ?_
      refine getitem_spec ix0 (by omega) (by simp; omega) (x := .int (eI n N here)) (by simp [hh]) ?_
      refine TEs.cons ?_
      refine TE.listT ?_
      refine TEs.nil ⟨[], rfl, by decide, ?_⟩
      refine TEs.nil ⟨rfl, by simp, ?_⟩
      refine TN.loc 8 ?_
      refine TN.loc 7 ?_
      rw [ln2, List.append_assoc _ junk]
      refine TSS.cons ?_
      refine TS.assignComp 10 ?_
      refine TIter.enum ?_
      refine TE.bltn (by show nsIn (hd.heap_39 w.params) _ _ = _; k_is) (by boot_by_name) (by decide) ⟨rfl, ?_⟩
      refine TE.call ?_
      refine TE.glob (v := .ref 193) (by show nsIn (hd.heap_39 w.params) _ _ = _; k_is) ⟨_, rfl, KeepOk.old (by show keepIn (hd.heap_39 w.params) _ = _; k_is), ?_⟩
      refine TEs.cons ?_
      refine TE.loc 7 rfl ?_
      refine TEs.cons ?_
      refine TE.loc 4 rfl ?_
      refine TEs.nil ?_
      refine int2digits_spec (henc here) hn0 (Nat.le_trans hn (by decide)) ?_
      refine ⟨_, _, _, TSrc.list, trivial, ?_⟩
      refine TComp.pureG (fun x => [none, some (.d (fst2 x)), some (.d (snd2 x))]) isOne fst2 (by rw [enumL_length]; simp only [natD, List.length_map, digs_len]; exact digN_le (henc here) hn0) (fun _ => trivial) ?_ ?_ ?_ ?_
      · rintro x ρ' σ' hx hr
        obtain ⟨i, hi⟩ := List.mem_iff_getElem?.mp hx
        obtain ⟨y, hy, rfl⟩ := enumL_get _ _ _ _ hi
        refine TA.tuple2 (TA.loc 1 (TA.loc 2 ⟨?_, rfl⟩))
        rcases hr with rfl | ⟨y, rfl⟩ <;> rfl
      · rintro x ys hx
        obtain ⟨i, hi⟩ := List.mem_iff_getElem?.mp hx
        obtain ⟨y, hy, rfl⟩ := enumL_get _ _ _ _ hi
        obtain ⟨z, hz, rfl⟩ := List.mem_map.mp (List.mem_of_getElem? hy)
        refine TB.cmp ?_
        refine TE.loc 2 rfl ?_
        refine TE.int ?_
        refine TV2.eqDD rfl rfl ?_
        exact TT.bool ⟨rfl, rfl⟩
      · rintro x ys hx _
        exact TE.loc 1 rfl ⟨rfl, rfl⟩
      refine ⟨_, by rw [List.getElem?_append_right (Nat.le_refl _), Nat.sub_self]; rfl, ?_⟩
      have hpl : ((enumL 0 (natD (digs n (digN n (enc n N here)) (enc n N here)))).filter isOne).map fst2 = natD here := by
        have := enum_places (digs n (digN n (enc n N here)) (enc n N here)) 0
        rw [← digs_places, places_enc hn0 hu] at this
        simpa using this
      rw [hpl, List.take_left]
      refine TSS.cons ?_
      refine TS.for_ ?_
      refine TIter.of ?_
      refine TE.call ?_
      refine TE.bltn (by show nsIn (hd.heap_39 w.params) _ _ = _; k_is) (by boot_by_name) (by decide) ⟨_, rfl, KeepOk.type, ?_⟩
      refine TEs.cons ?_
      refine TE.int ?_
      refine TEs.cons ?_
      refine TE.int ?_
      refine TEs.nil ?_
      refine TCall.range2 ⟨_, _, _, TItr.rng rfl rfl (by decide), ?_⟩
      refine TLoop.indN (fun ys ρ' σ' => ∃ (ms : List Nat) (Ss : List (List Nat)) (rw : List Nat) (junk2 : List (List PyData)) (v9 v11 v12 v13 v14 : Option V), ys = (ms.map fun (m : Nat) => PyData.int ((m : Int) + 1)) ∧ (∀ m ∈ ms, m < 2) ∧ ρ' = (rM1 n N i S₀ T σ.length here junk.length v9 v11 v12 v13 v14) ∧ σ' = σ ++ [setsD n N Ss, st.rows.map rowD] ++ (junk ++ [natD rw] ++ junk2) ∧ Ss.Nodup ∧ (∀ x ∈ Ss, SetN N x) ∧ rw.length + ms.length = 2 ∧ ms.foldl (mLet N nxt here) (Ss, rw) = [0, 1].foldl (mLet N nxt here) (st.sets, [])) ?_ ?_ ⟨[0, 1], st.sets, [], [], v9, v11, v12, v13, v14, rfl, by decide, rfl, by simp, ok.nd, ok.u, rfl, rfl⟩
      · rintro ρ' σ' ⟨ms, Ss, rw', junk2, v9, v11, v12, v13, v14, hz, hm, rfl, rfl, hnd, hu3, hlen, hf⟩
        intro P1 hP1
        have : ms = [] := by cases ms with | nil => rfl | cons _ _ => simp at hz
        subst this
        have hf' : (Ss, rw') = ((bstep (mStep N nxt 0) (mStep N nxt 1) (mFin T) here st).sets, [idx (addS st.sets (mStep N nxt 0 here)) (mStep N nxt 0 here), idx (addS (addS st.sets (mStep N nxt 0 here)) (mStep N nxt 1 here)) (mStep N nxt 1 here)]) := hf
        obtain ⟨rfl, rfl⟩ := Prod.mk.inj hf'
        have okS := ok.step (fin := mFin T) (fun x hx => ⟨mStep_set _ _ _ _, mStep_set _ _ _ _⟩) hh
        refine TSS.nil (hP1 _ _ _ ?_)
        refine TSS.one ?_
        refine TS.expr ?_
        refine TE.meth ?_
        refine TE.loc 6 rfl ⟨_, TGet.append ix1, KeepOk.builtin, ?_⟩
        refine TEs.cons ?_
        refine TE.tuple ?_
        refine TEs.cons ?_
        refine TE.sub ?_
        refine TE.loc 8 rfl ?_
        refine TE.int ?_
        refine TV2.subRI jx (by decide) (by decide) rfl ?_
        refine TEs.cons ?_
        refine TE.sub ?_
        refine TE.loc 8 rfl ?_
        refine TE.int ?_
        refine TV2.subRI jx (by decide) (by decide) rfl ?_
        refine TEs.cons ?_
        refine TE.cmp ?_
        refine TE.call ?_
        refine TE.glob (v := .ref 207) (by show nsIn (hd.heap_39 w.params) _ _ = _; k_is) ⟨_, rfl, KeepOk.old (by show keepIn (hd.heap_39 w.params) _ = _; k_is), ?_⟩
        refine TEs.cons ?_
        refine TE.loc 7 rfl ?_
        refine TEs.cons ?_
        refine TE.loc 2 rfl ?_
        refine TEs.nil ?_
        refine and_spec ?_
        refine TE.int ?_
        refine TV2.neDD rfl rfl ?_
        have hfin : (!(PyData.int (Builtin.bitAnd (eI n N here) (eI n N T))).eqv (.int 0)) = mFin T here := by
          rw [bitAnd_nat]
          have h1 := enc_and (T := T) hn0 hu
          show (!(((enc n N here &&& enc n N T : Nat) : Int) == 0)) = _
          unfold mFin
          rw [← h1, Bool.eq_iff_iff]
          simp
        rw [hfin]
        refine TEs.nil ⟨false, [.int _, .int _, .bool _], rfl, by simp, ?_⟩
        refine TEs.nil ?_
        refine TCall.append ix1 (by simp; omega) ?_
        rw [st1]
        refine hNw (256 - (st.rows.length + 1)) _ _ (by omega) ⟨bstep (mStep N nxt 0) (mStep N nxt 1) (mFin T) here st, junk ++ [natD [idx (addS st.sets (mStep N nxt 0 here)) (mStep N nxt 0 here), idx (addS (addS st.sets (mStep N nxt 0 here)) (mStep N nxt 1 here)) (mStep N nxt 1 here)]] ++ junk2, _, _, _, _, _, _, _, _, rfl, ?_, okS, ?_, by rw [bstep_rows]⟩
        · simp [bstep, rowD]
        · rw [bstep_rows, ← hrun, show 256 - st.rows.length = (256 - (st.rows.length + 1)) + 1 by omega, brun_go hh]
      · rintro x xs ρ' σ' ⟨ms, Ss, rw', junk2, v9, v11, v12, v13, v14, hz, hm, rfl, rfl, hnd, hu3, hlen, hf⟩
        intro N1 P1 hN1 hP1
        cases ms with
        | nil => simp at hz
        | cons m ms =>
          simp only [List.map_cons, List.cons.injEq] at hz
          obtain ⟨rfl, rfl⟩ := hz
          have hm2 : m < 2 := hm m List.mem_cons_self
          have hS8' : Ss.length ≤ 256 := Nat.le_trans (nodup_len (m := univN N) hnd fun x hx => SetN.univ (hu3 x hx)) (by rw [univN_len]; exact hN8)
          refine TA.loc 11 ?_
          refine TSS.cons ?_
          refine TS.assign ?_
          refine TE.binop ?_
          refine TE.list ?_
          refine TEs.cons ?_
          refine TE.int ?_
          refine TEs.nil ⟨false, [.int 0], rfl, by decide, ?_⟩
          refine TE.call ?_
          refine TE.bltn (by show nsIn (hd.heap_39 w.params) _ _ = _; k_is) (by boot_by_name) (by decide) ⟨_, rfl, KeepOk.builtin, ?_⟩
          refine TEs.cons ?_
          refine TE.loc 3 rfl ?_
          refine TEs.nil ?_
          refine TCall.lenS (by rw [names_len]; omega) ?_
          rw [names_len]
          refine TV2.mulLI (by omega) (by omega) ?_
          rw [Int.toNat_natCast, show List.replicate N (PyData.int 0) = natD (bitsN N []) by rw [bitsN_nil]; simp [natD]]
          generalize hB : σ ++ [setsD n N Ss, st.rows.map rowD] ++ (junk ++ [natD rw'] ++ junk2) = B
          have hBi : B[i]? = some (hs.map pairD) := by rw [← hB, List.append_assoc]; exact ix_left hi
          refine TA.loc 12 ?_
          refine TSS.cons ?_
          refine TS.for_ ?_
          refine TIter.of ?_
          refine TE.loc 10 rfl ⟨_, _, _, TItr.list (.inl rfl), ?_⟩
          refine TLoop.indN (fun ys ρ' σ' => ∃ (ps D : List Nat) (v9 v13 : Option V), ys = natD ps ∧ (∀ p ∈ ps, p < N) ∧ ρ' = (rM1 n N i S₀ T σ.length here junk.length v9 (some (.d (.int ((m : Int) + 1)))) (some (.r B.length)) v13 v14) ∧ σ' = B ++ [natD (bitsN N D)] ∧ (∀ j, (j ∈ D ∨ ∃ p, p ∈ ps ∧ j ∈ nxt m p) ↔ ∃ p, p ∈ here ∧ j ∈ nxt m p)) ?_ ?_ ⟨here, [], v9, v13, rfl, fun p hp => hu.lt hp, rfl, rfl, by simp⟩
          · rintro ρ' σ' ⟨ps, D, v9, v13, hz, hps, rfl, rfl, hD⟩
            intro P2 hP2
            have : ps = [] := by cases ps with | nil => rfl | cons _ _ => simp at hz
            subst this
            have hbits : bitsN N D = bitsN N (mStep N nxt m here) := mStep_bits fun j => by rw [← hD j]; simp
            rw [hbits]
            refine TSS.nil (hP2 _ _ _ ?_)
            refine TSS.cons ?_
            refine TS.assign ?_
            refine TE.call ?_
            refine TE.glob (v := .ref 200) (by show nsIn (hd.heap_39 w.params) _ _ = _; k_is) ⟨_, rfl, KeepOk.old (by show keepIn (hd.heap_39 w.params) _ = _; k_is), ?_⟩
            refine TEs.cons ?_
            refine TE.loc 12 rfl ?_
            refine TEs.cons ?_
            refine TE.loc 4 rfl ?_
            refine TEs.nil ?_
            refine digits2int_spec (ds := (bitsN N (mStep N nxt m here)).map fun x : Nat => (x : Int)) (n := n) (IsL.r (by rw [lx, List.map_map]; rfl)) (by rw [List.length_map, bitsN_len]; exact Nat.le_trans (Nat.mul_le_mul hn hN) (by decide)) (by rw [List.length_map, bitsN_len]; exact hN) (fun x hx => by obtain ⟨y, hy, rfl⟩ := List.mem_map.mp hx; have := bitsN_lt hn0 y hy; exact ⟨by omega, by exact_mod_cast this⟩) ?_
            rw [d2i_nat, show ((e2n n (bitsN N (mStep N nxt m here)) : Nat) : Int) = eI n N (mStep N nxt m here) from rfl]
            refine TA.loc 14 ?_
            have hmu := mStep_set N nxt m here
            have hBe : ∀ bs : List PyData, B ++ [bs] = σ ++ [setsD n N Ss, st.rows.map rowD] ++ (junk ++ [natD rw'] ++ (junk2 ++ [bs])) := fun bs => by rw [← hB]; simp
            rw [hBe]
            refine TSS.consE (ρ₁ := (rM1 n N i S₀ T σ.length here junk.length v9 (some (.d (.int ((m : Int) + 1)))) (some (.r B.length)) v13 (some (.d (.int (eI n N (mStep N nxt m here))))))) (σ₁ := σ ++ [setsD n N (addS Ss (mStep N nxt m here)), st.rows.map rowD] ++ (junk ++ [natD rw'] ++ (junk2 ++ [natD (bitsN N (mStep N nxt m here))]))) ?_ ?_
            · refine TS.ite ?_
              refine TB.cmp ?_
              refine TE.call ?_
              refine TE.glob (v := .ref 214) (by show nsIn (hd.heap_39 w.params) _ _ = _; k_is) ⟨_, rfl, KeepOk.old (by show keepIn (hd.heap_39 w.params) _ = _; k_is), ?_⟩
              refine TEs.cons ?_
              refine TE.loc 5 rfl ?_
              refine TEs.cons ?_
              refine TE.loc 14 rfl ?_
              refine TEs.nil ?_
              refine countOf_spec ix0 ?_
              refine TE.int ?_
              refine TV2.eqDD rfl rfl ?_
              refine TT.bool ?_
              have hc := enc_count (Ss := Ss) hn0 hu3 hmu
              by_cases hmem : mStep N nxt m here ∈ Ss
              · have hne : PyData.eqv (.int (((Ss.map (eI n N)).count (eI n N (mStep N nxt m here)) : Nat) : Int)) (.int 0) = false := by
                  have : (Ss.map (eI n N)).count (eI n N (mStep N nxt m here)) ≠ 0 := fun e => hc.mp e hmem
                  simpa [PyData.eqv] using this
                rw [hne]
                refine TSS.nil ⟨rfl, rfl, ?_⟩
                unfold addS; rw [if_pos hmem]
              · have hne : PyData.eqv (.int (((Ss.map (eI n N)).count (eI n N (mStep N nxt m here)) : Nat) : Int)) (.int 0) = true := by
                  have : (Ss.map (eI n N)).count (eI n N (mStep N nxt m here)) = 0 := hc.mpr hmem
                  rw [this]; rfl
                rw [hne]
                show TSS _ _ _ _ _ _ _
                refine TSS.one ?_
                refine TS.expr ?_
                refine TE.meth ?_
                refine TE.loc 5 rfl ⟨_, TGet.append ix0, KeepOk.builtin, ?_⟩
                refine TEs.cons ?_
                refine TE.loc 14 rfl ?_
                refine TEs.nil ?_
                refine TCall.append ix0 (by simp; omega) ⟨rfl, rfl, ?_⟩
                rw [st0]; unfold addS; rw [if_neg hmem]; simp [setsD]
            · have hmem : mStep N nxt m here ∈ addS Ss (mStep N nxt m here) := addS_mem
              have hu4 := addS_u hu3 hmu
              obtain ⟨g1, g2⟩ := enc_idx hn0 hu4 hmem
              refine TSS.one ?_
              refine TS.expr ?_
              refine TE.meth ?_
              refine TE.loc 8 rfl ⟨_, TGet.append jx, KeepOk.builtin, ?_⟩
              refine TEs.cons ?_
              refine TE.call ?_
              refine TE.glob (v := .ref 228) (by show nsIn (hd.heap_39 w.params) _ _ = _; k_is) ⟨_, rfl, KeepOk.old (by show keepIn (hd.heap_39 w.params) _ = _; k_is), ?_⟩
              refine TEs.cons ?_
              refine TE.loc 5 rfl ?_
              refine TEs.cons ?_
              refine TE.loc 14 rfl ?_
              refine TEs.nil ?_
              refine indexOfI_spec ix0 g1 g2 ?_
              refine TEs.nil ?_
              refine TCall.append jx (by simp; omega) ?_
              rw [jst]
              refine ⟨trivial, hN1 _ _ ⟨ms, addS Ss (mStep N nxt m here), rw' ++ [idx (addS Ss (mStep N nxt m here)) (mStep N nxt m here)], junk2 ++ [natD (bitsN N (mStep N nxt m here))], _, _, _, _, _, rfl, fun z hz => hm z (List.mem_cons_of_mem _ hz), rfl, ?_, addS_nodup hnd, hu4, by simp at hlen ⊢; omega, hf⟩⟩
              simp [natD]
          · rintro x xs ρ' σ' ⟨ps, D, v9, v13, hz, hps, rfl, rfl, hD⟩
            intro N2 P2 hN2 hP2
            cases ps with
            | nil => simp at hz
            | cons p ps =>
              simp only [List.map_cons, List.cons.injEq] at hz
              obtain ⟨rfl, rfl⟩ := hz
              have hp : p < N := hps p List.mem_cons_self
              have hp8 : p < 8 := Nat.lt_of_lt_of_le hp hN
              refine TA.loc 9 ?_
              refine TSS.one ?_
              refine TS.for_ ?_
              refine TIter.of ?_
              refine TE.meth ?_
              refine TE.loc 0 rfl ⟨_, TGet.hdr hdrK (by show findIn (hd.heap_39 w.params) _ _ = _; k_is) (by show typeIn (hd.heap_39 w.params) _ = _; k_is) rfl, KeepOk.old (by show keepIn (hd.heap_39 w.params) _ = _; k_is), ?_⟩
              refine TEs.cons ?_
              refine TE.binop ?_
              refine TE.binop ?_
              refine TE.meth ?_
              refine TE.sub ?_
              refine TE.loc 3 rfl ?_
              refine TE.loc 9 rfl ?_
              refine TV2.subSI (by omega) (by omega) (by rw [Int.toNat_natCast]; exact names_get hp) ?_
              refine ⟨_, TGet.upper, KeepOk.builtin, ?_⟩
              refine TEs.nil ?_
              refine TCall.upper (by show 1 ≤ 1000; decide) ?_
              rw [show Txt.upper ⟨#[112 + p]⟩ = tx [80 + p] from up_letter p hp8]
              refine TE.str ?_
              refine TV2.addSS (by rw [sizeLine_eq]; show 1 + 1 ≤ _; decide) ?_
              rw [up_add p hp8]
              refine TE.loc 11 rfl ?_
              refine TV2.mulSI (up_mulok m hm2 p hp8) ?_
              rw [up_mul m hm2 p hp8]
              refine TEs.nil ?_
              have hlow := low_nmU m hm2 p hp8
              have hok := nameT_ok m hm2 p hp8
              refine get_all_spec (hs := hs) (by exact ix_left hBi) (by rw [hlow]; exact hok.1) (nmU_len m hm2 p hp8) (by rw [hlow]; exact hok.2) hlen' hks ?_
              rw [hlow, htell m p hm2 hp]
              refine ⟨_, _, _, TItr.list (.inl rfl), ?_⟩
              refine TLoop.indN (fun ys ρ' σ' => ∃ (js D : List Nat) (v13 : Option V), ys = (js.map fun j => PyData.str (letterS j)) ∧ (∀ j ∈ js, j < N) ∧ ρ' = (rM1 n N i S₀ T σ.length here junk.length (some (.d (.int (p : Int)))) (some (.d (.int ((m : Int) + 1)))) (some (.r B.length)) v13 v14) ∧ σ' = B ++ [natD (bitsN N D)] ∧ (∀ j, ((j ∈ D ∨ j ∈ js) ∨ ∃ p, p ∈ ps ∧ j ∈ nxt m p) ↔ ∃ p, p ∈ here ∧ j ∈ nxt m p)) ?_ ?_ ⟨nxt m p, D, v13, rfl, fun j hj => hnx m p j hj, rfl, rfl, fun j => by rw [← hD j]; simp [or_assoc]⟩
              · rintro ρ' σ' ⟨js, D, v13, hz, hjs, rfl, rfl, hD⟩
                intro P3 hP3
                have : js = [] := by cases js with | nil => rfl | cons _ _ => simp at hz
                subst this
                refine TSS.nil (hP3 _ _ _ ?_)
                exact ⟨trivial, hN2 _ _ ⟨ps, D, _, _, rfl, fun q hq => hps q (List.mem_cons_of_mem _ hq), rfl, rfl, fun j => by rw [← hD j]; simp⟩⟩
              · rintro x xs ρ' σ' ⟨js, D, v13, hz, hjs, rfl, rfl, hD⟩
                intro N3 P3 hN3 hP3
                cases js with
                | nil => simp at hz
                | cons j js =>
                  simp only [List.map_cons, List.cons.injEq] at hz
                  obtain ⟨rfl, rfl⟩ := hz
                  have hj : j < N := hjs j List.mem_cons_self
                  refine TA.loc 13 ?_
                  refine TSS.one ?_
                  refine TS.expr ?_
                  refine TE.call ?_
                  refine TE.glob (v := .ref 235) (by show nsIn (hd.heap_39 w.params) _ _ = _; k_is) ⟨_, rfl, KeepOk.old (by show keepIn (hd.heap_39 w.params) _ = _; k_is), ?_⟩
                  refine TEs.cons ?_
                  refine TE.loc 12 rfl ?_
                  refine TEs.cons ?_
                  refine TE.call ?_
                  refine TE.glob (v := .ref 228) (by show nsIn (hd.heap_39 w.params) _ _ = _; k_is) ⟨_, rfl, KeepOk.old (by show keepIn (hd.heap_39 w.params) _ = _; k_is), ?_⟩
                  refine TEs.cons ?_
                  refine TE.loc 3 rfl ?_
                  refine TEs.cons ?_
                  refine TE.loc 13 rfl ?_
                  refine TEs.nil ?_
                  refine indexOfS_spec (names_chrs N hN) (names_ascii N hN) (letters_shaped hN) (letters_get hj) (fun q hq => letters_first hN hj hq) ?_
                  refine TEs.cons ?_
                  refine TE.int ?_
                  refine TEs.nil ?_
                  refine setitem_spec lx (by rw [List.length_map, bitsN_len]; exact hj) (by rw [List.length_map, bitsN_len]; omega) ?_
                  rw [lst]
                  refine ⟨trivial, hN3 _ _ ⟨js, j :: D, _, rfl, fun q hq => hjs q (List.mem_cons_of_mem _ hq), rfl, ?_, fun q => by rw [← hD q]; simp only [List.mem_cons]; exact or_shift⟩⟩
                  rw [← bitsN_set]; simp [natD, List.map_set]
    · rw [show decide ((st.rows.length : Int) < (st.sets.length : Int)) = false by simpa using hlt]
      show TSS _ _ _ _ _ _ _
      refine TSS.nil (hPw _ _ _ ?_)
      refine TSS.one ?_
      refine TS.ret ?_
      refine TE.loc 6 rfl ?_
      have e : st = madeRun N nxt S₀ T := by rw [← hrun, brun_end (by omega)]
      show P (fz σ.length (σ ++ [setsD n N st.sets, st.rows.map rowD] ++ junk) (.r (σ.length + 1))) _
      rw [fz_r_ge (by omega) ix1, List.append_assoc, List.take_left, e]
      exact p
end
end Mine
end -- G13
section -- Fw29
set_option tactic.hygienic false
open PySem PySem.W PySem.Calls PyProof.Rows
set_option linter.unusedVariables false
set_option linter.unusedSimpArgs false
set_option autoImplicit false
namespace Mine
section
set_option maxRecDepth 100000
theorem match_noBool : typeLookup (.type "re.Match") (Str.ofString "__bool__") = pure none := by rw [typeLookup_type, builtinLookup_eq_fast]; kernel_rfl
theorem match_noLen : typeLookup (.type "re.Match") (Str.ofString "__len__") = pure none := by rw [typeLookup_type, builtinLookup_eq_fast]; kernel_rfl
end
section
variable {prog : Program} {w : World} {A : Around} {E : Value → Shared → Prop} {s : Shared}
theorem truthy_match {a : Addr} {Q : Bool → Shared → Prop} (hT : s.TypeIs (.ref a) "re.Match") (h : Q true s) : wpAny (model prog w) A (truthy (.ref a)) Q E s := by
  unfold truthy
  refine wpAny_bind (m := callSpecial? (.ref a) (Str.ofString "__bool__")) (wpAny_callSpecial?_none hT match_noBool ?_)
  refine wpAny_bind (m := specialOf (.ref a) (Str.ofString "__len__")) (wpAny_specialOf hT match_noLen ?_)
  exact wpAny_pure h
open Builtin.Re in
theorem runToEnd_matched {m : Sre.M} {Q : Option Sre.M → Shared → Prop} (hm : (m.runFor 4).outcome = some .matched) (h : ∀ m', Q (some m') s) : wpAny (model prog w) A (reRunToEnd m) Q E s := by
  unfold reRunToEnd
  have e : reDrive (2 ^ 64) m = pure (m.runFor 4) := by
    rw [show (2 : Nat) ^ 64 = 18446744073709551615 + 1 by decide]
    unfold reDrive
    show (if (m.runFor reTurnSteps).outcome.isSome = true then _ else _) = _
    have : (m.runFor reTurnSteps).outcome.isSome = true := by show (m.runFor 4).outcome.isSome = true; rw [hm]; rfl
    rw [if_pos this]; rfl
  rw [e]
  refine wpAny_bind (wpAny_pure (wpAny_bind (rules_run (fun i => (m.runFor 4).seen.has i) (fun i => Sre.names.getD i "") _ ?_)))
  rw [hm]
  exact wpAny_pure (h _)
open Builtin.Re in
theorem newMatch_run {pat str : Value} {pos lim : Nat} {m : Sre.M} {Q : Value → Shared → Prop}
    (h : ∀ h' a o, (∀ b o, s.heap.get? b = some o → h'.get? b = some o) → s.heap.get? a = none → h'.get? a = some o → o.cls = .type "re.Match" → Q (.ref a) { s with heap := h' }) : wpAny (model prog w) A (reNewMatch pat str 0 pos lim m) Q E s := by
  unfold reNewMatch
  show wpAny _ A (do newFields "re.Match" [str, pat, rawInt pos, rawInt lim, rawInt m.lastindex, ← newTuple (rawInt m.start :: rawInt m.handed :: [])]) Q E s
  unfold newTuple newFields
  refine wpAny_bind (wpAny_newObj_type ?_)
  refine wpAny_newObj_type (h _ _ _ (fun b o e => Heap.get?_push_of_some _ (Heap.get?_push_of_some _ e)) ?_ (Heap.get?_push_size _ rfl) rfl)
  exact Heap.get?_none_of_le (by rw [Heap.size_push]; omega)
open Builtin.Re in
theorem search_some {p q : Addr} {code : Array Value} {x : Str} {t : Tok} {Q : Value → Shared → Prop} (P : PatAt s.heap p q code) (hx : x.length ≤ 1000) (hm : ((Sre.forSearch (codeOf code) x.cps 0 0 x.cps.size false).runFor 4).outcome = some .matched)
    (h : ∀ h' a o, (∀ b o, s.heap.get? b = some o → h'.get? b = some o) → s.heap.get? a = none → h'.get? a = some o → o.cls = .type "re.Match" → Q (.ref a) { s with heap := h' }) : wpAny (model prog w) A (call (.builtin "re.Pattern.search") [.ref p, .str x t]) Q E s := by
  have P' := P
  obtain ⟨⟨a, b, c, d, hp⟩, hq⟩ := P'
  refine wpAny_call_entry slot_pat_search ⟨_, hp, rfl⟩ entry_pat_search ?_ (args_pat_search _ _)
  unfold Builtin.«re.Pattern.search»
  refine wpAny_bind (target_run P hx ?_)
  unfold reAnswer
  refine wpAny_bind (runToEnd_matched hm fun m' => ?_)
  refine wpAny_bind (newMatch_run fun h' a o hk hn ho hc => ?_)
  exact wpAny_pure ⟨_, rfl, h h' a o hk hn ho hc⟩
end
/-- a match -/
noncomputable def matchR : Rg := ⟨fun h v => ∃ a o, v = .ref a ∧ h.get? a = some o ∧ o.cls = .type "re.Match", fun h h' v k ⟨a, o, e1, e2, e3⟩ => ⟨a, o, e1, k _ _ e2, e3⟩⟩
section
variable {c : Cx} {d : Nat} {sc : Sc} {ρ : List (Option V)} {σ : List (List PyData)}
theorem TCall.searchSome {p q : Addr} {code : Array Value} {wk : Bool} {x : Str} {P : V → List (List PyData) → Prop} (Pt : PatK c.K p q code) (hx : x.length ≤ 1000) (hm : ((Sre.forSearch (codeOf code) x.cps 0 0 x.cps.size false).runFor 4).outcome = some .matched) (p' : P (.ob matchR) σ) :
    TCall c d (.builtin "re.Pattern.search") [.p (.ref p), .e wk (.str x)] [] [] σ P := by
  intro A X φ s cvs ckv Q E C a R rv rk K
  obtain ⟨cv, cw, rfl, r, r'⟩ := rv.two
  obtain rfl : cv = .ref p := r
  obtain ⟨t, rfl⟩ := r'.str_inv
  cases rk
  obtain ⟨⟨a, b, e, f, hp⟩, hq⟩ := Pt.at C
  refine search_some ⟨⟨a, b, e, f, (R.bs _ _ hp).1⟩, (R.bs _ _ hq).1⟩ hx hm fun h' m o hk hn ho hc => ?_
  refine K (.ob matchR) (.ref m) φ σ _ (Step.grow (tk := s.toks) hk) (R.grow (tk := s.toks) hk (Nat.le_refl _)) ⟨m, o, rfl, cut_get.mpr ⟨ho, fun q => ?_⟩, hc⟩ p'
  rcases List.mem_append.mp q with q | q
  · obtain ⟨o', e'⟩ := R.alive q; rw [hn] at e'; cases e'
  · obtain ⟨o', e'⟩ := R.xs m q; rw [hn] at e'; cases e'
theorem TT.match_ {P : Bool → List (List PyData) → Prop} (p : P true σ) : TT c d (.ob matchR) σ P := by
  intro A X φ s cv Q E C a R r K
  obtain ⟨m, o, rfl, ho, hc⟩ := r
  exact truthy_match ⟨o, cut_sub ho, hc⟩ (K true φ σ s .refl R p)

/-! what is evaluated up to a call that may raise -/
theorem eval_methG {o : Expr} {name : Str} {apos pos : Pos} {args : List Expr} {P : Value → V → List V → List (List PyData) → Prop} (h : TE c d o sc ρ σ fun ov σ₁ => ∃ cf, TGet c d ov name cf σ₁ ∧ KeepOk c cf ∧ TEs c d args sc ρ σ₁ fun vs σ₂ => P cf ov vs σ₂)
    (ha : noStar args = true := by rfl) (hp : (apos.endLine == pos.line) = true := by rfl) (hl : (decide (args.length < 30)) = true := by rfl)
    (hb : ∀ env m, attributeBase o name env m = m := by intros; rfl) {env : Env} {A : Around} {X : List Addr} {φ : Phi} {s : Shared} {Q : Value → Shared → Prop} {E : Value → Shared → Prop} (O : Ok c d env sc A X) (R : Rel c φ X σ s) (L : Loc env sc ρ φ X s.heap)
    (K : ∀ cf ov vs cov cvs φ' σ' s', Step φ φ' [] s s' → Rel c φ' X σ' s' → VRep s'.heap φ' X ov cov → VReps s'.heap φ' X vs cvs → P cf ov vs σ' → wpAny (model c.prog c.w) A (call cf (cov :: cvs) []) Q E s') :
    wpAny (model c.prog c.w) A (eval (.Call (.Attribute o name apos) args [] pos) env) Q E s := by
  show wpAny _ A (do
    let ov ← attributeBase o name env (eval o env)
    standAt apos.atName
    methodCall o name apos pos env ov (args.length + 0) (backTo pos (starEach args env)) (backToKw pos (keywordEach [] env))) Q E s
  rw [hb env]
  refine wpAny_bind (h env A X φ s _ E O R L fun ov cv φ₁ σ₁ s₁ x₁ R₁ r₁ h₁ => ?_)
  obtain ⟨cf, hg, kp, h₂⟩ := h₁
  have L₁ := L.step x₁ (R.own O.o) (fun a h _ => h)
  refine wpAny_bind (wpAny_standAt ?_)
  unfold methodCall
  have few : methodCallForm (args.length + 0) (backTo pos (starEach args env)) (backToKw pos (keywordEach [] env)) = true := by
    unfold methodCallForm
    have e1 := starEach_plain env pos ha
    have e2 : (backTo pos (starEach args env)).all (fun x => !x.1) = true := by
      rw [List.all_eq_true]
      intro y hy
      have := List.any_eq_false.mp e1 y hy
      simpa using this
    have e3 : args.length < 30 := by simpa using hl
    rw [e2]
    show (true && true && decide (args.length + 0 + 0 < 30)) = true
    simp [e3]
  rw [few]
  unfold calleeOf
  simp only [if_true]
  refine wpAny_bind (wpAny_holding (hg A X φ₁ s₁ cv _ _ E O.c O.a R₁ r₁ ?_))
  have hpos : methodCallPos true o env apos pos = pure pos := by
    unfold methodCallPos
    rw [hp]; rfl
  rw [hpos]
  refine wpAny_bind (wpAny_pure ?_)
  refine callWith_G (cfst := [cv]) O R₁ L₁ kp ha h₂ fun vs cvs φ₂ σ₂ s₂ x₂ R₂ r₂ p => ?_
  exact K cf ov vs cv cvs φ₂ σ₂ s₂ (x₁.trans x₂) R₂ (r₁.step x₂ (by simp) (fun a h _ => h)) r₂ p
theorem eval_methKG {o a e : Expr} {name kn : Str} {apos pos kp : Pos} {P : Value → V → V → V → List (List PyData) → Prop}
    (h : TE c d o sc ρ σ fun ov σ₁ => ∃ cf, TGet c d ov name cf σ₁ ∧ KeepOk c cf ∧ TE c d a sc ρ σ₁ fun av σ₂ => TE c d e sc ρ σ₂ fun ev σ₃ => P cf ov av ev σ₃)
    (ha : noStar [a] = true := by rfl) (hp : (apos.endLine == pos.line) = true := by rfl)
    (hb : ∀ env m, attributeBase o name env m = m := by intros; rfl) {env : Env} {A : Around} {X : List Addr} {φ : Phi} {s : Shared} {Q : Value → Shared → Prop} {E : Value → Shared → Prop} (O : Ok c d env sc A X) (R : Rel c φ X σ s) (L : Loc env sc ρ φ X s.heap)
    (K : ∀ cf ov av ev cov cav cev φ' σ' s', Step φ φ' [] s s' → Rel c φ' X σ' s' → VRep s'.heap φ' X ov cov → VRep s'.heap φ' X av cav → VRep s'.heap φ' X ev cev → P cf ov av ev σ' → wpAny (model c.prog c.w) A (call cf [cov, cav] [(kn, cev)]) Q E s') :
    wpAny (model c.prog c.w) A (eval (.Call (.Attribute o name apos) [a] [⟨some kn, e, kp⟩] pos) env) Q E s := by
  show wpAny _ A (do
    let ov ← attributeBase o name env (eval o env)
    standAt apos.atName
    methodCall o name apos pos env ov ([a].length + [(⟨some kn, e, kp⟩ : Keyword)].length) (backTo pos (starEach [a] env)) (backToKw pos (keywordEach [⟨some kn, e, kp⟩] env))) Q E s
  rw [hb env]
  refine wpAny_bind (h env A X φ s _ E O R L fun ov cv φ₁ σ₁ s₁ x₁ R₁ r₁ h₁ => ?_)
  obtain ⟨cf, hg, kp', h₂⟩ := h₁
  have L₁ := L.step x₁ (R.own O.o) (fun a h _ => h)
  refine wpAny_bind (wpAny_standAt ?_)
  unfold methodCall
  have few : methodCallForm ([a].length + [(⟨some kn, e, kp⟩ : Keyword)].length) (backTo pos (starEach [a] env)) (backToKw pos (keywordEach [⟨some kn, e, kp⟩] env)) = true := by
    rw [starEach_of ha]; rfl
  rw [few]
  unfold calleeOf
  simp only [if_true]
  refine wpAny_bind (wpAny_holding (hg A X φ₁ s₁ cv _ _ E O.c O.a R₁ r₁ ?_))
  have hpos : methodCallPos true o env apos pos = pure pos := by
    unfold methodCallPos
    rw [hp]; rfl
  rw [hpos]
  refine wpAny_bind (wpAny_pure ?_)
  have hpl := starEach_plain env pos ha
  refine callWith_of (P := HIn c) (by rw [hpl]; rfl) kp' (evalArgs_kw2 rfl ?_ (starEach_of ha env))
  refine spliced_more (h₂ env A X φ₁ s₁ _ E O R₁ L₁ fun av ca φ₂ σ₂ s₂ x₂ R₂ r₂ h₃ => ?_) (starEach_of ha env)
  have L₂ := L₁.step x₂ (R₁.own O.o) (fun a h _ => h)
  refine spliced_nil ?_
  show wpAny _ A (do
    let v ← (do let v ← eval e env; standAt pos; pure v)
    return v :: (← holding [v] (evalAll []))) _ E s₂
  refine wpAny_bind (wpAny_bind (h₃ env A X φ₂ s₂ _ E O R₂ L₂ fun ev ce φ₃ σ₃ s₃ x₃ R₃ r₃ h₄ => ?_))
  refine wpAny_bind (wpAny_standAt (wpAny_pure (wpAny_bind (wpAny_holding (wpAny_pure (wpAny_pure ?_))))))
  have x23 := x₂.trans x₃
  exact ⟨R₃.hin O.c, K cf ov av ev cv ca ce φ₃ σ₃ s₃ (x₁.trans x23) R₃ (r₁.step x23 (by simp) (fun a h _ => h)) (r₂.step x₃ (by simp) (fun a h _ => h)) r₃ h₄⟩
theorem eval_callG {x : Str} {px pos : Pos} {args : List Expr} {P : Value → List V → List (List PyData) → Prop} (h : TE c d (.Name x px) sc ρ σ fun fv σ₁ => ∃ cf, fv = .p cf ∧ KeepOk c cf ∧ TEs c d args sc ρ σ₁ fun vs σ₂ => P cf vs σ₂) (ha : noStar args = true := by rfl)
    {env : Env} {A : Around} {X : List Addr} {φ : Phi} {s : Shared} {Q : Value → Shared → Prop} {E : Value → Shared → Prop} (O : Ok c d env sc A X) (R : Rel c φ X σ s) (L : Loc env sc ρ φ X s.heap)
    (K : ∀ cf vs cvs φ' σ' s', Step φ φ' [] s s' → Rel c φ' X σ' s' → VReps s'.heap φ' X vs cvs → P cf vs σ' → wpAny (model c.prog c.w) A (call cf cvs []) Q E s') :
    wpAny (model c.prog c.w) A (eval (.Call (.Name x px) args [] pos) env) Q E s := by
  show wpAny _ A (do callWith pos (← eval (.Name x px) env) [] (backTo pos (starEach args env)) (backToKw pos (keywordEach [] env))) Q E s
  refine wpAny_bind (h env A X φ s _ E O R L fun fv cfv φ₁ σ₁ s₁ x₁ R₁ r₁ h₁ => ?_)
  obtain ⟨cf, rfl, kp, h₂⟩ := h₁
  obtain rfl : cfv = cf := r₁
  have L₁ := L.step x₁ (R.own O.o) (fun a h _ => h)
  exact callWith_G (cfst := []) O R₁ L₁ kp ha h₂ fun vs cvs φ₂ σ₂ s₂ x₂ R₂ r₂ p => K cfv vs cvs φ₂ σ₂ s₂ (x₁.trans x₂) R₂ r₂ p
end
end Mine
end -- Fw29
section -- Fw30
set_option tactic.hygienic false
open PySem PySem.W PySem.Calls PyProof.Rows
set_option linter.unusedVariables false
set_option linter.unusedSimpArgs false
set_option autoImplicit false
namespace Mine
noncomputable def FrOk (outer : List Env) (X : List Addr) (h : Heap) : Prop := ∀ env ∈ outer, env.scope.kind ≠ .module ∧ env.frame = some env.locals ∧ env.locals ∈ X ∧ ∃ o, h.get? env.locals = some o ∧ ∀ vs, o.data ≠ .fields vs

section
variable {c : Cx} {d : Nat} {sc : Sc} {ρ : List (Option V)} {σ : List (List PyData)}

theorem FrOk.funFrames {outer : List Env} {X : List Addr} {h B : Heap} (hB : ∀ env ∈ outer, B.get? env.locals = none) : FrOk outer X h → h.FunFrames B outer := by
  induction outer with
  | nil => intro _; trivial
  | cons env r ih =>
    intro f
    obtain ⟨h1, h2, h3, o, h4, h5⟩ := f env List.mem_cons_self
    exact ⟨h1, ⟨env.locals, o, h2, hB env List.mem_cons_self, h4, h5⟩, ih (fun e he => hB e (List.mem_cons_of_mem _ he)) fun e he => f e (List.mem_cons_of_mem _ he)⟩
theorem FrOk.step {outer : List Env} {φ φ' : Phi} {X X' W : List Addr} {s s' : Shared} (f : FrOk outer X s.heap) (R : Rel c φ X σ s) (x : Step φ φ' W s s') (hW : ∀ env ∈ outer, env.locals ∉ W) (hX : ∀ a ∈ X, a ∈ X') : FrOk outer X' s'.heap := fun env he => by
  obtain ⟨h1, h2, h3, o, h4, h5⟩ := f env he
  refine ⟨h1, h2, hX _ h3, o, x.keep _ o h4 (fun q => R.dj _ q h3) (hW env he) (fun q => ?_), h5⟩
  obtain ⟨ps, e⟩ := (R.tbs _ q).2
  rw [e] at h4; cases h4; exact h5 _ rfl

theorem FrOk.enter {env : Env} {outer : List Env} {A : Around} {φ φ₆ : Phi} {X : List Addr} {s s₆ : Shared} {h₁ : Heap} {tk₁ : Nat} (hFr : FrOk outer X s.heap) (R : Rel c φ X σ s) (hk₁ : ∀ b o, s.heap.get? b = some o → h₁.get? b = some o) (hf : ∀ b ∈ own env sc, s.heap.get? b = none)
    (x : Step φ φ₆ (own env sc) { s with heap := h₁, toks := tk₁ } s₆) (O : Ok c d env sc A (own env sc ++ X)) (L : Loc env sc ρ φ₆ (own env sc ++ X) s₆.heap) (hfrm : env.frame = some env.locals) : FrOk (env :: outer) (own env sc ++ X) s₆.heap := by
  intro env' he'
  rcases List.mem_cons.mp he' with rfl | he'
  · obtain ⟨m, ⟨o, es, ep, g1, g2, _⟩, _⟩ := L.ns
    exact ⟨(by rw [O.e.s, O.e.fn]; exact (fun q => by cases q)), hfrm, List.mem_append.mpr (.inl List.mem_cons_self), o, g1, (fun vs q => by rw [g2] at q; cases q)⟩
  · have xn := ((Step.grow (φ := φ) (W := [] ++ own env sc) (tk := tk₁) hk₁).trans x).narrow hf
    exact FrOk.step hFr R xn (fun _ _ h => nomatch h) (fun a ha => List.mem_append.mpr (.inr ha)) env' he'
theorem TB.run {e : Expr} {P : Bool → List (List PyData) → Prop} (h : TB c d e sc ρ σ P) {env : Env} {A : Around} {X : List Addr} {φ : Phi} {s : Shared} {Q : Bool → Shared → Prop} {E : Value → Shared → Prop} (O : Ok c d env sc A X) (R : Rel c φ X σ s) (L : Loc env sc ρ φ X s.heap)
    (K : ∀ b φ' σ' s', Step φ φ' [] s s' → Rel c φ' X σ' s' → P b σ' → Q b s') : wpAny (model c.prog c.w) A (isTrue e env (eval e env)) Q E s := h env A X φ s Q E O R L K
theorem TE.run {e : Expr} {P : V → List (List PyData) → Prop} (h : TE c d e sc ρ σ P) {env : Env} {A : Around} {X : List Addr} {φ : Phi} {s : Shared} {Q : Value → Shared → Prop} {E : Value → Shared → Prop} (O : Ok c d env sc A X) (R : Rel c φ X σ s) (L : Loc env sc ρ φ X s.heap)
    (K : ∀ v cv φ' σ' s', Step φ φ' [] s s' → Rel c φ' X σ' s' → VRep s'.heap φ' X v cv → P v σ' → Q cv s') : wpAny (model c.prog c.w) A (eval e env) Q E s := h env A X φ s Q E O R L K
theorem TS.run {st : Stmt} {P : Fl → List (Option V) → List (List PyData) → Prop} (h : TS c d st sc ρ σ P) {env : Env} {A : Around} {X : List Addr} {φ : Phi} {s : Shared} {Q : Flow → Shared → Prop} {E : Value → Shared → Prop} (O : Ok c d env sc A X) (R : Rel c φ X σ s) (L : Loc env sc ρ φ X s.heap)
    (K : ∀ fl f φ' ρ' σ' s', Step φ φ' (own env sc) s s' → Rel c φ' X σ' s' → Loc env sc ρ' φ' X s'.heap → FRep s'.heap φ' X fl f → P fl ρ' σ' → Q f s') : wpAny (model c.prog c.w) A (exec st env) Q E s := h env A X φ s Q E O R L K
theorem TS.runE {st : Stmt} {ρ₁ : List (Option V)} {σ₁ : List (List PyData)} (h : TS c d st sc ρ σ (kEq ρ₁ σ₁)) {env : Env} {A : Around} {X : List Addr} {φ : Phi} {s : Shared} {Q : Flow → Shared → Prop} {E : Value → Shared → Prop} (O : Ok c d env sc A X) (R : Rel c φ X σ s) (L : Loc env sc ρ φ X s.heap)
    (K : ∀ φ' s', Step φ φ' (own env sc) s s' → Rel c φ' X σ₁ s' → Loc env sc ρ₁ φ' X s'.heap → Q .next s') : wpAny (model c.prog c.w) A (exec st env) Q E s := h env A X φ s Q E O R L fun fl f φ' ρ' σ' s' x R' L' r p => by
  obtain ⟨rfl, rfl, rfl⟩ := p
  cases f <;> first | exact r.elim | skip
  exact K φ' s' x R' L'
theorem evalArgs_T {es : List Expr} {f : Value} {P : List V → List (List PyData) → Prop} (h : TEs c d es sc ρ σ P) {pos : Pos} {env : Env} {A : Around} {X : List Addr} {φ : Phi} {s : Shared} {Q : Args → Shared → Prop} {E : Value → Shared → Prop} (O : Ok c d env sc A X) (R : Rel c φ X σ s) (L : Loc env sc ρ φ X s.heap)
    (K : ∀ vs cvs φ' σ' s', Step φ φ' [] s s' → Rel c φ' X σ' s' → VReps s'.heap φ' X vs cvs → P vs σ' → Q ⟨cvs, []⟩ s') (hns : noStar es = true := by rfl) (hne : es ≠ [] := by decide) : wpAny (model c.prog c.w) A (evalArgs f true (backTo pos (starEach es env)) []) Q E s := by
  cases es with
  | nil => exact absurd rfl hne
  | cons a rest =>
    have := h env A X φ s pos (fun cvs s' => Q ⟨cvs, []⟩ s') E O R L K
    rw [starEach_of hns env] at this ⊢
    exact evalArgs_plain this

theorem assign_raises {x : Str} {px pos : Pos} {value : Expr} {prog : Program} {w : World} {A : Around} {env : Env} {s : Shared} {Q : Flow → Shared → Prop} {E : Value → Shared → Prop} (h : ∀ Q', wpAny (model prog w) A (eval value env) Q' E s) (hc : isComp value = false := by rfl) : wpAny (model prog w) A (exec (.Assign [.Name x px] value pos) env) Q E s :=
  wpAny_Assign_stores (h _) (show swapsWith value (some (.Name x px)) pos.line env = pure false from swapsWith_noComp hc _ _ _) (swappedStores_name _)

noncomputable def msgS : Str := Str.ofString "Control characters not allowed in headers"
/-- a ValueError flies, its words msgS: what stood (s₄) stands but for the frames' own places -/
structure FlyAt (c : Cx) (φ φ₄ : Phi) (W X Xa : List Addr) (σ : List (List PyData)) (s s₄ : Shared) (outer : List Env) (e t : Addr) (s' : Shared) (fr : List Addr) (tk : Tok) : Prop where
  st : Step φ φ₄ W s s₄
  R : Rel c φ₄ Xa σ s₄
  sub : ∀ a ∈ X, a ∈ Xa
  frX : ∀ a ∈ fr, a ∈ Xa
  frO : ∀ a ∈ fr, (∃ o, s.heap.get? a = some o) → ∃ env ∈ outer, a = env.locals
  frF : ∀ a ∈ fr, ∃ o, s₄.heap.get? a = some o ∧ ∀ vs, o.data ≠ .fields vs
  eq : s' = { s₄ with heap := s'.heap, toks := s'.toks }
  ltk : s₄.toks ≤ s'.toks
  fly : Heap.FlyingW (cut s₄.heap fr) outer e (.type "ValueError") (.ref t) s'.heap
  tup : s'.heap.TupAt t [.str msgS tk]
  up : s₄.heap.UpToSlots s'.heap
noncomputable def Fly (c : Cx) (φ : Phi) (W X : List Addr) (σ : List (List PyData)) (s : Shared) (outer : List Env) (e t : Addr) (s' : Shared) : Prop := ∃ φ₄ Xa s₄ fr tk, FlyAt c φ φ₄ W X Xa σ s s₄ outer e t s' fr tk

theorem Fly.pre {φ₀ φ : Phi} {W X : List Addr} {s₀ s s' : Shared} {outer : List Env} {e t : Addr} (x : Step φ₀ φ W s₀ s) (f : Fly c φ W X σ s outer e t s') : Fly c φ₀ W X σ s₀ outer e t s' := by
  obtain ⟨φ₄, Xa, s₄, fr, tk, f⟩ := f
  exact ⟨φ₄, Xa, s₄, fr, tk, { f with st := x.trans f.st, frO := fun a ha ⟨o, e⟩ => f.frO a ha (x.alive a o e) }⟩
theorem Fly.wide {φ : Phi} {W X : List Addr} {s s' : Shared} {outer : List Env} {e t : Addr} (f : Fly c φ [] X σ s outer e t s') (hW : ∀ a ∈ W, ∃ o, s.heap.get? a = some o) : Fly c φ W X σ s outer e t s' := by
  obtain ⟨φ₄, Xa, s₄, fr, tk, f⟩ := f
  exact ⟨φ₄, Xa, s₄, fr, tk, { f with st := f.st.wide (fun _ h => nomatch h) fun a ha _ => hW a ha }⟩

/-- a frame is left in flight -/
theorem Fly.leave {φ : Phi} {X : List Addr} {s s' : Shared} {h₁ : Heap} {tk₁ : Nat} {env : Env} {outer : List Env} {e t : Addr} {A : Around} {Q : Unit → Shared → Prop} {E : Value → Shared → Prop} (hk₁ : ∀ b o, s.heap.get? b = some o → h₁.get? b = some o)
    (hf : ∀ b ∈ own env sc, s.heap.get? b = none) (f : Fly c φ (own env sc) (own env sc ++ X) σ { s with heap := h₁, toks := tk₁ } (env :: outer) e t s') (hfr : A.frames = some (env :: outer)) (hframe : env.frame = some env.locals)
    (K : ∀ s'', Fly c φ [] X σ s outer e t s'' → Q () s'') : wpAny (model c.prog c.w) A (leaving env (.ref e)) Q E s' := by
  obtain ⟨φ₄, Xa, s₄, fr, tk, f⟩ := f
  refine wpAny_leaves_onW hfr hframe f.fly fun h'' hfl hup => K _ ⟨φ₄, Xa, s₄, fr, tk, ?_⟩
  have xall : Step φ φ₄ ([] ++ own env sc) s s₄ := (Step.grow (W := [] ++ own env sc) (tk := tk₁) hk₁).trans f.st
  refine ⟨xall.narrow hf, f.R, fun a ha => f.sub a (List.mem_append.mpr (.inr ha)), f.frX, fun a ha ⟨o, q⟩ => ?_, f.frF, ?_, f.ltk, hfl, f.tup.of_slots hup, f.up.trans hup⟩
  · obtain ⟨env', he', rfl⟩ := f.frO a ha ⟨o, hk₁ _ _ q⟩
    rcases List.mem_cons.mp he' with rfl | he'
    · rw [hf _ List.mem_cons_self] at q; cases q
    · exact ⟨env', he', rfl⟩
  · rw [f.eq]

/-- the making of the ValueError, and the leaving of the first frame -/
theorem Fly.first {φ : Phi} {X : List Addr} {s s₂ : Shared} {φ₂ : Phi} {h₁ h' : Heap} {tk₁ : Nat} {tk : Tok} {env : Env} {outer : List Env} {e : Addr} {A : Around} {Q : Unit → Shared → Prop} {E : Value → Shared → Prop} (R : Rel c φ X σ s) (hk₁ : ∀ b o, s.heap.get? b = some o → h₁.get? b = some o)
    (hf : ∀ b ∈ own env sc, s.heap.get? b = none) (x : Step φ φ₂ (own env sc) { s with heap := h₁, toks := tk₁ } s₂) (R₂ : Rel c φ₂ (own env sc ++ X) σ s₂) (hfn : FrOk (env :: outer) (own env sc ++ X) s₂.heap)
    (hm : Heap.MadeExc s₂.heap h' e "ValueError" [.str msgS tk]) (hfr : A.frames = some (env :: outer))
    (K : ∀ t s'', Fly c φ [] X σ s outer e t s'' → Q () s'') : wpAny (model c.prog c.w) A (leaving env (.ref e)) Q E { s₂ with heap := h' } := by
  obtain ⟨t, he, ht, htt⟩ := hm.there
  let fr := (env :: outer).map (·.locals)
  have hBn : ∀ env' ∈ env :: outer, (cut s₂.heap fr).get? env'.locals = none := fun env' h => by
    cases q : (cut s₂.heap fr).get? env'.locals with
    | none => rfl
    | some o => exact absurd (List.mem_map.mpr ⟨env', h, rfl⟩) (cut_get.mp q).2
  have hframe := (hfn env List.mem_cons_self).2.1
  have hstay : (cut s₂.heap fr).StaysIn h' := fun b o q => hm.keeps b o (cut_sub q)
  have hfn' : FrOk (env :: outer) (own env sc ++ X) h' := fun env' h => by
    obtain ⟨g1, g2, g3, o, g4, g5⟩ := hfn env' h
    exact ⟨g1, g2, g3, o, hm.keeps _ _ g4, g5⟩
  refine wpAny_leaving_firstW (base := cut s₂.heap fr) hfr (FrOk.funFrames hBn hfn') hframe he hstay ?_ rfl rfl rfl fun h'' hL => ?_
  · cases q : (cut s₂.heap fr).get? e with
    | none => rfl
    | some o => have := cut_sub q; rw [hm.new] at this; cases this
  · obtain ⟨k1, ⟨_, _, k2⟩, k3, k4⟩ := hL
    have hen : (cut s₂.heap fr).get? e = none := by
      cases q : (cut s₂.heap fr).get? e with
      | none => rfl
      | some o => have := cut_sub q; rw [hm.new] at this; cases this
    have hup : s₂.heap.UpToSlots h'' := (Heap.UpToSlots.of_keeps hm.keeps).trans k4
    have htup : h''.TupAt t [.str msgS tk] := Heap.TupAt.of_slots ⟨_, 0, htt, rfl, rfl⟩ k4
    have xall : Step φ φ₂ ([] ++ own env sc) s s₂ := (Step.grow (W := [] ++ own env sc) (tk := tk₁) hk₁).trans x
    refine K t _ ⟨φ₂, own env sc ++ X, s₂, fr, tk, xall.narrow hf, R₂, fun a ha => List.mem_append.mpr (.inr ha), fun a ha => ?_, fun a ha ⟨o, q⟩ => ?_, fun a ha => ?_, rfl, Nat.le_refl _, ⟨k1, hen, k2, k3⟩, htup, hup⟩
    · obtain ⟨env', h1, rfl⟩ := List.mem_map.mp ha
      exact (hfn env' h1).2.2.1
    · obtain ⟨env', h1, rfl⟩ := List.mem_map.mp ha
      rcases List.mem_cons.mp h1 with rfl | h1
      · rw [hf _ List.mem_cons_self] at q; cases q
      · exact ⟨env', h1, rfl⟩
    · obtain ⟨env', h1, rfl⟩ := List.mem_map.mp ha
      exact (hfn env' h1).2.2.2
end
end Mine
end -- Fw30
section -- G14
set_option tactic.hygienic false
open PySem PySem.W PySem.Calls PyProof.Rows
set_option linter.unusedVariables false
set_option linter.unusedSimpArgs false
set_option autoImplicit false
namespace Mine
/-! names with a control sign -/
noncomputable def ctlNums : List Nat := List.range 32 ++ [127]
noncomputable def ctlName (k : Nat) : Str := tx [112, k, 97]
noncomputable def hitsAt (code : Array Nat) (x : Str) : Bool := match ((Sre.forSearch code x.cps 0 0 x.cps.size false).runFor 4).outcome with
  | some .matched => true
  | _ => false
theorem hitsAt_iff {code : Array Nat} {x : Str} (h : hitsAt code x = true) : ((Sre.forSearch code x.cps 0 0 x.cps.size false).runFor 4).outcome = some .matched := by
  unfold hitsAt at h
  split at h
  · assumption
  · cases h
set_option maxRecDepth 100000 in
theorem ctlB {w : World} {base : Heap} : (ctlNums.map ctlName).all (hitsAt (codeAt (hd.heap_39 w.params) 47)) = true := by
  have KX : (hd.heap_39 w.params).In base → True := fun _ => trivial
  have PP : PySem.Challenge.rw_wc0014_01.prog = PySem.Challenge.rw_wc0014_01.prog := rfl
  revert KX PP; k_fill; intro KX PP
  rw [codeAt_of (by k_is)]; decide +kernel
theorem ctl_hits {w : World} {k : Nat} (h : k ∈ ctlNums) : hitsAt (codeAt (hd.heap_39 w.params) 47) (ctlName k) = true := List.all_eq_true.mp (ctlB (base := {})) _ (List.mem_map.mpr ⟨k, h, rfl⟩)
section
variable {w : World} {base : Heap} {s0 : Shared} {loose : List Str} {mean : ExcName → Option Value} {mg mb : Str → Option Value} {pin : Phi} {d : Nat} {σ : List (List PyData)} {P : V → List (List PyData) → Prop}
set_option maxRecDepth 100000 in
theorem convert_raises {A : Around} {X : List Addr} {φ : Phi} {s : Shared} {outer : List Env} {self : V} {k : Nat} {cvs ckv : List Value} {R' : Result → Shared → Prop} (hx : k ∈ ctlNums) (C : (cx w base s0 loose mean mg mb pin).Ok) (a : AOk A (d + 1)) (R : Rel (cx w base s0 loose mean mg mb pin) φ X σ s)
    (rv : VReps s.heap φ X [self, .d (.str (ctlName k))] cvs) (rk : VReps s.heap φ X [.d (.bool true)] ckv) (hfr : A.frames = some outer) (hFr : FrOk outer X s.heap) (K : ∀ e t s', Fly (cx w base s0 loose mean mg mb pin) φ [] X σ s outer e t s' → R' (.error (.ref e)) s') :
    codeAny (model (cx w base s0 loose mean mg mb pin).prog w) A (.call (.ref 83) ⟨cvs, [Str.ofString "name"].zip ckv⟩) R' s := by
  obtain ⟨code, Pt⟩ := (okB (w := w) (base := {})).2.1
  have hm := hitsAt_iff (ctl_hits (w := w) hx)
  rw [patK_code Pt] at hm
  have KX : (hd.heap_39 w.params).In base → True := fun _ => trivial
  have PP : PySem.Challenge.rw_wc0014_01.prog = PySem.Challenge.rw_wc0014_01.prog := rfl
  revert KX PP; k_fill; intro KX PP
  refine fn_enterX (hK := by show List.lookup 83 (hd.heap_39 w.params) = _; k_is) rfl rfl rfl rfl rfl ?hcd rfl rfl rfl ?hnd ?hps ?hpk rfl (TBind.kw (ps := [Str.ofString "self", Str.ofString "value", Str.ofString "name"]) ?hb) C a R rv rk ?hmain
  case hcd => show codeIn (hd.heap_39 w.params) _ _ = true; k_is
  case hnd => decide
  case hps => decide
  case hpk => decide
  case hb =>
    intro cvs ckv hl hk
    obtain ⟨x0, x1, rfl⟩ := len2 hl
    obtain ⟨y0, rfl⟩ := len1 hk
    rfl
  case hmain =>
    intro env h₁ tk₁ hk₁ ht₁ hf O R₁ L₁ hec heq hfrm
    refine wpAny_execs_cons (wpAny_If (TB.run (P := fun b σ' => b = true ∧ σ' = σ) ?t1 O R₁ L₁ fun b φ₂ σ₂ s₂ x₂ R₂ p₂ => ?_))
    case t1 =>
      refine TB.cmp ?_
      refine TE.call ?_
      refine TE.bltn (by show nsIn (hd.heap_39 w.params) _ _ = _; k_is) (by boot_by_name) (by decide) ⟨_, rfl, KeepOk.type, ?_⟩
      refine TEs.cons ?_
      refine TE.loc 1 rfl ?_
      refine TEs.nil ?_
      refine TCall.typeS ?_
      refine TE.bltn (by show nsIn (hd.heap_39 w.params) _ _ = _; k_is) (by boot_by_name) (by decide) ?_
      refine TV2.isPP rfl ?_
      exact TT.bool ⟨rfl, rfl⟩
    obtain ⟨rfl, rfl⟩ := p₂
    have L₂ := L₁.step x₂ (R₁.own O.o) (fun a h _ => h)
    show wpAny _ _ (execs _ env) _ _ s₂
    refine wpAny_execs_cons (TS.runE (ρ₁ := [some self, some (.d (.str (ctlName k))), some (.d (.bool true)), some (.p (.ref 48)), none, none, none, none, none, none, none]) (σ₁ := σ₂) ?t2 O R₂ L₂ fun φ₃ s₃ x₃ R₃ L₃ => ?_)
    case t2 =>
      refine TS.assignN ?_
      refine TE.ifexp ?_
      refine TB.plain ?_
      refine TE.loc 2 rfl ?_
      refine TT.boolW ?_
      show TE _ _ _ _ _ _ _
      refine TE.glob (v := .ref 48) (by show nsIn (hd.heap_39 w.params) _ _ = _; k_is) ?_
      exact TA.loc 3 ⟨rfl, rfl, rfl⟩
    show wpAny _ _ (execs _ env) _ _ s₃
    refine wpAny_execs_cons (wpAny_If (TB.run (P := fun b σ' => b = true ∧ σ' = σ₂) ?t3 O R₃ L₃ fun b φ₄ σ₄ s₄ x₄ R₄ p₄ => ?_))
    case t3 =>
      refine TB.plain ?_
      refine TE.meth ?_
      refine TE.loc 3 rfl ⟨_, TGet.search Pt, KeepOk.builtin, ?_⟩
      refine TEs.cons ?_
      refine TE.loc 1 rfl ?_
      refine TEs.nil ?_
      refine TCall.searchSome Pt (by show 3 ≤ 1000; decide) hm ?_
      exact TT.match_ ⟨rfl, rfl⟩
    obtain ⟨rfl, rfl⟩ := p₄
    have L₄ := L₃.step x₄ (R₃.own O.o) (fun a h _ => h)
    show wpAny _ _ (execs _ env) _ _ s₄
    refine wpAny_execs_cons (wpAny_Raise_call PySem.F.excCall_ValueError PySem.F.excRaise_ValueError O.a.hd (starEach_plain env _ rfl) (TE.run (P := fun v σ' => v = .p (.type "ValueError") ∧ σ' = σ₄) ?t4 O R₄ L₄ fun v cv φ₅ σ₅ s₅ x₅ R₅ r₅ p₅ => ?_))
    case t4 => exact TE.bltn (by show nsIn (hd.heap_39 w.params) _ _ = _; k_is) (by boot_by_name) (by decide) ⟨rfl, rfl⟩
    obtain ⟨rfl, rfl⟩ := p₅
    obtain rfl : cv = .type "ValueError" := r₅
    have L₅ := L₄.step x₅ (R₄.own O.o) (fun a h _ => h)
    refine ⟨rfl, evalArgs_T (P := fun vs σ' => vs = [.d (.str msgS)] ∧ σ' = σ₅) ?t5 O R₅ L₅ fun vs cvs φ₆ σ₆ s₆ x₆ R₆ r₆ p₆ => ?_⟩
    case t5 =>
      refine TEs.cons ?_
      refine TE.str ?_
      exact TEs.nil ⟨rfl, rfl⟩
    obtain ⟨rfl, rfl⟩ := p₆
    obtain ⟨cv, rfl, r⟩ := r₆.one
    obtain ⟨tk, rfl⟩ := r.str_inv
    have L₆ := L₅.step x₆ (R₅.own O.o) (fun a h _ => h)
    refine ⟨rfl, by rw [sizeLine_eq]; show 1 ≤ _; decide, fun h' e hme => ?_⟩
    have xall := ((x₂.own R₁ O.o).trans x₃).trans ((x₄.trans (x₅.trans x₆)).own R₃ O.o)
    refine Fly.first (sc := fnSc _) R hk₁ hf xall R₆ ?_ hme (Around.frames_deeper hfr) fun t s'' f => K e t s'' f
    exact hFr.enter R hk₁ hf xall O L₆ hfrm

set_option maxRecDepth 100000 in
theorem get_all_raises {A : Around} {X : List Addr} {φ : Phi} {s : Shared} {outer : List Env} {i : Nat} {k : Nat} {x : Str} {cvs : List Value} {R' : Result → Shared → Prop} (hx : k ∈ ctlNums) (hlow : Txt.lower x = ctlName k) (hxl : x.length ≤ 1000) (C : (cx w base s0 loose mean mg mb pin).Ok) (a : AOk A (d + 1 + 1)) (R : Rel (cx w base s0 loose mean mg mb pin) φ X σ s)
    (rv : VReps s.heap φ X [.hr i, .d (.str x)] cvs) (hfr : A.frames = some outer) (hFr : FrOk outer X s.heap) (K : ∀ e t s', Fly (cx w base s0 loose mean mg mb pin) φ [] X σ s outer e t s' → R' (.error (.ref e)) s') :
    codeAny (model (cx w base s0 loose mean mg mb pin).prog w) A (.call (.ref 121) ⟨cvs, ([] : List Str).zip []⟩) R' s := by
  have rk : VReps s.heap φ X [] [] := .nil
  have KX : (hd.heap_39 w.params).In base → True := fun _ => trivial
  have PP : PySem.Challenge.rw_wc0014_01.prog = PySem.Challenge.rw_wc0014_01.prog := rfl
  revert KX PP; k_fill; intro KX PP
  refine fn_enterX (hK := by show List.lookup 121 (hd.heap_39 w.params) = _; k_is) rfl rfl rfl rfl rfl ?hcd rfl rfl rfl ?hnd ?hps ?hpk rfl (TBind.plain (ps := [Str.ofString "self", Str.ofString "name"]) ?hb) C a R rv rk ?hmain
  case hcd => show codeIn (hd.heap_39 w.params) _ _ = true; k_is
  case hnd => decide
  case hps => decide
  case hpk => decide
  case hb =>
    intro cvs hl
    obtain ⟨x0, x1, rfl⟩ := len2 hl
    rfl
  case hmain =>
    intro env h₁ tk₁ hk₁ ht₁ hf O R₁ L₁ hec heq hfrm
    refine wpAny_execs_cons (assign_raises fun Q' => eval_methKG (P := fun cf ov av ev σ' => cf = .ref 83 ∧ av = .d (.str (ctlName k)) ∧ ev = .d (.bool true) ∧ σ' = σ) ?t (O := O) (R := R₁) (L := L₁) (K := fun cf ov av ev cov cav cev φ₂ σ₂ s₂ x₂ R₂ ro ra re p => ?_))
    case t =>
      refine TE.loc 0 rfl ⟨_, TGet.hdr hdrK (by show findIn (hd.heap_39 w.params) _ _ = _; k_is) (by show typeIn (hd.heap_39 w.params) _ = _; k_is) rfl, KeepOk.old (by show keepIn (hd.heap_39 w.params) _ = _; k_is), ?_⟩
      refine TE.meth ?_
      refine TE.cell 1 rfl ⟨_, TGet.lower, KeepOk.builtin, ?_⟩
      refine TEs.nil ?_
      refine TCall.lower hxl ?_
      rw [hlow]
      exact TE.boolc ⟨rfl, rfl, rfl, rfl⟩
    obtain ⟨rfl, rfl, rfl, rfl⟩ := p
    have L₂ := L₁.step x₂ (R₁.own O.o) (fun a h _ => h)
    have xo := x₂.own R₁ O.o
    refine wpAny_call ?_
    refine convert_raises (outer := env :: outer) (self := ov) (ckv := [cev]) hx C O.a R₂ (.cons ro (.cons ra .nil)) (.cons re .nil) (Around.frames_deeper hfr) (hFr.enter R hk₁ hf xo O L₂ hfrm) fun e t s' f => ?_
    refine Fly.leave hk₁ hf ((f.wide fun a ha => R₂.xs a (O.o a ha)).pre xo) (Around.frames_deeper hfr) hfrm fun s'' f'' => ?_
    exact K e t s'' f''
end
end Mine
end -- G14
section -- G15
set_option tactic.hygienic false
open PySem PySem.W PySem.Calls PyProof.Rows
set_option linter.unusedVariables false
set_option linter.unusedSimpArgs false
set_option autoImplicit false
namespace Mine
theorem msg_shaped : SeqAt.shaped (.str msgS) = true := by decide +kernel
theorem msg_eq : PyData.eqv (.str msgS) (.str msgS) = true := by simp [PyData.eqv]
theorem ctl_low : ∀ j ∈ ctlNums, Txt.lower (tx [80, j, 97]) = ctlName j := by decide +kernel
noncomputable def ctlOf (n : Int) : Nat := if (n.fmod 33).toNat < 32 then (n.fmod 33).toNat else 127
theorem fmod33 (n : Int) : 0 ≤ n.fmod 33 ∧ n.fmod 33 < 33 := by rw [Int.fmod_eq_emod_of_nonneg _ (by decide)]; exact ⟨Int.emod_nonneg _ (by decide), Int.emod_lt_of_pos _ (by decide)⟩
set_option tactic.hygienic true in
theorem ctlOf_mem (n : Int) : ctlOf n ∈ ctlNums := by
  unfold ctlOf ctlNums
  split
  · rename_i h; exact List.mem_append.mpr (.inl (List.mem_range.mpr h))
  · simp
theorem ctl_get (k : Nat) (h : k < 33) : (rngL 0 32 ++ [PyData.int 127])[k]? = some (.int (if k < 32 then (k : Int) else 127)) := by
  have key : ∀ (n : Nat) (a : Int) (k : Nat), k < n → (rngL a n)[k]? = some (.int (a + k)) := by
    intro n
    induction n with
    | zero => intro a k h; omega
    | succ n ih =>
      intro a k h
      cases k with
      | zero => simp [rngL]
      | succ k =>
        have := ih (a + 1) k (by omega)
        simp only [rngL, List.getElem?_cons_succ, this]
        congr 2; omega
  by_cases hk : k < 32
  · rw [List.getElem?_append_left (by rw [rngL_length]; exact hk), key 32 0 k hk, if_pos hk]; simp
  · have : k = 32 := by omega
    subst this; rfl
section
set_option maxRecDepth 100000
theorem ve_sub : isSubtype (.type "ValueError") (.type "ValueError") = pure true := by rw [isSubtype_type]; kernel_rfl
theorem ve_meta : isSubtype (.type ((Manifest.find? "ValueError").elim "type" fun x => x.metatype)) (.type "tuple") = pure false := by
  rw [show ((Manifest.find? "ValueError").elim "type" fun x => x.metatype) = "type" by kernel_rfl, isSubtype_type]; kernel_rfl
end
section
variable {c : Cx} {d : Nat} {sc : Sc} {ρ : List (Option V)} {σ : List (List PyData)}
theorem name_bltn {env : Env} {A A' : Around} {X : List Addr} {s : Shared} {x : Str} {pos : Pos} {v : Value} {Q : Value → Shared → Prop} {E : Value → Shared → Prop} (O : Ok c d env sc A' X) (hb : ∀ b o, c.base.get? b = some o → s.heap.get? b = some o) (e : nsIn c.K mainGlobals x = some none) (hv : bootBuiltins x = some v) (hn : x ≠ "__name__") (p : Q v s) (hk : sc.names.lookup x = some .globalImplicit := by rfl) (hd : (x == ("__debug__" : Str)) = false := by rfl) :
    wpAny (model c.prog c.w) A (eval (.Name x pos) env) Q E s := by
  have G : s.heap.Ns mainGlobals c.mg := O.c.T.g.keeps hb
  have B : s.heap.Ns builtinsNs c.mb := O.c.T.b.keeps hb
  rw [← O.e.gl] at G
  rw [← O.e.bu] at B
  exact Name_function_global (by rw [O.e.s]; exact O.e.fn) (by unfold Env.kindOf; rw [O.e.s]; exact hk) (loadGlobal_builtin G (mg_none_of O.c.X O.c.T.g e) B ((O.c.T.builtins x hn).trans hv) p) hd
theorem expr_raises {e : Expr} {pos : Pos} {env : Env} {A A' : Around} {X : List Addr} {s : Shared} {Q : Flow → Shared → Prop} {E : Value → Shared → Prop} (O : Ok c d env sc A' X) (h : ∀ Q', wpAny (model c.prog c.w) A (eval e env) Q' E s) (hc : isComp e = false := by rfl) : wpAny (model c.prog c.w) A (exec (.Expr e pos) env) Q E s := by
  rw [exec_Expr env e pos (by unfold interactive; rw [O.e.s, O.e.fn]; rfl) (swapsWith_noComp hc _ _ _)]
  exact wpAny_bind (wpAny_standAt (wpAny_bind (h _)))
theorem Rel.sub {φ : Phi} {X X₁ : List Addr} {s : Shared} (R : Rel c φ X₁ σ s) (hX : ∀ a ∈ X, a ∈ X₁) (hT : ∀ b ∈ tabs, b ∈ X) : Rel c φ X σ s := by
  have hk : ∀ b o, (cut s.heap (φ.l ++ X₁)).get? b = some o → (cut s.heap (φ.l ++ X)).get? b = some o := fun b o e =>
    cut_get.mpr ⟨(cut_get.mp e).1, fun q => (cut_get.mp e).2 (List.mem_append.mpr ((List.mem_append.mp q).imp id (hX _)))⟩
  exact {
    len := R.len
    nd := R.nd
    dj := fun a h1 h2 => R.dj a h1 (hX _ h2)
    ob := fun i a xs e1 e2 => by
      obtain ⟨items, h1, h3⟩ := R.ob i a xs e1 e2
      exact ⟨items, h1, RdAll.keeps .refl hk h3⟩
    xs := fun a ha => R.xs a (hX _ ha)
    bs := fun b o e => ⟨(R.bs b o e).1, (R.bs b o e).2.1, fun q => (R.bs b o e).2.2 (hX _ q)⟩
    tb := fun b hb => ⟨hT b hb, (R.tb b hb).2.keeps hk fun _ e => e⟩
    env := R.env
    tk := R.tk
    pl := R.pl
    pt := R.pt }

/-- when a flight is over: what stands again -/
theorem Fly.over {φ φ₄ : Phi} {X Xa : List Addr} {s s₂ s₄ s' : Shared} {env₂ env₁ : Env} {e t : Addr} {fr : List Addr} {tk : Tok} {φ₂ : Phi} {h₁ h₉ : Heap} {tk₁ tk₉ : Nat} (R : Rel c φ X σ s) (hk₁ : ∀ b o, s.heap.get? b = some o → h₁.get? b = some o) (hf : ∀ b ∈ own env₂ sc, s.heap.get? b = none)
    (x : Step φ φ₂ (own env₂ sc) { s with heap := h₁, toks := tk₁ } s₂) (R₂ : Rel c φ₂ (own env₂ sc ++ X) σ s₂) (f : FlyAt c φ₂ φ₄ [] (own env₂ sc ++ X) Xa σ s₂ s₄ [env₂, env₁] e t s' fr tk) (h1X : env₁.locals ∈ X) (hstay : (cut s₄.heap fr).StaysIn h₉) (htk : s₄.toks ≤ tk₉)
    (hal : ∀ a ∈ fr, ∃ o, h₉.get? a = some o) (hsl : ∀ o, s₄.heap.get? env₁.locals = some o → (∀ vs, o.data ≠ .fields vs) → ∃ sl, h₉.get? env₁.locals = some { o with slots := sl }) (hnf : ∃ o, s.heap.get? env₁.locals = some o ∧ ∀ vs, o.data ≠ .fields vs) :
    Step φ φ₄ [env₁.locals] s { s₄ with heap := h₉, toks := tk₉ } ∧ Rel c φ₄ X σ { s₄ with heap := h₉, toks := tk₉ } ∧ ∀ o, s.heap.get? env₁.locals = some o → ∃ sl, h₉.get? env₁.locals = some { o with slots := sl } := by
  have hoX : ∀ b ∈ own env₂ sc, ∃ o, s₂.heap.get? b = some o := fun b hb => R₂.xs b (List.mem_append.mpr (.inl hb))
  have f4 : Step φ₂ φ₄ (own env₂ sc) s₂ s₄ := f.st.wide (fun _ h => nomatch h) fun a ha _ => hoX a ha
  have xs : Step φ φ₄ [] s s₄ := ((Step.grow (φ := φ) (W := [] ++ own env₂ sc) (tk := tk₁) hk₁).trans (x.trans f4)).narrow hf
  have kp : ∀ b o, b ∉ fr → s₄.heap.get? b = some o → h₉.get? b = some o := fun b o hb e => hstay b o (cut_get.mpr ⟨e, hb⟩)
  have frs : ∀ b o, b ∈ fr → s.heap.get? b = some o → b = env₁.locals := fun b o hb e => by
    obtain ⟨o', e'⟩ := x.alive b o (hk₁ _ _ e)
    obtain ⟨env', h1, rfl⟩ := f.frO b hb ⟨o', e'⟩
    rcases List.mem_cons.mp h1 with rfl | h1
    · rw [hf _ List.mem_cons_self] at e; cases e
    · rw [List.mem_singleton.mp h1]
  have hTf : ∀ b ∈ tabs, b ∉ fr := fun b hb q => by
    obtain ⟨o, e1, e2⟩ := f.frF b q
    obtain ⟨ps, e3⟩ := (f.R.tbs b hb).2
    rw [e3] at e1; cases e1; exact e2 _ rfl
  have hTX : ∀ b ∈ tabs, b ∈ X := fun b hb => (R.tb b hb).1
  have e1T : env₁.locals ∉ tabs := fun q => by
    obtain ⟨o, g1, g2⟩ := hnf
    obtain ⟨ps, e3⟩ := (R.tbs _ q).2
    rw [e3] at g1; cases g1; exact g2 _ rfl
  refine ⟨⟨xs.pre, fun b o e h1 h2 h9 => kp b o (fun q => h2 (by rw [frs b o q e]; exact List.mem_singleton.mpr rfl)) (xs.keep b o e h1 (fun q => nomatch q) h9), fun a h1 h2 => ⟨fun q => ?_, (xs.fresh a h1 h2).2⟩, fun b o e => ?_, xs.tau⟩, ?_, fun o e => ?_⟩
  · obtain ⟨o, g1, _⟩ := hnf
    rw [List.mem_singleton.mp q] at h1 h2
    have := (xs.fresh _ h1 h2).2
    rw [g1] at this; cases this
  · obtain ⟨o', e'⟩ := xs.alive b o e
    by_cases q : b ∈ fr
    · exact hal b q
    · exact ⟨o', kp b o' q e'⟩
  · have Ra := f.R.perm (X' := fr ++ Xa) fun a => ⟨fun h => List.mem_append.mpr (.inr h), fun h => (List.mem_append.mp h).elim (f.frX a) id⟩
    exact (Ra.nexts (h' := h₉) (tk := tk₉) kp hal hTf htk).sub (fun a ha => List.mem_append.mpr (.inr (f.sub a (List.mem_append.mpr (.inr ha))))) hTX
  · have e4 := xs.keep _ o e (fun q => R.dj _ q h1X) (fun q => nomatch q) e1T
    refine hsl o e4 ?_
    obtain ⟨o', g1, g2⟩ := hnf
    rw [g1] at e; cases e; exact g2
end
section
variable {w : World} {base : Heap} {s0 : Shared} {loose : List Str} {mean : ExcName → Option Value} {mg mb : Str → Option Value} {pin : Phi} {d : Nat} {σ : List (List PyData)} {P : V → List (List PyData) → Prop}
set_option maxRecDepth 100000 in
theorem refused_call {A : Around} {X : List Addr} {φ : Phi} {s : Shared} {env₁ : Env} {i : Nat} {wk : Bool} {n : Int} {cvs : List Value} {Q : Value → Shared → Prop} {E : Value → Shared → Prop} (C : (cx w base s0 loose mean mg mb pin).Ok) (a : AOk A (d + 2 + 1)) (R : Rel (cx w base s0 loose mean mg mb pin) φ X σ s)
    (rv : VReps s.heap φ X [.hr i, .e wk (.int n)] cvs) (hfr : A.frames = some [env₁]) (hFr : FrOk [env₁] X s.heap)
    (K : ∀ φ' s', Step φ φ' [env₁.locals] s s' → Rel (cx w base s0 loose mean mg mb pin) φ' X σ s' → (∀ o, s.heap.get? env₁.locals = some o → ∃ sl, s'.heap.get? env₁.locals = some { o with slots := sl }) → Q (.bool true) s') :
    wpAny (model (cx w base s0 loose mean mg mb pin).prog w) A (call (.ref 249) cvs []) Q E s := by
  have rk : VReps s.heap φ X [] [] := .nil
  refine wpAny_call ?_
  show codeAny (model (cx w base s0 loose mean mg mb pin).prog w) A (.call (.ref 249) ⟨cvs, ([] : List Str).zip []⟩) _ s
  have KX : (hd.heap_39 w.params).In base → True := fun _ => trivial
  have PP : PySem.Challenge.rw_wc0014_01.prog = PySem.Challenge.rw_wc0014_01.prog := rfl
  revert KX PP; k_fill; intro KX PP
  refine fn_enterX (hK := by show List.lookup 249 (hd.heap_39 w.params) = _; k_is) rfl rfl rfl rfl rfl ?hcd rfl rfl rfl ?hnd ?hps ?hpk rfl (TBind.plain (ps := [Str.ofString "table", Str.ofString "number"]) ?hb) C a R rv rk ?hmain
  case hcd => show codeIn (hd.heap_39 w.params) _ _ = true; k_is
  case hnd => decide
  case hps => decide
  case hpk => decide
  case hb =>
    intro cvs hl
    obtain ⟨x0, x1, rfl⟩ := len2 hl
    rfl
  case hmain =>
    intro env h₁ tk₁ hk₁ ht₁ hf O R₁ L₁ hec heq hfrm
    have hj := ctlOf_mem n
    generalize hjj : ctlOf n = j at hj
    refine wpAny_execs_cons (wpAny_Try_except (wpAny_execs_cons (expr_raises O fun Q' => eval_methG (P := fun cf ov vs σ' => cf = .ref 121 ∧ ov = .hr i ∧ vs = [.d (.str (tx [80, j, 97]))] ∧ σ' = σ) ?t (O := O) (R := R₁) (L := L₁) (K := fun cf ov vs cov cvs φ₂ σ₂ s₂ x₂ R₂ ro rs p => ?_))))
    case t =>
      refine TE.loc 0 rfl ⟨_, TGet.hdr hdrK (by show findIn (hd.heap_39 w.params) _ _ = _; k_is) (by show typeIn (hd.heap_39 w.params) _ = _; k_is) rfl, KeepOk.old (by show keepIn (hd.heap_39 w.params) _ = _; k_is), ?_⟩
      refine TEs.cons ?_
      refine TE.binop ?_
      refine TE.binop ?_
      refine TE.str ?_
      refine TE.call ?_
      refine TE.bltn (by show nsIn (hd.heap_39 w.params) _ _ = _; k_is) (by boot_by_name) (by decide) ⟨_, rfl, KeepOk.builtin, ?_⟩
      refine TEs.cons ?_
      refine TE.sub ?_
      refine TE.binop ?_
      refine TE.call ?_
      refine TE.bltn (by show nsIn (hd.heap_39 w.params) _ _ = _; k_is) (by boot_by_name) (by decide) ⟨_, rfl, KeepOk.type, ?_⟩
      refine TEs.cons ?_
      refine TE.call ?_
      refine TE.bltn (by show nsIn (hd.heap_39 w.params) _ _ = _; k_is) (by boot_by_name) (by decide) ⟨_, rfl, KeepOk.type, ?_⟩
      refine TEs.cons ?_
      refine TE.int ?_
      refine TEs.nil ?_
      refine TCall.range1 ?_
      refine TEs.nil ?_
      refine TCall.listRange (by decide) (by decide) (by decide) ?_
      refine TE.weak ?_
      refine TE.list ?_
      refine TEs.cons ?_
      refine TE.int ?_
      refine TEs.nil ⟨false, [.int 127], rfl, by decide, false, .list [.int 127], rfl, ?_⟩
      refine TV2.addLL (by decide) ?_
      refine TE.binop ?_
      refine TE.loc 1 rfl ?_
      refine TE.int ?_
      refine TV2.modII (by decide) ?_
      have h33 := fmod33 n
      refine TV2.subLI h33.1 (by omega) (ctl_get (n.fmod 33).toNat (by omega)) ?_
      have hval : (if (n.fmod 33).toNat < 32 then (((n.fmod 33).toNat : Nat) : Int) else 127) = ((j : Nat) : Int) := by
        rw [← hjj]; unfold ctlOf; split <;> rfl
      rw [hval]
      refine TEs.nil ?_
      have hj128 : j ≤ 127 := by
        rw [← hjj]; unfold ctlOf; split <;> omega
      refine TCall.chr (by simp; omega) ?_
      rw [Int.toNat_natCast]
      refine TV2.addSS (by rw [sizeLine_eq]; show 1 + 1 ≤ _; decide) ?_
      refine TE.str ?_
      refine TV2.addSS (by rw [sizeLine_eq]; show 2 + 1 ≤ _; decide) ?_
      exact TEs.nil ⟨rfl, rfl, rfl, rfl⟩
    obtain ⟨rfl, rfl, rfl, rfl⟩ := p
    have L₂ := L₁.step x₂ (R₁.own O.o) (fun a h _ => h)
    have xo := x₂.own R₁ O.o
    have hFr2 := hFr.enter R hk₁ hf xo O L₂ hfrm
    refine wpAny_call ?_
    refine get_all_raises (outer := [env, env₁]) hj (ctl_low j hj) (by show 3 ≤ 1000; decide) C O.a R₂ (.cons ro rs) (Around.frames_deeper hfr) hFr2 fun e t s' f => ?_
    obtain ⟨φ₄, Xa, s₄, fr, tk, f⟩ := f
    refine wpAny_looks_onW (Around.frames_deeper hfr) hfrm f.fly fun h₅ hheld hup₅ => ?_
    refine wpAny_landsW hheld fun h₆ hfl₆ hup₆ => ?_
    have hbs : ∀ {h : Heap}, (cut s₄.heap fr).StaysIn h → ∀ b o, base.get? b = some o → h.get? b = some o := fun hs b o e => by
      obtain ⟨g1, g2, g3⟩ := f.R.bs b o e
      exact hs b o (cut_get.mpr ⟨g1, fun q => g3 (f.frX b q)⟩)
    obtain ⟨oe, hoe, hoec⟩ := hfl₆.there
    refine wpAny_handleBy_builtin_as (X := "ValueError") (T := "ValueError") (b := true) PySem.F.excRaise_ValueError.isExc ve_meta ve_sub (name_bltn O (hbs hfl₆.1) (by show nsIn (hd.heap_39 w.params) _ _ = _; k_is) (by boot_by_name) (by decide) ⟨rfl, ⟨oe, hoe, hoec⟩, ?_⟩)
    refine lands_againW hfl₆ fun h₇ hfl₇ hup₇ => ?_
    have hup : s₄.heap.UpToSlots h₇ := ((f.up.trans hup₅).trans hup₆).trans hup₇
    have hLn : ∃ m, h₇.Ns env.locals m := by
      obtain ⟨m, hm, _⟩ := L₂.ns
      have hm4 : s₄.heap.Ns env.locals m := hm.at' fun o e => f.st.keep _ o e (fun q => R₂.dj _ q (List.mem_append.mpr (.inl List.mem_cons_self))) (fun q => nomatch q) (L₂.notab (.inl rfl) R₂.tbs)
      exact ⟨m, hup.ns hm4⟩
    obtain ⟨m, hm⟩ := hLn
    have hB2 : (cut s₄.heap fr).get? env.locals = none := by
      obtain ⟨_, ⟨L', _, hfm, hn', _⟩, _⟩ := hfl₇.2.2.1
      rw [hfrm] at hfm; cases hfm; exact hn'
    have hkind : env.kindOf (Str.ofString "error") = some .local := O.e.kind (k := 2) rfl
    have hplain : (env.scope.kind == .class || (env.scope.kind == .module && env.locals != env.globals)) = false := by rw [O.e.s, O.e.fn]; rfl
    refine wpAny_storeName_local hkind hm (fun h₈ hn₈ hs₈ => ?_) hplain
    obtain ⟨oe7, vs7, T7, oT7, ts7, he7, ⟨hc7, h07⟩, hd7, _⟩ := hfl₇.2.2.2
    obtain ⟨ot, nt, hot, hotc, hotd⟩ := (((f.tup.of_slots hup₅).of_slots hup₆).of_slots hup₇)
    have hmo := hm
    obtain ⟨om, esm, epm, hom, homd, _⟩ := hmo
    have hne : e ≠ env.locals := fun q => by rw [← q, he7] at hom; cases hom; rw [hd7] at homd; cases homd
    have hnt : t ≠ env.locals := fun q => by rw [← q, hot] at hom; cases hom; rw [hotd] at homd; cases homd
    have hst₈ : (cut s₄.heap fr).StaysIn h₈ := fun b o q => (hs₈.2 b fun z => by rw [z, hB2] at q; cases q).trans (hfl₇.1 b o q)
    refine wpAny_execs_cons (wpAny_Return_some (wpAny_Compare1 ?_ rfl))
    show wpAny _ _ (do callWith _ (← eval (.Name _ _) env) [] (backTo _ (starEach _ env)) (backToKw _ (keywordEach [] env))) _ _ _
    refine wpAny_bind (name_bltn O (hbs hst₈) (by show nsIn (hd.heap_39 w.params) _ _ = _; k_is) (by boot_by_name) (by decide) ?_)
    refine PyProof.Rows.callWith_type1 (spliced_more (wpAny_Name (wpAny_loadName_local (by rw [O.e.s]) hkind hn₈ (v := .ref e) (by simp) (spliced_nil ?_)) (by rfl)))
    refine P.str_of_exc_one PySem.F.excStr_ValueError (by have := O.a.un; show (A.deeper env).units + 2 < cLine; omega) ⟨oe7, vs7, (hs₈.2 e hne).trans he7, hc7, hd7, h07⟩ ⟨ot, nt, (hs₈.2 t hnt).trans hot, hotc, hotd⟩ ?_
    refine wpAny_mkText ?_
    refine eq_dataH (.str _ _) (.str _ _) (da := .str msgS) (db := .str msgS) msg_shaped msg_shaped (by have := O.a.un; show (A.deeper env).units + 64 < cLine; omega) ?_
    rw [show PyData.eqv (.str msgS) (.str msgS) = true from msg_eq]
    refine wpAny_nameGoes hkind hn₈ hplain fun h₉ m₉ hn₉ hs₉ => ?_
    have hst₉ : (cut s₄.heap fr).StaysIn h₉ := fun b o q => (hs₉.2 b fun z => by rw [z, hB2] at q; cases q).trans (hst₈ b o q)
    have hL1 := hFr env₁ List.mem_cons_self
    have hne1 : env₁.locals ≠ env.locals := fun q => by
      obtain ⟨o, g1, _⟩ := hL1.2.2.2
      rw [q, hf _ List.mem_cons_self] at g1; cases g1
    have h79 : ∀ b o, b ≠ env.locals → h₇.get? b = some o → h₉.get? b = some o := fun b o hb q => (hs₉.2 b hb).trans ((hs₈.2 b hb).trans q)
    have hal : ∀ a ∈ fr, ∃ o, h₉.get? a = some o := fun a ha => by
      by_cases q : a = env.locals
      · rw [q]; exact Heap.Ns.is hn₉
      · obtain ⟨o, g1, g2⟩ := f.frF a ha
        obtain ⟨sl, g3⟩ := hup a o g1 g2
        exact ⟨_, h79 a _ q g3⟩
    have hsl9 : ∀ o, s₄.heap.get? env₁.locals = some o → (∀ vs, o.data ≠ .fields vs) → ∃ sl, h₉.get? env₁.locals = some { o with slots := sl } := fun o g1 g2 => by
      obtain ⟨sl, g3⟩ := hup _ o g1 g2
      exact ⟨sl, h79 _ _ hne1 g3⟩
    obtain ⟨hS, hR, hsl⟩ := Fly.over (tk₉ := _) (h₉ := h₉) R hk₁ hf xo R₂ f hL1.2.2.1 hst₉ (Nat.le_trans f.ltk (Nat.le_trans (Nat.le_succ _) (Nat.le_trans (Nat.le_succ _) (Nat.le_succ _)))) hal hsl9 hL1.2.2.2
    have := K φ₄ _ hS hR hsl
    rw [f.eq]
    exact this
end
end Mine
end -- G15
section -- B8
set_option tactic.hygienic false
open PySem PySem.W PySem.Calls PyProof.Rows
set_option linter.unusedVariables false
set_option linter.unusedSimpArgs false
set_option autoImplicit false
namespace Mine
/-! the law's plain facts -/
theorem flip01 {ls : List Int} (h : ∀ x ∈ ls, x = 0 ∨ x = 1) (p : Int) : ∀ x ∈ flipL ls p, x = 0 ∨ x = 1 := fun x hx => by
  unfold flipL at hx
  rcases List.mem_or_eq_of_mem_set hx with hx | hx
  · exact h x hx
  · cases q : ls[(p.fmod 24).toNat]? with
    | none => rw [q] at hx; right; rw [hx]; rfl
    | some y =>
      rw [q] at hx
      rcases h y (List.mem_of_getElem? q) with r | r
      · right; rw [hx, r]; rfl
      · left; rw [hx, r]; rfl
theorem lamps01 (ns : List Int) : ∀ x ∈ lampsOf ns, x = 0 ∨ x = 1 := by
  have key : ∀ (ms : List Int) (ls : List Int), (∀ x ∈ ls, x = 0 ∨ x = 1) → ∀ x ∈ ms.foldl lampStep ls, x = 0 ∨ x = 1 := by
    intro ms
    induction ms with
    | nil => intro ls h; exact h
    | cons m ms ih => intro ls h; exact ih _ (flip01 (flip01 (flip01 h _) _) _)
  exact key _ _ (by decide)
/-- three lamps as a set -/
noncomputable def set3 (ls : List Int) (a : Nat) : List Nat := (List.range 3).filter fun p => lit ls (a + p)
theorem set3_set (ls : List Int) (a : Nat) : SetN 3 (set3 ls a) := SetN.of _ _
theorem set3_mem {ls : List Int} {a p : Nat} : p ∈ set3 ls a ↔ p < 3 ∧ lit ls (a + p) = true := by unfold set3; rw [List.mem_filter, List.mem_range]
theorem lit_val {ls : List Int} (h01 : ∀ x ∈ ls, x = 0 ∨ x = 1) {k : Nat} (h : k < ls.length) : ls[k]? = some (if lit ls k = true then 1 else 0) := by
  rw [List.getElem?_eq_getElem h]
  unfold lit
  rw [List.getElem?_eq_getElem h]
  rcases h01 _ (List.getElem_mem h) with r | r <;> rw [r] <;> rfl
theorem set3_bits {ls : List Int} (h01 : ∀ x ∈ ls, x = 0 ∨ x = 1) {a : Nat} (h : a + 3 ≤ ls.length) : (ls.drop a).take 3 = (bitsN 3 (set3 ls a)).map fun x : Nat => (x : Int) := by
  apply List.ext_getElem?
  intro p
  by_cases hp : p < 3
  · rw [List.getElem?_take, if_pos hp, List.getElem?_drop, lit_val h01 (by omega), List.getElem?_map, bitsN_get hp]
    have := set3_mem (ls := ls) (a := a) (p := p)
    by_cases hl : lit ls (a + p) = true
    · rw [if_pos hl, if_pos (this.mpr ⟨hp, hl⟩)]; rfl
    · rw [if_neg hl, if_neg fun q => hl (this.mp q).2]; rfl
  · rw [List.getElem?_eq_none (by rw [List.length_take]; omega), List.getElem?_eq_none (by rw [List.length_map, bitsN_len]; omega)]

/-! the ways that are laid -/
noncomputable def litL (ls : List Int) : List Nat := (List.range 18).filter fun way => lit ls way
noncomputable def laidL (ls : List Int) : List Nat := litL ls ++ (litL ls).take 1
theorem laid_mem {ls : List Int} {w : Nat} : w ∈ laidL ls ↔ w < 18 ∧ lit ls w = true := by
  unfold laidL
  rw [List.mem_append]
  have : w ∈ litL ls ↔ w < 18 ∧ lit ls w = true := by unfold litL; rw [List.mem_filter, List.mem_range]
  rw [← this]
  exact ⟨fun h => h.elim id fun h => List.mem_of_mem_take h, .inl⟩
theorem laid_len (ls : List Int) : (laidL ls).length ≤ 19 := by
  have : (litL ls).length ≤ 18 := Nat.le_trans (List.length_filter_le _ _) (by simp)
  unfold laidL
  rw [List.length_append, List.length_take]; omega
noncomputable def hdrT (t w : Nat) : Str := if t % 2 = 1 then Txt.upper (nameT (w / 3 % 2) (w / 6)) else nameT (w / 3 % 2) (w / 6)
noncomputable def hdrs : Nat → List Nat → List (Str × Str)
  | _, [] => []
  | t, w :: r => (hdrT t w, letterS (w % 3)) :: hdrs (t + 1) r
theorem hdrs_snoc (w : Nat) : ∀ (ws : List Nat) (t : Nat), hdrs t (ws ++ [w]) = hdrs t ws ++ [(hdrT (t + ws.length) w, letterS (w % 3))]
  | [], t => rfl
  | v :: ws, t => by
    simp only [List.cons_append, hdrs, hdrs_snoc w ws (t + 1), List.length_cons]
    congr 3
    congr 1
    congr 1
    omega
theorem hdrs_len : ∀ (ws : List Nat) (t : Nat), (hdrs t ws).length = ws.length
  | [], _ => rfl
  | _ :: ws, t => by simp [hdrs, hdrs_len ws]
set_option maxRecDepth 100000 in
theorem up_ok : ∀ w, w < 18 → Txt.upper (nameT (w / 3 % 2) (w / 6)) ∈ okTexts ∧ Txt.lower (Txt.upper (nameT (w / 3 % 2) (w / 6))) = nameT (w / 3 % 2) (w / 6) ∧ Txt.lower (nameT (w / 3 % 2) (w / 6)) = nameT (w / 3 % 2) (w / 6) ∧ (Txt.upper (nameT (w / 3 % 2) (w / 6))).length ≤ 1000 ∧ (nameT (w / 3 % 2) (w / 6)).length ≤ 1000 := by decide +kernel
theorem hdr_low {t w : Nat} (h : w < 18) : Txt.lower (hdrT t w) = nameT (w / 3 % 2) (w / 6) ∧ hdrT t w ∈ okTexts ∧ (hdrT t w).length ≤ 1000 := by
  obtain ⟨h1, h2, h3, h4, h5⟩ := up_ok w h
  have hok := nameT_ok (w / 3 % 2) (by omega) (w / 6) (by omega)
  unfold hdrT
  split
  · exact ⟨h2, h1, h4⟩
  · exact ⟨h3, hok.1, h5⟩
theorem hdrs_ok : ∀ (ws : List Nat) (t : Nat), (∀ w ∈ ws, w < 18) → ∀ h ∈ hdrs t ws, h.1.length ≤ 1000 ∧ SeqAt.shaped (.str (Txt.lower h.1)) = true
  | [], _, _, h, hh => by simp [hdrs] at hh
  | w :: ws, t, hw, h, hh => by
    simp only [hdrs, List.mem_cons] at hh
    rcases hh with rfl | hh
    · have h18 := hw w List.mem_cons_self
      obtain ⟨h1, h2, h3⟩ := hdr_low (t := t) h18
      exact ⟨h3, by rw [h1]; exact (nameT_ok (w / 3 % 2) (by omega) (w / 6) (by omega)).2⟩
    · exact hdrs_ok ws (t + 1) (fun v hv => hw v (List.mem_cons_of_mem _ hv)) h hh
noncomputable def nxt1 (ws : List Nat) (l o : Nat) : List Nat := (ws.filter fun w => w / 3 == 2 * o + l).map (· % 3)
theorem hdrs_tell {l o : Nat} (hl : l < 2) (ho : o < 3) : ∀ (ws : List Nat) (t : Nat), (∀ w ∈ ws, w < 18) → tellsOf (hdrs t ws) (nameT l o) = (nxt1 ws l o).map fun j => .str (letterS j)
  | [], _, _ => rfl
  | w :: ws, t, hw => by
    have ih := hdrs_tell hl ho ws (t + 1) fun v hv => hw v (List.mem_cons_of_mem _ hv)
    have h18 := hw w List.mem_cons_self
    obtain ⟨h1, _, _⟩ := hdr_low (t := t) h18
    unfold tellsOf nxt1 at ih ⊢
    simp only [hdrs, List.filter_cons, h1]
    by_cases hq : w / 3 = 2 * o + l
    · have e1 : (nameT (w / 3 % 2) (w / 6) == nameT l o) = true := by
        have a1 : w / 3 % 2 = l := by omega
        have a2 : w / 6 = o := by omega
        rw [a1, a2]; exact beq_self_eq_true _
      have e2 : (w / 3 == 2 * o + l) = true := beq_iff_eq.mpr hq
      rw [e1, e2]
      simp only [if_true, List.map_cons, ih]
    · have e1 : (nameT (w / 3 % 2) (w / 6) == nameT l o) = false := by
        rw [beq_eq_false_iff_ne]
        intro e
        have := nameT_inj _ (by omega) _ (by omega) _ hl _ (by omega) e
        omega
      have e2 : (w / 3 == 2 * o + l) = false := beq_eq_false_iff_ne.mpr hq
      rw [e1, e2]
      simpa using ih
theorem nxt1_lt {ws : List Nat} {l o j : Nat} (h : j ∈ nxt1 ws l o) : j < 3 := by
  obtain ⟨w, _, rfl⟩ := List.mem_map.mp h
  exact Nat.mod_lt _ (by decide)
theorem nxt1_mem {ls : List Int} {l o j : Nat} (hl : l < 2) (ho : o < 3) (hj : j < 3) : j ∈ nxt1 (laidL ls) l o ↔ lit ls (j + 3 * l + 6 * o) = true := by
  unfold nxt1
  rw [List.mem_map]
  constructor
  · rintro ⟨w, h1, h2⟩
    obtain ⟨h3, h4⟩ := List.mem_filter.mp h1
    have h4' : w / 3 = 2 * o + l := by simpa using h4
    have : j + 3 * l + 6 * o = w := by omega
    rw [this]; exact (laid_mem.mp h3).2
  · intro h
    refine ⟨j + 3 * l + 6 * o, List.mem_filter.mpr ⟨laid_mem.mpr ⟨by omega, h⟩, ?_⟩, by omega⟩
    rw [beq_iff_eq]; omega

/-! the first reckoning is the plain one of the machine turned round -/
theorem lb_of {l : Nat} (hl : l < 2) : lb (decide (l = 1)) = l := by
  rcases l with _ | _ | l
  · rfl
  · rfl
  · omega
theorem step_first {ls : List Int} {l : Nat} (hl : l < 2) {S : List Nat} (hS : ∀ p ∈ S, p < 3) : mStep 3 (nxt1 (laidL ls)) l S = pStep (turnedL ls) l S := by
  show (List.range 3).filter _ = (List.range 3).filter _
  refine List.filter_congr fun j hj => ?_
  have hj3 := List.mem_range.mp hj
  rw [Bool.eq_iff_iff, List.any_eq_true, List.any_eq_true]
  have key : ∀ o, o ∈ S → ((decide (j ∈ nxt1 (laidL ls) l o) = true) ↔ lit (turnedL ls) (o + 3 * l + 6 * j) = true) := fun o ho => by
    rw [decide_eq_true_iff, nxt1_mem hl (hS o ho) hj3]
    have := turned_way (ls := ls) (p := o) (q := j) (decide (l = 1)) (hS o ho) hj3
    rw [lb_of hl] at this
    rw [this]
  exact ⟨fun ⟨o, h1, h2⟩ => ⟨o, h1, (key o h1).mp h2⟩, fun ⟨o, h1, h2⟩ => ⟨o, h1, (key o h1).mpr h2⟩⟩
theorem fin_first {ls : List Int} (h : ls.length = 24) {S : List Nat} (hS : ∀ p ∈ S, p < 3) : mFin (set3 ls 21) S = pFin (turnedL ls) S := by
  unfold mFin pFin
  rw [Bool.eq_iff_iff, List.any_eq_true, List.any_eq_true]
  have key : ∀ p, p ∈ S → ((decide (p ∈ set3 ls 21) = true) ↔ lit (turnedL ls) (18 + p) = true) := fun p hp => by
    rw [decide_eq_true_iff, set3_mem, (turned_end h (hS p hp)).1]
    exact ⟨fun q => q.2, fun q => ⟨hS p hp, q⟩⟩
  exact ⟨fun ⟨o, h1, h2⟩ => ⟨o, h1, (key o h1).mp h2⟩, fun ⟨o, h1, h2⟩ => ⟨o, h1, (key o h1).mpr h2⟩⟩
theorem start_first {ls : List Int} (h : ls.length = 24) : set3 ls 18 = pStart (turnedL ls) := by
  show (List.range 3).filter _ = (List.range 3).filter _
  refine List.filter_congr fun p hp => ?_
  rw [(turned_end h (List.mem_range.mp hp)).2]
theorem filter3_lt {f : Nat → Bool} : ∀ p ∈ [0, 1, 2].filter f, p < 3 := fun p hp => by
  have := (List.mem_filter.mp hp).1
  simp at this; omega
theorem first_go {ls : List Int} : ∀ (w : Word) (S : List Nat), (∀ p ∈ S, p < 3) → go (mStep 3 (nxt1 (laidL ls)) 0) (mStep 3 (nxt1 (laidL ls)) 1) S w = go (pStep (turnedL ls) 0) (pStep (turnedL ls) 1) S w ∧ ∀ p ∈ go (pStep (turnedL ls) 0) (pStep (turnedL ls) 1) S w, p < 3
  | [], S, h => ⟨rfl, h⟩
  | l :: w, S, h => by
    rw [go_cons, go_cons, step_first (by decide) h, step_first (by decide) h]
    refine first_go w _ ?_
    cases l
    · show ∀ p ∈ pStep (turnedL ls) 0 S, p < 3
      exact filter3_lt
    · show ∀ p ∈ pStep (turnedL ls) 1 S, p < 3
      exact filter3_lt
theorem first_rows {ls : List Int} (h : ls.length = 24) : (madeRun 3 (nxt1 (laidL ls)) (set3 ls 18) (set3 ls 21)).rows = (plainRun (turnedL ls)).rows := by
  have hs : ∀ p ∈ pStart (turnedL ls), p < 3 := filter3_lt
  have e1 : (madeRun 3 (nxt1 (laidL ls)) (set3 ls 18) (set3 ls 21)).rows = (bfs (pStep (turnedL ls) 0) (pStep (turnedL ls) 1) (pFin (turnedL ls)) 256 (pStart (turnedL ls))).rows := by
    unfold madeRun
    rw [start_first h]
    refine bfs_like (fun u v => ?_) (fun u => ?_) 256
    · rw [(first_go u _ hs).1, (first_go v _ hs).1]
    · rw [(first_go u _ hs).1, fin_first h (first_go u _ hs).2]
  rw [e1]
  exact congrArg Run.rows (bfs_more (plain_whole (turnedL ls)) 248)
end Mine
end -- B8
section -- B9
set_option tactic.hygienic false
open PySem PySem.W PySem.Calls PyProof.Rows
set_option linter.unusedVariables false
set_option linter.unusedSimpArgs false
set_option autoImplicit false
namespace Mine
/-! the second headers -/
noncomputable def nmA (q : Nat) : Str := tx [112 + q, 65, 112 + q, 65]
noncomputable def hdr2 : Nat → List Row → List (Str × Str)
  | _, [] => []
  | k, r :: rs => (nameT 0 r.1, letterS k) :: (nmA r.2.1, letterS k) :: hdr2 (k + 1) rs
theorem hdr2_snoc (r : Row) : ∀ (rs : List Row) (k : Nat), hdr2 k (rs ++ [r]) = hdr2 k rs ++ [(nameT 0 r.1, letterS (k + rs.length)), (nmA r.2.1, letterS (k + rs.length))]
  | [], k => rfl
  | v :: rs, k => by
    have e : k + 1 + rs.length = k + (rs.length + 1) := by omega
    simp only [List.cons_append, hdr2, hdr2_snoc r rs (k + 1), List.length_cons, e]
theorem hdr2_len : ∀ (rs : List Row) (k : Nat), (hdr2 k rs).length = 2 * rs.length
  | [], _ => rfl
  | _ :: rs, k => by simp only [hdr2, List.length_cons, hdr2_len rs]; omega
set_option maxRecDepth 100000 in
theorem nmA_ok : ∀ q, q < 8 → nmA q ∈ okTexts ∧ Txt.lower (nmA q) = nameT 1 q ∧ (nmA q).length ≤ 1000 ∧ Txt.lower (nameT 0 q) = nameT 0 q ∧ (nameT 0 q).length ≤ 1000 := by decide +kernel
theorem hdr2_ok : ∀ (rs : List Row) (k : Nat), (∀ r ∈ rs, r.1 < 8 ∧ r.2.1 < 8) → ∀ h ∈ hdr2 k rs, h.1.length ≤ 1000 ∧ SeqAt.shaped (.str (Txt.lower h.1)) = true
  | [], _, _, h, hh => by simp [hdr2] at hh
  | r :: rs, k, hr, h, hh => by
    obtain ⟨h1, h2⟩ := hr r List.mem_cons_self
    simp only [hdr2, List.mem_cons] at hh
    rcases hh with rfl | rfl | hh
    · obtain ⟨_, _, _, a4, a5⟩ := nmA_ok r.1 h1
      exact ⟨a5, by rw [a4]; exact (nameT_ok 0 (by decide) r.1 h1).2⟩
    · obtain ⟨_, a2, a3, _, _⟩ := nmA_ok r.2.1 h2
      exact ⟨a3, by rw [a2]; exact (nameT_ok 1 (by decide) r.2.1 h2).2⟩
    · exact hdr2_ok rs (k + 1) (fun v hv => hr v (List.mem_cons_of_mem _ hv)) h hh
noncomputable def selN (l : Nat) (r : Row) : Nat := if l = 0 then r.1 else r.2.1
noncomputable def nxt2 (rows : List Row) (l q : Nat) : List Nat := (List.range rows.length).filter fun p => selN l (rowAt rows p) == q
theorem rowAt_cons {r : Row} {rs : List Row} {p : Nat} : rowAt (r :: rs) (p + 1) = rowAt rs p := by unfold rowAt; simp
theorem nxt2_cons {r : Row} {rs : List Row} {l q : Nat} : nxt2 (r :: rs) l q = (if selN l r == q then [0] else []) ++ (nxt2 rs l q).map (· + 1) := by
  unfold nxt2
  rw [List.length_cons, List.range_succ_eq_map, List.filter_cons, List.filter_map]
  have e : ((fun p => selN l (rowAt (r :: rs) p) == q) ∘ Nat.succ) = fun p => selN l (rowAt rs p) == q := by
    funext p
    show (selN l (rowAt (r :: rs) (p + 1)) == q) = _
    rw [rowAt_cons]
  rw [e]
  have e0 : rowAt (r :: rs) 0 = r := rfl
  rw [e0]
  split <;> rfl
theorem hdr2_tell {l q : Nat} (hl : l < 2) (hq : q < 8) : ∀ (rs : List Row) (k : Nat), (∀ r ∈ rs, r.1 < 8 ∧ r.2.1 < 8) → tellsOf (hdr2 k rs) (nameT l q) = ((nxt2 rs l q).map (k + ·)).map fun j => .str (letterS j)
  | [], _, _ => rfl
  | r :: rs, k, hr => by
    have ih := hdr2_tell hl hq rs (k + 1) fun v hv => hr v (List.mem_cons_of_mem _ hv)
    obtain ⟨h1, h2⟩ := hr r List.mem_cons_self
    obtain ⟨_, _, _, a4, _⟩ := nmA_ok r.1 h1
    obtain ⟨_, b2, _, _, _⟩ := nmA_ok r.2.1 h2
    rw [nxt2_cons]
    unfold tellsOf at ih ⊢
    simp only [hdr2, List.filter_cons, a4, b2]
    have em : ((nxt2 rs l q).map (· + 1)).map (k + ·) = (nxt2 rs l q).map (k + 1 + ·) := by
      rw [List.map_map]; refine List.map_congr_left fun p _ => ?_; show k + (p + 1) = k + 1 + p; omega
    have eq0 : (nameT 0 r.1 == nameT l q) = (decide (l = 0) && (r.1 == q)) := by
      by_cases h : l = 0 ∧ r.1 = q
      · obtain ⟨rfl, e⟩ := h; rw [e]; simp
      · have : (nameT 0 r.1 == nameT l q) = false := by
          rw [beq_eq_false_iff_ne]; intro e
          have := nameT_inj 0 (by decide) _ h1 _ hl _ hq e
          exact h ⟨this.1.symm, this.2⟩
        rw [this]
        by_cases h0 : l = 0
        · have : ¬ r.1 = q := fun e => h ⟨h0, e⟩
          simp [this]
        · simp [h0]
    have eq1 : (nameT 1 r.2.1 == nameT l q) = (!decide (l = 0) && (r.2.1 == q)) := by
      by_cases h : l = 1 ∧ r.2.1 = q
      · obtain ⟨rfl, e⟩ := h; rw [e]; simp
      · have : (nameT 1 r.2.1 == nameT l q) = false := by
          rw [beq_eq_false_iff_ne]; intro e
          have := nameT_inj 1 (by decide) _ h2 _ hl _ hq e
          exact h ⟨this.1.symm, this.2⟩
        rw [this]
        by_cases h0 : l = 0
        · simp [h0]
        · have : ¬ r.2.1 = q := fun e => h ⟨by omega, e⟩
          simp [this]
    rw [eq0, eq1]
    unfold selN
    by_cases h0 : l = 0
    · simp only [h0, decide_true, Bool.true_and, Bool.not_true, Bool.false_and, Bool.false_eq_true, if_false, if_true, List.map_append]
      rw [h0] at ih em
      rw [em, ← ih]
      by_cases hr1 : r.1 = q
      · rw [hr1]; simp
      · have : (r.1 == q) = false := beq_eq_false_iff_ne.mpr hr1
        rw [this]; simp
    · simp only [h0, decide_false, Bool.false_and, Bool.not_false, Bool.true_and, Bool.false_eq_true, if_false, List.map_append]
      rw [em, ← ih]
      by_cases hr1 : r.2.1 = q
      · rw [hr1]; simp
      · have : (r.2.1 == q) = false := beq_eq_false_iff_ne.mpr hr1
        rw [this]; simp
theorem nxt2_lt {rows : List Row} {l q j : Nat} (h : j ∈ nxt2 rows l q) : j < rows.length := List.mem_range.mp (List.mem_filter.mp h).1

/-! the second reckoning -/
theorem step_second {rows : List Row} (b : Bool) : mStep rows.length (nxt2 rows) (if b then 1 else 0) = sStep rows b := by
  funext S
  unfold mStep sStep
  refine List.filter_congr fun j hj => ?_
  rw [Bool.eq_iff_iff, List.any_eq_true]
  have hsel : selN (if b = true then 1 else 0) (rowAt rows j) = selR b (rowAt rows j) := by cases b <;> rfl
  constructor
  · rintro ⟨p, h1, h2⟩
    rw [decide_eq_true_iff] at h2
    have := (List.mem_filter.mp h2).2
    rw [beq_iff_eq, hsel] at this
    rw [this]; exact List.contains_iff_mem.mpr h1
  · intro h
    refine ⟨_, List.contains_iff_mem.mp h, ?_⟩
    rw [decide_eq_true_iff]
    exact List.mem_filter.mpr ⟨hj, by rw [hsel]; exact beq_self_eq_true _⟩
theorem fin_second : mFin [0] = sFin := by
  funext S
  unfold mFin sFin
  rw [Bool.eq_iff_iff, List.any_eq_true, List.contains_iff_mem]
  constructor
  · rintro ⟨p, h1, h2⟩
    have : p = 0 := by simpa using h2
    exact this ▸ h1
  · intro h; exact ⟨0, h, by simp⟩
theorem second_run (rows : List Row) : madeRun rows.length (nxt2 rows) (sStart rows) [0] = secondRun rows := by
  unfold madeRun secondRun
  have h0 : mStep rows.length (nxt2 rows) 0 = sStep rows false := step_second false
  have h1 : mStep rows.length (nxt2 rows) 1 = sStep rows true := step_second true
  rw [h0, h1, fin_second]
theorem start_set (rows : List Row) : SetN rows.length (sStart rows) := SetN.of _ _
theorem start_bits (rows : List Row) : bitsN rows.length (sStart rows) = kinds0 rows := by
  apply List.ext_getElem?
  intro p
  by_cases hp : p < rows.length
  · rw [bitsN_get hp]
    unfold kinds0
    rw [List.getElem?_map, List.getElem?_eq_getElem hp]
    have hm : p ∈ sStart rows ↔ (rowAt rows p).2.2 = true := by
      unfold sStart; rw [List.mem_filter, List.mem_range]; exact ⟨fun h => h.2, fun h => ⟨hp, h⟩⟩
    have hr : rowAt rows p = rows[p] := by unfold rowAt; rw [List.getElem?_eq_getElem hp]; rfl
    rw [hr] at hm
    by_cases h : rows[p].2.2 = true
    · rw [if_pos (hm.mpr h)]; simp [h]
    · rw [if_neg fun q => h (hm.mp q)]; simp [h]
  · rw [List.getElem?_eq_none (by rw [bitsN_len]; omega), List.getElem?_eq_none (by simp [kinds0]; omega)]
theorem enc_one {n N : Nat} (hN : 1 ≤ N) : enc n N [0] = 1 := by
  obtain ⟨k, rfl⟩ : ∃ k, N = k + 1 := ⟨N - 1, by omega⟩
  unfold enc bitsN
  rw [List.range_succ_eq_map, List.map_cons, e2n]
  have : e2n n ((List.map Nat.succ (List.range k)).map fun p => if p ∈ [0] then 1 else 0) = 0 := by
    rw [e2n_zero]
    intro x hx
    obtain ⟨y, hy, rfl⟩ := List.mem_map.mp hx
    obtain ⟨z, _, rfl⟩ := List.mem_map.mp hy
    simp
  rw [this]; simp
/-- the sum of the bits, place by place -/
noncomputable def sumL (n : Nat) : Nat → List Row → List Int
  | _, [] => []
  | k, r :: rs => (if r.2.2 then 1 else 0) * 2 ^ (n * k) :: sumL n (k + 1) rs
theorem sumL_sum (n : Nat) : ∀ (rs : List Row) (k : Nat), (sumL n k rs).sum = (e2n n (kinds0 rs) : Int) * 2 ^ (n * k)
  | [], k => by simp [sumL, kinds0, e2n]
  | r :: rs, k => by
    have ih := sumL_sum n rs (k + 1)
    have e : kinds0 (r :: rs) = (if r.2.2 then 1 else 0) :: kinds0 rs := rfl
    rw [e]
    simp only [sumL, List.sum_cons, ih, e2n]
    have hp : (2 : Int) ^ (n * (k + 1)) = 2 ^ n * 2 ^ (n * k) := by rw [Nat.mul_add, Nat.mul_one, Int.pow_add, Int.mul_comm]
    rw [hp]
    cases r.2.2 <;> simp [Int.add_mul, Int.mul_assoc]

/-! shapes -/
theorem eqv_rows : ∀ rs : List Row, PyData.eqvAll (rs.map rowD) (rs.map rowD) = true
  | [] => rfl
  | r :: rs => by simp [PyData.eqvAll, PyData.eqv, rowD, eqv_rows rs]
theorem eqv_rowsD (rs : List Row) : (rowsD rs).eqv (rowsD rs) = true := eqv_rows rs
theorem shaped_rows (rs : List Row) : SeqAt.shaped (rowsD rs) = true := by
  have h1 : ∀ rs : List Row, PyData.canLayAll0 (rs.map rowD) = true := by
    intro rs
    induction rs with
    | nil => rfl
    | cons r rs ih => simp [PyData.canLayAll0, PyData.canLay0, rowD, ih]
  have h2 : ∀ rs : List Row, PyData.depthAll (rs.map rowD) ≤ 1 := by
    intro rs
    induction rs with
    | nil => simp [PyData.depthAll]
    | cons r rs ih => simp [PyData.depthAll, PyData.depth, rowD]; omega
  unfold SeqAt.shaped
  have := h2 rs
  simp [PyData.canLay0, PyData.depth, h1]; omega
noncomputable def lettersD (js : List Nat) : PyData := .list (js.map fun j => .str (letterS j))
theorem letters_eqv : ∀ js : List Nat, PyData.eqvAll (js.map fun j => PyData.str (letterS j)) (js.map fun j => PyData.str (letterS j)) = true
  | [] => rfl
  | j :: js => by simp [PyData.eqvAll, PyData.eqv, letters_eqv js]
theorem told_eqv : ∀ L : List (List Nat), PyData.eqvAll (L.map lettersD) (L.map lettersD) = true
  | [] => rfl
  | js :: L => by simp [PyData.eqvAll, PyData.eqv, lettersD, letters_eqv js, told_eqv L]
theorem told_shaped {L : List (List Nat)} (h : ∀ js ∈ L, ∀ j ∈ js, j < 8) : SeqAt.shaped (.list (L.map lettersD)) = true := by
  have h0 : ∀ js : List Nat, (∀ j ∈ js, j < 8) → PyData.canLayAll0 (js.map fun j => PyData.str (letterS j)) = true ∧ PyData.depthAll (js.map fun j => PyData.str (letterS j)) = 0 := by
    intro js
    induction js with
    | nil => intro _; exact ⟨rfl, rfl⟩
    | cons j js ih =>
      intro h
      obtain ⟨h1, h2⟩ := ih fun k hk => h k (List.mem_cons_of_mem _ hk)
      have h3 := (Bool.and_eq_true_iff.mp (letter_ok j (h j List.mem_cons_self)).2).1
      simp only [List.map_cons, PyData.canLayAll0, PyData.depthAll, h1, h2, h3]
      exact ⟨rfl, rfl⟩
  have h1 : PyData.canLayAll0 (L.map lettersD) = true ∧ PyData.depthAll (L.map lettersD) ≤ 1 := by
    induction L with
    | nil => exact ⟨rfl, Nat.zero_le _⟩
    | cons js L ih =>
      obtain ⟨i1, i2⟩ := ih fun k hk => h k (List.mem_cons_of_mem _ hk)
      obtain ⟨g1, g2⟩ := h0 js (h js List.mem_cons_self)
      simp only [List.map_cons, PyData.canLayAll0, PyData.depthAll, i1, lettersD, PyData.canLay0, PyData.depth, g1, g2]
      exact ⟨rfl, by omega⟩
  unfold SeqAt.shaped
  have := h1.2
  simp [PyData.canLay0, PyData.depth, h1.1]; omega
end Mine
end -- B9
section -- Fw31
set_option tactic.hygienic false
open PySem PySem.W PySem.Calls PyProof.Rows
set_option linter.unusedVariables false
set_option linter.unusedSimpArgs false
set_option autoImplicit false
namespace Mine
section
variable {c : Cx} {d : Nat} {sc : Sc} {ρ : List (Option V)} {σ : List (List PyData)}

/-- names, when a frame's own marks turn -/
theorem Loc.slots {env : Env} {A : Around} {φ φ' : Phi} {X : List Addr} {s s' : Shared} (L : Loc env sc ρ φ X s.heap) (O : Ok c d env sc A X) (R : Rel c φ X σ s) (x : Step φ φ' [env.locals] s s')
    (hsl : ∀ o, s.heap.get? env.locals = some o → ∃ sl, s'.heap.get? env.locals = some { o with slots := sl }) : Loc env sc ρ φ' X s'.heap := by
  have hW : ∀ a ∈ [env.locals], a ∈ X := fun a ha => by rw [List.mem_singleton.mp ha]; exact O.o _ List.mem_cons_self
  refine ⟨L.len, ?_, fun k y kd e1 e2 => ?_⟩
  · obtain ⟨m, ⟨o, es, ep, e, hd, r⟩, h2⟩ := L.ns
    obtain ⟨sl, e'⟩ := hsl o e
    refine ⟨m, ⟨_, es, ep, e', hd, r⟩, fun k y v q1 q2 => ?_⟩
    obtain ⟨cv, q3, q4⟩ := h2 k y v q1 q2
    exact ⟨cv, q3, q4.step x hW (fun a h _ => h)⟩
  · obtain ⟨a, ov, q1, ⟨o, q2, q2'⟩, q0, q3⟩ := L.cl k y kd e1 e2
    have hne : a ≠ env.locals := fun e => O.e.lc (e ▸ List.mem_map.mpr ⟨(y, a), PySem.mem_of_lookup q1, rfl⟩)
    refine ⟨a, ov, q1, ⟨o, x.keep a o q2 q0 (fun q => hne (List.mem_singleton.mp q)) (L.notab (.inr ⟨k, y, kd, e1, e2, q1⟩) R.tbs), q2'⟩, fun q => ?_, fun v e3 => ?_⟩
    · have := (x.fresh a q q0).2; rw [this] at q2; cases q2
    · obtain ⟨cv, q4, q5⟩ := q3 v e3
      exact ⟨cv, q4, q5.step x hW (fun a h _ => h)⟩

theorem name_glob {env : Env} {A A' : Around} {X : List Addr} {s : Shared} {x : Str} {pos : Pos} {v : Value} {Q : Value → Shared → Prop} {E : Value → Shared → Prop} (O : Ok c d env sc A' X) (hb : ∀ b o, c.base.get? b = some o → s.heap.get? b = some o) (e : nsIn c.K mainGlobals x = some (some v)) (p : Q v s) (hk : sc.names.lookup x = some .globalImplicit := by rfl) (hd : (x == ("__debug__" : Str)) = false := by rfl) :
    wpAny (model c.prog c.w) A (eval (.Name x pos) env) Q E s := by
  have G : s.heap.Ns mainGlobals c.mg := O.c.T.g.keeps hb
  rw [← O.e.gl] at G
  exact Name_function_global (by rw [O.e.s]; exact O.e.fn) (by unfold Env.kindOf; rw [O.e.s]; exact hk) (loadGlobal_global G (mg_of O.c.X O.c.T.g e) p) hd

/-- the first call of all: from here on a token has been given out -/
theorem call_first {f : Addr} {o : Obj} {fd : FuncData} {body : List Stmt} {vs : List V} {ps : List Str} {P : V → List (List PyData) → Prop} {A : Around} {X : List Addr} {φ : Phi} {s : Shared} {cvs : List Value} {Q : Value → Shared → Prop} {E : Value → Shared → Prop}
    (hK : c.K.lookup f = some o) (hd : o.data = .func fd) (hco : fd.scope.isCoroutine = false) (hgen : fd.scope.isGenerator = false) (hk : fd.scope.kind = .function) (hbody : fd.body = .stmts body) (hcd : codeIn c.K fd.code fd.qualname = true)
    (hgl : fd.globals = mainGlobals) (hbu : fd.builtins = builtinsNs) (hcl : fd.closure = [])
    (hnd : (fd.scope.names.map (·.1)).Nodup) (hps : ps.Nodup) (hpk : (ps.all fun x => fd.scope.names.lookup x == some .local) = true) (hnc : (fd.scope.names.all fun x => x.2 != .cell && x.2 != .free) = true)
    (hb : ∀ cvs : List Value, cvs.length = vs.length → bindArgs fd ⟨cvs, []⟩ = pure (ps.zip cvs)) (hone : 1 ≤ ps.length ∧ 1 ≤ vs.length)
    (C : c.Ok) (a : AOk A (d + 1)) (R : Rel c φ X σ { s with toks := s.toks + 1 }) (rv : VReps s.heap φ X vs cvs)
    (h : TFin c d body (fnSc fd.scope) (rho0 fd.scope ps vs) σ fun fl σ' => P (fz σ.length σ' (retV fl)) (σ'.take σ.length))
    (K : Cont c X φ { s with toks := s.toks + 1 } P Q) : wpAny (model c.prog c.w) A (call (.ref f) cvs []) Q E s := by
  refine wpAny_call ?_
  have old : ∀ b o, c.base.get? b = some o → s.heap.get? b = some o := fun b o e => (R.bs b o e).1
  have hown0 : cellNames fd.scope = [] := by
    unfold cellNames
    rw [List.map_eq_nil_iff, List.filter_eq_nil_iff]
    intro n hn
    have := List.all_eq_true.mp hnc n hn
    simp at this ⊢
    exact this.1
  refine codeAny_call_function a.room (old f o (C.X f o hK)) hd hco hgen hbody ((codeRec_of C.X hcd).keeps old) ?_
  show wpAny _ A.in1 (bindArgs fd ⟨cvs, []⟩) _ _ s
  rw [hb cvs rv.length_eq]
  refine wpAny_pure (wpAny_newFunctionEnv (fun x hx => ?_) (fun x hx => ?_) (fun h₁ hns hsb => ?_) hk)
  · have := List.all_eq_true.mp hnc x hx
    simp at this; exact this.1
  · have := List.all_eq_true.mp hpk x.1 (List.of_mem_zip hx).1
    simpa using this
  generalize htk : s.toks + (ps.zip cvs).length = tk₁
  have ht₁ : s.toks + 1 ≤ tk₁ := by
    rw [← htk, List.length_zip, rv.length_eq]
    have h1 := hone.1
    have h2 := hone.2
    omega
  generalize he : newEnv fd.scope s.heap.objs.size fd.globals fd.closure (fd.qualname ++ ".<locals>.") (some f) fd.code none fd.builtins = env
  have hL : env.locals = s.heap.objs.size := by rw [← he]; rfl
  have hcells : env.cells = [] := by rw [← he]; exact hcl
  have hk₁ : ∀ b o, s.heap.get? b = some o → h₁.get? b = some o := fun b o e => hsb.extBut b o (Nat.ne_of_lt (Heap.lt_size e)) (Heap.get?_push_of_some _ e)
  have hown : own env (fnSc fd.scope) = [env.locals] := by
    show env.locals :: (cellNames fd.scope).filterMap _ = _
    rw [hown0]; rfl
  have hfresh : ∀ b ∈ own env (fnSc fd.scope), s.heap.get? b = none := fun b hb => by
    rw [hown, List.mem_singleton] at hb
    rw [hb, hL]; exact get_none (Nat.le_refl _)
  rw [← hL] at hns
  have R₁ : Rel c φ (own env (fnSc fd.scope) ++ X) σ { s with heap := h₁, toks := tk₁ } := R.growX hk₁ hfresh (fun b hb => by
    rw [hown, List.mem_singleton] at hb
    rw [hb]; exact Heap.Ns.is hns) ht₁
  have O : Ok c d env (fnSc fd.scope) (A.deeper env) (own env (fnSc fd.scope) ++ X) := by
    refine ⟨C, a.deeper env, ⟨by rw [← he]; rfl, hk, hnd, by rw [← he]; exact hgl, by rw [← he]; exact hbu, by rw [hcells]; exact List.Pairwise.nil, fun q => ?_⟩, fun b hb => List.mem_append.mpr (.inl hb)⟩
    rw [hcells] at q; cases q
  have rws : VReps h₁ φ (own env (fnSc fd.scope) ++ X) vs cvs := rv.mono (List.prefix_refl _) .refl fun b o e => cut_growX hk₁ hfresh e
  have L : Loc env (fnSc fd.scope) (rho0 fd.scope ps vs) φ (own env (fnSc fd.scope) ++ X) h₁ := by
    refine ⟨by unfold rho0; rw [List.length_map], ⟨_, hns, fun k y v e1 e2 => ?_⟩, fun k y kd e1 e2 => ?_⟩
    · have e1' : fd.scope.names[k]? = some (y, .local) := e1
      have e3 : (ps.zip vs).lookup y = some v := by
        unfold rho0 at e2
        rw [List.getElem?_map, e1'] at e2
        simpa using e2
      obtain ⟨cv, q1, q2⟩ := zip_get rws e3
      refine ⟨cv, ?_, q2⟩
      obtain ⟨i, hi⟩ := List.mem_iff_getElem?.mp (List.mem_reverse.mpr q1)
      refine lookup_of_get ?_ hi
      rw [List.map_reverse]
      exact List.pairwise_reverse.mpr ((zip_keys hps).imp fun q => Ne.symm q)
    · have e1' : fd.scope.names[k]? = some (y, kd) := e1
      have := List.all_eq_true.mp hnc (y, kd) (List.mem_of_getElem? e1')
      rcases e2 with q | q <;> (rw [q] at this; cases this)
  have nolim : h₁.NoLimit := by
    obtain ⟨mc, ⟨o, es, ep, ho, r⟩, q⟩ := C.T.nolimit
    exact ⟨mc, ⟨o, es, ep, hk₁ _ _ (R.bs _ _ ho).1, r⟩, q⟩
  refine ⟨nolim, codeAny_func ?_⟩
  refine h env (A.deeper env) (own env (fnSc fd.scope) ++ X) φ _ _ _ O R₁ L fun fl fc φ₂ σ₂ s₂ X₂ hX₁ hX₂ x₂ R₂ r₂ p => ?_
  have hXX : ∀ a ∈ X, a ∈ X₂ := fun a ha => Classical.byContradiction fun hn => by
    have h1 := hX₂ a (List.mem_append.mpr (.inr ha)) hn
    obtain ⟨o, e⟩ := R.xs a ha
    replace e : s.heap.get? a = some o := e
    rw [hfresh a h1] at e; cases e
  have hφ : φ₂.l.take σ.length = φ.l := by
    obtain ⟨t, ht⟩ := x₂.pre
    rw [← ht, ← R.len, List.take_left]
  have hφ' : (φ₂.take σ.length).l = φ.l := hφ
  have R₃ := R₂.cutTo hXX σ.length (by rw [hφ']; exact R.pl) fun b hb => (R.tb b hb).1
  have x₃ : Step φ (φ₂.take σ.length) [] { s with toks := s.toks + 1 } s₂ := by
    refine ⟨by rw [hφ']; exact List.prefix_refl _, fun b o e h1 _ h9 => ?_, fun a h1 h2 => absurd (hφ' ▸ h1) h2, fun b o e => ?_, x₂.tau⟩
    · refine x₂.keep b o (hk₁ _ _ e) h1 (fun q => ?_) h9
      replace e : s.heap.get? b = some o := e
      rw [hfresh b q] at e; cases e
    · exact x₂.alive b o (hk₁ _ _ e)
  have rr := R₂.fzFl hXX (n := σ.length) (fl := fl) (f := fc) r₂
  have fin := K _ (retC fc) _ _ s₂ x₃ R₃ rr p
  cases fc <;> exact fin
/-- the first b of the eight letters -/
theorem slice_idx : ∀ k : Nat, k < 9 → Builtin.Str.strSliceIndices none (some (k : Int)) 1 8 = List.range k := by decide
theorem slice_pick : ∀ k : Nat, k < 9 → (⟨((List.range k).filterMap ((namesS 8).cps[·]?)).toArray⟩ : Str) = namesS k := by decide +kernel
theorem slice_names {k : Nat} (hk : k < 9) (t u : Tok) : sliceMade (namesS 8) t none (some ((k : Int), u)) none = if k = 8 then .val (.str (namesS 8) t) else .str (namesS k) := by
  have e : slicePicked (namesS 8) none (some ((k : Int), u)) none = List.range k := slice_idx k hk
  unfold sliceMade
  rw [e, List.length_range, slice_pick k hk]
  by_cases h : k = 8
  · subst h; rfl
  · have : (k == (namesS 8).length) = false := beq_eq_false_iff_ne.mpr (by show k ≠ 8; exact h)
    rw [this, if_neg h, if_neg (by simp)]
theorem TV2.subNames {value : Expr} {l u : Option Expr} {pos : Pos} {b : Nat} {P : V → List (List PyData) → Prop} (hb : b ≤ 8) (p : P (.d (.str (namesS b))) σ) :
    TV2 c d (subscriptTail value (.Slice l u none pos)) (.d (.str (namesS 8))) (.slc none (some b)) σ P := by
  intro A X φ s ca cb Q E C aok R ra rb K
  have ra' := ra
  obtain ⟨t, rfl⟩ := ra.str_inv
  obtain ⟨sl, lo, hi, rfl, h1, h2, os, hs1, hs2, hs3⟩ := rb
  cases lo with
  | some q => cases h1
  | none =>
    cases hi with
    | none => cases h2
    | some q =>
      obtain ⟨i, ti⟩ := q
      obtain rfl : (b : Int) = i := by simpa using h2
      refine tail_any (typeIs_str s (namesS 8) t) F.slot_str_getitem.lookup (wpAny_getItem_str_slice (l := none) (u := some ((b : Int), ti)) (st := none) ⟨os, cut_sub hs1, hs2, hs3⟩ rfl ?_) (subscripted_slice _ _)
      rw [slice_names (by omega)]
      by_cases h8 : b = 8
      · subst h8
        rw [if_pos rfl]
        exact K.here R ra' p
      · rw [if_neg h8]
        exact ⟨by rw [names_len, sizeLine_eq]; omega, K.strN R p⟩
end
end Mine
end -- Fw31
section -- G16
set_option tactic.hygienic false
open PySem PySem.W PySem.Calls PyProof.Rows
set_option linter.unusedVariables false
set_option linter.unusedSimpArgs false
set_option autoImplicit false
namespace Mine
section
variable {w : World} {base : Heap} {s0 : Shared} {loose : List Str} {mean : ExcName → Option Value} {mg mb : Str → Option Value} {pin : Phi} {d : Nat} {σ : List (List PyData)} {P : V → List (List PyData) → Prop}
set_option maxRecDepth 100000 in
theorem lamps_first {A : Around} {X : List Addr} {φ : Phi} {s : Shared} {ns : List Int} {cvs : List Value} {Q : Value → Shared → Prop} {E : Value → Shared → Prop} (hn : ns.length ≤ 63) (p : P (.d (.list ((lampsOf ns).map .int))) σ)
    (C : (cx w base s0 loose mean mg mb pin).Ok) (a : AOk A (d + 1)) (R : Rel (cx w base s0 loose mean mg mb pin) φ X σ { s with toks := s.toks + 1 }) (rv : VReps s.heap φ X [.w (.list (ns.map .int))] cvs)
    (K : Cont (cx w base s0 loose mean mg mb pin) X φ { s with toks := s.toks + 1 } P Q) : wpAny (model (cx w base s0 loose mean mg mb pin).prog w) A (call (.ref 242) cvs []) Q E s := by
  have KX : (hd.heap_39 w.params).In base → True := fun _ => trivial
  have PP : PySem.Challenge.rw_wc0014_01.prog = PySem.Challenge.rw_wc0014_01.prog := rfl
  revert KX PP; k_fill; intro KX PP
  refine call_first (hK := by show List.lookup 242 (hd.heap_39 w.params) = _; k_is) rfl rfl rfl rfl rfl ?hcd rfl rfl rfl ?hnd (ps := [Str.ofString "script"]) ?hps ?hpk ?hnc ?hb ⟨Nat.le_refl _, Nat.le_refl _⟩ C a R rv ?hmain K
  case hcd => show codeIn (hd.heap_39 w.params) _ _ = true; k_is
  case hnd => decide
  case hps => decide
  case hpk => decide
  case hnc => decide
  case hb =>
    intro cvs hl
    obtain ⟨x0, rfl⟩ := len1 hl
    rfl
  case hmain =>
    refine TFin.of ?_
    refine TSS.cons ?_
    refine TS.assignN ?_
    refine TE.listT ?_
    refine TEs.ints (is := lampInit) ?_ ?_
    · simp only [intConsts, Option.map_some, lampInit]
    refine ⟨lampInit.map .int, by rw [List.map_map]; rfl, by decide, ?_⟩
    refine TA.loc 1 ?_
    refine TSS.cons ?_
    refine TS.for_ ?_
    refine TIter.of ?_
    refine TE.sub ?_
    refine TE.loc 0 rfl ?_
    refine TE.slice0u ?_
    refine TE.int ⟨_, _, rfl, ?_⟩
    refine TV2.subLS0 (b := 60) (by simp; omega) ⟨_, _, _, TItr.list (.inl rfl), ?_⟩
    refine TLoop.indN (fun ys ρ' σ' => ∃ (zs ms : List Int) (v2 v3 : Option V), ys = zs.map .int ∧ ρ' = [some (.w (.list (ns.map .int))), some (.r σ.length), v2, v3] ∧ σ' = σ ++ [ms.map .int] ∧ ms.length = 24 ∧ zs.foldl lampStep ms = lampsOf ns) ?_ ?_
      ⟨ns.take 60, lampInit, none, none, by rw [List.map_take], rfl, rfl, rfl, rfl⟩
    · rintro ρ' σ' ⟨zs, ms, v2, v3, hz, rfl, rfl, hl, hf⟩
      intro P1 hP1
      have : zs = [] := by cases zs with | nil => rfl | cons _ _ => simp at hz
      subst this
      refine TSS.nil (hP1 _ _ _ ?_)
      refine TSS.one ?_
      refine TS.ret ?_
      refine TE.loc 1 rfl ?_
      have hf' : ms = lampsOf ns := hf
      rw [hf']
      have e : fz σ.length (σ ++ [(lampsOf ns).map PyData.int]) (.r σ.length) = .d (.list ((lampsOf ns).map .int)) := fz_r_ge (Nat.lt_irrefl _) (by simp)
      show P (fz σ.length (σ ++ [(lampsOf ns).map PyData.int]) (.r σ.length)) _
      rw [e, List.take_left]
      exact p
    · rintro x xs ρ' σ' ⟨zs, ms, v2, v3, hz, rfl, rfl, hl, hf⟩
      intro N1 P1 hN1 hP1
      cases zs with
      | nil => simp at hz
      | cons z zs =>
        simp only [List.map_cons, List.cons.injEq] at hz
        obtain ⟨rfl, rfl⟩ := hz
        refine TA.loc 2 ?_
        refine TSS.one ?_
        refine TS.for_ ?_
        refine TIter.of ?_
        refine TE.list ?_
        refine TEs.cons ?_
        refine TE.loc 2 rfl ?_
        refine TEs.cons ?_
        refine TE.weak ?_
        refine TE.binop ?_
        refine TE.loc 2 rfl ?_
        refine TE.int ?_
        refine TV2.divII (by decide) (noPylong _ (by decide)) ⟨_, _, rfl, ?_⟩
        refine TEs.cons ?_
        refine TE.weak ?_
        refine TE.binop ?_
        refine TE.loc 2 rfl ?_
        refine TE.int ?_
        refine TV2.divII (by decide) (noPylong _ (by decide)) ⟨_, _, rfl, ?_⟩
        refine TEs.nil ⟨true, [z, z.fdiv 24, z.fdiv 576].map .int, rfl, by simp, _, _, _, TItr.list (.inl rfl), ?_⟩
        refine TLoop.indN (fun ys ρ' σ' => ∃ (ps ms' : List Int) (v3 : Option V), ys = ps.map .int ∧ ρ' = [some (.w (.list (ns.map .int))), some (.r σ.length), some (.w (.int z)), v3] ∧ σ' = σ ++ [ms'.map .int] ∧ ms'.length = 24 ∧ ps.foldl flipL ms' = lampStep ms z) ?_ ?_
          ⟨[z, z.fdiv 24, z.fdiv 576], ms, v3, rfl, rfl, rfl, hl, rfl⟩
        · rintro ρ' σ' ⟨ps, ms', v3, hz, rfl, rfl, hl', hf'⟩
          intro P2 hP2
          have : ps = [] := by cases ps with | nil => rfl | cons _ _ => simp at hz
          subst this
          have hf'' : ms' = lampStep ms z := hf'
          exact TSS.nil (hP2 _ _ _ ⟨trivial, hN1 _ _ ⟨zs, ms', _, v3, rfl, rfl, rfl, hl', by rw [hf'']; exact hf⟩⟩)
        · rintro x xs ρ' σ' ⟨ps, ms', v3, hz, rfl, rfl, hl', hf'⟩
          intro N2 P2 hN2 hP2
          cases ps with
          | nil => simp at hz
          | cons q ps =>
            simp only [List.map_cons, List.cons.injEq] at hz
            obtain ⟨rfl, rfl⟩ := hz
            obtain ⟨h0, h1⟩ := fmod24 q
            have hk : (q.fmod 24).toNat < ms'.length := by rw [hl']; omega
            have hs : (σ ++ [ms'.map PyData.int])[σ.length]? = some (ms'.map .int) := by simp
            refine TA.loc 3 ?_
            refine TSS.one ?_
            refine TS.assign ?_
            refine TE.binop ?_
            refine TE.int ?_
            refine TE.sub ?_
            refine TE.loc 1 rfl ?_
            refine TE.binop ?_
            refine TE.loc 3 rfl ?_
            refine TE.int ?_
            refine TV2.modII (by decide) ?_
            refine TV2.subRI hs h0 (by omega) (x := .int (ms'[(q.fmod 24).toNat])) (by simp [hk]) ?_
            refine TV2.subII ?_
            refine TA.sub ?_
            refine TE.loc 1 rfl ?_
            refine TE.binop ?_
            refine TE.loc 3 rfl ?_
            refine TE.int ?_
            refine TV2.modII (by decide) ?_
            refine ⟨_, _, false, (q.fmod 24).toNat, rfl, ?_, hs, by simpa using hk, by simp; omega, ?_⟩
            · rw [Int.toNat_of_nonneg h0]
            refine ⟨trivial, hN2 _ _ ⟨ps, flipL ms' q, _, rfl, rfl, ?_, by rw [flipL_length]; exact hl', hf'⟩⟩
            rw [List.set_append_right _ _ (Nat.le_refl _), Nat.sub_self]
            simp [flipL, List.map_set, hk]

end
end Mine
end -- G16
section -- Fw32
set_option tactic.hygienic false
open PySem PySem.W PySem.Calls PyProof.Rows
set_option linter.unusedVariables false
set_option linter.unusedSimpArgs false
set_option autoImplicit false
namespace Mine
theorem swapsSole_name {x : Str} {px : Pos} {value : Expr} {line : Nat} (env : Env) (hc : isComp value = false := by rfl) : swapsWithSole [.Name x px] value line env = pure false := swapsWith_noComp hc (some (.Name x px)) line env
theorem rngL_at : ∀ (n : Nat) (a : Int), rngL a n = (List.range n).map fun i : Nat => PyData.int (a + (i : Int))
  | 0, a => rfl
  | n + 1, a => by
    rw [rngL, rngL_at n (a + 1), List.range_succ_eq_map, List.map_cons, List.map_map]
    congr 1
    · simp
    · refine List.map_congr_left fun i _ => ?_
      show PyData.int (a + 1 + i) = PyData.int (a + ((i + 1 : Nat) : Int))
      congr 1; omega
theorem rngL_nat (n : Nat) : rngL 0 n = natD (List.range n) := by
  rw [rngL_at]
  refine List.map_congr_left fun i _ => ?_
  congr 1; omega
theorem rng_mem {x : PyData} {n : Nat} (h : x ∈ rngL 0 n) : ∃ k : Nat, x = .int (k : Int) ∧ k < n := by
  rw [rngL_nat] at h
  obtain ⟨k, hk, rfl⟩ := List.mem_map.mp h
  exact ⟨k, rfl, List.mem_range.mp hk⟩
theorem pqr_eq : Str.ofString "pqr" = namesS 3 := by decide +kernel
theorem pqrw_eq : Str.ofString "pqrstuvw" = namesS 8 := by decide +kernel
theorem low_add : ∀ o, o < 8 → tx [112 + o] ++ Str.ofString "a" = tx [112 + o, 97] := by decide +kernel
theorem low_mul : ∀ l : Nat, l < 2 → ∀ o : Nat, o < 8 → Txt.mul (tx [112 + o, 97]) (1 + (l : Int)) = nameT l o := by decide +kernel
theorem upA_add : ∀ o, o < 8 → tx [112 + o] ++ Str.ofString "A" = tx [112 + o, 65] := by decide +kernel
theorem upA_mul : ∀ o : Nat, o < 8 → Txt.mul (tx [112 + o, 65]) 2 = nmA o := by decide +kernel
theorem mulok1 (a b : Nat) (l : Nat) (hl : l < 2) : MulOk (tx [a, b]) (1 + (l : Int)) := by
  rcases l with _ | _ | l
  · exact ⟨by decide, fun _ h => by simp at h, fun _ h => by simp at h⟩
  · refine ⟨by decide, fun _ _ => ?_, fun _ _ => ?_⟩
    · show ¬ ((2 : Int) > (2 ^ 63 - 1) / 2); decide
    · show Builtin.Str.tooLong (2 * 2) = false; decide
  · omega
theorem mulok2 (a b : Nat) : MulOk (tx [a, b]) 2 := by
  refine ⟨by decide, fun _ _ => ?_, fun _ _ => ?_⟩
  · show ¬ ((2 : Int) > (2 ^ 63 - 1) / 2); decide
  · show Builtin.Str.tooLong (2 * 2) = false; decide
theorem nat_fdiv (a b : Nat) : ((a : Int)).fdiv (b : Int) = ((a / b : Nat) : Int) := by
  rw [Int.fdiv_eq_ediv_of_nonneg _ (by omega)]; simp
theorem nat_fmod (a b : Nat) : ((a : Int)).fmod (b : Int) = ((a % b : Nat) : Int) := by
  rw [Int.fmod_eq_emod_of_nonneg _ (by omega)]; simp
section
variable {c : Cx} {d : Nat} {sc : Sc} {ρ : List (Option V)} {σ : List (List PyData)}
theorem evalArgs_1 {prog : Program} {w : World} {e : Expr} {f : Value} {pos : Pos} {env : Env} {A : Around} {s : Shared} {Q : Args → Shared → Prop} {E : Value → Shared → Prop} (h : wpAny (model prog w) A (eval e env) (fun v s₁ => Q ⟨[v], []⟩ s₁) E s) (hns : noStar [e] = true := by rfl) :
    wpAny (model prog w) A (evalArgs f true (backTo pos (starEach [e] env)) []) Q E s := by
  have this : wpAny (model prog w) A (spliced (backTo pos (starEach [e] env))) (fun vs s' => Q ⟨vs, []⟩ s') E s := spliced_more (wpAny_mono h (fun v s₁ h₁ => spliced_nil h₁) fun _ _ x => x) (starEach_of hns env)
  rw [starEach_of hns env] at this ⊢
  exact evalArgs_plain this
/-- an assignment whose value is got by hand -/
theorem assign_raw {t value : Expr} {pos : Pos} {P : V → List (List PyData) → Prop} {P' : List (Option V) → List (List PyData) → Prop} {env : Env} {A : Around} {X : List Addr} {φ : Phi} {s s₀ : Shared} {Q : Flow → Shared → Prop} {E : Value → Shared → Prop}
    (he : ∀ Q', Cont c X φ s₀ P Q' → wpAny (model c.prog c.w) A (eval value env) Q' E s) (O : Ok c d env sc A X) (R : Rel c φ X σ s₀) (L : Loc env sc ρ φ X s₀.heap) (ht : ∀ v σ₁, P v σ₁ → TA c d t sc ρ σ₁ v P')
    (K : ∀ φ' ρ' σ' s', Step φ φ' (own env sc) s₀ s' → Rel c φ' X σ' s' → Loc env sc ρ' φ' X s'.heap → P' ρ' σ' → Q .next s') (hs : ∀ env, swapsWithSole [t] value pos.line env = pure false) (hw : ∀ env, swappedStores [t] value env = pure none) (hn : noStarT t = true := by rfl) :
    wpAny (model c.prog c.w) A (exec (.Assign [t] value pos) env) Q E s := by
  refine wpAny_Assign_stores (he _ fun v cv φ₁ σ₁ s₁ x₁ R₁ r₁ p => ?_) (hs env) (hw env)
  have L₁ := L.step x₁ (R.own O.o) (fun a h _ => h)
  rw [assignEach_one hn env]
  exact ht v σ₁ p env A X φ₁ s₁ cv _ E O R₁ L₁ r₁ fun φ' ρ' σ' s' y R' L' p => K φ' ρ' σ' s' ((x₁.own R O.o).trans y) R' L' p
end
end Mine
end -- Fw32
section -- G17
set_option tactic.hygienic false
open PySem PySem.W PySem.Calls PyProof.Rows
set_option linter.unusedVariables false
set_option linter.unusedSimpArgs false
set_option autoImplicit false
namespace Mine
theorem use_lookup {K : Frag} {a : Addr} {o o' : Obj} {G : Prop} (e : List.lookup a K = some o') (h : List.lookup a K = some o) (k : o = o' → G) : G := k (Option.some.inj (h.symm.trans e))
noncomputable def szN (ls : List Int) : Nat := 1 + ((ls.sum).fmod 3).toNat
theorem szN_int (ls : List Int) : 1 + (ls.sum).fmod 3 = ((szN ls : Nat) : Int) := by
  have h1 : 0 ≤ (ls.sum).fmod 3 := by rw [Int.fmod_eq_emod_of_nonneg _ (by decide)]; exact Int.emod_nonneg _ (by decide)
  unfold szN; omega
theorem szN_bd (ls : List Int) : 1 ≤ szN ls ∧ szN ls ≤ 3 := by
  have h1 : 0 ≤ (ls.sum).fmod 3 := by rw [Int.fmod_eq_emod_of_nonneg _ (by decide)]; exact Int.emod_nonneg _ (by decide)
  have h2 : (ls.sum).fmod 3 < 3 := by rw [Int.fmod_eq_emod_of_nonneg _ (by decide)]; exact Int.emod_lt_of_pos _ (by decide)
  unfold szN; omega
noncomputable def toldF (ls : List Int) : PyData → PyData
  | .int i => lettersD (nxt1 (laidL ls) (i.toNat % 2) (i.toNat / 2))
  | _ => .none
noncomputable def toldL (ls : List Int) : List (List Nat) := (List.range 6).map fun k => nxt1 (laidL ls) (k % 2) (k / 2)
theorem told_data (ls : List Int) : ((rngL 0 6).filter fun _ => true).map (toldF ls) = (toldL ls).map lettersD := by
  rw [rngL_nat, List.filter_eq_self.mpr (fun _ _ => rfl)]
  unfold toldL natD
  rw [List.map_map, List.map_map]
  exact List.map_congr_left fun k _ => rfl
noncomputable def turnF (ls : List Int) : PyData → PyData
  | .int i => .int ((ls[i.toNat / 6 + i.toNat / 3 % 2 * 3 + i.toNat % 3 * 6]?).getD 0)
  | _ => .none
theorem turn_data (ls : List Int) : ((rngL 0 18).filter fun _ => true).map (turnF ls) = ((List.range 18).map fun way => (ls[way / 6 + way / 3 % 2 * 3 + way % 3 * 6]?).getD 0).map PyData.int := by
  rw [rngL_nat, List.filter_eq_self.mpr (fun _ _ => rfl)]
  unfold natD
  rw [List.map_map, List.map_map]
  exact List.map_congr_left fun k _ => rfl
noncomputable def kindF : PyData → PyData
  | .tuple [_, _, .bool b] => .int (if b then 1 else 0)
  | _ => .none
theorem kind_data (rs : List Row) : ((rs.map rowD).filter fun _ => true).map kindF = natD (kinds0 rs) := by
  rw [List.filter_eq_self.mpr (fun _ _ => rfl)]
  unfold natD kinds0
  rw [List.map_map, List.map_map]
  refine List.map_congr_left fun r _ => ?_
  obtain ⟨a, b, c⟩ := r
  cases c <;> rfl
noncomputable def sumF (n : Nat) : PyData → PyData
  | .tuple [.int k, .tuple [_, _, .bool b]] => .int ((if b then 1 else 0) * 2 ^ ((n : Int) * k).toNat)
  | _ => .none
theorem sum_data (n : Nat) (rs : List Row) : ((enumL 0 (rs.map rowD)).filter fun _ => true).map (sumF n) = (sumL n 0 rs).map PyData.int := by
  rw [List.filter_eq_self.mpr (fun _ _ => rfl)]
  have key : ∀ (rs : List Row) (k : Nat), (enumL k (rs.map rowD)).map (sumF n) = (sumL n k rs).map PyData.int := by
    intro rs
    induction rs with
    | nil => intro k; rfl
    | cons r rs ih =>
      intro k
      simp only [List.map_cons, enumL, sumL, ih]
      congr 1
  exact key rs 0
noncomputable def wayIs (k : Nat) : PyData → Bool
  | .int i => (PyData.int (i.fdiv 3)).eqv (.int (k : Int))
  | _ => false
noncomputable def wayL : PyData → PyData
  | .int i => .str (letterS (i.toNat % 3))
  | _ => .none
theorem way_data (k : Nat) : ∀ ws : List Nat, ((natD ws).filter (wayIs k)).map wayL = (nxt1 ws (k % 2) (k / 2)).map fun j => PyData.str (letterS j)
  | [] => rfl
  | v :: ws => by
    have ih := way_data k ws
    unfold nxt1 at ih ⊢
    have e : wayIs k (.int (v : Int)) = (v / 3 == 2 * (k / 2) + k % 2) := by
      show ((v : Int).fdiv 3 == (k : Int)) = _
      rw [show ((v : Int).fdiv 3) = ((v / 3 : Nat) : Int) from nat_fdiv v 3, Bool.eq_iff_iff]
      simp; omega
    simp only [natD, List.map_cons, List.filter_cons, e] at ih ⊢
    split
    · simp only [List.map_cons, ih]; rfl
    · exact ih
section
variable {w : World} {base : Heap} {s0 : Shared} {loose : List Str} {mean : ExcName → Option Value} {mg mb : Str → Option Value} {pin : Phi} {d : Nat} {σ : List (List PyData)} {P : V → List (List PyData) → Prop}
theorem made_spec1 {i N n : Nat} {t : Int} {hs : List (Str × Str)} {nxt : Nat → Nat → List Nat} {S₀ T : List Nat} (ht : t = eI n N T) (hi : σ[i]? = some (hs.map pairD)) (hlen' : hs.length ≤ 1000) (hks : ∀ h ∈ hs, h.1.length ≤ 1000 ∧ SeqAt.shaped (.str (Txt.lower h.1)) = true) (hN0 : 1 ≤ N) (hN : N ≤ 8) (hn0 : 1 ≤ n) (hn : n ≤ 3) (hS : SetN N S₀) (hnx : ∀ l p j, j ∈ nxt l p → j < N) (htell : ∀ l p, l < 2 → p < N → tellsOf hs (nameT l p) = (nxt l p).map fun j => .str (letterS j)) (p : P (.d (rowsD (madeRun N nxt S₀ T).rows)) σ) : TCall (cx w base s0 loose mean mg mb pin) (d + 30) (.ref 254) [.hr i, .d (.int (eI n N S₀)), .d (.int t), .d (.str (namesS N)), .d (.int (n : Int))] [] [] σ P := by
  subst ht
  exact made_spec hi hlen' hks hN0 hN hn0 hn hS hnx htell p
noncomputable def rL1 (ns ls : List Int) : List (Option V) := [some (.w (.list (ns.map .int))), some (.d (.list (ls.map .int))), none, some (.d (natsD (litL ls))), some (.d (.int ((szN ls : Nat) : Int))), some (.hr 0), none, none, none, none, none, none, none, none, none, none, none, none, none, none, none, none, none, none, none, none, none, none]
noncomputable def rL2 (ns ls : List Int) : List (Option V) := [some (.w (.list (ns.map .int))), some (.d (.list (ls.map .int))), none, some (.d (natsD (litL ls))), some (.d (.int ((szN ls : Nat) : Int))), some (.hr 0), some (.d (natsD (laidL ls))), none, none, none, none, none, none, none, none, none, none, none, none, none, none, none, none, none, none, none, none, none]
noncomputable def rL3 (ns ls : List Int) (v2 : Option V) (v7 : Option V) (v8 : Option V) : List (Option V) := [some (.w (.list (ns.map .int))), some (.d (.list (ls.map .int))), v2, some (.d (natsD (litL ls))), some (.d (.int ((szN ls : Nat) : Int))), some (.hr 0), some (.d (natsD (laidL ls))), v7, v8, none, none, none, none, none, none, none, none, none, none, none, none, none, none, none, none, none, none, none]
noncomputable def rL4 (ns ls : List Int) (v2 : Option V) (v7 : Option V) (v8 : Option V) : List (Option V) := [some (.w (.list (ns.map .int))), some (.d (.list (ls.map .int))), v2, some (.d (natsD (litL ls))), some (.d (.int ((szN ls : Nat) : Int))), some (.hr 0), some (.d (natsD (laidL ls))), v7, v8, some (.d (.list ((toldL ls).map lettersD))), none, none, none, none, none, none, none, none, none, none, none, none, none, none, none, none, none, none]
noncomputable def rL5 (ns ls : List Int) (rws : List Row) (v2 : Option V) (v7 : Option V) (v8 : Option V) : List (Option V) := [some (.w (.list (ns.map .int))), some (.d (.list (ls.map .int))), v2, some (.d (natsD (litL ls))), some (.d (.int ((szN ls : Nat) : Int))), some (.hr 0), some (.d (natsD (laidL ls))), v7, v8, some (.d (.list ((toldL ls).map lettersD))), some (.d (rowsD rws)), none, none, none, none, none, none, none, none, none, none, none, none, none, none, none, none, none]
noncomputable def rL6 (ns ls : List Int) (rws : List Row) (v2 : Option V) (v7 : Option V) (v8 : Option V) : List (Option V) := [some (.w (.list (ns.map .int))), some (.d (.list (ls.map .int))), v2, some (.d (natsD (litL ls))), some (.d (.int ((szN ls : Nat) : Int))), some (.hr 0), some (.d (natsD (laidL ls))), v7, v8, some (.d (.list ((toldL ls).map lettersD))), some (.d (rowsD rws)), some (.d (.list ((turnedL ls).map .int))), none, none, none, none, none, none, none, none, none, none, none, none, none, none, none, none]
noncomputable def rL7 (ns ls : List Int) (rws : List Row) (v2 : Option V) (v7 : Option V) (v8 : Option V) : List (Option V) := [some (.w (.list (ns.map .int))), some (.d (.list (ls.map .int))), v2, some (.d (natsD (litL ls))), some (.d (.int ((szN ls : Nat) : Int))), some (.hr 0), some (.d (natsD (laidL ls))), v7, v8, some (.d (.list ((toldL ls).map lettersD))), some (.d (rowsD rws)), some (.d (.list ((turnedL ls).map .int))), some (.d (.str (namesS rws.length))), some (.hr 1), none, none, none, none, none, none, none, none, none, none, none, none, none, none]
noncomputable def rL8 (ns ls : List Int) (rws : List Row) (v2 : Option V) (v7 : Option V) (v8 : Option V) (v14 : Option V) (v15 : Option V) : List (Option V) := [some (.w (.list (ns.map .int))), some (.d (.list (ls.map .int))), v2, some (.d (natsD (litL ls))), some (.d (.int ((szN ls : Nat) : Int))), some (.hr 0), some (.d (natsD (laidL ls))), v7, v8, some (.d (.list ((toldL ls).map lettersD))), some (.d (rowsD rws)), some (.d (.list ((turnedL ls).map .int))), some (.d (.str (namesS rws.length))), some (.hr 1), v14, v15, none, none, none, none, none, none, none, none, none, none, none, none]
noncomputable def rL9 (ns ls : List Int) (rws : List Row) (v2 : Option V) (v7 : Option V) (v8 : Option V) (v14 : Option V) (v15 : Option V) : List (Option V) := [some (.w (.list (ns.map .int))), some (.d (.list (ls.map .int))), v2, some (.d (natsD (litL ls))), some (.d (.int ((szN ls : Nat) : Int))), some (.hr 0), some (.d (natsD (laidL ls))), v7, v8, some (.d (.list ((toldL ls).map lettersD))), some (.d (rowsD rws)), some (.d (.list ((turnedL ls).map .int))), some (.d (.str (namesS rws.length))), some (.hr 1), v14, v15, some (.d (.int (eI (szN ls) rws.length (sStart rws)))), none, none, none, none, none, none, none, none, none, none, none]
set_option maxRecDepth 100000 in
theorem law_walk {fd : FuncData} {o : Obj} {body : List Stmt} {env : Env} {A : Around} {X : List Addr} {φ : Phi} {s : Shared} {ns : List Int} {Q : Flow → Shared → Prop} {E : Value → Shared → Prop} (hK : List.lookup 269 (hd.heap_39 w.params) = some o) (hdat : o.data = .func fd) (hbody : fd.body = .stmts body) (hn : ns.length ≤ 63)
    (O : Ok (cx w base s0 loose mean mg mb pin) (d + 40) env (fnSc fd.scope) A X) (R : Rel (cx w base s0 loose mean mg mb pin) φ X [] { s with toks := s.toks + 1 }) (L : Loc env (fnSc fd.scope) [some (.w (.list (ns.map .int))), none, none, none, none, none, none, none, none, none, none, none, none, none, none, none, none, none, none, none, none, none, none, none, none, none, none, none] φ X s.heap) (hfr : A.frames = some [env]) (hfrm : env.frame = some env.locals)
    (K : ∀ φ' σ' s', Step φ φ' (own env (fnSc fd.scope)) { s with toks := s.toks + 1 } s' → Rel (cx w base s0 loose mean mg mb pin) φ' X σ' s' → Q (.ret (.bool true)) s') : wpAny (model (cx w base s0 loose mean mg mb pin).prog w) A (execs body env) Q E s := by
  have KX : (hd.heap_39 w.params).In base → True := fun _ => trivial
  have PP : PySem.Challenge.rw_wc0014_01.prog = PySem.Challenge.rw_wc0014_01.prog := rfl
  revert KX PP; k_fill; intro KX PP
  refine use_lookup (by show List.lookup 269 (hd.heap_39 w.params) = _; k_is) hK ?_
  rintro rfl
  cases hdat; cases hbody
  have hls := lampsOf_length ns
  have h01 := lamps01 ns
  have hbd := szN_bd (lampsOf ns)
  have hR0 : base.get? 0 = base.get? 0 := rfl
  have old : ∀ b o, base.get? b = some o → s.heap.get? b = some o := fun b o e => (R.bs b o e).1
  refine wpAny_execs_cons (assign_raw (P := fun v σ' => v = .d (.list ((lampsOf ns).map .int)) ∧ σ' = []) (P' := fun ρ' σ' => ρ' = [some (.w (.list (ns.map .int))), some (.d (.list ((lampsOf ns).map .int))), none, none, none, none, none, none, none, none, none, none, none, none, none, none, none, none, none, none, none, none, none, none, none, none, none, none] ∧ σ' = []) (fun Q' K' => ?s1) O R L ?t1 (fun φ₁ ρ₁ σ₁ s₁ x₁ R₁ L₁ p₁ => ?_) (fun env => swapsSole_name env) (fun env => swappedStores_name env))
  case s1 =>
    show wpAny _ A (do callWith _ (← eval (.Name _ _) env) [] (backTo _ (starEach _ env)) (backToKw _ (keywordEach [] env))) _ _ _
    refine wpAny_bind (name_glob (v := .ref 242) O old (by show nsIn (hd.heap_39 w.params) _ _ = _; k_is) ?_)
    refine callWith_of (P := HIn (cx w base s0 loose mean mg mb pin)) (by rw [starEach_plain env _ rfl]; rfl) (KeepOk.old (by show keepIn (hd.heap_39 w.params) _ = _; k_is) : KeepOk (cx w base s0 loose mean mg mb pin) _) (evalArgs_1 ?_)
    obtain ⟨m, g1, g2⟩ := L.ns
    obtain ⟨cv, g3, g4⟩ := g2 0 _ _ rfl rfl
    refine wpAny_Name (wpAny_loadName_local (by rw [O.e.s]) (O.e.kind (k := 0) rfl) g1 g3 ⟨R.hin O.c, ?_⟩) (by rfl)
    exact lamps_first hn ⟨rfl, rfl⟩ O.c O.a R (.cons g4 .nil) K'
  case t1 =>
    rintro v σ₁ ⟨rfl, rfl⟩
    exact TA.cell 1 ⟨rfl, rfl⟩
  obtain ⟨rfl, rfl⟩ := p₁
  generalize lampsOf ns = ls at hls h01 hbd L₁
  refine wpAny_execs_cons (TS.runE (ρ₁ := (rL1 ns ls)) (σ₁ := [[]]) ?s2 O R₁ L₁ fun φ₂ s₂ x₂ R₂ L₂ => ?_)
  case s2 =>
    refine TS.assignT ?_
    refine TEs.cons ?_
    refine TE.comp ?_
    refine TIter.of ?_
    refine TE.call ?_
    refine TE.bltn (by show nsIn (hd.heap_39 w.params) _ _ = _; k_is) (by boot_by_name) (by decide) ⟨_, rfl, KeepOk.type, ?_⟩
    refine TEs.cons ?_
    refine TE.int ?_
    refine TEs.nil ?_
    refine TCall.range1 (⟨_, _, _, TItr.rng rfl rfl (by decide), trivial, ?_⟩)
    refine TComp.pure (ρ₀ := [none, none, some (.d (.list (ls.map .int)))]) 1 (intF fun n => lit ls n) id (by decide) (fun _ => trivial) ?_ ?_ ?_ ?_
    · rintro x ρ' σ' hx hr
      refine TA.loc 1 ⟨?_, rfl⟩
      rcases hr with rfl | ⟨y, rfl⟩ <;> rfl
    · rintro x ys hx
      obtain ⟨n, rfl, hn⟩ := rng_mem (n := 18) hx
      refine TB.plain ?_
      refine TE.sub ?_
      refine TE.cell 2 rfl ?_
      refine TE.loc 1 rfl ?_
      obtain ⟨i, h1, h2⟩ := lit_data (ls := ls) (k := n) (by omega)
      refine TV2.subLI (x := .int i) (by omega) (by omega) (by rw [← h1]; congr 1) ?_
      refine TT.int ⟨?_, rfl⟩
      rw [h2]; rfl
    · rintro x ys hx hp
      exact TE.loc 1 rfl ⟨rfl, rfl⟩
    refine ⟨_, by rw [List.getElem?_append_right (Nat.le_refl _), Nat.sub_self]; rfl, ?_⟩
    rw [show ((rngL 0 (18 - 0 : Int).toNat).filter (intF fun n => lit ls n)).map id = natD (litL ls) by rw [show (18 - 0 : Int).toNat = 18 from rfl, rngL_nat]; exact nats_filter (fun n => lit ls n) (List.range 18), List.take_left]
    refine TEs.cons ?_
    refine TE.binop ?_
    refine TE.int ?_
    refine TE.binop ?_
    refine TE.call ?_
    refine TE.bltn (by show nsIn (hd.heap_39 w.params) _ _ = _; k_is) (by boot_by_name) (by decide) ⟨_, rfl, KeepOk.builtin, ?_⟩
    refine TEs.cons ?_
    refine TE.cell 1 rfl ?_
    refine TEs.nil ?_
    refine TCall.sum ?_
    refine TE.int ?_
    refine TV2.modII (by decide) ?_
    refine TV2.addII ?_
    rw [szN_int]
    refine TEs.cons ?_
    refine TE.call ?_
    refine TE.glob (v := .ref 182) (by show nsIn (hd.heap_39 w.params) _ _ = _; k_is) ⟨_, rfl, KeepOk.old (by show keepIn (hd.heap_39 w.params) _ = _; k_is), ?_⟩
    refine TEs.nil ?_
    refine headers_spec ?_
    refine TEs.nil ⟨rfl, by simp, ?_⟩
    refine TA.loc 3 ?_
    refine TA.cell 4 ?_
    exact TA.cell 5 ⟨rfl, rfl, rfl⟩
  refine wpAny_execs_cons (TS.runE (ρ₁ := (rL2 ns ls)) (σ₁ := [[]]) ?s3 O R₂ L₂ fun φ₃ s₃ x₃ R₃ L₃ => ?_)
  case s3 =>
    refine TS.assign ?_
    refine TE.binop ?_
    refine TE.loc 3 rfl ?_
    refine TE.sub ?_
    refine TE.loc 3 rfl ?_
    refine TE.slice0u ?_
    refine TE.int ⟨_, _, rfl, ?_⟩
    refine TV2.subLS0 (b := 1) (by simp; have := laid_len ls; unfold laidL at this; simp at this; omega) ?_
    refine TV2.addLL (by have := laid_len ls; unfold laidL at this; simp at this ⊢; omega) ?_
    rw [show (natD (litL ls) ++ (natD (litL ls)).take 1 : List PyData) = natD (laidL ls) by simp [natD, laidL, List.map_take]]
    exact TA.cell 6 ⟨rfl, rfl, rfl⟩
  refine wpAny_execs_cons (TS.run (P := fun fl ρ' σ' => fl = .next ∧ ∃ v2 v7 v8 : Option V, ρ' = (rL3 ns ls v2 v7 v8) ∧ σ' = [(hdrs 0 (laidL ls)).map pairD]) ?s4 O R₃ L₃ fun fl f φ₄ ρ₄ σ₄ s₄ x₄ R₄ L₄ r₄ p₄ => ?_)
  case s4 =>
    refine TS.for_ ?_
    refine TIter.enum ?_
    refine TE.bltn (by show nsIn (hd.heap_39 w.params) _ _ = _; k_is) (by boot_by_name) (by decide) ⟨rfl, ?_⟩
    refine TE.cell 6 rfl ⟨_, _, _, TSrc.list, ?_⟩
    refine TLoop.indN (fun ys ρ' σ' => ∃ (done rest : List Nat) (v2 v7 v8 : Option V), ys = enumL done.length (natD rest) ∧ laidL ls = done ++ rest ∧ ρ' = (rL3 ns ls v2 v7 v8) ∧ σ' = [(hdrs 0 done).map pairD]) ?_ ?_ ⟨[], laidL ls, none, none, none, rfl, rfl, rfl, rfl⟩
    · rintro ρ' σ' ⟨done, rest, v2, v7, v8, hz, hl, rfl, rfl⟩
      intro P1 hP1
      have : rest = [] := by cases rest with | nil => rfl | cons _ _ => simp [natD, enumL] at hz
      subst this
      rw [List.append_nil] at hl
      exact TSS.nil (hP1 _ _ _ ⟨rfl, v2, v7, v8, rfl, by rw [hl]⟩)
    · rintro x xs ρ' σ' ⟨done, rest, v2, v7, v8, hz, hl, rfl, rfl⟩
      intro N1 P1 hN1 hP1
      cases rest with
      | nil => simp [natD, enumL] at hz
      | cons v rest =>
        simp only [natD, List.map_cons, enumL, List.cons.injEq] at hz
        obtain ⟨rfl, rfl⟩ := hz
        have hv : v < 18 := (laid_mem (ls := ls)).mp (by rw [hl]; simp) |>.1
        have hlen := laid_len ls
        rw [hl, List.length_append] at hlen
        obtain ⟨g1, g2, g3⟩ := hdr_low (t := done.length) hv
        refine TA.tuple2 (TA.loc 7 (TA.loc 2 ?_))
        refine TSS.cons ?_
        refine TS.assign ?_
        refine TE.binop ?_
        refine TE.binop ?_
        refine TE.sub ?_
        refine TE.str ?_
        rw [pqr_eq]
        refine TE.binop ?_
        refine TE.loc 2 rfl ?_
        refine TE.int ?_
        refine TV2.divII (by decide) (noPylong _ (by decide)) ?_
        rw [show ((v : Int)).fdiv 6 = ((v / 6 : Nat) : Int) from nat_fdiv v 6]
        refine TV2.subSI (by omega) (by omega) (by rw [Int.toNat_natCast]; exact names_get (p := v / 6) (by omega)) ?_
        refine TE.str ?_
        refine TV2.addSS (by rw [sizeLine_eq]; show 1 + 1 ≤ _; decide) ?_
        rw [show (⟨#[112 + v / 6]⟩ : Str) ++ Str.ofString "a" = tx [112 + v / 6, 97] from low_add (v / 6) (by omega)]
        refine TE.binop ?_
        refine TE.int ?_
        refine TE.binop ?_
        refine TE.binop ?_
        refine TE.loc 2 rfl ?_
        refine TE.int ?_
        refine TV2.divII (by decide) (noPylong _ (by decide)) ?_
        rw [show ((v : Int)).fdiv 3 = ((v / 3 : Nat) : Int) from nat_fdiv v 3]
        refine TE.int ?_
        refine TV2.modII (by decide) ?_
        rw [show (((v / 3 : Nat) : Int)).fmod 2 = ((v / 3 % 2 : Nat) : Int) from nat_fmod (v / 3) 2]
        refine TV2.addII ?_
        refine TV2.mulSI (mulok1 _ _ (v / 3 % 2) (by omega)) ?_
        rw [low_mul (v / 3 % 2) (by omega) (v / 6) (by omega)]
        refine TA.loc 8 ?_
        refine TSS.one ?_
        refine TS.expr ?_
        refine TE.meth ?_
        refine TE.cell 5 rfl ⟨_, TGet.hdr hdrK (by show findIn (hd.heap_39 w.params) _ _ = _; k_is) (by show typeIn (hd.heap_39 w.params) _ = _; k_is) rfl, KeepOk.old (by show keepIn (hd.heap_39 w.params) _ = _; k_is), ?_⟩
        refine TEs.cons ?_
        refine TE.mono (P := fun v' σ' => v' = .d (.str (hdrT done.length v)) ∧ σ' = [(hdrs 0 done).map pairD]) ?_ ?_
        · refine TE.ifexp ?_
          refine TB.plain ?_
          refine TE.binop ?_
          refine TE.loc 7 rfl ?_
          refine TE.int ?_
          refine TV2.modII (by decide) ?_
          rw [show ((done.length : Nat) : Int).fmod 2 = ((done.length % 2 : Nat) : Int) from nat_fmod done.length 2]
          refine TT.int ?_
          unfold hdrT
          by_cases hp : done.length % 2 = 1
          · rw [hp, if_pos rfl]
            show TE _ _ _ _ _ _ _
            refine TE.meth ?_
            refine TE.loc 8 rfl ⟨_, TGet.upper, KeepOk.builtin, ?_⟩
            refine TEs.nil ?_
            exact TCall.upper (up_ok v hv).2.2.2.2 ⟨rfl, rfl⟩
          · have h0 : done.length % 2 = 0 := by omega
            rw [h0, if_neg (by decide)]
            show TE _ _ _ _ _ _ _
            exact TE.loc 8 rfl ⟨rfl, rfl⟩
        · rintro v' σ' ⟨rfl, rfl⟩
          refine TEs.cons ?_
          refine TE.sub ?_
          refine TE.str ?_
          refine TE.binop ?_
          refine TE.loc 2 rfl ?_
          refine TE.int ?_
          refine TV2.modII (by decide) ?_
          rw [show ((v : Int)).fmod 3 = ((v % 3 : Nat) : Int) from nat_fmod v 3]
          refine TV2.subSI (by omega) (by omega) (by rw [Int.toNat_natCast]; exact names_get (p := v % 3) (by omega)) ?_
          refine TEs.nil ?_
          refine add_header_spec (hs := hdrs 0 done) (y := letterS (v % 3)) rfl g2 (letter_ok (v % 3) (by omega)).1 (by rw [hdrs_len]; omega) ?_
          refine ⟨trivial, hN1 _ _ ⟨done ++ [v], rest, _, _, _, ?_, by rw [hl]; simp, rfl, ?_⟩⟩
          · rw [List.length_append]; rfl
          · rw [hdrs_snoc, Nat.zero_add]; rfl
  obtain ⟨rfl, v2, v7, v8, rfl, rfl⟩ := p₄
  cases f <;> first | exact r₄.elim | skip
  show wpAny _ _ (execs _ env) _ _ s₄
  have hlaid := laid_len ls
  have hl18 : ∀ w ∈ laidL ls, w < 18 := fun w h => (laid_mem.mp h).1
  have hhl : (hdrs 0 (laidL ls)).length ≤ 1000 := by rw [hdrs_len]; omega
  have hks := hdrs_ok (laidL ls) 0 hl18
  refine wpAny_execs_cons (TS.runE (ρ₁ := (rL4 ns ls v2 v7 v8)) (σ₁ := [(hdrs 0 (laidL ls)).map pairD]) ?s5 O R₄ L₄ fun φ₅ s₅ x₅ R₅ L₅ => ?_)
  case s5 =>
    refine TS.assignComp 9 ?_
    refine TIter.of ?_
    refine TE.call ?_
    refine TE.bltn (by show nsIn (hd.heap_39 w.params) _ _ = _; k_is) (by boot_by_name) (by decide) ⟨_, rfl, KeepOk.type, ?_⟩
    refine TEs.cons ?_
    refine TE.int ?_
    refine TEs.nil ?_
    refine TCall.range1 (⟨_, _, _, TItr.rng rfl rfl (by decide), trivial, ?_⟩)
    refine TComp.pure (ρ₀ := [none, none, some (.hr 0)]) 1 (fun _ => true) (toldF ls) (by decide) (fun _ => trivial) ?_ ?_ ?_ ?_
    · rintro x ρ' σ' hx hr
      refine TA.loc 1 ⟨?_, rfl⟩
      rcases hr with rfl | ⟨y, rfl⟩ <;> rfl
    · rintro x ys hx
      exact ⟨rfl, rfl⟩
    · rintro x ys hx hp
      obtain ⟨k, rfl, hk⟩ := rng_mem (n := 6) hx
      refine TE.meth ?_
      refine TE.cell 2 rfl ⟨_, TGet.hdr hdrK (by show findIn (hd.heap_39 w.params) _ _ = _; k_is) (by show typeIn (hd.heap_39 w.params) _ = _; k_is) rfl, KeepOk.old (by show keepIn (hd.heap_39 w.params) _ = _; k_is), ?_⟩
      refine TEs.cons ?_
      refine TE.binop ?_
      refine TE.binop ?_
      refine TE.meth ?_
      refine TE.sub ?_
      refine TE.str ?_
      rw [pqr_eq]
      refine TE.binop ?_
      refine TE.loc 1 rfl ?_
      refine TE.int ?_
      refine TV2.divII (by decide) (noPylong _ (by decide)) ?_
      rw [show ((k : Int)).fdiv 2 = ((k / 2 : Nat) : Int) from nat_fdiv k 2]
      refine TV2.subSI (by omega) (by omega) (by rw [Int.toNat_natCast]; exact names_get (p := k / 2) (by omega)) ?_
      refine ⟨_, TGet.upper, KeepOk.builtin, ?_⟩
      refine TEs.nil ?_
      refine TCall.upper (by show 1 ≤ 1000; decide) ?_
      rw [show Txt.upper ⟨#[112 + k / 2]⟩ = tx [80 + k / 2] from up_letter (k / 2) (by omega)]
      refine TE.str ?_
      refine TV2.addSS (by rw [sizeLine_eq]; show 1 + 1 ≤ _; decide) ?_
      rw [up_add (k / 2) (by omega)]
      refine TE.binop ?_
      refine TE.int ?_
      refine TE.binop ?_
      refine TE.loc 1 rfl ?_
      refine TE.int ?_
      refine TV2.modII (by decide) ?_
      rw [show ((k : Int)).fmod 2 = ((k % 2 : Nat) : Int) from nat_fmod k 2]
      refine TV2.addII ?_
      rw [Int.add_comm]
      refine TV2.mulSI (up_mulok (k % 2) (by omega) (k / 2) (by omega)) ?_
      rw [up_mul (k % 2) (by omega) (k / 2) (by omega)]
      refine TEs.nil ?_
      have hlow := low_nmU (k % 2) (by omega) (k / 2) (by omega)
      have hok := nameT_ok (k % 2) (by omega) (k / 2) (by omega)
      refine get_all_spec (hs := hdrs 0 (laidL ls)) rfl (by rw [hlow]; exact hok.1) (nmU_len (k % 2) (by omega) (k / 2) (by omega)) (by rw [hlow]; exact hok.2) hhl hks ⟨?_, rfl⟩
      rw [hlow, hdrs_tell (by omega) (by omega) (laidL ls) 0 hl18]
      rfl
    refine ⟨_, by rw [List.getElem?_append_right (Nat.le_refl _), Nat.sub_self]; rfl, ?_⟩
    rw [show (6 - 0 : Int).toNat = 6 from rfl, told_data, List.take_left]
    exact ⟨rfl, rfl, rfl⟩
  have hj8 : ∀ js ∈ toldL ls, ∀ j ∈ js, j < 8 := fun js hjs j hj => by
    obtain ⟨k, _, rfl⟩ := List.mem_map.mp hjs
    have := nxt1_lt hj; omega
  refine wpAny_execs_cons (TS.runE (ρ₁ := (rL4 ns ls v2 v7 v8)) (σ₁ := [(hdrs 0 (laidL ls)).map pairD]) ?s6 O R₅ L₅ fun φ₆ s₆ x₆ R₆ L₆ => ?_)
  case s6 =>
    refine TS.ite ?_
    refine TB.cmp ?_
    refine TE.loc 9 rfl ?_
    refine TE.comp ?_
    refine TIter.of ?_
    refine TE.call ?_
    refine TE.bltn (by show nsIn (hd.heap_39 w.params) _ _ = _; k_is) (by boot_by_name) (by decide) ⟨_, rfl, KeepOk.type, ?_⟩
    refine TEs.cons ?_
    refine TE.int ?_
    refine TEs.nil ?_
    refine TCall.range1 (⟨_, _, _, TItr.rng rfl rfl (by decide), trivial, ?_⟩)
    refine TComp.pure (ρ₀ := [none, none, some (.d (natsD (laidL ls)))]) 1 (fun _ => true) (toldF ls) (by decide) (fun _ => trivial) ?_ ?_ ?_ ?_
    · rintro x ρ' σ' hx hr
      refine TA.cell 1 ⟨?_, rfl⟩
      rcases hr with rfl | ⟨y, rfl⟩ <;> rfl
    · rintro x ys hx
      exact ⟨rfl, rfl⟩
    · rintro x ys hx hp
      obtain ⟨k, rfl, hk⟩ := rng_mem (n := 6) hx
      refine TE.comp ?_
      refine TIter.of ?_
      refine TE.cell 2 rfl ?_
      refine ⟨_, _, _, TItr.list (.inl rfl), trivial, ?_⟩
      refine TComp.pure (ρ₀ := [none, none, some (.d (.int (k : Int)))]) 1 (wayIs k) wayL (by simp; omega) (fun _ => trivial) ?_ ?_ ?_ ?_
      · rintro x ρ' σ' hx hr
        refine TA.loc 1 ⟨?_, rfl⟩
        rcases hr with rfl | ⟨y, rfl⟩ <;> rfl
      · rintro x ys' hx
        obtain ⟨v, hv, rfl⟩ := List.mem_map.mp hx
        refine TB.cmp ?_
        refine TE.binop ?_
        refine TE.loc 1 rfl ?_
        refine TE.int ?_
        refine TV2.divII (by decide) (noPylong _ (by decide)) ?_
        refine TE.cell 2 rfl ?_
        refine TV2.eqDD rfl rfl ?_
        exact TT.bool ⟨rfl, rfl⟩
      · rintro x ys' hx hp'
        obtain ⟨v, hv, rfl⟩ := List.mem_map.mp hx
        refine TE.sub ?_
        refine TE.str ?_
        rw [pqr_eq]
        refine TE.binop ?_
        refine TE.loc 1 rfl ?_
        refine TE.int ?_
        refine TV2.modII (by decide) ?_
        rw [show ((v : Int)).fmod 3 = ((v % 3 : Nat) : Int) from nat_fmod v 3]
        refine TV2.subSI (by omega) (by omega) (by rw [Int.toNat_natCast]; exact names_get (p := v % 3) (by omega)) ⟨?_, rfl⟩
        rfl
      refine ⟨_, by rw [List.getElem?_append_right (Nat.le_refl _), Nat.sub_self]; rfl, ?_, ?_⟩
      · rw [way_data]
        rfl
      · rw [List.take_left]
    refine ⟨_, by rw [List.getElem?_append_right (Nat.le_refl _), Nat.sub_self]; rfl, ?_⟩
    rw [show (6 - 0 : Int).toNat = 6 from rfl, told_data, List.take_left]
    refine TV2.neDD (told_shaped hj8) (told_shaped hj8) ?_
    rw [show PyData.eqv (.list ((toldL ls).map lettersD)) (.list ((toldL ls).map lettersD)) = true from told_eqv (toldL ls)]
    refine TT.bool ?_
    show TSS _ _ _ _ _ _ _
    exact TSS.nil ⟨rfl, rfl, rfl⟩
  have hns0 : ∃ h0 : Int, (ns.map PyData.int ++ [PyData.int 0])[0]? = some (.int h0) := by
    cases ns with
    | nil => exact ⟨0, rfl⟩
    | cons v r => exact ⟨v, rfl⟩
  obtain ⟨h0, hh0⟩ := hns0
  refine wpAny_execs_cons (wpAny_If (wpAny_isTrue_Not ?_))
  rw [isTrue_plainTest (by rfl)]
  refine wpAny_bind (eval_callG (P := fun cf vs σ' => cf = .ref 249 ∧ vs = [.hr 0, .w (.int h0)] ∧ σ' = [(hdrs 0 (laidL ls)).map pairD]) ?s7 (O := O) (R := R₆) (L := L₆) (K := fun cf vs cvs φ₇ σ₇ s₇ x₇ R₇ rv₇ p₇ => ?_))
  case s7 =>
    refine TE.glob (v := .ref 249) (by show nsIn (hd.heap_39 w.params) _ _ = _; k_is) ⟨_, rfl, KeepOk.old (by show keepIn (hd.heap_39 w.params) _ = _; k_is), ?_⟩
    refine TEs.cons ?_
    refine TE.cell 5 rfl ?_
    refine TEs.cons ?_
    refine TE.sub ?_
    refine TE.binop ?_
    refine TE.loc 0 rfl ?_
    refine TE.weak ?_
    refine TE.list ?_
    refine TEs.cons ?_
    refine TE.int ?_
    refine TEs.nil ⟨false, [.int 0], rfl, by decide, false, .list [.int 0], rfl, ?_⟩
    refine TV2.addLL (by simp; omega) ?_
    refine TE.int ?_
    refine TV2.subLI (x := .int h0) (by decide) (by decide) hh0 ?_
    exact TEs.nil ⟨rfl, rfl, rfl⟩
  obtain ⟨rfl, rfl, rfl⟩ := p₇
  have L₇ := L₆.step x₇ (R₆.own O.o) (fun a h _ => h)
  have hFr : FrOk [env] X s₇.heap := fun env' he' => by
    rw [List.mem_singleton.mp he']
    obtain ⟨m, ⟨o, es, ep, g1, g2, _⟩, _⟩ := L₇.ns
    exact ⟨(by rw [O.e.s, O.e.fn]; exact (fun q => by cases q)), hfrm, O.o _ List.mem_cons_self, o, g1, (fun vs q => by rw [g2] at q; cases q)⟩
  refine refused_call (d := d + 37) O.c O.a R₇ rv₇ hfr hFr fun φ₈ s₈ hS₈ R₈ hsl₈ => ?_
  refine wpAny_bind (wpAny_standAt (wpAny_holding (wpAny_truthy_bool ?_)))
  show wpAny _ _ (execs [] env) _ _ s₈
  refine wpAny_execs_nil ?_
  show wpAny _ _ (execs _ env) _ _ s₈
  have L₈ := L₇.slots O R₇ hS₈ hsl₈
  have x₈ : Step φ₇ φ₈ (own env _) s₇ s₈ := hS₈.wide (fun a ha => by rw [List.mem_singleton.mp ha]; exact List.mem_cons_self) fun a ha _ => R₇.xs a (O.o a ha)
  have x78 := (x₇.own R₆ O.o).trans x₈
  have e18 : ((ls.map PyData.int).drop 18).take (21 - 18) = ((ls.drop 18).take 3).map PyData.int := by rw [List.map_take, List.map_drop]
  have e21 : ((ls.map PyData.int).drop 21).take (24 - 21) = ((ls.drop 21).take 3).map PyData.int := by rw [List.map_take, List.map_drop]
  have d18 : d2i (szN ls) ((ls.drop 18).take 3) = eI (szN ls) 3 (set3 ls 18) := by rw [set3_bits h01 (by omega), d2i_nat]; rfl
  have d21 : d2i (szN ls) ((ls.drop 21).take 3) = eI (szN ls) 3 (set3 ls 21) := by rw [set3_bits h01 (by omega), d2i_nat]; rfl
  have dig01 : ∀ x : Int, x = 0 ∨ x = 1 → 0 ≤ x ∧ x < 2 ^ szN ls := fun x hx => by
    have h2 : (2 : Int) ^ 1 ≤ 2 ^ szN ls := by exact_mod_cast Nat.pow_le_pow_right (by decide) hbd.1
    rcases hx with rfl | rfl <;> omega
  have hn9 : szN ls * 3 ≤ 60 := by have := hbd.2; omega
  have hfr := first_rows hls
  have W1 := plain_whole (turnedL ls)
  have hM8 := plain_len (turnedL ls)
  have hM1 := W1.pos
  have hidx := W1.closed
  have hbz := brzozowski hls
  have htl : (turnedL ls).length = 24 := by unfold turnedL; simp [hls]
  generalize hrw : (plainRun (turnedL ls)).rows = rws at hfr hM8 hM1 hidx hbz
  refine wpAny_execs_cons (TS.runE (ρ₁ := (rL5 ns ls rws v2 v7 v8)) (σ₁ := [(hdrs 0 (laidL ls)).map pairD]) ?s8 O R₈ L₈ fun φ₉ s₉ x₉ R₉ L₉ => ?_)
  case s8 =>
    refine TS.assign ?_
    refine TE.call ?_
    refine TE.glob (v := .ref 254) (by show nsIn (hd.heap_39 w.params) _ _ = _; k_is) ⟨_, rfl, KeepOk.old (by show keepIn (hd.heap_39 w.params) _ = _; k_is), ?_⟩
    refine TEs.cons ?_
    refine TE.cell 5 rfl ?_
    refine TEs.cons ?_
    refine TE.call ?_
    refine TE.glob (v := .ref 200) (by show nsIn (hd.heap_39 w.params) _ _ = _; k_is) ⟨_, rfl, KeepOk.old (by show keepIn (hd.heap_39 w.params) _ = _; k_is), ?_⟩
    refine TEs.cons ?_
    refine TE.sub ?_
    refine TE.cell 1 rfl ?_
    refine TE.slice2 ?_
    refine TE.int ?_
    refine TE.int ⟨_, _, _, _, rfl, rfl, ?_⟩
    refine TV2.subLS (a := 18) (b := 21) (by decide) (by rw [List.length_map, hls]; decide) (by rw [List.length_map, hls]; decide) ?_
    rw [e18]
    refine TEs.cons ?_
    refine TE.cell 4 rfl ?_
    refine TEs.nil ?_
    refine digits2int_spec (ds := (ls.drop 18).take 3) (n := szN ls) IsL.v (by simp [hls]; omega) (by simp [hls]) (fun x hx => dig01 x (h01 x (List.mem_of_mem_drop (List.mem_of_mem_take hx)))) ?_
    rw [d18]
    refine TEs.cons ?_
    refine TE.call ?_
    refine TE.glob (v := .ref 200) (by show nsIn (hd.heap_39 w.params) _ _ = _; k_is) ⟨_, rfl, KeepOk.old (by show keepIn (hd.heap_39 w.params) _ = _; k_is), ?_⟩
    refine TEs.cons ?_
    refine TE.sub ?_
    refine TE.cell 1 rfl ?_
    refine TE.slice2 ?_
    refine TE.int ?_
    refine TE.int ⟨_, _, _, _, rfl, rfl, ?_⟩
    refine TV2.subLS (a := 21) (b := 24) (by decide) (by rw [List.length_map, hls]; decide) (by rw [List.length_map, hls]; decide) ?_
    rw [e21]
    refine TEs.cons ?_
    refine TE.cell 4 rfl ?_
    refine TEs.nil ?_
    refine digits2int_spec (ds := (ls.drop 21).take 3) (n := szN ls) IsL.v (by simp [hls]; omega) (by simp [hls]) (fun x hx => dig01 x (h01 x (List.mem_of_mem_drop (List.mem_of_mem_take hx)))) ?_
    rw [d21]
    refine TEs.cons ?_
    refine TE.str ?_
    rw [pqr_eq]
    refine TEs.cons ?_
    refine TE.cell 4 rfl ?_
    refine TEs.nil ?_
    refine made_spec (i := 0) (N := 3) (n := szN ls) (hs := hdrs 0 (laidL ls)) (nxt := nxt1 (laidL ls)) (S₀ := set3 ls 18) (T := set3 ls 21) rfl hhl hks (by decide) (by decide) hbd.1 hbd.2 (set3_set ls 18) (fun l p j hj => nxt1_lt hj) (fun l p hl hp => hdrs_tell hl hp (laidL ls) 0 hl18) ?_
    rw [hfr]
    exact TA.loc 10 ⟨rfl, rfl, rfl⟩
  refine wpAny_execs_cons (TS.runE (ρ₁ := (rL6 ns ls rws v2 v7 v8)) (σ₁ := [(hdrs 0 (laidL ls)).map pairD]) ?s9 O R₉ L₉ fun φ₁₀ s₁₀ x₁₀ R₁₀ L₁₀ => ?_)
  case s9 =>
    refine TS.assign ?_
    refine TE.binop ?_
    refine TE.binop ?_
    refine TE.comp ?_
    refine TIter.of ?_
    refine TE.call ?_
    refine TE.bltn (by show nsIn (hd.heap_39 w.params) _ _ = _; k_is) (by boot_by_name) (by decide) ⟨_, rfl, KeepOk.type, ?_⟩
    refine TEs.cons ?_
    refine TE.int ?_
    refine TEs.nil ?_
    refine TCall.range1 (⟨_, _, _, TItr.rng rfl rfl (by decide), trivial, ?_⟩)
    refine TComp.pure (ρ₀ := [none, none, some (.d (.list (ls.map .int)))]) 1 (fun _ => true) (turnF ls) (by decide) (fun _ => trivial) ?_ ?_ ?_ ?_
    · rintro x ρ' σ' hx hr
      refine TA.loc 1 ⟨?_, rfl⟩
      rcases hr with rfl | ⟨y, rfl⟩ <;> rfl
    · rintro x ys hx
      exact ⟨rfl, rfl⟩
    · rintro x ys hx hp
      obtain ⟨k, rfl, hk⟩ := rng_mem (n := 18) hx
      refine TE.sub ?_
      refine TE.cell 2 rfl ?_
      refine TE.binop ?_
      refine TE.binop ?_
      refine TE.binop ?_
      refine TE.loc 1 rfl ?_
      refine TE.int ?_
      refine TV2.divII (by decide) (noPylong _ (by decide)) ?_
      rw [show ((k : Int)).fdiv 6 = ((k / 6 : Nat) : Int) from nat_fdiv k 6]
      refine TE.binop ?_
      refine TE.binop ?_
      refine TE.binop ?_
      refine TE.loc 1 rfl ?_
      refine TE.int ?_
      refine TV2.divII (by decide) (noPylong _ (by decide)) ?_
      rw [show ((k : Int)).fdiv 3 = ((k / 3 : Nat) : Int) from nat_fdiv k 3]
      refine TE.int ?_
      refine TV2.modII (by decide) ?_
      rw [show (((k / 3 : Nat) : Int)).fmod 2 = ((k / 3 % 2 : Nat) : Int) from nat_fmod (k / 3) 2]
      refine TE.int ?_
      refine TV2.mulII (IntMulOk.of_right (by decide)) ?_
      refine TV2.addII ?_
      refine TE.binop ?_
      refine TE.binop ?_
      refine TE.loc 1 rfl ?_
      refine TE.int ?_
      refine TV2.modII (by decide) ?_
      rw [show ((k : Int)).fmod 3 = ((k % 3 : Nat) : Int) from nat_fmod k 3]
      refine TE.int ?_
      refine TV2.mulII (IntMulOk.of_right (by decide)) ?_
      refine TV2.addII ?_
      have hix : k / 6 + k / 3 % 2 * 3 + k % 3 * 6 < 24 := by omega
      rw [show ((k / 6 : Nat) : Int) + ((k / 3 % 2 : Nat) : Int) * 3 + ((k % 3 : Nat) : Int) * 6 = ((k / 6 + k / 3 % 2 * 3 + k % 3 * 6 : Nat) : Int) by omega]
      refine TV2.subLI (x := .int ((ls[k / 6 + k / 3 % 2 * 3 + k % 3 * 6]?).getD 0)) (by omega) (by omega) (by rw [Int.toNat_natCast, List.getElem?_map, List.getElem?_eq_getElem (by omega)]; rfl) ⟨rfl, rfl⟩
    refine ⟨_, by rw [List.getElem?_append_right (Nat.le_refl _), Nat.sub_self]; rfl, ?_⟩
    rw [show (18 - 0 : Int).toNat = 18 from rfl, turn_data, List.take_left]
    refine TE.sub ?_
    refine TE.cell 1 rfl ?_
    refine TE.slice2 ?_
    refine TE.int ?_
    refine TE.int ⟨_, _, _, _, rfl, rfl, ?_⟩
    refine TV2.subLS (a := 21) (b := 24) (by decide) (by rw [List.length_map, hls]; decide) (by rw [List.length_map, hls]; decide) ?_
    rw [e21]
    refine TV2.addLL (by simp [hls]) ?_
    refine TE.sub ?_
    refine TE.cell 1 rfl ?_
    refine TE.slice2 ?_
    refine TE.int ?_
    refine TE.int ⟨_, _, _, _, rfl, rfl, ?_⟩
    refine TV2.subLS (a := 18) (b := 21) (by decide) (by rw [List.length_map, hls]; decide) (by rw [List.length_map, hls]; decide) ?_
    rw [e18]
    refine TV2.addLL (by simp [hls]) ?_
    rw [← List.map_append, ← List.map_append]
    exact TA.loc 11 ⟨rfl, rfl, rfl⟩
  refine wpAny_execs_cons (TS.runE (ρ₁ := (rL6 ns ls rws v2 v7 v8)) (σ₁ := [(hdrs 0 (laidL ls)).map pairD]) ?s10 O R₁₀ L₁₀ fun φ₁₁ s₁₁ x₁₁ R₁₁ L₁₁ => ?_)
  case s10 =>
    refine TS.ite ?_
    refine TB.cmp ?_
    refine TE.loc 10 rfl ?_
    refine TE.call ?_
    refine TE.glob (v := .ref 259) (by show nsIn (hd.heap_39 w.params) _ _ = _; k_is) ⟨_, rfl, KeepOk.old (by show keepIn (hd.heap_39 w.params) _ = _; k_is), ?_⟩
    refine TEs.cons ?_
    refine TE.loc 11 rfl ?_
    refine TEs.nil ?_
    refine plain_spec htl ?_
    rw [hrw]
    refine TV2.neDD (shaped_rows rws) (shaped_rows rws) ?_
    rw [eqv_rowsD]
    refine TT.bool ?_
    show TSS _ _ _ _ _ _ _
    exact TSS.nil ⟨rfl, rfl, rfl⟩
  refine wpAny_execs_cons (TS.runE (ρ₁ := (rL7 ns ls rws v2 v7 v8)) (σ₁ := [(hdrs 0 (laidL ls)).map pairD, []]) ?s11 O R₁₁ L₁₁ fun φ₁₂ s₁₂ x₁₂ R₁₂ L₁₂ => ?_)
  case s11 =>
    refine TS.assignS [Str.ofString "names", Str.ofString "second"] ?_
    refine TEs.cons ?_
    refine TE.sub ?_
    refine TE.str ?_
    rw [pqrw_eq]
    refine TE.slice0u ?_
    refine TE.call ?_
    refine TE.bltn (by show nsIn (hd.heap_39 w.params) _ _ = _; k_is) (by boot_by_name) (by decide) ⟨_, rfl, KeepOk.builtin, ?_⟩
    refine TEs.cons ?_
    refine TE.loc 10 rfl ?_
    refine TEs.nil ?_
    refine TCall.lenL IsL.v (by simp; omega) ⟨_, _, rfl, ?_⟩
    rw [List.length_map]
    refine TV2.subNames hM8 ?_
    refine TEs.cons ?_
    refine TE.call ?_
    refine TE.glob (v := .ref 182) (by show nsIn (hd.heap_39 w.params) _ _ = _; k_is) ⟨_, rfl, KeepOk.old (by show keepIn (hd.heap_39 w.params) _ = _; k_is), ?_⟩
    refine TEs.nil ?_
    refine headers_spec ?_
    refine TEs.nil ⟨rfl, by simp, ?_⟩
    refine TN.loc 13 ?_
    exact TN.loc 12 ⟨rfl, rfl, rfl⟩
  have hi8 : ∀ r ∈ rws, r.1 < 8 ∧ r.2.1 < 8 := fun r hr => ⟨Nat.lt_of_lt_of_le (hidx r hr).1 hM8, Nat.lt_of_lt_of_le (hidx r hr).2 hM8⟩
  refine wpAny_execs_cons (TS.run (P := fun fl ρ' σ' => fl = .next ∧ ∃ v14 v15 : Option V, ρ' = (rL8 ns ls rws v2 v7 v8 v14 v15) ∧ σ' = [(hdrs 0 (laidL ls)).map pairD, (hdr2 0 rws).map pairD]) ?s12 O R₁₂ L₁₂ fun fl f φ₁₃ ρ₁₃ σ₁₃ s₁₃ x₁₃ R₁₃ L₁₃ r₁₃ p₁₃ => ?_)
  case s12 =>
    refine TS.for_ ?_
    refine TIter.enum ?_
    refine TE.bltn (by show nsIn (hd.heap_39 w.params) _ _ = _; k_is) (by boot_by_name) (by decide) ⟨rfl, ?_⟩
    refine TE.loc 10 rfl ⟨_, _, _, TSrc.list, ?_⟩
    refine TLoop.indN (fun ys ρ' σ' => ∃ (done rest : List Row) (v14 v15 : Option V), ys = enumL done.length (rest.map rowD) ∧ rws = done ++ rest ∧ ρ' = (rL8 ns ls rws v2 v7 v8 v14 v15) ∧ σ' = [(hdrs 0 (laidL ls)).map pairD, (hdr2 0 done).map pairD]) ?_ ?_ ⟨[], rws, none, none, rfl, rfl, rfl, rfl⟩
    · rintro ρ' σ' ⟨done, rest, v14, v15, hz, hl, rfl, rfl⟩
      intro P1 hP1
      have : rest = [] := by cases rest with | nil => rfl | cons _ _ => simp [enumL] at hz
      subst this
      rw [List.append_nil] at hl
      exact TSS.nil (hP1 _ _ _ ⟨rfl, v14, v15, rfl, by rw [← hl]⟩)
    · rintro x xs ρ' σ' ⟨done, rest, v14, v15, hz, hl, rfl, rfl⟩
      intro N1 P1 hN1 hP1
      cases rest with
      | nil => simp [enumL] at hz
      | cons r rest =>
        simp only [List.map_cons, enumL, List.cons.injEq] at hz
        obtain ⟨rfl, rfl⟩ := hz
        have hrm : r ∈ rws := by rw [hl]; simp
        obtain ⟨hr1, hr2⟩ := hidx r hrm
        obtain ⟨hr1', hr2'⟩ := hi8 r hrm
        have hdl : done.length < rws.length := by rw [hl, List.length_append, List.length_cons]; omega
        have hgo : rws.length ≤ 8 := hM8
        have hlet := letter_ok done.length (by omega)
        refine TA.tuple2 (TA.loc 14 (TA.loc 15 ?_))
        refine TSS.cons ?_
        refine TS.expr ?_
        refine TE.meth ?_
        refine TE.loc 13 rfl ⟨_, TGet.hdr hdrK (by show findIn (hd.heap_39 w.params) _ _ = _; k_is) (by show typeIn (hd.heap_39 w.params) _ = _; k_is) rfl, KeepOk.old (by show keepIn (hd.heap_39 w.params) _ = _; k_is), ?_⟩
        refine TEs.cons ?_
        refine TE.binop ?_
        refine TE.sub ?_
        refine TE.loc 12 rfl ?_
        refine TE.sub ?_
        refine TE.loc 15 rfl ?_
        refine TE.int ?_
        refine TV2.subTI (by decide) (by decide) (x := .int r.1) rfl ?_
        refine TV2.subSI (by omega) (by omega) (by rw [Int.toNat_natCast]; exact names_get (p := r.1) hr1) ?_
        refine TE.str ?_
        refine TV2.addSS (by rw [sizeLine_eq]; show 1 + 1 ≤ _; decide) ?_
        rw [show (⟨#[112 + r.1]⟩ : Str) ++ Str.ofString "a" = nameT 0 r.1 from low_add r.1 hr1']
        refine TEs.cons ?_
        refine TE.sub ?_
        refine TE.loc 12 rfl ?_
        refine TE.loc 14 rfl ?_
        refine TV2.subSI (by omega) (by omega) (by rw [Int.toNat_natCast]; exact names_get (p := done.length) hdl) ?_
        refine TEs.nil ?_
        refine add_header_spec (i := 1) (hs := hdr2 0 done) (x := nameT 0 r.1) (y := letterS done.length) rfl (nameT_ok 0 (by decide) r.1 hr1').1 hlet.1 (by rw [hdr2_len]; omega) ?_
        refine TSS.one ?_
        refine TS.expr ?_
        refine TE.meth ?_
        refine TE.loc 13 rfl ⟨_, TGet.hdr hdrK (by show findIn (hd.heap_39 w.params) _ _ = _; k_is) (by show typeIn (hd.heap_39 w.params) _ = _; k_is) rfl, KeepOk.old (by show keepIn (hd.heap_39 w.params) _ = _; k_is), ?_⟩
        refine TEs.cons ?_
        refine TE.binop ?_
        refine TE.binop ?_
        refine TE.sub ?_
        refine TE.loc 12 rfl ?_
        refine TE.sub ?_
        refine TE.loc 15 rfl ?_
        refine TE.int ?_
        refine TV2.subTI (by decide) (by decide) (x := .int r.2.1) rfl ?_
        refine TV2.subSI (by omega) (by omega) (by rw [Int.toNat_natCast]; exact names_get (p := r.2.1) hr2) ?_
        refine TE.str ?_
        refine TV2.addSS (by rw [sizeLine_eq]; show 1 + 1 ≤ _; decide) ?_
        rw [show (⟨#[112 + r.2.1]⟩ : Str) ++ Str.ofString "A" = tx [112 + r.2.1, 65] from upA_add r.2.1 hr2']
        refine TE.int ?_
        refine TV2.mulSI (mulok2 _ _) ?_
        rw [upA_mul r.2.1 hr2']
        refine TEs.cons ?_
        refine TE.sub ?_
        refine TE.loc 12 rfl ?_
        refine TE.loc 14 rfl ?_
        refine TV2.subSI (by omega) (by omega) (by rw [Int.toNat_natCast]; exact names_get (p := done.length) hdl) ?_
        refine TEs.nil ?_
        refine add_header_spec (i := 1) (hs := hdr2 0 done ++ [(nameT 0 r.1, letterS done.length)]) (x := nmA r.2.1) (y := letterS done.length) rfl (nmA_ok r.2.1 hr2').1 hlet.1 (by rw [List.length_append, hdr2_len]; simp; omega) ?_
        refine ⟨trivial, hN1 _ _ ⟨done ++ [r], rest, _, _, ?_, by rw [hl]; simp, rfl, ?_⟩⟩
        · rw [List.length_append]; rfl
        · rw [hdr2_snoc, Nat.zero_add, List.append_assoc]; rfl
  obtain ⟨rfl, v14, v15, rfl, rfl⟩ := p₁₃
  cases f <;> first | exact r₁₃.elim | skip
  show wpAny _ _ (execs _ env) _ _ s₁₃
  have hkn : e2n (szN ls) (kinds0 rws) = enc (szN ls) rws.length (sStart rws) := by unfold enc; rw [start_bits]
  have hn24 : szN ls * rws.length ≤ 60 := Nat.le_trans (Nat.mul_le_mul hbd.2 hM8) (by decide)
  refine wpAny_execs_cons (TS.runE (ρ₁ := (rL9 ns ls rws v2 v7 v8 v14 v15)) (σ₁ := [(hdrs 0 (laidL ls)).map pairD, (hdr2 0 rws).map pairD]) ?s13 O R₁₃ L₁₃ fun φ₁₄ s₁₄ x₁₄ R₁₄ L₁₄ => ?_)
  case s13 =>
    refine TS.assign ?_
    refine TE.call ?_
    refine TE.glob (v := .ref 200) (by show nsIn (hd.heap_39 w.params) _ _ = _; k_is) ⟨_, rfl, KeepOk.old (by show keepIn (hd.heap_39 w.params) _ = _; k_is), ?_⟩
    refine TEs.cons ?_
    refine TE.comp ?_
    refine TIter.of ?_
    refine TE.loc 10 rfl ?_
    refine ⟨_, _, _, TItr.list (.inl rfl), trivial, ?_⟩
    refine TComp.pure (ρ₀ := [none, none, none]) 1 (fun _ => true) kindF (by simp; omega) (fun _ => trivial) ?_ ?_ ?_ ?_
    · rintro x ρ' σ' hx hr
      refine TA.loc 1 ⟨?_, rfl⟩
      rcases hr with rfl | ⟨y, rfl⟩ <;> rfl
    · rintro x ys hx
      exact ⟨rfl, rfl⟩
    · rintro x ys hx _
      obtain ⟨r, hr, rfl⟩ := List.mem_map.mp hx
      refine TE.call ?_
      refine TE.bltn (by show nsIn (hd.heap_39 w.params) _ _ = _; k_is) (by boot_by_name) (by decide) ⟨_, rfl, KeepOk.type, ?_⟩
      refine TEs.cons ?_
      refine TE.sub ?_
      refine TE.loc 1 rfl ?_
      refine TE.int ?_
      refine TV2.subTI (by decide) (by decide) (x := .bool r.2.2) rfl ?_
      refine TEs.nil ?_
      exact TCall.intBool ⟨rfl, rfl⟩
    refine ⟨_, by rw [List.getElem?_append_right (Nat.le_refl _), Nat.sub_self]; rfl, ?_⟩
    rw [kind_data, List.take_left]
    refine TEs.cons ?_
    refine TE.cell 4 rfl ?_
    refine TEs.nil ?_
    have hkl : (kinds0 rws).length = rws.length := by simp [kinds0]
    refine digits2int_spec (ds := (kinds0 rws).map fun x : Nat => (x : Int)) (n := szN ls) (by rw [List.map_map]; exact IsL.v) (by rw [List.length_map, hkl]; exact hn24) (by rw [List.length_map, hkl]; exact hM8) (fun x hx => by
      obtain ⟨y, hy, rfl⟩ := List.mem_map.mp hx
      obtain ⟨r, _, rfl⟩ := List.mem_map.mp hy
      exact dig01 _ (by split <;> simp)) ?_
    rw [d2i_nat, hkn]
    exact TA.loc 16 ⟨rfl, rfl, rfl⟩
  have hsum : (sumL (szN ls) 0 rws).sum = eI (szN ls) rws.length (sStart rws) := by rw [sumL_sum, hkn]; simp
  refine wpAny_execs_cons (TS.runE (ρ₁ := (rL9 ns ls rws v2 v7 v8 v14 v15)) (σ₁ := [(hdrs 0 (laidL ls)).map pairD, (hdr2 0 rws).map pairD]) ?s14 O R₁₄ L₁₄ fun φ₁₅ s₁₅ x₁₅ R₁₅ L₁₅ => ?_)
  case s14 =>
    refine TS.ite ?_
    refine TB.cmp ?_
    refine TE.loc 16 rfl ?_
    refine TE.call ?_
    refine TE.bltn (by show nsIn (hd.heap_39 w.params) _ _ = _; k_is) (by boot_by_name) (by decide) ⟨_, rfl, KeepOk.builtin, ?_⟩
    refine TEs.cons ?_
    refine TE.comp ?_
    refine TIter.enum ?_
    refine TE.bltn (by show nsIn (hd.heap_39 w.params) _ _ = _; k_is) (by boot_by_name) (by decide) ⟨rfl, ?_⟩
    refine TE.loc 10 rfl ⟨_, _, _, TSrc.list, trivial, ?_⟩
    refine TComp.pureG (fun x => [none, some (.d (fst2 x)), some (.d (snd2 x)), none, some (.d (.int ((szN ls : Nat) : Int)))]) (fun _ => true) (sumF (szN ls)) (by rw [enumL_length]; simp; omega) (fun _ => trivial) ?_ ?_ ?_ ?_
    · rintro x ρ' σ' hx hr
      obtain ⟨i, hi⟩ := List.mem_iff_getElem?.mp hx
      obtain ⟨y, hy, rfl⟩ := enumL_get _ _ _ _ hi
      refine TA.tuple2 (TA.loc 1 (TA.loc 2 ⟨?_, rfl⟩))
      rcases hr with rfl | ⟨y, rfl⟩ <;> rfl
    · rintro x ys hx
      exact ⟨rfl, rfl⟩
    · rintro x ys hx _
      obtain ⟨i, hi⟩ := List.mem_iff_getElem?.mp hx
      obtain ⟨y, hy, rfl⟩ := enumL_get _ _ _ _ hi
      obtain ⟨r, hr, rfl⟩ := List.mem_map.mp (List.mem_of_getElem? hy)
      have hil : 0 + i < rws.length := by have := (List.getElem?_eq_some_iff.mp hy).1; simpa using this
      refine TE.binop ?_
      refine TE.call ?_
      refine TE.bltn (by show nsIn (hd.heap_39 w.params) _ _ = _; k_is) (by boot_by_name) (by decide) ⟨_, rfl, KeepOk.type, ?_⟩
      refine TEs.cons ?_
      refine TE.sub ?_
      refine TE.loc 2 rfl ?_
      refine TE.int ?_
      refine TV2.subTI (by decide) (by decide) (x := .bool r.2.2) rfl ?_
      refine TEs.nil ?_
      refine TCall.intBool ?_
      refine TE.binop ?_
      refine TE.cell 4 rfl ?_
      refine TE.loc 1 rfl ?_
      have hsz : ((szN ls : Nat) : Int).natAbs < 2 ^ 64 := by have := hbd.2; omega
      refine TV2.mulII (IntMulOk.of_left (intBits_le hsz)) ?_
      have hpr : ((szN ls : Nat) : Int) * ((0 + i : Nat) : Int) = ((szN ls * (0 + i) : Nat) : Int) := by simp
      have hsmall : szN ls * (0 + i) ≤ 60 := Nat.le_trans (Nat.mul_le_mul_left _ (Nat.le_of_lt hil)) hn24
      rw [hpr]
      refine TV2.shlII (by omega) (by omega) (by split <;> decide) ⟨?_, rfl⟩
      show V.d _ = V.d (.int ((if r.2.2 then 1 else 0) * 2 ^ (((szN ls : Nat) : Int) * ((0 + i : Nat) : Int)).toNat))
      rw [hpr]
    refine ⟨_, by rw [List.getElem?_append_right (Nat.le_refl _), Nat.sub_self]; rfl, ?_⟩
    rw [sum_data, List.take_left]
    refine TEs.nil ?_
    refine TCall.sum ?_
    rw [hsum]
    refine TV2.neDD rfl rfl ?_
    rw [show PyData.eqv (.int (eI (szN ls) rws.length (sStart rws))) (.int (eI (szN ls) rws.length (sStart rws))) = true by simp [PyData.eqv]]
    refine TT.bool ?_
    show TSS _ _ _ _ _ _ _
    exact TSS.nil ⟨rfl, rfl, rfl⟩
  have W2 := plain_whole ls
  refine wpAny_execs_cons (TS.run (P := fun fl ρ' σ' => fl = .ret (.d (.bool true))) ?s15 O R₁₅ L₁₅ fun fl f φ₁₆ ρ₁₆ σ₁₆ s₁₆ x₁₆ R₁₆ L₁₆ r₁₆ p₁₆ => ?_)
  case s15 =>
    refine TS.ret ?_
    refine TE.cmp ?_
    refine TE.call ?_
    refine TE.glob (v := .ref 254) (by show nsIn (hd.heap_39 w.params) _ _ = _; k_is) ⟨_, rfl, KeepOk.old (by show keepIn (hd.heap_39 w.params) _ = _; k_is), ?_⟩
    refine TEs.cons ?_
    refine TE.loc 13 rfl ?_
    refine TEs.cons ?_
    refine TE.loc 16 rfl ?_
    refine TEs.cons ?_
    refine TE.int ?_
    refine TEs.cons ?_
    refine TE.loc 12 rfl ?_
    refine TEs.cons ?_
    refine TE.cell 4 rfl ?_
    refine TEs.nil ?_
    refine made_spec1 (i := 1) (N := rws.length) (n := szN ls) (hs := hdr2 0 rws) (nxt := nxt2 rws) (S₀ := sStart rws) (T := [0]) (by show (1 : Int) = ((enc (szN ls) rws.length [0] : Nat) : Int); rw [enc_one hM1]; rfl) rfl (by rw [hdr2_len]; omega) (hdr2_ok rws 0 hi8) hM1 hM8 hbd.1 hbd.2 (start_set rws) (fun l p j hj => nxt2_lt hj) (fun l p hl hp => by
      have := hdr2_tell (l := l) (q := p) hl (Nat.lt_of_lt_of_le hp hM8) rws 0 hi8
      simpa using this) ?_
    rw [second_run, hbz]
    refine TE.call ?_
    refine TE.glob (v := .ref 264) (by show nsIn (hd.heap_39 w.params) _ _ = _; k_is) ⟨_, rfl, KeepOk.old (by show keepIn (hd.heap_39 w.params) _ = _; k_is), ?_⟩
    refine TEs.cons ?_
    refine TE.call ?_
    refine TE.glob (v := .ref 259) (by show nsIn (hd.heap_39 w.params) _ _ = _; k_is) ⟨_, rfl, KeepOk.old (by show keepIn (hd.heap_39 w.params) _ = _; k_is), ?_⟩
    refine TEs.cons ?_
    refine TE.cell 1 rfl ?_
    refine TEs.nil ?_
    refine plain_spec hls ?_
    refine TEs.nil ?_
    refine least_spec W2.pos (plain_len ls) W2.closed ?_
    refine TV2.eqDD (shaped_rows _) (shaped_rows _) ?_
    rw [eqv_rowsD]
  subst p₁₆
  cases f <;> first | exact r₁₆.elim | skip
  have r₁₆' : VRep s₁₆.heap φ₁₆ X (.d (.bool true)) _ := r₁₆
  obtain rfl := r₁₆'.bool_inv
  exact K φ₁₆ σ₁₆ s₁₆ (((((((((((((((x₁.trans x₂).trans x₃).trans x₄).trans x₅).trans x₆).trans x78).trans x₉).trans x₁₀).trans x₁₁).trans x₁₂).trans x₁₃).trans x₁₄).trans x₁₅).trans x₁₆)) R₁₆
end
end Mine
end -- G17
section -- J1
set_option tactic.hygienic false
open PySem PySem.W PySem.Calls PyProof.Rows
set_option linter.unusedVariables false
set_option linter.unusedSimpArgs false
set_option autoImplicit false
namespace Mine
theorem ints_rd {τ : TokMap} {h : Heap} : ∀ {vs : List Value} {ns : List Int}, IntsAre vs ns → RdAll true τ h vs (ns.map PyData.int)
  | _, _, h => by
    cases h with
    | nil => exact .nil
    | cons _ _ ih => exact .cons (.int fun q => by cases q) (ints_rd ih)
theorem nat_nd (L : Nat) : [L + 1 + 1 + 1 + 1, L + 1 + 1 + 1, L + 1 + 1, L + 1].Nodup ∧ L ∉ [L + 1 + 1 + 1 + 1, L + 1 + 1 + 1, L + 1 + 1, L + 1] := by
  constructor
  · simp only [List.nodup_cons, List.mem_cons, List.not_mem_nil, or_false, List.nodup_nil, not_false_eq_true, and_true]; omega
  · simp only [List.mem_cons, List.not_mem_nil, or_false]; omega
set_option maxRecDepth 100000 in
theorem law_join {w : World} {s₁ : Shared} {g h₁ : Heap} {tk₁ : Nat} {loose : List Str} {mean : ExcName → Option Value} {mg mb : Str → Option Value} {fd : FuncData} {o : Obj} {body : List Stmt} {env : Env} {L : Addr} {m : Str → Option Value} {ns : List Int} {la : Addr} {vals : List Value} {o4 o3 o2 o1 : Obj} {Q : Flow → Shared → Prop} {E : Value → Shared → Prop}
    (hK : List.lookup 269 (hd.heap_39 w.params) = some o) (hdat : o.data = .func fd) (hbody : fd.body = .stmts body)
    (X : (hd.heap_39 w.params).In g) (T : Top topProg loose mean mg mb g) (F : Fr g L h₁ m) (N : News g L h₁ [(L + 1 + 1 + 1 + 1, o4), (L + 1 + 1 + 1, o3), (L + 1 + 1, o2), (L + 1, o1), (188, tabObj #[]), (195, tabObj #[])])
    (d4 : o4.data = .cell none) (d3 : o3.data = .cell none) (d2 : o2.data = .cell none) (d1 : o1.data = .cell none)
    (hl : g.IsList la vals.toArray) (hI : IntsAre vals ns) (hm : m (Str.ofString "script") = some (.ref la)) (hn : ns.length ≤ 63)
    (e1 : env.scope = fd.scope) (e2 : env.locals = L) (e3 : env.globals = mainGlobals) (e4 : env.builtins = builtinsNs)
    (e5 : env.cells = [(Str.ofString "laid", L + 1 + 1 + 1 + 1), (Str.ofString "table", L + 1 + 1 + 1), (Str.ofString "size", L + 1 + 1), (Str.ofString "lamps", L + 1)]) (e6 : env.frame = some env.locals)
    (K : ∀ s', (∀ b o, g.get? b = some o → s'.heap.get? b = some o) → s'.os = s₁.os → s'.gens = s₁.gens → (∀ P ∈ tabs, ∃ ps, s'.heap.get? P = some (tabObj ps)) → Q (.ret (.bool true)) s') :
    wpAny (model PySem.Challenge.rw_wc0014_01.row.prog w) (callerA.deeper env) (execs body env) Q E { heap := h₁, gens := s₁.gens, drawn := s₁.drawn, toks := tk₁, os := s₁.os } := by
  have n4 := N _ (.head _)
  have n3 := N _ (.tail _ (.head _))
  have n2 := N _ (.tail _ (.tail _ (.head _)))
  have n1 := N _ (.tail _ (.tail _ (.tail _ (.head _))))
  have t1 := N _ (.tail _ (.tail _ (.tail _ (.tail _ (.head _)))))
  have t2 := N _ (.tail _ (.tail _ (.tail _ (.tail _ (.tail _ (.head _))))))
  have gL : g.get? L = none := get_none F.above
  have hsc : cellNames fd.scope = [Str.ofString "lamps", Str.ofString "size", Str.ofString "table", Str.ofString "laid"] ∧ fd.scope.kind = .function ∧ (fd.scope.names.map (·.1)).Nodup ∧ fd.scope.names.length = 28 ∧ fd.scope.names[0]? = some (Str.ofString "script", .local) ∧
      (fd.scope.names.all fun n => (n.2 != .cell && n.2 != .free) || n.1 == Str.ofString "lamps" || n.1 == Str.ofString "size" || n.1 == Str.ofString "table" || n.1 == Str.ofString "laid") = true := by
    have KX : (hd.heap_39 w.params).In g → True := fun _ => trivial
    have PP : PySem.Challenge.rw_wc0014_01.prog = PySem.Challenge.rw_wc0014_01.prog := rfl
    revert KX PP; k_fill; intro KX PP
    refine use_lookup (by show List.lookup 269 (hd.heap_39 w.params) = _; k_is) hK ?_
    rintro rfl
    cases hdat
    exact ⟨by rfl, rfl, by decide, rfl, rfl, by rfl⟩
  obtain ⟨s1, s2, s3, s4, s5, s6⟩ := hsc
  have hown : own env (fnSc fd.scope) = [L, L + 1, L + 1 + 1, L + 1 + 1 + 1, L + 1 + 1 + 1 + 1] := by
    show env.locals :: (cellNames fd.scope).filterMap (fun x => env.cells.lookup x) = _
    rw [s1, e5, e2]; rfl
  generalize hX : own env (fnSc fd.scope) ++ tabs = Y
  have hY : ∀ b, b ∈ Y → (∃ o, h₁.get? b = some o) ∧ g.get? b = none := fun b hb => by
    rw [← hX, hown] at hb
    simp only [List.cons_append, List.nil_append, List.mem_cons, List.not_mem_nil, or_false] at hb
    rcases hb with rfl | rfl | rfl | rfl | rfl | rfl | rfl
    · exact ⟨Heap.Ns.is F.ns, gL⟩
    · exact ⟨⟨_, n1.1⟩, n1.2.2⟩
    · exact ⟨⟨_, n2.1⟩, n2.2.2⟩
    · exact ⟨⟨_, n3.1⟩, n3.2.2⟩
    · exact ⟨⟨_, n4.1⟩, n4.2.2⟩
    · exact ⟨⟨_, t1.1⟩, t1.2.2⟩
    · exact ⟨⟨_, t2.1⟩, t2.2.2⟩
  have hYo : ∀ b ∈ own env (fnSc fd.scope), b ∈ Y := fun b hb => hX ▸ List.mem_append.mpr (.inl hb)
  have hYt : ∀ b ∈ tabs, b ∈ Y := fun b hb => hX ▸ List.mem_append.mpr (.inr hb)
  have hgY : ∀ b o, g.get? b = some o → b ∉ Y := fun b o e q => by rw [(hY b q).2] at e; cases e
  have C : (cx w g s₁ loose mean mg mb ⟨[], fun _ => none⟩).Ok := ⟨X, T⟩
  have R : Rel (cx w g s₁ loose mean mg mb ⟨[], fun _ => none⟩) ⟨[], fun _ => none⟩ Y [] { heap := h₁, gens := s₁.gens, drawn := s₁.drawn, toks := tk₁ + 1, os := s₁.os } := {
    len := rfl
    nd := List.Pairwise.nil
    dj := fun _ h => by cases h
    ob := fun i a xs q => by simp at q
    xs := fun a ha => (hY a ha).1
    bs := fun b o q => ⟨F.keep b o q, (fun h => by cases h), hgY b o q⟩
    tb := fun b hb => ⟨hYt b hb, #[], by
      simp only [List.mem_cons, List.not_mem_nil, or_false] at hb
      rcases hb with rfl | rfl
      · exact t1.1
      · exact t2.1, trivial, fun pos cv q => by cases q⟩
    env := ⟨h₁, tk₁ + 1, rfl⟩
    tk := ⟨Nat.succ_pos _, rfl, fun _ _ => rfl⟩
    pl := List.prefix_refl _
    pt := .refl }
  have O : Ok (cx w g s₁ loose mean mg mb ⟨[], fun _ => none⟩) (0 + 40) env (fnSc fd.scope) (callerA.deeper env) Y := by
    refine ⟨C, ⟨rfl, by show 1 + claimMargin + 1 + 4 * (0 + 40) + 8 < recursionLimit; decide, by show 4 + 3 + 16 * (0 + 40) + 200 < cLine; decide⟩, ⟨e1, s2, s3, e3, e4, by rw [e5]; exact (nat_nd L).1, by rw [e5, e2]; exact (nat_nd L).2⟩, hYo⟩
  have hla : (cut h₁ ([] ++ Y)).get? la = g.get? la := by
    obtain ⟨ol, ho, _⟩ := hl
    rw [ho]
    exact cut_get.mpr ⟨F.keep _ _ ho, fun q => hgY _ _ ho (by simpa using q)⟩
  have hcell : ∀ x a ol, h₁.get? a = some ol → ol.data = .cell none → env.cells.lookup x = some a → ∃ c ov, env.cells.lookup x = some c ∧ h₁.IsCell c ov := fun x a ol q1 q2 q3 => ⟨a, none, q3, ol, q1, q2⟩
  refine law_walk (d := 0) (φ := ⟨[], fun _ => none⟩) (X := Y) (ns := ns) hK hdat hbody hn O R ⟨by rw [s4]; rfl, ⟨m, by rw [e2]; exact F.ns, fun k x v q1 q2 => ?_⟩, fun k x kd q1 q2 => ?_⟩ rfl e6 fun φ' σ' s' x R' => ?_
  · cases k with
    | zero =>
      rw [show (fnSc fd.scope).names[0]? = _ from s5] at q1
      cases q1
      cases q2
      obtain ⟨ol, ho, hc, n, hd'⟩ := hl
      exact ⟨_, hm, Rd.list (hla.trans ho) hc hd' (by rw [show (vals.toArray).toList = vals by simp]; exact ints_rd hI)⟩
    | succ k =>
      rw [List.getElem?_cons_succ] at q2
      have := List.mem_of_getElem? q2
      simp at this
  · have hc : ∃ c ov, env.cells.lookup x = some c ∧ h₁.IsCell c ov := by
      have h6 := List.all_eq_true.mp s6 (x, kd) (List.mem_of_getElem? q1)
      have hk : (kd != .cell && kd != .free) = false := by rcases q2 with rfl | rfl <;> rfl
      simp only [hk, Bool.false_or, Bool.or_eq_true, beq_iff_eq] at h6
      rcases h6 with ((rfl | rfl) | rfl) | rfl
      · exact hcell _ _ _ n1.1 d1 (by rw [e5]; rfl)
      · exact hcell _ _ _ n2.1 d2 (by rw [e5]; rfl)
      · exact hcell _ _ _ n3.1 d3 (by rw [e5]; rfl)
      · exact hcell _ _ _ n4.1 d4 (by rw [e5]; rfl)
    obtain ⟨c, ov, g1, g2⟩ := hc
    refine ⟨c, ov, g1, g2, (fun h => by cases h), fun v q3 => ?_⟩
    cases k with
    | zero =>
      rw [show (fnSc fd.scope).names[0]? = _ from s5] at q1
      cases q1
      rcases q2 with q | q <;> cases q
    | succ k =>
      rw [List.getElem?_cons_succ] at q3
      have := List.mem_of_getElem? q3
      simp at this
  · refine K s' (fun b o q => (R'.bs b o q).1) ?_ ?_ fun P hP => (R'.tbs P hP).2
    · obtain ⟨h, t, rfl⟩ := R'.env; rfl
    · obtain ⟨h, t, rfl⟩ := R'.env; rfl
end Mine
end -- J1
open PySem PySem.W PySem.Calls PyProof.Rows
set_option maxRecDepth 100000 in
set_option maxHeartbeats 8000000 in
theorem PySem.Challenge.cw_wc0014_01_holds : PySem.Challenge.rw_wc0014_01.Holds := by
  exact Mine.hd (by
    k_go0
    all_goals try k_fold
    apply Mine.law_join
    case hK => k_is
    case hdat => rfl
    case hbody => rfl
    case F => assumption
    case N => assumption
    case T => assumption
    case X => assumption
    case hl => assumption
    case hI => assumption
    case d4 => assumption
    case d3 => assumption
    case d2 => assumption
    case d1 => assumption
    case hm => rfl
    case hn => omega
    case e1 => rfl
    case e2 => rfl
    case e3 => rfl
    case e4 => rfl
    case e5 => rfl
    case e6 => rfl
    case K =>
      intro s' k1 k2 k3 k4
      refine ⟨⟨.inl ⟨_, .bool true, [], rfl, fun _ => rfl, .bool true, by first | kc_post | wrow_post, unshared_nil⟩, k1, k2, k3.trans (by assumption)⟩, ?_⟩
      exact ⟨k4 188 (by decide), k4 195 (by decide), trivial⟩)
