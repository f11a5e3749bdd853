import PyProof.Rows.All
import Wide.All
import OpenK.AllK
import Wide.FinOn
import PySem.Challenge.RW_ph0110_01
open PySem PySem.W PyProof.Rows
set_option Elab.async false

/-! Base -/
namespace Mine

/-- what a call may change of what stood: the two code tables alone -/
def KeepT (h h' : Heap) : Prop := ∀ b o, b ≠ 58 → b ≠ 51 → h.get? b = some o → h'.get? b = some o
theorem KeepT.refl (h : Heap) : KeepT h h := fun _ _ _ _ e => e
theorem KeepT.trans {a b c : Heap} (x : KeepT a b) (y : KeepT b c) : KeepT a c := fun p o h1 h2 e => y p o h1 h2 (x p o h1 h2 e)
theorem KeepT.of {h h' : Heap} (k : ∀ b o, h.get? b = some o → h'.get? b = some o) : KeepT h h' := fun b o _ _ e => k b o e

/-- no code object: what may be turned -/
def NotCode (o : Obj) : Prop := ∀ vs q t, o.data = .fields vs → vs[1]? ≠ some (.str q t)
theorem NotCode.seq {o : Obj} {its : Array Value} {n : Nat} (h : o.data = .seq its n) : NotCode o := fun vs q t e => by rw [h] at e; cases e
theorem NotCode.cell {o : Obj} {v : Option Value} (h : o.data = .cell v) : NotCode o := fun vs q t e => by rw [h] at e; cases e
theorem NotCode.dict {o : Obj} {es : Array DictEntry} {n : Nat} (h : o.data = .dict es n) : NotCode o := fun vs q t e => by rw [h] at e; cases e
theorem NotCode.int {o : Obj} {vs : Array Value} {i : Int} {u : Tok} (h : o.data = .fields vs) (h1 : vs[1]? = some (.int i u)) : NotCode o := fun vs' q t e z => by
  rw [h] at e; cases e; rw [h1] at z; cases z

/-- one of the two tables -/
def TabAt1 (h : Heap) (P : Addr) (ln : Int) (q : Str) : Prop :=
  ∃ ps : Array Value, h.get? P = some (tabObj ps) ∧ (ps = #[] ∨ ∃ c', ps = #[rawInt ln, rawInt 4, .ref c'] ∧ h.CodeRec (.ref c') q)
def Tabs (h : Heap) : Prop := TabAt1 h 51 58 "_int2digits.<locals>.inner" ∧ TabAt1 h 58 73 "_digits2int.<locals>.inner"

theorem TabAt1.keeps {h h' : Heap} {P : Addr} {ln : Int} {q : Str} (x : TabAt1 h P ln q) (k : ∀ b o, h.get? b = some o → h'.get? b = some o) : TabAt1 h' P ln q := by
  obtain ⟨ps, e, r⟩ := x
  refine ⟨ps, k _ _ e, ?_⟩
  rcases r with r | ⟨c', e', cr⟩
  · exact .inl r
  · exact .inr ⟨c', e', cr.keeps k⟩
theorem Tabs.keeps {h h' : Heap} (x : Tabs h) (k : ∀ b o, h.get? b = some o → h'.get? b = some o) : Tabs h' := ⟨x.1.keeps k, x.2.keeps k⟩

/-- the frame: base g, the locals at L, the heap h now, the map m of the locals, the objects own that were made -/
structure Fm (g : Heap) (L : Addr) (h : Heap) (m : Str → Option Value) (own : List (Addr × Obj)) : Prop where
  ns : h.Ns L m
  keep : ∀ b o, g.get? b = some o → h.get? b = some o
  new : g.get? L = none
  has : ∀ p ∈ own, h.get? p.1 = some p.2 ∧ g.get? p.1 = none ∧ p.1 ≠ L ∧ p.1 ≠ 58 ∧ p.1 ≠ 51
  nd : (own.map (·.1)).Nodup
  tab : Tabs h
  t58 : L ≠ 58
  t51 : L ≠ 51

def Hid (g : Heap) : Prop := g.get? 58 = none ∧ g.get? 51 = none

section
variable {g h h' : Heap} {L a : Addr} {m m' : Str → Option Value} {own : List (Addr × Obj)} {o o' : Obj}

theorem Fm.get (F : Fm g L h m own) (hm : (a, o) ∈ own) : h.get? a = some o := (F.has _ hm).1

theorem Ns.get_some {h : Heap} {L : Addr} {m : Str → Option Value} (n : h.Ns L m) : ∃ o, h.get? L = some o := let ⟨o, _, _, e, _⟩ := n; ⟨o, e⟩

theorem tab_same {P : Addr} {ln : Int} {q : Str} (x : TabAt1 h P ln q) (hs : ∀ b o, b ≠ a → h.get? b = some o → h'.get? b = some o) (hP : a ≠ P) (hc : ∀ (oo : Obj), h.get? a = some oo → NotCode oo) : TabAt1 h' P ln q := by
  obtain ⟨ps, e, r⟩ := x
  refine ⟨ps, hs P _ (Ne.symm hP) e, ?_⟩
  rcases r with r | ⟨c', e', cr⟩
  · exact .inl r
  · refine .inr ⟨c', e', ?_⟩
    obtain ⟨c1, oc, vs, t, e1, g1, d1, r1⟩ := cr
    refine ⟨c1, oc, vs, t, e1, hs c1 _ (fun z => ?_) g1, d1, r1⟩
    subst z
    exact hc _ g1 _ _ _ d1 r1

theorem Fm.set (F : Fm g L h m own) (hn : h'.Ns L m') (hs : Heap.SameBut L h h') : Fm g L h' m' own where
  ns := hn
  keep := fun b o e => (hs.2 b (fun z => by subst z; rw [F.new] at e; cases e)).trans (F.keep b o e)
  new := F.new
  has := fun p hp => let ⟨a, b, c, d⟩ := F.has p hp; ⟨(hs.2 _ c).trans a, b, c, d⟩
  nd := F.nd
  tab := by
    obtain ⟨oL, es, ep, eL, dL, _⟩ := F.ns
    have hc : ∀ (oo : Obj), h.get? L = some oo → NotCode oo := fun oo e => by
      rw [eL] at e; cases e; exact .dict dL
    exact ⟨tab_same F.tab.1 hs.extBut F.t51 hc, tab_same F.tab.2 hs.extBut F.t58 hc⟩
  t58 := F.t58
  t51 := F.t51

theorem Fm.setK (F : Fm g L h m own) (hn : h'.Ns L m') (hs : ∀ b o, b ≠ L → h.get? b = some o → h'.get? b = some o) : Fm g L h' m' own where
  ns := hn
  keep := fun b o e => hs b o (fun z => by subst z; rw [F.new] at e; cases e) (F.keep b o e)
  new := F.new
  has := fun p hp => let ⟨a, b, c, d⟩ := F.has p hp; ⟨hs _ _ c a, b, c, d⟩
  nd := F.nd
  tab := by
    obtain ⟨oL, es, ep, eL, dL, _⟩ := F.ns
    have hc : ∀ (oo : Obj), h.get? L = some oo → NotCode oo := fun oo e => by
      rw [eL] at e; cases e; exact .dict dL
    exact ⟨tab_same F.tab.1 hs F.t51 hc, tab_same F.tab.2 hs F.t58 hc⟩
  t58 := F.t58
  t51 := F.t51

theorem Fm.drop (F : Fm g L h m own) {own' : List (Addr × Obj)} (hs : own'.Sublist own) : Fm g L h m own' where
  ns := F.ns
  keep := F.keep
  new := F.new
  has := fun p hp => F.has p (hs.subset hp)
  nd := F.nd.sublist (hs.map _)
  tab := F.tab
  t58 := F.t58
  t51 := F.t51
theorem Fm.tail {p : Addr × Obj} (F : Fm g L h m (p :: own)) : Fm g L h m own := F.drop (List.sublist_cons_self _ _)
theorem Fm.nil (F : Fm g L h m own) : Fm g L h m [] := F.drop (List.nil_sublist _)

theorem Fm.grow (F : Fm g L h m own) (k : ∀ b o, h.get? b = some o → h'.get? b = some o) : Fm g L h' m own where
  ns := F.ns.keeps k
  keep := fun b o e => k _ _ (F.keep b o e)
  new := F.new
  has := fun p hp => ⟨k _ _ (F.has p hp).1, (F.has p hp).2⟩
  nd := F.nd
  tab := F.tab.keeps k
  t58 := F.t58
  t51 := F.t51

theorem Fm.fresh (F : Fm g L h m own) (hn : h.get? a = none) : g.get? a = none ∧ a ≠ L ∧ a ≠ 58 ∧ a ≠ 51 := by
  refine ⟨?_, ?_, ?_, ?_⟩
  · cases q : g.get? a with
    | none => rfl
    | some o' => rw [F.keep _ _ q] at hn; cases hn
  · rintro rfl
    obtain ⟨o', e⟩ := Ns.get_some F.ns
    rw [hn] at e; cases e
  · rintro rfl
    obtain ⟨_, e, _⟩ := F.tab.2
    rw [hn] at e; cases e
  · rintro rfl
    obtain ⟨_, e, _⟩ := F.tab.1
    rw [hn] at e; cases e
theorem Fm.freshNd (F : Fm g L h m own) (hn : h.get? a = none) : (((a, o) :: own).map (·.1)).Nodup := by
  rw [List.map_cons, List.nodup_cons]
  refine ⟨fun hm => ?_, F.nd⟩
  obtain ⟨p, hp, e⟩ := List.mem_map.mp hm
  have := (F.has p hp).1
  rw [e, hn] at this; cases this

/-- an object that is new to the heap h joins -/
theorem Fm.add (F : Fm g L h m own) (k : ∀ b o, h.get? b = some o → h'.get? b = some o) (hn : h.get? a = none) (ha : h'.get? a = some o) : Fm g L h' m ((a, o) :: own) where
  ns := F.ns.keeps k
  keep := fun b o e => k _ _ (F.keep b o e)
  new := F.new
  has := fun p hp => by
    rcases List.mem_cons.mp hp with rfl | hp
    · exact ⟨ha, F.fresh hn⟩
    · exact ⟨k _ _ (F.has p hp).1, (F.has p hp).2⟩
  nd := F.freshNd hn
  tab := F.tab.keeps k
  t58 := F.t58
  t51 := F.t51

theorem Fm.setAdd (F : Fm g L h m own) (hn : h'.Ns L m') (hs : ∀ b o, b ≠ L → h.get? b = some o → h'.get? b = some o) (hf : h.get? a = none) (ha : h'.get? a = some o) : Fm g L h' m' ((a, o) :: own) where
  ns := hn
  keep := (F.setK hn hs).keep
  new := F.new
  has := fun p hp => by
    rcases List.mem_cons.mp hp with rfl | hp
    · exact ⟨ha, F.fresh hf⟩
    · exact (F.setK hn hs).has p hp
  nd := F.freshNd hf
  tab := (F.setK hn hs).tab
  t58 := F.t58
  t51 := F.t51

theorem get_size_none (h : Heap) : h.get? h.objs.size = none := by
  cases q : h.get? h.objs.size with
  | none => rfl
  | some o => exact absurd (Heap.lt_size q) (Nat.lt_irrefl _)
theorem Fm.push (F : Fm g L h m own) (o : Obj) (hf : o.isFreed = false := by rfl) : Fm g L (h.push o) m ((h.objs.size, o) :: own) :=
  F.add (fun _ _ e => Heap.get?_push_of_some o e) (get_size_none h) (Heap.get?_push_size h hf)
theorem Fm.push0 (F : Fm g L h m own) (o : Obj) : Fm g L (h.push o) m own := F.grow fun _ _ e => Heap.get?_push_of_some o e

/-- over a call -/
theorem Fm.call (F : Fm g L h m own) (H : Hid g) (k : KeepT h h') (T : Tabs h') : Fm g L h' m own where
  ns := by
    obtain ⟨o, es, ep, e, r⟩ := F.ns
    exact ⟨o, es, ep, k _ _ F.t58 F.t51 e, r⟩
  keep := fun b o e => k _ _ (fun z => by subst z; rw [H.1] at e; cases e) (fun z => by subst z; rw [H.2] at e; cases e) (F.keep b o e)
  new := F.new
  has := fun p hp => ⟨k _ _ (F.has p hp).2.2.2.1 (F.has p hp).2.2.2.2 (F.has p hp).1, (F.has p hp).2⟩
  nd := F.nd
  tab := T
  t58 := F.t58
  t51 := F.t51
theorem Fm.callAdd (F : Fm g L h m own) (H : Hid g) (k : KeepT h h') (T : Tabs h') (hn : h.get? a = none) (ha : h'.get? a = some o) : Fm g L h' m ((a, o) :: own) where
  ns := (F.call H k T).ns
  keep := (F.call H k T).keep
  new := F.new
  has := fun p hp => by
    rcases List.mem_cons.mp hp with rfl | hp
    · exact ⟨ha, F.fresh hn⟩
    · exact (F.call H k T).has p hp
  nd := F.freshNd hn
  tab := T
  t58 := F.t58
  t51 := F.t51

theorem set_map_fst {own : List (Addr × Obj)} {i : Nat} {a : Addr} {o o' : Obj} (hi : own[i]? = some (a, o)) : (own.set i (a, o')).map (·.1) = own.map (·.1) := by
  rw [List.map_set]
  exact X.set_same (by rw [List.getElem?_map, hi]; rfl)
theorem mem_set_ne {own : List (Addr × Obj)} {i : Nat} {a : Addr} {o o' : Obj} (nd : (own.map (·.1)).Nodup) (hi : own[i]? = some (a, o)) {p : Addr × Obj} (hp : p ∈ own.set i (a, o')) : p = (a, o') ∨ (p ∈ own ∧ p.1 ≠ a) := by
  by_cases hpa : p.1 = a
  · refine .inl ?_
    obtain ⟨hl, _⟩ := List.getElem?_eq_some_iff.mp hi
    exact X.key_unique (by rw [set_map_fst hi]; exact nd) hp (List.mem_set hl _) hpa
  · rcases List.mem_or_eq_of_mem_set hp with hp | rfl
    · exact .inr ⟨hp, hpa⟩
    · exact absurd rfl hpa

/-- one object of the own ones changed -/
theorem Fm.upd (F : Fm g L h m own) (i : Nat) (hi : own[i]? = some (a, o)) (hs : ∀ b ob, b ≠ a → h.get? b = some ob → h'.get? b = some ob) (ha : h'.get? a = some o') (hc : NotCode o) : Fm g L h' m (own.set i (a, o')) := by
  have hm := List.mem_of_getElem? hi
  have H := F.has _ hm
  have hcode : ∀ (oo : Obj), h.get? a = some oo → NotCode oo := fun oo e => by
    rw [H.1] at e; cases e; exact hc
  refine ⟨?_, ?_, F.new, ?_, ?_, ?_, F.t58, F.t51⟩
  · obtain ⟨oL, es, ep, e, r⟩ := F.ns
    exact ⟨oL, es, ep, hs L _ (fun z => H.2.2.1 z.symm) e, r⟩
  · exact fun b ob e => hs b _ (fun z => by rw [z, H.2.1] at e; cases e) (F.keep b ob e)
  · intro p hp
    rcases mem_set_ne F.nd hi hp with rfl | ⟨hp, hn⟩
    · exact ⟨ha, H.2⟩
    · exact ⟨hs _ _ hn (F.has p hp).1, (F.has p hp).2⟩
  · rw [set_map_fst hi]; exact F.nd
  · exact ⟨tab_same F.tab.1 hs H.2.2.2.2 hcode, tab_same F.tab.2 hs H.2.2.2.1 hcode⟩

/-- a new frame over a heap whose tables are hidden -/
theorem Fm.start {h : Heap} {m : Str → Option Value} (hs : Heap) (k : KeepT hs h) (n : h.Ns L m) (nL : hs.get? L = none) (T : Tabs h) (T0 : Tabs hs) :
    ∃ g, Fm g L h m [] ∧ Hid g ∧ KeepT hs g ∧ (∀ b o, g.get? b = some o → hs.get? b = some o) := by
  refine ⟨hideAll hs [58, 51], ⟨n, ?_, ?_, fun _ hp => (nomatch hp), List.nodup_nil, T, ?_, ?_⟩, ⟨hideAll_none _ (by simp), hideAll_none _ (by simp)⟩, ?_, ?_⟩
  · intro b o e
    have e' := of_hideAll _ e
    refine k b o (fun z => ?_) (fun z => ?_) e'
    · rw [z, hideAll_none _ (by simp)] at e; cases e
    · rw [z, hideAll_none _ (by simp)] at e; cases e
  · cases q : (hideAll hs [58, 51]).get? L with
    | none => rfl
    | some o => rw [of_hideAll _ q] at nL; cases nL
  · rintro rfl
    obtain ⟨_, e, _⟩ := T0.2
    rw [nL] at e; cases e
  · rintro rfl
    obtain ⟨_, e, _⟩ := T0.1
    rw [nL] at e; cases e
  · intro b o n1 n2 e
    exact hideAll_get _ e (by simp [n1, n2])
  · exact fun b o e => of_hideAll _ e

/-- a new frame over the whole heap: nothing of it may change -/
theorem Fm.startP {h : Heap} {m : Str → Option Value} (hs : Heap) (k : ∀ b o, hs.get? b = some o → h.get? b = some o) (n : h.Ns L m) (nL : hs.get? L = none) (T0 : Tabs hs) : Fm hs L h m [] where
  ns := n
  keep := k
  new := nL
  has := fun _ hp => (nomatch hp)
  nd := List.nodup_nil
  tab := T0.keeps k
  t58 := by
    rintro rfl
    obtain ⟨_, e, _⟩ := T0.2
    rw [nL] at e; cases e
  t51 := by
    rintro rfl
    obtain ⟨_, e, _⟩ := T0.1
    rw [nL] at e; cases e

/-- what was made becomes part of the base, but for own' -/
theorem Fm.rebase (F : Fm g L h m own) (H : Hid g) (own' : List (Addr × Obj)) (hs : own'.Sublist own) :
    ∃ g', Fm g' L h m own' ∧ Hid g' ∧ (∀ b o, g.get? b = some o → g'.get? b = some o) ∧ (∀ p ∈ own, p.1 ∉ own'.map (·.1) → g'.get? p.1 = some p.2) := by
  refine ⟨hideAll h (L :: 58 :: 51 :: own'.map (·.1)), ⟨F.ns, ?_, hideAll_none _ (.head _), ?_, F.nd.sublist (hs.map _), F.tab, F.t58, F.t51⟩, ⟨hideAll_none _ (by simp), hideAll_none _ (by simp)⟩, ?_, ?_⟩
  · exact fun b o e => of_hideAll _ e
  · intro p hp
    have P := F.has p (hs.subset hp)
    exact ⟨P.1, hideAll_none _ (by simp only [List.mem_cons]; exact .inr (.inr (.inr (List.mem_map_of_mem hp)))), P.2.2⟩
  · intro b o e
    refine hideAll_get _ (F.keep b o e) ?_
    simp only [List.mem_cons, not_or]
    refine ⟨?_, ?_, ?_, ?_⟩
    · rintro rfl; rw [F.new] at e; cases e
    · rintro rfl; rw [H.1] at e; cases e
    · rintro rfl; rw [H.2] at e; cases e
    · intro hm
      obtain ⟨p, hp, rfl⟩ := List.mem_map.mp hm
      have := (F.has p (hs.subset hp)).2.1
      rw [e] at this; cases this
  · intro p hp hn
    refine hideAll_get _ (F.has p hp).1 ?_
    simp only [List.mem_cons, not_or]
    exact ⟨(F.has p hp).2.2.1, (F.has p hp).2.2.2.1, (F.has p hp).2.2.2.2, hn⟩
end

/-- some of the own objects are turned, or lost -/
theorem Fm.lose {g h h' : Heap} {L : Addr} {m : Str → Option Value} {xs own : List (Addr × Obj)} (F : Fm g L h m (xs ++ own)) (hx : ∀ p ∈ xs, NotCode p.2)
    (k : ∀ b o, b ∉ xs.map (·.1) → h.get? b = some o → h'.get? b = some o) : Fm g L h' m own := by
  have tab1 : ∀ {P : Addr} {ln : Int} {q : Str}, (∀ p ∈ xs, p.1 ≠ P) → TabAt1 h P ln q → TabAt1 h' P ln q := by
    rintro P ln q hP ⟨ps, e, r⟩
    refine ⟨ps, k P _ (fun hm => ?_) e, ?_⟩
    · obtain ⟨p, hp, z⟩ := List.mem_map.mp hm
      exact hP p hp z
    rcases r with r | ⟨c', e', cr⟩
    · exact .inl r
    · refine .inr ⟨c', e', ?_⟩
      obtain ⟨c1, oc, vs, tq, ec, hoc, hdc, hq⟩ := cr
      refine ⟨c1, oc, vs, tq, ec, k c1 oc (fun hm => ?_) hoc, hdc, hq⟩
      obtain ⟨p, hp, z⟩ := List.mem_map.mp hm
      have := (F.has p (List.mem_append_left _ hp)).1
      rw [z, hoc] at this
      cases this
      exact hx p hp _ _ _ hdc hq
  have hn : ∀ {b : Addr}, (∀ p ∈ xs, p.1 ≠ b) → b ∉ xs.map (·.1) := fun hb hm => by
    obtain ⟨p, hp, z⟩ := List.mem_map.mp hm
    exact hb p hp z
  have nd := F.nd
  rw [List.map_append, List.nodup_append] at nd
  refine ⟨?_, ?_, F.new, ?_, nd.2.1, ⟨?_, ?_⟩, F.t58, F.t51⟩
  · obtain ⟨oL, es, ep, e, r⟩ := F.ns
    exact ⟨oL, es, ep, k _ _ (hn fun p hp => (F.has p (List.mem_append_left _ hp)).2.2.1) e, r⟩
  · intro b o e
    refine k b o (hn fun p hp z => ?_) (F.keep b o e)
    have := (F.has p (List.mem_append_left _ hp)).2.1
    rw [z, e] at this; cases this
  · intro p hp
    have P := F.has p (List.mem_append_right _ hp)
    refine ⟨k _ _ (fun hm => ?_) P.1, P.2⟩
    exact nd.2.2 _ hm _ (List.mem_map_of_mem hp) rfl
  · exact tab1 (fun p hp => (F.has p (List.mem_append_left _ hp)).2.2.2.2) F.tab.1
  · exact tab1 (fun p hp => (F.has p (List.mem_append_left _ hp)).2.2.2.1) F.tab.2

end Mine

/-! Stat -/
namespace Mine

def topAt (i : Nat) : Stmt := PySem.Challenge.pw_ph0110_01.main.body.getD i (.Pass ⟨0, 0, 0, 0⟩)
def stBody : Stmt → List Stmt
  | .FunctionDef _ _ b _ _ _ _ _ _ _ => b
  | _ => []
def stScope : Stmt → Scope
  | .FunctionDef _ _ _ _ _ _ s _ _ _ => s
  | _ => default
def stParams : Stmt → Arguments
  | .FunctionDef _ a _ _ _ _ _ _ _ _ => a
  | _ => ⟨[], [], none, [], [], none, []⟩
def stName : Stmt → Str
  | .FunctionDef n _ _ _ _ _ _ _ _ _ => n
  | _ => Str.empty

def fdAt (i : Nat) (f : Addr) (doc pm : Value) : FuncData :=
  fnOf (stName (topAt i)) (stName (topAt i)) (stParams (topAt i)) (stBody (topAt i)) (stScope (topAt i)) .none .none doc pm none (.ref (f - 1)) .none
def envAt (i : Nat) (f L : Addr) : Env :=
  { scope := stScope (topAt i), locals := L, globals := 3, cells := [], qual := stName (topAt i) ++ ".<locals>.", func := some f, code := .ref (f - 1), frame := some L, builtins := 0 }

def FnIs (h : Heap) (f : Addr) (i : Nat) : Prop := ∃ o doc pm, h.get? f = some o ∧ o.data = .func (fdAt i f doc pm) ∧ h.CodeRec (.ref (f - 1)) (stName (topAt i))
theorem FnIs.keeps {h h' : Heap} {f : Addr} {i : Nat} (x : FnIs h f i) (k : ∀ b o, h.get? b = some o → h'.get? b = some o) : FnIs h' f i :=
  let ⟨o, d, p, e, r, c⟩ := x; ⟨o, d, p, k _ _ e, r, c.keeps k⟩

def gl : List (Str × Option Value) := [("_strcoll", some (.ref 21)), ("CHAR_MAX", some (.int 127 197)), ("_grouping_intervals", some (.ref 28)), ("_strip_padding", some (.ref 35)),
  ("_DIV_LIMIT", some (.int 4000 220)), ("_div2n1n", some (.ref 42)), ("_div3n2n", some (.ref 49)), ("_int2digits", some (.ref 56)), ("_digits2int", some (.ref 63)), ("_divmod_pos", some (.ref 70)),
  ("int_divmod", some (.ref 77)), ("_law_cell", some (.ref 84)), ("_law_row", some (.ref 89)), ("_law_text", some (.ref 94)), ("_law_worth", some (.ref 101)), ("_law_cuts", some (.ref 108)),
  ("__builtins__", some (.ref 4)), ("len", none), ("range", none), ("divmod", none), ("reversed", none), ("min", none), ("isinstance", none), ("bool", none)]
def bl : List (Str × Value) := [("len", .builtin "len"), ("range", .type "range"), ("divmod", .builtin "divmod"), ("reversed", .type "reversed"), ("min", .builtin "min"), ("isinstance", .builtin "isinstance"), ("bool", .type "bool")]
def fl : List (Addr × Nat) := [(21, 1), (28, 3), (35, 4), (42, 7), (49, 8), (56, 9), (63, 10), (70, 11), (77, 12), (84, 14), (89, 15), (94, 16), (101, 17), (108, 18)]

structure Stat0 (h : Heap) : Prop where
  nolimit : h.NoLimit
  glob : ∃ mg, h.Ns 3 mg ∧ ∀ x v, gl.lookup x = some v → mg x = v
  bi : ∃ mb, h.Ns 0 mb ∧ ∀ x v, bl.lookup x = some v → mb x = some v
  fns : ∀ p ∈ fl, FnIs h p.1 p.2
  hd1 : CodeHd h 55 51
  hd2 : CodeHd h 62 58
  b4 : ∃ ob, h.get? 4 = some ob ∧ ob.cls = .type "module" ∧ ob.dict = some 0 ∧ ob.data = .plain
theorem Stat0.keeps {h h' : Heap} (x : Stat0 h) (k : ∀ b o, h.get? b = some o → h'.get? b = some o) : Stat0 h' where
  nolimit := x.nolimit.keeps k
  glob := let ⟨mg, n, r⟩ := x.glob; ⟨mg, n.keeps k, r⟩
  bi := let ⟨mg, n, r⟩ := x.bi; ⟨mg, n.keeps k, r⟩
  fns := fun p hp => (x.fns p hp).keeps k
  hd1 := x.hd1.keeps k
  hd2 := x.hd2.keeps k
  b4 := let ⟨ob, e, r⟩ := x.b4; ⟨ob, k _ _ e, r⟩

def Stat (h : Heap) : Prop := ∃ h₀, Stat0 h₀ ∧ h₀.get? 58 = none ∧ h₀.get? 51 = none ∧ ∀ b o, h₀.get? b = some o → h.get? b = some o
theorem Stat.st {h : Heap} (x : Stat h) : Stat0 h := let ⟨_, a, _, _, k⟩ := x; a.keeps k
theorem Stat.keepT {h h' : Heap} (x : Stat h) (k : KeepT h h') : Stat h' := by
  obtain ⟨h₀, a, n1, n2, k0⟩ := x
  refine ⟨h₀, a, n1, n2, fun b o e => k b o ?_ ?_ (k0 b o e)⟩
  · rintro rfl; rw [n1] at e; cases e
  · rintro rfl; rw [n2] at e; cases e
theorem Stat.keeps {h h' : Heap} (x : Stat h) (k : ∀ b o, h.get? b = some o → h'.get? b = some o) : Stat h' := x.keepT (.of k)
theorem Stat.fn {h : Heap} (x : Stat h) {f : Addr} {i : Nat} (hf : (f, i) ∈ fl) : FnIs h f i := x.st.fns _ hf

theorem Fm.stat {g h : Heap} {L : Addr} {m : Str → Option Value} {own : List (Addr × Obj)} (F : Fm g L h m own) (S : Stat g) : Stat h := S.keeps F.keep

def retOf : Flow → Value
  | .ret v => v
  | _ => .none

section
variable {prog : Program} {w : World} {A : Around} {E : Value → Shared → Prop} {s : Shared} {Q : Value → Shared → Prop}

/-- a name of the module -/
theorem gname {env : Env} {x : Str} {pos : Pos} {v : Value} {M : Model} (S : Stat s.heap) (hl : gl.lookup x = some (some v)) (h : Q v s) (hk : env.scope.kind = .function := by rfl)
    (hx : env.kindOf x = some .globalImplicit := by rfl) (hg : env.globals = 3 := by rfl) (hd : (x == ("__debug__" : Str)) = false := by decide) :
    wpAny M A (eval (.Name x pos) env) Q E s := by
  obtain ⟨mg, n, r⟩ := S.st.glob
  exact Calls.Name_function_global hk hx (Calls.loadGlobal_global (mg := mg) (by rw [hg]; exact n) (r _ _ hl) h) hd
/-- a name of the built-ins -/
theorem bname {env : Env} {x : Str} {pos : Pos} {v : Value} {M : Model} (S : Stat s.heap) (hl : gl.lookup x = some none) (hb : bl.lookup x = some v) (h : Q v s) (hk : env.scope.kind = .function := by rfl)
    (hx : env.kindOf x = some .globalImplicit := by rfl) (hg : env.globals = 3 := by rfl) (hg' : env.builtins = 0 := by rfl) (hd : (x == ("__debug__" : Str)) = false := by decide) :
    wpAny M A (eval (.Name x pos) env) Q E s := by
  obtain ⟨mg, n, r⟩ := S.st.glob
  obtain ⟨mb, n', r'⟩ := S.st.bi
  exact Calls.Name_function_global hk hx (Calls.loadGlobal_builtin (mg := mg) (mb := mb) (by rw [hg]; exact n) (r _ _ hl) (by rw [hg']; exact n') (r' _ _ hb) h) hd

/-- a local name -/
theorem lname {env : Env} {x : Str} {pos : Pos} {v : Value} {M : Model} {g : Heap} {L : Addr} {m : Str → Option Value} {own : List (Addr × Obj)} (F : Fm g L s.heap m own) (hv : m x = some v) (h : Q v s)
    (hk : env.scope.kind = .function := by rfl) (hl : env.kindOf x = some .local := by rfl) (hL : env.locals = L := by rfl) (hd : (x == ("__debug__" : Str)) = false := by decide) :
    wpAny M A (eval (.Name x pos) env) Q E s := wpAny_Name (wpAny_loadName_local hk hl (hL ▸ F.ns) hv h) hd
theorem lload {env : Env} {x : Str} {v : Value} {M : Model} {g : Heap} {L : Addr} {m : Str → Option Value} {own : List (Addr × Obj)} (F : Fm g L s.heap m own) (hv : m x = some v) (h : Q v s)
    (hk : env.scope.kind = .function := by rfl) (hl : env.kindOf x = some .local := by rfl) (hL : env.locals = L := by rfl) :
    wpAny M A (loadName env x) Q E s := wpAny_loadName_local hk hl (hL ▸ F.ns) hv h
/-- a local name is bound -/
theorem lstore {env : Env} {x : Str} {v : Value} {M : Model} {g : Heap} {L : Addr} {m : Str → Option Value} {own : List (Addr × Obj)} {Q : Unit → Shared → Prop} (F : Fm g L s.heap m own)
    (h : ∀ h', Fm g L h' (fun y => if y = x then some v else m y) own → Q () { s with heap := h', toks := s.toks + 1 })
    (hk : env.scope.kind = .function := by rfl) (hl : env.kindOf x = some .local := by rfl) (hL : env.locals = L := by rfl) :
    wpAny M A (storeName env x v) Q E s := by
  subst hL
  exact wpAny_storeName_local hl F.ns (fun h' hn hs => h h' (F.set hn hs)) (by rw [hk]; rfl)

/-- into a plain def of the module -/
theorem enterF {f : Addr} {i : Nat} {args : List Value} {binds : List (Str × Value)} (S : Stat s.heap) (T : Tabs s.heap) (hf : (f, i) ∈ fl) (hroom : A.depth < recursionLimit)
    (hbind : ∀ doc pm, bindArgs (fdAt i f doc pm) ⟨args, []⟩ = pure binds)
    (h : ∀ g L h₁, Fm g L h₁ (fun y => binds.reverse.lookup y) [] → Stat g → Hid g → KeepT s.heap g → (∀ b o, g.get? b = some o → s.heap.get? b = some o) →
      wpAny (model prog w) (A.deeper (envAt i f L)) (execs (stBody (topAt i)) (envAt i f L)) (fun fl s' => Q (retOf fl) s') (fun _ _ => False) { s with heap := h₁, toks := s.toks + binds.length })
    (hcell : ∀ x ∈ (stScope (topAt i)).names, x.2 ≠ .cell := by decide) (hloc : ∀ x ∈ binds, (stScope (topAt i)).names.lookup x.1 = some .local := by exact locs rfl)
    (hco : (stScope (topAt i)).isCoroutine = false := by rfl) (hgen : (stScope (topAt i)).isGenerator = false := by rfl) (hk : (stScope (topAt i)).kind = .function := by rfl) :
    wpAny (model prog w) A (call (.ref f) args) Q E s := by
  obtain ⟨o, doc, pm, ho, hd, hc⟩ := S.fn hf
  refine wpAny_call (codeAny_call_def (fd := fdAt i f doc pm) (body := stBody (topAt i)) (binds := binds) hroom ho hd S.st.nolimit hc rfl (.of_eq (hbind doc pm)) hcell hloc (fun h₀ hns hk₀ => ?_) hco hgen hk)
  have nL : s.heap.get? s.heap.objs.size = none := get_size_none _
  obtain ⟨g, F, H, k1, k2⟩ := Fm.start s.heap (.of hk₀) hns nL (T.keeps hk₀) T
  refine wpAny_mono (h g s.heap.objs.size h₀ F (S.keepT k1) H k1 k2) (fun fl s' q => ?_) fun _ _ q => q.elim
  cases fl <;> exact q

/-- into a plain def that changes nothing that stood -/
theorem enterP {f : Addr} {i : Nat} {args : List Value} {binds : List (Str × Value)} (S : Stat s.heap) (T : Tabs s.heap) (hf : (f, i) ∈ fl) (hroom : A.depth < recursionLimit)
    (hbind : ∀ doc pm, bindArgs (fdAt i f doc pm) ⟨args, []⟩ = pure binds)
    (h : ∀ L h₁, Fm s.heap L h₁ (fun y => binds.reverse.lookup y) [] →
      wpAny (model prog w) (A.deeper (envAt i f L)) (execs (stBody (topAt i)) (envAt i f L)) (fun fl s' => Q (retOf fl) s') (fun _ _ => False) { s with heap := h₁, toks := s.toks + binds.length })
    (hcell : ∀ x ∈ (stScope (topAt i)).names, x.2 ≠ .cell := by decide) (hloc : ∀ x ∈ binds, (stScope (topAt i)).names.lookup x.1 = some .local := by exact locs rfl)
    (hco : (stScope (topAt i)).isCoroutine = false := by rfl) (hgen : (stScope (topAt i)).isGenerator = false := by rfl) (hk : (stScope (topAt i)).kind = .function := by rfl) :
    wpAny (model prog w) A (call (.ref f) args) Q E s := by
  obtain ⟨o, doc, pm, ho, hd, hc⟩ := S.fn hf
  refine wpAny_call (codeAny_call_def (fd := fdAt i f doc pm) (body := stBody (topAt i)) (binds := binds) hroom ho hd S.st.nolimit hc rfl (.of_eq (hbind doc pm)) hcell hloc (fun h₀ hns hk₀ => ?_) hco hgen hk)
  refine wpAny_mono (h s.heap.objs.size h₀ (Fm.startP s.heap hk₀ hns (get_size_none _) T)) (fun fl s' q => ?_) fun _ _ q => q.elim
  cases fl <;> exact q
end
end Mine

/-! Loops -/
namespace Mine
variable {prog : Program} {w : World} {A : Around} {E : Value → Shared → Prop} {s : Shared}

theorem Fm.keepT {g h hs : Heap} {L : Addr} {m : Str → Option Value} {own : List (Addr × Obj)} (F : Fm g L h m own) (k : KeepT hs g) : KeepT hs h :=
  fun b o n1 n2 e => F.keep _ _ (k b o n1 n2 e)

/-- what a turn of a loop ends in -/
def TurnEnd (s : Shared) (Q : Flow → Shared → Prop) (C : Shared → Prop) : Flow → Shared → Prop
  | .next, s₂ => C s₂
  | .cont, s₂ => C s₂
  | .brk, s₂ => Q .next s₂
  | .ret v, s₂ => Q (.ret v) s₂

/-- a loop of forW's kind, in which the generators may change too -/
theorem forG {x : Str} {px : Pos} {body : List Stmt} {env : Env} {Q : Flow → Shared → Prop} {I L : Addr} {fp : List Addr} {n : Nat} {P : Nat → Value → Prop} {St : Nat → Heap → Prop} {g : Heap}
    {m : Str → Option Value} {own : List (Addr × Obj)} {oI : Obj}
    (W : Walks prog w A I fp [I] n P St) (live : ∀ i h, St i h → ∃ o, h.get? I = some o ∧ NotCode o)
    (F : Fm g L s.heap m ((I, oI) :: own)) (st : St 0 s.heap) (hfp : ∀ b ∈ fp, b ≠ I → ∃ o, g.get? b = some o)
    (J : Nat → (Str → Option Value) → List (Addr × Obj) → Array GenState → Prop) (h0 : J 0 m own s.gens)
    (step : ∀ i v m₁ own₁ oI h₁ tk gs, i < n → P i v → J i m₁ own₁ gs → Fm g L h₁ (fun y => if y = x then some v else m₁ y) ((I, oI) :: own₁) →
      wpAny (model prog w) A (execs body env) (TurnEnd s Q fun s₂ => ∃ h' tk' m₂ own₂ gs', s₂ = { s with heap := h', toks := tk', gens := gs' } ∧ Fm g L h' m₂ ((I, oI) :: own₂) ∧ J (i + 1) m₂ own₂ gs')
        (fun _ _ => False) { s with heap := h₁, toks := tk, gens := gs })
    (done : ∀ h' tk m' own' gs, J n m' own' gs → Fm g L h' m' own' → Q .next { s with heap := h', toks := tk, gens := gs })
    (hk : env.scope.kind = .function := by rfl) (hx : env.kindOf x = some .local := by rfl) (hL : env.locals = L := by rfl) :
    codeAny (model prog w) A (.forLoop (.Name x px) (.ref I) body [] env) (fun r s' => match r with | .ok f => Q f s' | .error e => cameBackBy (model prog w) A env E e s') s := by
  subst hL
  have lift : ∀ {h h' : Heap} {m₁ m₂ : Str → Option Value} {o₁ o₂ : List (Addr × Obj)} {oI : Obj}, Fm g env.locals h m₁ ((I, oI) :: o₁) → Fm g env.locals h' m₂ ((I, oI) :: o₂) → ∀ i, St i h → St i h' := by
    intro h h' m₁ m₂ o₁ o₂ oI F₁ F₂ i hst
    refine W.frame i h h' hst fun b hb o e => ?_
    by_cases hbI : b = I
    · subst hbI
      rw [F₁.get (.head _)] at e
      cases e
      exact F₂.get (.head _)
    · obtain ⟨ob, eb⟩ := hfp b hb hbI
      rw [F₁.keep _ _ eb] at e
      cases e
      exact F₂.keep _ _ eb
  refine codeAny_forLoop (fun k s' => ∃ i h tk m₁ own₁ oI gs, k = n + 1 - i ∧ i ≤ n ∧ s' = { s with heap := h, toks := tk, gens := gs } ∧ J i m₁ own₁ gs ∧ Fm g env.locals h m₁ ((I, oI) :: own₁) ∧ St i h) ?_ (n + 1)
    ⟨0, s.heap, s.toks, m, own, oI, s.gens, rfl, Nat.zero_le _, rfl, h0, F, st⟩
  rintro k s' ⟨i, h, tk, m₁, own₁, oI, gs, rfl, hi, rfl, hJ, F₁, st₁⟩
  obtain ⟨oI1, eI1, hc1⟩ := live _ _ st₁
  have hoI : oI1 = oI := by rw [F₁.get (.head _)] at eI1; exact (Option.some.inj eI1).symm
  subst hoI
  by_cases hlt : i < n
  · refine W.item i _ _ _ hlt st₁ fun v h' tk' hP st' hk' => ?_
    obtain ⟨oI', eI', hc'⟩ := live _ _ st'
    have F₂ : Fm g env.locals h' m₁ ((I, oI') :: own₁) := F₁.upd 0 rfl (fun b ob hb e => hk' b ob (by simp [hb]) e) eI' hc1
    refine wpAny_assign_Name (lstore F₂ (fun h₃ F₃ => ?_) hk hx rfl)
    refine wpAny_mono (step i v m₁ own₁ oI' h₃ _ gs hlt hP hJ F₃) (fun f s₂ q => ?_) fun _ _ q => q.elim
    cases f with
    | next =>
      obtain ⟨h₄, tk₄, m₂, own₂, gs', rfl, F₄, hJ₄⟩ := q
      exact ⟨n + 1 - (i + 1), by (first | lia | omega), i + 1, h₄, tk₄, m₂, own₂, oI', gs', rfl, hlt, rfl, hJ₄, F₄, lift F₂ F₄ _ st'⟩
    | cont =>
      obtain ⟨h₄, tk₄, m₂, own₂, gs', rfl, F₄, hJ₄⟩ := q
      exact ⟨n + 1 - (i + 1), by (first | lia | omega), i + 1, h₄, tk₄, m₂, own₂, oI', gs', rfl, hlt, rfl, hJ₄, F₄, lift F₂ F₄ _ st'⟩
    | brk => exact q
    | ret v => exact q
  · have : i = n := by (first | lia | omega)
    subst this
    refine W.done _ _ _ st₁ fun h' tk' hk' => ?_
    exact wpAny_execs_nil (done h' tk' m₁ own₁ gs hJ (F₁.lose (xs := [(I, oI1)]) (fun p hp => by rw [List.mem_singleton.mp hp]; exact hc1) fun b o hb e => hk' b o (by simpa using hb) e))

/-- a for loop over a walk -/
theorem forW {x : Str} {px : Pos} {body : List Stmt} {env : Env} {Q : Flow → Shared → Prop} {I L : Addr} {fp : List Addr} {n : Nat} {P : Nat → Value → Prop} {St : Nat → Heap → Prop} {g : Heap}
    {m : Str → Option Value} {own : List (Addr × Obj)} {oI : Obj}
    (W : Walks prog w A I fp [I] n P St) (live : ∀ i h, St i h → ∃ o, h.get? I = some o ∧ NotCode o)
    (F : Fm g L s.heap m ((I, oI) :: own)) (st : St 0 s.heap) (hfp : ∀ b ∈ fp, b ≠ I → ∃ o, g.get? b = some o)
    (J : Nat → (Str → Option Value) → List (Addr × Obj) → Prop) (h0 : J 0 m own)
    (step : ∀ i v m₁ own₁ oI h₁ tk, i < n → P i v → J i m₁ own₁ → Fm g L h₁ (fun y => if y = x then some v else m₁ y) ((I, oI) :: own₁) →
      wpAny (model prog w) A (execs body env) (TurnEnd s Q fun s₂ => ∃ h' tk' m₂ own₂, s₂ = { s with heap := h', toks := tk' } ∧ Fm g L h' m₂ ((I, oI) :: own₂) ∧ J (i + 1) m₂ own₂)
        (fun _ _ => False) { s with heap := h₁, toks := tk })
    (done : ∀ h' tk m' own', J n m' own' → Fm g L h' m' own' → Q .next { s with heap := h', toks := tk })
    (hk : env.scope.kind = .function := by rfl) (hx : env.kindOf x = some .local := by rfl) (hL : env.locals = L := by rfl) :
    codeAny (model prog w) A (.forLoop (.Name x px) (.ref I) body [] env) (fun r s' => match r with | .ok f => Q f s' | .error e => cameBackBy (model prog w) A env E e s') s := by
  refine forG W live F st hfp (fun i m own gs => J i m own ∧ gs = s.gens) ⟨h0, rfl⟩ ?_ ?_ hk hx hL
  · rintro i v m₁ own₁ oI h₁ tk gs hi hP ⟨hJ, rfl⟩ F₁
    refine wpAny_mono (step i v m₁ own₁ oI h₁ tk hi hP hJ F₁) (fun f s₂ q => ?_) fun _ _ q => q
    cases f with
    | next => exact let ⟨h', tk', m₂, own₂, e, F₂, J₂⟩ := q; ⟨h', tk', m₂, own₂, _, e, F₂, J₂, rfl⟩
    | cont => exact let ⟨h', tk', m₂, own₂, e, F₂, J₂⟩ := q; ⟨h', tk', m₂, own₂, _, e, F₂, J₂, rfl⟩
    | brk => exact q
    | ret v => exact q
  · rintro h' tk m' own' gs ⟨hJ, rfl⟩ F'
    exact done h' tk m' own' hJ F'

theorem live_range {I : Addr} {a c : Int} {n : Nat} : ∀ (i : Nat) (h : Heap), IsRangeIter h I (a + (i : Nat) * c) ((n : Int) - (i : Nat)) c → ∃ o, h.get? I = some o ∧ NotCode o := fun _ _ e => ⟨_, e, .int rfl rfl⟩

theorem rangeLoopG {x : Str} {px : Pos} {body : List Stmt} {env : Env} {Q : Flow → Shared → Prop} {L : Addr} {N : Int} {t : Tok} {g : Heap} {E' : Value → Shared → Prop}
    {m : Str → Option Value} {own : List (Addr × Obj)} (hh : A.handled = none) (hN : 0 ≤ N) (hN' : N < 2 ^ 62)
    (F : Fm g L s.heap m own)
    (J : Nat → (Str → Option Value) → List (Addr × Obj) → Array GenState → Prop) (h0 : J 0 m own s.gens)
    (step : ∀ i t m₁ own₁ p h₁ tk gs, i < N.toNat → J i m₁ own₁ gs → Fm g L h₁ (fun y => if y = x then some (.int i t) else m₁ y) (p :: own₁) →
      wpAny (model prog w) A (execs body env) (TurnEnd s Q fun s₂ => ∃ h' tk' m₂ own₂ gs', s₂ = { s with heap := h', toks := tk', gens := gs' } ∧ Fm g L h' m₂ (p :: own₂) ∧ J (i + 1) m₂ own₂ gs')
        (fun _ _ => False) { s with heap := h₁, toks := tk, gens := gs })
    (done : ∀ h' tk m' own' gs, J N.toNat m' own' gs → Fm g L h' m' own' → Q .next { s with heap := h', toks := tk, gens := gs })
    (hk : env.scope.kind = .function := by rfl) (hx : env.kindOf x = some .local := by rfl) (hL : env.locals = L := by rfl) :
    wpAny (model prog w) A (call (.type "range") [.int N t]) (fun xv s₁ => wpAny (model prog w) A (pyIter xv) (fun it s₂ =>
      codeAny (model prog w) A (.forLoop (.Name x px) it body [] env) (fun r s' => match r with | .ok f => Q f s' | .error e => cameBackBy (model prog w) A env E e s') s₂) E' s₁) E' s := by
  refine call_range_1 (wpAny_pyIter_range (IsRange.new ..) (small_one (by decide) (by decide) (by (first | lia | omega)) hN') ?_)
  have hsz : Builtin.Range.rangeSize 0 N 1 = (N.toNat : Int) := by rw [rangeSize_one]; split <;> (first | lia | omega)
  rw [hsz]
  refine forG (Walks.range hh _ 0 1 N.toNat) live_range ((F.push0 _).push _) ?_ (fun b hb hn => absurd (List.mem_singleton.mp hb) hn) J h0 ?_ done hk hx hL
  · show IsRangeIter _ _ (0 + ((0 : Nat) : Int) * 1) ((N.toNat : Int) - ((0 : Nat) : Int)) 1
    have e1 : (0 + ((0 : Nat) : Int) * 1) = 0 := by simp
    have e2 : ((N.toNat : Int) - ((0 : Nat) : Int)) = (N.toNat : Int) := by simp
    rw [e1, e2]
    exact Heap.get?_push_size _ rfl
  · rintro i v m₁ own₁ oI h₁ tk gs hi ⟨tv, rfl⟩ hJ F₁
    have e : (0 + (i : Int) * 1) = (i : Int) := by (first | lia | omega)
    rw [e] at F₁
    exact step i tv m₁ own₁ _ h₁ tk gs hi hJ F₁
/-- for x in range(N) -/
theorem rangeLoop {x : Str} {px : Pos} {body : List Stmt} {env : Env} {Q : Flow → Shared → Prop} {L : Addr} {N : Int} {t : Tok} {g : Heap} {E' : Value → Shared → Prop}
    {m : Str → Option Value} {own : List (Addr × Obj)} (hh : A.handled = none) (hN : 0 ≤ N) (hN' : N < 2 ^ 62)
    (F : Fm g L s.heap m own)
    (J : Nat → (Str → Option Value) → List (Addr × Obj) → Prop) (h0 : J 0 m own)
    (step : ∀ i t m₁ own₁ p h₁ tk, i < N.toNat → J i m₁ own₁ → Fm g L h₁ (fun y => if y = x then some (.int i t) else m₁ y) (p :: own₁) →
      wpAny (model prog w) A (execs body env) (TurnEnd s Q fun s₂ => ∃ h' tk' m₂ own₂, s₂ = { s with heap := h', toks := tk' } ∧ Fm g L h' m₂ (p :: own₂) ∧ J (i + 1) m₂ own₂)
        (fun _ _ => False) { s with heap := h₁, toks := tk })
    (done : ∀ h' tk m' own', J N.toNat m' own' → Fm g L h' m' own' → Q .next { s with heap := h', toks := tk })
    (hk : env.scope.kind = .function := by rfl) (hx : env.kindOf x = some .local := by rfl) (hL : env.locals = L := by rfl) :
    wpAny (model prog w) A (call (.type "range") [.int N t]) (fun xv s₁ => wpAny (model prog w) A (pyIter xv) (fun it s₂ =>
      codeAny (model prog w) A (.forLoop (.Name x px) it body [] env) (fun r s' => match r with | .ok f => Q f s' | .error e => cameBackBy (model prog w) A env E e s') s₂) E' s₁) E' s := by
  refine rangeLoopG hh hN hN' F (fun i m own gs => J i m own ∧ gs = s.gens) ⟨h0, rfl⟩ ?_ ?_ hk hx hL
  · rintro i t m₁ own₁ p h₁ tk gs hi ⟨hJ, rfl⟩ F₁
    refine wpAny_mono (step i t m₁ own₁ p h₁ tk hi hJ F₁) (fun f s₂ q => ?_) fun _ _ q => q
    cases f with
    | next => exact let ⟨h', tk', m₂, own₂, e, F₂, J₂⟩ := q; ⟨h', tk', m₂, own₂, _, e, F₂, J₂, rfl⟩
    | cont => exact let ⟨h', tk', m₂, own₂, e, F₂, J₂⟩ := q; ⟨h', tk', m₂, own₂, _, e, F₂, J₂, rfl⟩
    | brk => exact q
    | ret v => exact q
  · rintro h' tk m' own' gs ⟨hJ, rfl⟩ F'
    exact done h' tk m' own' hJ F'

/-- for x in a text -/
theorem strLoop {x : Str} {px : Pos} {body : List Stmt} {env : Env} {Q : Flow → Shared → Prop} {L : Addr} {z : Str} {t : Tok} {g : Heap} {E' : Value → Shared → Prop}
    {m : Str → Option Value} {own : List (Addr × Obj)} (hh : A.handled = none)
    (F : Fm g L s.heap m own)
    (J : Nat → (Str → Option Value) → List (Addr × Obj) → Prop) (h0 : J 0 m own)
    (step : ∀ i c t m₁ own₁ p h₁ tk, i < z.cps.size → z.cps[i]? = some c → J i m₁ own₁ → Fm g L h₁ (fun y => if y = x then some (.str ⟨#[c]⟩ t) else m₁ y) (p :: own₁) →
      wpAny (model prog w) A (execs body env) (TurnEnd s Q fun s₂ => ∃ h' tk' m₂ own₂, s₂ = { s with heap := h', toks := tk' } ∧ Fm g L h' m₂ (p :: own₂) ∧ J (i + 1) m₂ own₂)
        (fun _ _ => False) { s with heap := h₁, toks := tk })
    (done : ∀ h' tk m' own', J z.cps.size m' own' → Fm g L h' m' own' → Q .next { s with heap := h', toks := tk })
    (hk : env.scope.kind = .function := by rfl) (hx : env.kindOf x = some .local := by rfl) (hL : env.locals = L := by rfl) :
    wpAny (model prog w) A (pyIter (.str z t)) (fun it s₂ =>
      codeAny (model prog w) A (.forLoop (.Name x px) it body [] env) (fun r s' => match r with | .ok f => Q f s' | .error e => cameBackBy (model prog w) A env E e s') s₂) E' s := by
  have step' : ∀ (I : Addr) (i : Nat) (v : Value) (m₁ : Str → Option Value) (own₁ : List (Addr × Obj)) (oI : Obj) (h₁ : Heap) (tk : Nat), i < z.cps.size → SignAt z i v → J i m₁ own₁ → Fm g L h₁ (fun y => if y = x then some v else m₁ y) ((I, oI) :: own₁) →
      wpAny (model prog w) A (execs body env) (TurnEnd s Q fun s₂ => ∃ h' tk' m₂ own₂, s₂ = { s with heap := h', toks := tk' } ∧ Fm g L h' m₂ ((I, oI) :: own₂) ∧ J (i + 1) m₂ own₂)
        (fun _ _ => False) { s with heap := h₁, toks := tk } := by
    rintro I i v m₁ own₁ oI h₁ tk hi ⟨c, tv, hc, rfl⟩ hJ F₁
    exact step i c tv m₁ own₁ _ h₁ tk hi hc hJ F₁
  cases ha : z.cps.all (· < 128)
  · refine wpAny_pyIter_wide ha ?_
    refine forW (Walks.strWide hh _ z t) (fun _ _ e => let ⟨o, e1, e2, e3⟩ := e; ⟨o, e1, .int e3 rfl⟩) (F.push _) ⟨_, Heap.get?_push_size _ rfl, rfl, rfl⟩ (fun b hb hn => absurd (List.mem_singleton.mp hb) hn) J h0 (step' _) done hk hx hL
  · refine wpAny_pyIter_ascii ha ?_
    refine forW (Walks.strAscii hh _ z t) (fun _ _ e => let ⟨o, e1, e2, e3⟩ := e; ⟨o, e1, .int e3 rfl⟩) (F.push _) ⟨_, Heap.get?_push_size _ rfl, rfl, rfl⟩ (fun b hb hn => absurd (List.mem_singleton.mp hb) hn) J h0 (step' _) done hk hx hL

/-- a while loop -/
theorem whileF {test : Expr} {body : List Stmt} {pos : Pos} {env : Env} {Q : Flow → Shared → Prop} {L : Addr} {g : Heap} {m : Str → Option Value} {own : List (Addr × Obj)}
    (J : Nat → (Str → Option Value) → List (Addr × Obj) → Prop) (X : (Str → Option Value) → List (Addr × Obj) → Prop) (n : Nat) (F : Fm g L s.heap m own) (h0 : J n m own)
    (turn : ∀ n m₁ own₁ h₁ tk, J n m₁ own₁ → Fm g L h₁ m₁ own₁ →
      wpAny (model prog w) A (isTrue test env (eval test env)) (fun b s₂ => if b then
          wpAny (model prog w) A (execs body env) (TurnEnd s Q fun s₃ => ∃ h' tk' m₂ own₂ k, s₃ = { s with heap := h', toks := tk' } ∧ k < n ∧ Fm g L h' m₂ own₂ ∧ J k m₂ own₂) (fun _ _ => False) s₂
        else ∃ h' tk' m₂ own₂, s₂ = { s with heap := h', toks := tk' } ∧ X m₂ own₂ ∧ Fm g L h' m₂ own₂) (fun _ _ => False) { s with heap := h₁, toks := tk })
    (done : ∀ h' tk m' own', X m' own' → Fm g L h' m' own' → Q .next { s with heap := h', toks := tk }) :
    wpAny (model prog w) A (exec (.While test body [] pos) env) Q E s := by
  refine wpAny_While (codeAny_whileLoop (fun k s' => ∃ h tk m₁ own₁, s' = { s with heap := h, toks := tk } ∧ J k m₁ own₁ ∧ Fm g L h m₁ own₁) ?_ n ⟨s.heap, s.toks, m, own, rfl, h0, F⟩)
  rintro k s' ⟨h, tk, m₁, own₁, rfl, hJ, F₁⟩
  refine wpAny_mono (turn k m₁ own₁ h tk hJ F₁) (fun b s₂ q => ?_) fun _ _ q => q.elim
  cases b with
  | false =>
    obtain ⟨h', tk', m₂, own₂, rfl, hX, F'⟩ := q
    exact wpAny_execs_nil (done h' tk' m₂ own₂ hX F')
  | true =>
    refine wpAny_mono q (fun f s₃ q' => ?_) fun _ _ q' => q'.elim
    cases f with
    | next =>
      obtain ⟨h', tk', m₂, own₂, k', rfl, hk, F', hJ'⟩ := q'
      exact ⟨k', hk, h', tk', m₂, own₂, rfl, hJ', F'⟩
    | cont =>
      obtain ⟨h', tk', m₂, own₂, k', rfl, hk, F', hJ'⟩ := q'
      exact ⟨k', hk, h', tk', m₂, own₂, rfl, hJ', F'⟩
    | brk => exact q'
    | ret v => exact q'

/-- a slice of a text -/
theorem keptFm {g : Heap} {L : Addr} {m : Str → Option Value} {own : List (Addr × Obj)} : KeptH (fun h => Fm g L h m own) := fun _ ob a => a.push0 ob
section
variable {value slice : Expr} {x : Str} {t : Tok} {g : Heap} {L : Addr} {m : Str → Option Value} {own : List (Addr × Obj)} {Q : Value → Shared → Prop}
theorem sliceS_ns {j : Int} {uj : Tok} (hF : Fm g L s.heap m own) (h : ∀ h' t' k, Fm g L h' m own → Q (.str (Txt.slice x none (some j)) t') { s with heap := h', toks := k })
    (hsz : x.length ≤ sizeLine)
    (hs : subscripted slice false (.str x t) (.ref s.heap.objs.size) = operate [.ref s.heap.objs.size, .str x t] (getItem (.str x t) (.ref s.heap.objs.size)) := by with_unfolding_all rfl)
    (ht : ∀ r, letTemporaryGo value (.str x t) r = pure () := by intro _; with_unfolding_all rfl) :
    wpAny (model prog w) A (subscriptTail value slice (.str x t) (.ref s.heap.objs.size)) Q E { s with heap := s.heap.push { cls := .type "slice", data := .fields #[.none, .int j uj, .none] } } :=
  tail_of_ItemOn (SBH.sliceItem_ns keptFm hF (fun h' t' k a => h h' t' k a) hsz) hs ht
theorem sliceS_sn {i : Int} {ui : Tok} (hF : Fm g L s.heap m own) (h : ∀ h' t' k, Fm g L h' m own → Q (.str (Txt.slice x (some i) none) t') { s with heap := h', toks := k })
    (hsz : x.length ≤ sizeLine)
    (hs : subscripted slice false (.str x t) (.ref s.heap.objs.size) = operate [.ref s.heap.objs.size, .str x t] (getItem (.str x t) (.ref s.heap.objs.size)) := by with_unfolding_all rfl)
    (ht : ∀ r, letTemporaryGo value (.str x t) r = pure () := by intro _; with_unfolding_all rfl) :
    wpAny (model prog w) A (subscriptTail value slice (.str x t) (.ref s.heap.objs.size)) Q E { s with heap := s.heap.push { cls := .type "slice", data := .fields #[.int i ui, .none, .none] } } :=
  tail_of_ItemOn (SBH.sliceItem_sn keptFm hF (fun h' t' k a => h h' t' k a) hsz) hs ht
theorem sliceS_ss {i j : Int} {ui uj : Tok} (hF : Fm g L s.heap m own) (h : ∀ h' t' k, Fm g L h' m own → Q (.str (Txt.slice x (some i) (some j)) t') { s with heap := h', toks := k })
    (hsz : x.length ≤ sizeLine)
    (hs : subscripted slice false (.str x t) (.ref s.heap.objs.size) = operate [.ref s.heap.objs.size, .str x t] (getItem (.str x t) (.ref s.heap.objs.size)) := by with_unfolding_all rfl)
    (ht : ∀ r, letTemporaryGo value (.str x t) r = pure () := by intro _; with_unfolding_all rfl) :
    wpAny (model prog w) A (subscriptTail value slice (.str x t) (.ref s.heap.objs.size)) Q E { s with heap := s.heap.push { cls := .type "slice", data := .fields #[.int i ui, .int j uj, .none] } } :=
  tail_of_ItemOn (SBH.sliceItem_ss keptFm hF (fun h' t' k a => h h' t' k a) hsz) hs ht

/-- one sign of a text -/
theorem signAt {i : Int} {u : Tok} {c : Nat} (h0 : 0 ≤ i) (hi : i < 2 ^ 62) (hc : x.cps[i.toNat]? = some c) (h : Q (.str ⟨#[c]⟩ s.toks) { s with toks := s.toks + 1 })
    (hs : subscripted slice false (.str x t) (.int i u) = operate [.str x t, .int i u] (getItem (.str x t) (.int i u)) := by with_unfolding_all rfl) :
    wpAny (model prog w) A (subscriptTail value slice (.str x t) (.int i u)) Q E s := by
  refine tail_any (typeIs_str s x t) F.slot_str_getitem.lookup (PyProof.Rows.getItem_str ?_ ?_ h) hs
  · simp only [Bool.or_eq_false_iff, decide_eq_false_iff_not]; (first | lia | omega)
  · have hlt : i.toNat < x.cps.size := by
      rcases Nat.lt_or_ge i.toNat x.cps.size with q | q
      · exact q
      · rw [Array.getElem?_eq_none q] at hc; cases hc
    have e : seqIndex? i x.length = some i.toNat := by
      have hlt' : i < (x.length : Int) := by
        have : x.length = x.cps.size := rfl
        (first | lia | omega)
      unfold seqIndex?
      simp [show ¬ (i < 0) by (first | lia | omega), h0, hlt']
    rw [e]; exact hc
end
end Mine

/-! F2 -/
set_option maxRecDepth 100000
namespace Mine
variable {prog : Program} {w : World} {A : Around} {E : Value → Shared → Prop} {s : Shared} {Q : Value → Shared → Prop}

/-- all that stood stays, nothing but the heap and the count of tokens turns -/
def Kept (s : Shared) (h' : Heap) : Prop := ∀ b o, s.heap.get? b = some o → h'.get? b = some o

theorem callF {env : Env} {x : Str} {p pos : Pos} {e : Expr} {rest : List Expr} {f : Addr} {i : Nat} (S : Stat s.heap) (hl : gl.lookup x = some (some (.ref f))) (hf : (f, i) ∈ fl)
    (h : wpAny (model prog w) A (spliced (backTo pos (starEach (e :: rest) env))) (fun vs s₁ => Stat s₁.heap ∧ wpAny (model prog w) A (call (.ref f) vs) Q E s₁) E s)
    (he : starEach (e :: rest) env = (false, eval e env) :: starEach rest env := by rfl) (hpl : (backTo pos (starEach rest env)).any (·.1) = false := by rfl)
    (hk : env.scope.kind = .function := by rfl)
    (hx : env.kindOf x = some .globalImplicit := by rfl) (hg : env.globals = 3 := by rfl) (hd : (x == ("__debug__" : Str)) = false := by decide) :
    wpAny (model prog w) A (eval (.Call (.Name x p) (e :: rest) [] pos) env) Q E s := by
  have toF : ∀ {h : Heap}, Stat h → FnAt f h := fun S' => by
    obtain ⟨⟨oc, od, dt, sl⟩, d, pm, eo, do', _⟩ := S'.fn hf
    dsimp only at do'
    subst do'
    exact ⟨oc, od, _, sl, eo⟩
  refine wpAny_Call_NameR (gname S hl ?_ hk hx hg hd)
  exact callWith_F (first := []) (toF S) (wpAny_mono h (fun vs s₁ h₁ => ⟨toF h₁.1, h₁.2⟩) fun _ _ z => z) he hpl

theorem callB {env : Env} {x : Str} {p pos : Pos} {e : Expr} {rest : List Expr} {id : String} (S : Stat s.heap) (hl : gl.lookup x = some none) (hb : bl.lookup x = some (.builtin id))
    (h : wpAny (model prog w) A (spliced (backTo pos (starEach (e :: rest) env))) (fun vs s₁ => wpAny (model prog w) A (call (.builtin id) vs) Q E s₁) E s)
    (he : starEach (e :: rest) env = (false, eval e env) :: starEach rest env := by rfl) (hpl : (backTo pos (starEach rest env)).any (·.1) = false := by rfl)
    (hk : env.scope.kind = .function := by rfl)
    (hx : env.kindOf x = some .globalImplicit := by rfl) (hg : env.globals = 3 := by rfl) (hg' : env.builtins = 0 := by rfl) (hd : (x == ("__debug__" : Str)) = false := by decide) :
    wpAny (model prog w) A (eval (.Call (.Name x p) (e :: rest) [] pos) env) Q E s :=
  wpAny_Call_NameR (bname S hl hb (callWith_builtin1 h he hpl) hk hx hg hg' hd)
theorem callT {env : Env} {x : Str} {p pos : Pos} {e : Expr} {rest : List Expr} {id : String} (S : Stat s.heap) (hl : gl.lookup x = some none) (hb : bl.lookup x = some (.type id))
    (h : wpAny (model prog w) A (spliced (backTo pos (starEach (e :: rest) env))) (fun vs s₁ => wpAny (model prog w) A (call (.type id) vs) Q E s₁) E s)
    (he : starEach (e :: rest) env = (false, eval e env) :: starEach rest env := by rfl) (hpl : (backTo pos (starEach rest env)).any (·.1) = false := by rfl)
    (hk : env.scope.kind = .function := by rfl)
    (hx : env.kindOf x = some .globalImplicit := by rfl) (hg : env.globals = 3 := by rfl) (hg' : env.builtins = 0 := by rfl) (hd : (x == ("__debug__" : Str)) = false := by decide) :
    wpAny (model prog w) A (eval (.Call (.Name x p) (e :: rest) [] pos) env) Q E s :=
  wpAny_Call_NameR (bname S hl hb (PyProof.Rows.callWith_type1 h he hpl) hk hx hg hg' hd)

/-- the reader of the script -/
def cellV (ns : List Int) (i : Nat) (d : Int) : Int := ns.getD i d

theorem law_cell_ok {l : Addr} {vs : List Value} {ns : List Int} {i : Nat} {d : Int} {t u : Tok} (S : Stat s.heap) (T : Tabs s.heap) (hroom : A.depth < recursionLimit)
    (hl : s.heap.IsList l vs.toArray) (hi : IntsAre vs ns) (hn : ns.length ≤ 63) (hi8 : i < 8)
    (hQ : ∀ h' tk tk', Kept s h' → Q (.int (cellV ns i d) tk') { s with heap := h', toks := tk }) :
    wpAny (model prog w) A (call (.ref 84) [.ref l, .int i t, .int d u]) Q E s := by
  have hlen : vs.length = ns.length := hi.length
  refine enterP (i := 14) (binds := [("script", .ref l), ("place", .int i t), ("other", .int d u)]) S T (by decide) hroom (fun _ _ => rfl) fun L h₁ F => ?_
  refine wpAny_execs_cons (wpAny_If (wpAny_isTrue_Compare1 (lname F rfl (callB (F.stat S) rfl rfl (args_cons (lname F rfl (args_nil (len_list (stays_list F.keep hl) (by simp only [List.size_toArray]; (first | lia | omega)) (lt_int (wpAny_truthy_bool ?_))))))))))
  have hsz : vs.toArray.size = ns.length := by rw [List.size_toArray, hlen]
  rw [hsz]
  by_cases hlt : (i : Int) < (ns.length : Int)
  · rw [decide_eq_true hlt, if_pos rfl]
    have hlt' : i < ns.length := by (first | lia | omega)
    obtain ⟨tk, hv⟩ := hi.get i ns[i] (by simp [hlt'])
    refine wpAny_execs_cons (wpAny_Return_some (Subscript_ (lname F rfl (lname F rfl (item_listL (stays_list F.keep hl) (by (first | lia | omega)) (by (first | lia | omega)) (by simpa using hv) ?_)))))
    have := hQ h₁ (s.toks + 3 + 1 + 1) tk F.keep
    unfold cellV at this
    rw [List.getD_eq_getElem?_getD, List.getElem?_eq_getElem hlt'] at this
    exact this
  · rw [decide_eq_false hlt, if_neg (by decide)]
    refine wpAny_execs_nil (wpAny_execs_cons (wpAny_Return_some (lname F rfl ?_)))
    have := hQ h₁ (s.toks + 3 + 1 + 1) u F.keep
    unfold cellV at this
    rw [List.getD_eq_getElem?_getD, List.getElem?_eq_none (by (first | lia | omega))] at this
    exact this
end Mine

/-! F3 -/
set_option maxRecDepth 100000
namespace Mine
variable {prog : Program} {w : World} {A : Around} {E : Value → Shared → Prop} {s : Shared} {Q : Value → Shared → Prop}

def signs : List Nat := [1, 7, 8, 9, 32, 33, 133, 160, 12288]
def tbl : Str := ⟨#[1, 7, 8, 9, 32, 33, 133, 160, 12288]⟩
def digOf (c : Nat) : Int := (signs.idxOf c : Int) - 4
def worthC (b : Int) (cs : List Nat) : Int := cs.foldl (fun n c => n * b + digOf c) 0
theorem idx_ok : ∀ c ∈ signs, Builtin.Str.occurrences tbl ⟨#[c]⟩ 0 tbl.length 1 = [signs.idxOf c] := by decide +kernel

theorem bits64 {b : Int} (h0 : 0 ≤ b) (h : b < 2 ^ 64) : Builtin.Int.intBits b ≤ 64 := intBits_le_64 (by (first | lia | omega)) h

theorem law_worth_ok {z : Str} {b : Int} {t u : Tok} (S : Stat s.heap) (T : Tabs s.heap) (hroom : A.depth < recursionLimit) (hh : A.handled = none)
    (hz : ∀ c ∈ z.cps.toList, c ∈ signs) (hb0 : 0 ≤ b) (hb : b < 2 ^ 64)
    (hQ : ∀ h' tk tk', Kept s h' → Q (.int (worthC b z.cps.toList) tk') { s with heap := h', toks := tk }) :
    wpAny (model prog w) A (call (.ref 101) [.str z t, .int b u]) Q E s := by
  refine enterP (i := 17) (binds := [("text", .str z t), ("base", .int b u)]) S T (by decide) hroom (fun _ _ => rfl) fun L h₁ F => ?_
  refine wpAny_execs_cons (wpAny_Assign_Name (wpAny_Constant_int (lstore F fun h₂ F₂ => ?_)))
  refine wpAny_execs_cons (wpAny_For (lname F₂ rfl (strLoop hh F₂
    (fun i m₁ own₁ => own₁ = [] ∧ m₁ "base" = some (.int b u) ∧ ∃ tn, m₁ "number" = some (.int (worthC b (z.cps.toList.take i)) tn))
    ⟨rfl, rfl, _, rfl⟩ ?_ ?_)))
  · rintro i c tc m₁ own₁ p h₃ tk hi hc ⟨rfl, hmb, tn, hmn⟩ F₃
    have hcm : c ∈ signs := hz c (List.mem_of_getElem? (by rw [Array.getElem?_toList]; exact hc))
    refine wpAny_execs_cons (wpAny_Assign_Name (wpAny_BinOp (wpAny_BinOp (wpAny_BinOp (lname F₃ hmn (lname F₃ hmb (mul_int ?_ (.of_right (bits64 hb0 hb)))))))))
    refine MethodCall_ ?_
    refine Calls.Constant_str (GM.index (callWith_method1 (args_cons (lname F₃ rfl (args_nil ?_)))))
    refine SC.index (idx_ok c hcm) (add_int (wpAny_Constant_int (sub_int' (lstore F₃ fun h₄ F₄ => wpAny_execs_nil ?_))))
    have e : worthC b (z.cps.toList.take (i + 1)) = worthC b (z.cps.toList.take i) * b + (signs.idxOf c : Int) - 4 := by
      have hc' : z.cps.toList[i]? = some c := by rw [Array.getElem?_toList]; exact hc
      rw [List.take_add_one, hc']
      simp only [worthC, List.foldl_append, Option.toList_some, List.foldl_cons, List.foldl_nil, digOf]
      (first | lia | omega)
    exact ⟨_, _, _, [], rfl, F₄, rfl, hmb, _, by rw [e]; rfl⟩
  · rintro h' tk m' own' ⟨rfl, hmb, tn, hmn⟩ F'
    refine wpAny_execs_cons (wpAny_Return_some (lname F' hmn ?_))
    have := hQ h' tk tn F'.keep
    rw [show z.cps.toList.take z.cps.size = z.cps.toList from by rw [← Array.length_toList]; exact List.take_length]
    exact this
end Mine

/-! F4 -/
set_option maxRecDepth 100000
set_option maxHeartbeats 2000000
namespace Mine
variable {prog : Program} {w : World} {A : Around} {E : Value → Shared → Prop} {s : Shared} {Q : Value → Shared → Prop}

/-- a blanks ahead, b behind, of eight signs -/
def Pads (z : Str) (a b : Nat) : Prop :=
  (a = 8 ∧ b = 0 ∧ ∀ k, k < 8 → z.cps[k]? = some 32) ∨
  (a + b < 8 ∧ (∀ k, k < a → z.cps[k]? = some 32) ∧ (∃ c, z.cps[a]? = some c ∧ c ≠ 32) ∧ (∀ k, k < b → z.cps[7 - k]? = some 32) ∧ ∃ c, z.cps[7 - b]? = some c ∧ c ≠ 32)

theorem ieq {a b : Int} {t : Tok} (e : a = b) : some (Value.int a t) = some (Value.int b t) := by rw [e]
theorem blank_beq (c : Nat) : ((⟨#[c]⟩ : Str) == Str.ofString " ") = decide (c = 32) := by
  by_cases h : c = 32
  · subst h; rfl
  · rw [decide_eq_false h]
    rw [beq_eq_false_iff_ne]
    intro e
    have e2 : (#[c] : Array Nat) = #[32] := congrArg Str.cps e
    simp at e2
    exact h e2

theorem eqBlank {c : Nat} {t u : Tok} (h : Q (.bool (decide (c = 32))) s) : wpAny (model prog w) A (compareOp .Eq (.str ⟨#[c]⟩ t) (.str (Str.ofString " ") u)) Q E s :=
  PyProof.Rows.eq_str (by rw [blank_beq]; exact h)

theorem strip_ok {z : Str} {a b amt : Nat} {t u : Tok} (S : Stat s.heap) (T : Tabs s.heap) (hroom : A.depth < recursionLimit)
    (hz : z.cps.size = 8) (hp : Pads z a b) (ham : a = 8 → amt ≤ 8)
    (hQ : ∀ h' tk tk', Kept s h' → Q (.str (Txt.slice z (some ((min amt a : Nat) : Int)) (some (8 - (min (amt - min amt a) b : Nat) : Int))) tk') { s with heap := h', toks := tk }) :
    wpAny (model prog w) A (call (.ref 35) [.str z t, .int amt u]) Q E s := by
  have hlen : z.length = 8 := hz
  obtain ⟨g, hg⟩ : ∃ g, min amt a = g := ⟨_, rfl⟩
  have g1 : g ≤ amt := hg ▸ Nat.min_le_left _ _
  have g2 : g ≤ a := hg ▸ Nat.min_le_right _ _
  have g3 : g = amt ∨ g = a := by (first | lia | omega)
  rw [hg] at hQ
  clear hg
  obtain ⟨e, he⟩ : ∃ e, min (amt - g) b = e := ⟨_, rfl⟩
  have e1 : e ≤ amt - g := he ▸ Nat.min_le_left _ _
  have e2 : e ≤ b := he ▸ Nat.min_le_right _ _
  have e3 : e = amt - g ∨ e = b := by (first | lia | omega)
  rw [he] at hQ
  clear he
  refine enterP (i := 4) (binds := [("s", .str z t), ("amount", .int amt u)]) S T (by decide) hroom (fun _ _ => rfl) fun L h₁ F => ?_
  refine wpAny_execs_cons (wpAny_Assign_Name (wpAny_Constant_int (lstore F fun h₂ F₂ => ?_)))
  refine wpAny_execs_cons (whileF (fun n m own => own = [] ∧ ∃ i : Nat, n = amt - i ∧ i ≤ g ∧ m "s" = some (.str z t) ∧ (∃ t1, m "lpos" = some (.int i t1)) ∧ ∃ t2, m "amount" = some (.int (amt - i : Nat) t2))
    (fun m own => own = [] ∧ m "s" = some (.str z t) ∧ (∃ t1, m "lpos" = some (.int (g : Nat) t1)) ∧ ∃ t2, m "amount" = some (.int (amt - g : Nat) t2)) amt F₂
    ⟨rfl, 0, rfl, Nat.zero_le _, rfl, ⟨_, rfl⟩, ⟨_, rfl⟩⟩ ?_ ?_)
  · rintro n m₁ own₁ h₃ tk ⟨rfl, i, rfl, hi, hs, ⟨t1, hl⟩, ⟨t2, ha⟩⟩ F₃
    refine wpAny_isTrue_BoolOp (wpAny_allTrue_And_cons (wpAny_isTrue_value (lname F₃ ha (truthy_int ?_))))
    by_cases hz0 : amt - i = 0
    · refine ite_neg (by rw [hz0]; decide) ?_
      have hi' : i = g := by (first | lia | omega)
      subst hi'
      exact ⟨_, _, m₁, [], rfl, ⟨rfl, hs, ⟨t1, hl⟩, ⟨t2, ha⟩⟩, F₃⟩
    · have hne : (((amt - i : Nat) : Int) != 0) = true := by simp; (first | lia | omega)
      refine ite_pos hne ?_
      have hi8 : i < 8 := by
        rcases hp with ⟨q, _, _⟩ | ⟨q, _⟩
        · have := ham q; (first | lia | omega)
        · (first | lia | omega)
      obtain ⟨c, hc⟩ : ∃ c, z.cps[i]? = some c := ⟨z.cps[i]'(by (first | lia | omega)), by simp [hz, hi8]⟩
      refine wpAny_allTrue_And_cons (wpAny_isTrue_Compare1 (Subscript_ (lname F₃ hs (lname F₃ hl (signAt (by (first | lia | omega)) (by (first | lia | omega)) hc (Calls.Constant_str (eqBlank (wpAny_truthy_bool ?_))))))))
      by_cases hia : i < a
      · have h32 : c = 32 := by
          have : z.cps[i]? = some 32 := by
            rcases hp with ⟨q, _, r⟩ | ⟨q, r, _⟩
            · exact r i hi8
            · exact r i hia
          rw [hc] at this; exact Option.some.inj this
        refine ite_pos (decide_eq_true h32) ?_
        refine wpAny_allTrue_And_nil ?_
        refine ite_pos rfl ?_
        refine wpAny_execs_cons (wpAny_AugAssign_Name (lload F₃ hl (wpAny_Constant_int (wpAny_iadd_int (lstore F₃ fun h₄ F₄ => ?_)))))
        refine wpAny_execs_cons (wpAny_AugAssign_Name (lload F₄ ha (wpAny_Constant_int (isub_int (lstore F₄ fun h₅ F₅ => wpAny_execs_nil ?_)))))
        exact ⟨_, _, _, [], amt - (i + 1), rfl, by (first | lia | omega), F₅, rfl, i + 1, rfl, by (first | lia | omega), hs, ⟨_, rfl⟩, ⟨_, ieq (by (first | lia | omega))⟩⟩
      · have hia' : i = a := by (first | lia | omega)
        subst hia'
        have h32 : c ≠ 32 := by
          rcases hp with ⟨q, _, r⟩ | ⟨q, _, ⟨c', e', r⟩, _⟩
          · (first | lia | omega)
          · rw [hc] at e'; cases e'; exact r
        refine ite_neg (by rw [decide_eq_false h32]; decide) (ite_neg (by decide) ?_)
        have hi' : i = g := by (first | lia | omega)
        exact ⟨_, _, m₁, [], rfl, ⟨rfl, hs, ⟨t1, by rw [← hi']; exact hl⟩, ⟨t2, by rw [← hi']; exact ha⟩⟩, F₃⟩
  · rintro h₃ tk m₁ own₁ ⟨rfl, hs, ⟨t1, hl⟩, ⟨t2, ha⟩⟩ F₃
    refine wpAny_execs_cons (wpAny_Assign_Name (wpAny_BinOp (callB (F₃.stat S) rfl rfl (args_cons (lname F₃ hs (args_nil (len_str (by (first | lia | omega)) (wpAny_Constant_int (sub_int' (lstore F₃ fun h₄ F₄ => ?_))))))))))
    rw [hlen] at F₄
    refine wpAny_execs_cons (whileF (fun n m own => own = [] ∧ ∃ j : Nat, n = amt - g - j ∧ j ≤ e ∧ m "s" = some (.str z t) ∧ (∃ t1, m "lpos" = some (.int g t1)) ∧ (∃ t3, m "rpos" = some (.int (7 - j : Nat) t3)) ∧ ∃ t2, m "amount" = some (.int (amt - g - j : Nat) t2))
      (fun m own => own = [] ∧ m "s" = some (.str z t) ∧ (∃ t1, m "lpos" = some (.int g t1)) ∧ ∃ t3, m "rpos" = some (.int (7 - e : Nat) t3)) (amt - g) F₄
      ⟨rfl, 0, rfl, Nat.zero_le _, hs, ⟨_, hl⟩, ⟨_, rfl⟩, ⟨_, ha⟩⟩ ?_ ?_)
    · rintro n m₂ own₂ h₅ tk5 ⟨rfl, j, rfl, hj, hs, ⟨t1, hl⟩, ⟨t3, hr⟩, ⟨t2, ha⟩⟩ F₅
      refine wpAny_isTrue_BoolOp (wpAny_allTrue_And_cons (wpAny_isTrue_value (lname F₅ ha (truthy_int ?_))))
      by_cases hz0 : amt - g - j = 0
      · refine ite_neg (by rw [hz0]; decide) ?_
        have hj' : j = e := by (first | lia | omega)
        subst hj'
        exact ⟨_, _, m₂, [], rfl, ⟨rfl, hs, ⟨t1, hl⟩, ⟨t3, hr⟩⟩, F₅⟩
      · have hne : (((amt - g - j : Nat) : Int) != 0) = true := by simp; (first | lia | omega)
        refine ite_pos hne ?_
        have hab : a + b < 8 := by
          rcases hp with ⟨q, _, _⟩ | ⟨q, _⟩
          · have := ham q; (first | lia | omega)
          · exact q
        obtain ⟨c, hc⟩ : ∃ c, z.cps[7 - j]? = some c := ⟨z.cps[7 - j]'(by (first | lia | omega)), by simp⟩
        refine wpAny_allTrue_And_cons (wpAny_isTrue_Compare1 (Subscript_ (lname F₅ hs (lname F₅ hr (signAt (by (first | lia | omega)) (by (first | lia | omega)) hc (Calls.Constant_str (eqBlank (wpAny_truthy_bool ?_))))))))
        by_cases hjb : j < b
        · have h32 : c = 32 := by
            have : z.cps[7 - j]? = some 32 := by
              rcases hp with ⟨q, q', r⟩ | ⟨q, _, _, r, _⟩
              · (first | lia | omega)
              · exact r j hjb
            rw [hc] at this; exact Option.some.inj this
          refine ite_pos (decide_eq_true h32) ?_
          refine wpAny_allTrue_And_nil ?_
          refine ite_pos rfl ?_
          refine wpAny_execs_cons (wpAny_AugAssign_Name (lload F₅ hr (wpAny_Constant_int (isub_int (lstore F₅ fun h₆ F₆ => ?_)))))
          refine wpAny_execs_cons (wpAny_AugAssign_Name (lload F₆ ha (wpAny_Constant_int (isub_int (lstore F₆ fun h₇ F₇ => wpAny_execs_nil ?_)))))
          exact ⟨_, _, _, [], amt - g - (j + 1), rfl, by (first | lia | omega), F₇, rfl, j + 1, rfl, by (first | lia | omega), hs, ⟨_, hl⟩, ⟨_, ieq (by (first | lia | omega))⟩, ⟨_, ieq (by (first | lia | omega))⟩⟩
        · have hjb' : j = b := by (first | lia | omega)
          subst hjb'
          have h32 : c ≠ 32 := by
            rcases hp with ⟨q, _, r⟩ | ⟨q, _, _, _, ⟨c', e', r⟩⟩
            · (first | lia | omega)
            · rw [hc] at e'; cases e'; exact r
          refine ite_neg (by rw [decide_eq_false h32]; decide) (ite_neg (by decide) ?_)
          have hj' : j = e := by (first | lia | omega)
          exact ⟨_, _, m₂, [], rfl, ⟨rfl, hs, ⟨t1, hl⟩, ⟨t3, by rw [← hj']; exact hr⟩⟩, F₅⟩
    · rintro h₅ tk5 m₂ own₂ ⟨rfl, hs, ⟨t1, hl⟩, ⟨t3, hr⟩⟩ F₅
      refine wpAny_execs_cons (wpAny_Return_some (Subscript_ (lname F₅ hs (wpAny_Slice ?_))))
      refine lname F₅ hl (wpAny_BinOp (lname F₅ hr (wpAny_Constant_int (add_int (wpAny_pure ?_)))))
      refine sliceS_ss F₅ (fun h₆ t6 k F₆ => ?_) (by rw [hlen]; decide)
      have := hQ h₆ k t6 F₆.keep
      have e : ((7 - e : Nat) : Int) + 1 = 8 - (e : Nat) := by
        have : e ≤ 7 := by
          rcases hp with ⟨q, q', _⟩ | ⟨q, _⟩
          · (first | lia | omega)
          · (first | lia | omega)
        (first | lia | omega)
      rw [← e] at this
      exact this
end Mine

/-! Comps -/
set_option maxRecDepth 100000
namespace Mine
variable {prog : Program} {w : World} {A : Around} {E : Value → Shared → Prop} {s : Shared}

abbrev testsTree (ifs : List Expr) (env : Env) : Sem Bool :=
  forIn ifs true fun c r => if r = true then do let ok ← isTrue c env (eval c env); pure (ForInStep.yield ok) else pure (ForInStep.yield r)

/-- a comprehension's test and element, walked in the comprehension's own scope -/
structure CompOk (prog : Program) (w : World) (A : Around) (env : Env) (scope : Scope) (cl : List (Str × Addr)) (x : Str) (ifs : List Expr) (elt : Expr) (s : Shared) (P : Value → Prop) (p : Value → Bool) (R : Value → Value → Prop) : Prop where
  tests : ∀ C v (s₃ : Shared) m₃ E', P v → s₃.heap.Ns C m₃ → m₃ x = some v → (∀ b o, s.heap.get? b = some o → s₃.heap.get? b = some o) →
    wpAny (model prog w) A (testsTree ifs (compEnvC scope cl C env)) (fun ok s₄ => ok = p v ∧ Keeps s₃ s₄) E' s₃
  elt : ∀ C v (s₃ : Shared) m₃ E', P v → p v = true → s₃.heap.Ns C m₃ → m₃ x = some v → (∀ b o, s.heap.get? b = some o → s₃.heap.get? b = some o) →
    wpAny (model prog w) A (eval elt (compEnvC scope cl C env)) (fun y s₄ => R v y ∧ Keeps s₃ s₄) E' s₃

section
variable {env : Env} {scope : Scope} {cl : List (Str × Addr)} {x y : Str} {ifs : List Expr} {elt : Expr} {p : Value → Bool} {R : Value → Value → Prop} {L : Addr} {g : Heap} {m : Str → Option Value} {own : List (Addr × Obj)}

/-- without a test -/
theorem CompOk.plain {P : Value → Prop} (h : ∀ C v (s₃ : Shared) m₃ E', P v → s₃.heap.Ns C m₃ → m₃ x = some v → (∀ b o, s.heap.get? b = some o → s₃.heap.get? b = some o) →
    wpAny (model prog w) A (eval elt (compEnvC scope cl C env)) (fun y s₄ => R v y ∧ Keeps s₃ s₄) E' s₃) : CompOk prog w A env scope cl x [] elt s P (fun _ => true) R where
  tests := fun C v s₃ m₃ E' _ _ _ _ => wpAny_tests_nil ⟨rfl, _, _, rfl, fun _ _ e => e⟩
  elt := fun C v s₃ m₃ E' hp _ hn hm hk => h C v s₃ m₃ E' hp hn hm hk

theorem quietOn {I : Addr} {s₂ : Shared} {P : Nat → Value → Prop} {P' : Value → Prop} (hP : ∀ i v, P i v → P' v) (hk : ∀ b o, s.heap.get? b = some o → s₂.heap.get? b = some o) (hI : s.heap.get? I = none)
    (h : CompOk prog w A env scope cl x ifs elt s P' p R) : QuietOnC prog w A env scope cl x ifs elt [I] P p R s₂ where
  tests := fun C i v s₃ m₃ E' _ hp hn hm hk' _ => h.tests C v s₃ m₃ E' (hP i v hp) hn hm fun b o e => hk' b o (fun z => by
    rw [List.mem_singleton.mp z, hI] at e; cases e) (hk b o e)
  elt := fun C i v s₃ m₃ E' _ hp hpv hn hm hk' _ => h.elt C v s₃ m₃ E' (hP i v hp) hpv hn hm fun b o e => hk' b o (fun z => by
    rw [List.mem_singleton.mp z, hI] at e; cases e) (hk b o e)

/-- what a source of a comprehension is: made over s, its walk I -/
structure Src (prog : Program) (w : World) (A : Around) (s s₂ : Shared) (P' : Value → Prop) (Z : List Value → Prop) (it : Value) : Prop where
  src : ∃ I fp n P St, it = .ref I ∧ Walks prog w A I fp [I] n P St ∧ n ≤ sizeLine ∧ St 0 s₂.heap ∧ (∀ b ∈ fp, b < s₂.heap.objs.size) ∧ s.heap.get? I = none ∧ (∀ i v, P i v → P' v) ∧
    (∀ vs : List Value, vs.length = n → (∀ j v, vs[j]? = some v → P j v) → Z vs)
  up : ∀ b o, s.heap.get? b = some o → s₂.heap.get? b = some o
  at' : ∃ h' tk, s₂ = { s with heap := h', toks := tk }

theorem srcList {ax : Addr} {vs : List Value} (hh : A.handled = none) (hl : s.heap.IsList ax vs.toArray) (hn : vs.length ≤ 1000) {Q : Value → Shared → Prop}
    (h : ∀ it s₂, Src prog w A s s₂ (fun v => v ∈ vs) (fun ws => ws = vs) it → Q it s₂) : wpAny (model prog w) A (pyIter (.ref ax)) Q E s := by
  have hax : ax ≠ s.heap.objs.size := by
    obtain ⟨o, e, _⟩ := hl
    exact Nat.ne_of_lt (Heap.lt_size e)
  have hsize : vs.toArray.size = vs.length := List.size_toArray ..
  refine wpAny_pyIter_list hl (h _ _ ⟨⟨s.heap.objs.size, [s.heap.objs.size, ax], vs.toArray.size, _, _, rfl, Walks.list hh _ ax hax vs.toArray, ?_, ?_, ?_, get_size_none _, ?_, ?_⟩, fun _ _ e => Heap.get?_push_of_some _ e, _, _, rfl⟩)
  · rw [hsize]; have : sizeLine = 16777216 := by decide
    (first | lia | omega)
  · exact ⟨⟨_, Heap.get?_push_size _ rfl, rfl, rfl⟩, stays_list (fun _ _ e => Heap.get?_push_of_some _ e) hl⟩
  · intro b hb
    obtain ⟨o, e, _⟩ := hl
    have := Heap.lt_size e
    simp only [List.mem_cons, List.not_mem_nil, or_false] at hb
    show b < (s.heap.push _).objs.size
    rw [Heap.size_push]
    rcases hb with rfl | rfl
    · exact Nat.lt_succ_self _
    · exact Nat.lt_succ_of_lt this
  · exact fun i v hv => List.mem_of_getElem? (by simpa using hv)
  · intro ws hlen hP
    apply List.ext_getElem?
    intro j
    by_cases hj : j < ws.length
    · have := hP j ws[j] (by simp [hj])
      rw [List.getElem?_eq_getElem hj]
      simpa using this.symm
    · rw [List.getElem?_eq_none (by (first | lia | omega)), List.getElem?_eq_none (by (first | lia | omega))]

theorem srcRange {N : Int} {t : Tok} (hh : A.handled = none) (hN : 0 ≤ N) (hN' : N ≤ 1000) {Q : Value → Shared → Prop} {E' : Value → Shared → Prop}
    (h : ∀ it s₂, Src prog w A s s₂ (fun v => ∃ (i : Nat) (u : Tok), (i : Int) < N ∧ v = .int i u) (fun ws => IntsAre ws ((List.range N.toNat).map (fun k : Nat => (k : Int)))) it → Q it s₂) :
    wpAny (model prog w) A (call (.type "range") [.int N t]) (fun xv s₁ => wpAny (model prog w) A (pyIter xv) Q E s₁) E' s := by
  refine call_range_1 (wpAny_pyIter_range (IsRange.new ..) (small_one (by decide) (by decide) (by (first | lia | omega)) (by (first | lia | omega))) ?_)
  have hsz : Builtin.Range.rangeSize 0 N 1 = (N.toNat : Int) := by rw [rangeSize_one]; split <;> (first | lia | omega)
  rw [hsz]
  have up : ∀ b o, s.heap.get? b = some o → ((s.heap.push { cls := .type "range", data := .fields #[.int 0 s.toks, .int N t, .int 1 (s.toks + 1)] }).push { cls := .type "range_iterator", data := .fields #[rawInt 0, rawInt (N.toNat : Int), rawInt 1] }).get? b = some o :=
    fun _ _ e => Heap.get?_push_of_some _ (Heap.get?_push_of_some _ e)
  refine h _ _ ⟨⟨_, [(s.heap.push { cls := .type "range", data := .fields #[.int 0 s.toks, .int N t, .int 1 (s.toks + 1)] }).objs.size], N.toNat, _, _, rfl, (Walks.range hh _ 0 1 N.toNat).bound, ?_, ?_, ?_, ?_, ?_, ?_⟩, up, _, _, rfl⟩
  · have : sizeLine = 16777216 := by decide
    (first | lia | omega)
  · show IsRangeIter _ _ (0 + ((0 : Nat) : Int) * 1) ((N.toNat : Int) - ((0 : Nat) : Int)) 1
    have e1 : (0 + ((0 : Nat) : Int) * 1) = 0 := by simp
    have e2 : ((N.toNat : Int) - ((0 : Nat) : Int)) = (N.toNat : Int) := by simp
    rw [e1, e2]
    exact Heap.get?_push_size _ rfl
  · intro b hb
    rw [List.mem_singleton.mp hb]
    show _ < ((s.heap.push _).push _).objs.size
    rw [Heap.size_push (s.heap.push _)]
    exact Nat.lt_succ_self _
  · cases q : s.heap.get? (s.heap.push { cls := .type "range", data := .fields #[.int 0 s.toks, .int N t, .int 1 (s.toks + 1)] }).objs.size with
    | none => rfl
    | some o =>
      have := Heap.lt_size q
      rw [Heap.size_push] at this
      exact absurd this (Nat.not_lt.mpr (Nat.le_succ _))
  · rintro i v ⟨hi, u, rfl⟩
    refine ⟨i, u, by (first | lia | omega), ?_⟩
    have e : (0 + (i : Int) * 1) = (i : Int) := by (first | lia | omega)
    rw [e]
  · intro ws hlen hP
    have key : ∀ (k : Nat) (ws : List Value) (a : Nat), ws.length = k → (∀ j v, ws[j]? = some v → ∃ u, v = Value.int ((a + j : Nat) : Int) u) → IntsAre ws ((List.range' a k).map (fun k : Nat => (k : Int))) := by
      intro k
      induction k with
      | zero =>
        intro ws a hl _
        rw [List.length_eq_zero_iff.mp hl]
        exact .nil
      | succ k ih =>
        intro ws a hl hw
        cases ws with
        | nil => cases hl
        | cons v r =>
          obtain ⟨u, rfl⟩ := hw 0 v rfl
          rw [List.range'_succ, List.map_cons]
          refine .cons _ _ (ih r (a + 1) (by simpa using hl) fun j v hv => ?_)
          obtain ⟨u', e⟩ := hw (j + 1) v (by simpa using hv)
          exact ⟨u', by rw [e]; congr 1; (first | lia | omega)⟩
    rw [List.range_eq_range']
    refine key N.toNat ws 0 hlen fun j v hv => ?_
    obtain ⟨_, u, rfl⟩ := hP j v hv
    exact ⟨u, by congr 1; (first | lia | omega)⟩

variable {iter : Expr} {px py pos spos : Pos}

/-- a comprehension as a value -/
theorem compE {Q : Value → Shared → Prop} {P' : Value → Prop} {Z : List Value → Prop} (F : Fm g L s.heap m own)
    (hclos : closureFor scope env = pure cl)
    (h : ∀ K : Value → Shared → Prop, (∀ it s₂, Src prog w A s s₂ P' Z it → K it s₂) → wpAny (model prog w) A (eval iter env) (fun xv s₁ => wpAny (model prog w) A (pyIter xv) K E s₁) E s)
    (hc : CompOk prog w A env scope cl x ifs elt s P' p R)
    (done : ∀ D h' tk vs ys n, Z vs → Paired R (vs.filter p) ys → Fm g L h' m ((D, listOf ys.toArray n) :: own) → Kept s h' → s.heap.get? D = none → Q (.ref D) { s with heap := h', toks := tk })
    (hcell : ∀ y ∈ scope.names, y.2 ≠ .cell := by decide) (hkind : scope.kind = .function := by rfl)
    (hnames : ∀ y ∈ scope.names, y.2 = .local → scope.names.lookup y.1 = some .local := by decide) (hx : scope.names.lookup x = some .local := by rfl)
    (hs : ∀ x, foldedSetIterable iter env x = pure x := by intro _; rfl) :
    wpAny (model prog w) A (eval (.ListComp elt [⟨.Name x px, iter, ifs, 0⟩] scope pos) env) Q E s := by
  refine wpAny_ListComp_free p R hclos hcell hkind hnames hx (h _ fun it s₂ Sr => ?_) hs
  obtain ⟨⟨I, fp, n, P, St, rfl, W, hsz, st, hfp, hI, hP, hZ⟩, up, h₂, tk₂, rfl⟩ := Sr
  refine ⟨I, fp, [I], n, P, St, rfl, W, hsz, st, hfp, quietOn hP up hI hc, ?_⟩
  intro D h' tk ys vs hD hlD hpD hlen hPv hF hk
  obtain ⟨e, hD'⟩ := hpD
  have hk' : ∀ b o, s.heap.get? b = some o → h'.get? b = some o := fun b o e => hk b o (fun z => by
    rw [List.mem_singleton.mp z, hI] at e; cases e) (up b o e)
  have hDn : s.heap.get? D = none := by
    cases q : s.heap.get? D with
    | none => rfl
    | some o => have := up _ _ q; rw [hD] at this; cases this
  exact done D h' tk vs ys.toList e (hZ vs hlen hPv) hF (F.add hk' hDn (by simpa using hD')) hk' hDn

/-- a comprehension bound to a local name -/
theorem compA {Q : Flow → Shared → Prop} {P' : Value → Prop} {Z : List Value → Prop} (F : Fm g L s.heap m own)
    (hclos : closureFor scope env = pure cl)
    (h : ∀ K : Value → Shared → Prop, (∀ it s₂, Src prog w A s s₂ P' Z it → K it s₂) → wpAny (model prog w) A (eval iter env) (fun xv s₁ => wpAny (model prog w) A (pyIter xv) K E s₁) E s)
    (hc : CompOk prog w A env scope cl x ifs elt s P' p R)
    (done : ∀ D h' tk vs ys n, Z vs → Paired R (vs.filter p) ys → Fm g L h' (fun z => if z = y then some (.ref D) else m z) ((D, listOf ys.toArray n) :: own) → Q .next { s with heap := h', toks := tk })
    (hcell : ∀ y ∈ scope.names, y.2 ≠ .cell := by decide) (hkind : scope.kind = .function := by rfl)
    (hnames : ∀ y ∈ scope.names, y.2 = .local → scope.names.lookup y.1 = some .local := by decide) (hx : scope.names.lookup x = some .local := by rfl)
    (hy : env.kindOf y = some .local := by rfl) (hk : env.scope.kind = .function := by rfl) (hL : env.locals = L := by rfl)
    (hsw : swapsWith (.ListComp elt [⟨.Name x px, iter, ifs, 0⟩] scope pos) (some (.Name y py)) spos.line env = pure true := by rfl)
    (hs : ∀ x, foldedSetIterable iter env x = pure x := by intro _; rfl) :
    wpAny (model prog w) A (exec (.Assign [.Name y py] (.ListComp elt [⟨.Name x px, iter, ifs, 0⟩] scope pos) spos) env) Q E s := by
  subst hL
  refine wpAny_Assign_ListComp_free p R hsw hclos hcell hkind hnames hx hy (by rw [hk]; rfl) (h _ fun it s₂ Sr => ?_) hs
  obtain ⟨⟨I, fp, n, P, St, rfl, W, hsz, st, hfp, hI, hP, hZ⟩, up, h₂, tk₂, rfl⟩ := Sr
  refine ⟨I, fp, [I], n, P, St, m, rfl, W, hsz, st, hfp, ?_, F.ns.keeps up, quietOn hP up hI hc, ?_⟩
  · intro z
    obtain ⟨o, e⟩ := Ns.get_some F.ns
    rw [List.mem_singleton.mp z, hI] at e; cases e
  intro D h' tk ys vs hD hlD hpD hlen hPv hF hns hk
  obtain ⟨e, hD'⟩ := hpD
  have hDn : s.heap.get? D = none := by
    cases q : s.heap.get? D with
    | none => rfl
    | some o => have := up _ _ q; rw [hD] at this; cases this
  exact done D h' tk vs ys.toList e (hZ vs hlen hPv) hF (F.setAdd hns (fun b o hb e => hk b o hb (fun z => by
    rw [List.mem_singleton.mp z, hI] at e; cases e) (up b o e)) hDn (by simpa using hD'))
end
end Mine

/-! F5 -/
set_option maxRecDepth 100000
set_option maxHeartbeats 1000000
namespace Mine
variable {prog : Program} {w : World} {A : Around} {E : Value → Shared → Prop} {s : Shared} {Q : Value → Shared → Prop}

def sgn (f : Int) : Nat := signs.getD (4 + f).toNat 0
def textOf (fs : List Int) : Str := ⟨(fs.map sgn).toArray⟩

theorem join_signs : ∀ fs : List Int, Str.join Str.empty (fs.map fun f => (⟨#[sgn f]⟩ : Str)) = textOf fs
  | [] => rfl
  | [_] => rfl
  | a :: b :: r => by
    have ih := join_signs (b :: r)
    show (⟨#[sgn a]⟩ : Str) ++ Str.empty ++ Str.join Str.empty ((b :: r).map fun f => (⟨#[sgn f]⟩ : Str)) = _
    rw [ih]
    apply Str.ext'
    show (#[sgn a] ++ #[]) ++ ((b :: r).map sgn).toArray = ((a :: b :: r).map sgn).toArray
    simp

theorem tbl_get {f : Int} (h0 : -4 ≤ f) (h1 : f ≤ 4) : tbl.cps[(4 + f).toNat]? = some (sgn f) := by
  obtain ⟨k, hk⟩ : ∃ k : Nat, (4 + f).toNat = k ∧ k < 9 := ⟨_, rfl, by (first | lia | omega)⟩
  unfold sgn
  rw [hk.1]
  have : ∀ k, k < 9 → tbl.cps[k]? = some (signs.getD k 0) := by decide
  exact this k hk.2

theorem mem_ints {vs : List Value} {fs : List Int} (h : IntsAre vs fs) {v : Value} (hv : v ∈ vs) : ∃ f t, f ∈ fs ∧ v = .int f t := by
  induction h with
  | nil => cases hv
  | cons n t _ ih =>
    rcases List.mem_cons.mp hv with rfl | hv
    · exact ⟨n, t, .head _, rfl⟩
    · obtain ⟨f, t', hf, e⟩ := ih hv
      exact ⟨f, t', .tail _ hf, e⟩

theorem Fm.isList {g h : Heap} {L a : Addr} {m : Str → Option Value} {own : List (Addr × Obj)} {its : Array Value} {n : Nat} (F : Fm g L h m own) (hm : (a, listOf its n) ∈ own) : h.IsList a its :=
  ⟨_, F.get hm, rfl, n, rfl⟩

theorem pair_strs {vs ys : List Value} {fs : List Int} (h : IntsAre vs fs) (hP : Paired (fun v y => ∃ f t u, v = .int f t ∧ y = .str ⟨#[sgn f]⟩ u) vs ys) : StrsAre ys (fs.map fun f => (⟨#[sgn f]⟩ : Str)) := by
  induction h generalizing ys with
  | nil => cases hP; exact .nil
  | cons n t _ ih =>
    cases hP with
    | cons hab hr =>
      obtain ⟨f, t', u, e, rfl⟩ := hab
      cases e
      exact .cons _ _ (ih hr)

theorem law_text_ok {l : Addr} {vs : List Value} {fs : List Int} (S : Stat s.heap) (T : Tabs s.heap) (hroom : A.depth < recursionLimit) (hh : A.handled = none)
    (hl : s.heap.IsList l vs.toArray) (hi : IntsAre vs fs) (hn : fs.length ≤ 8) (hf : ∀ f ∈ fs, -4 ≤ f ∧ f ≤ 4)
    (hQ : ∀ h' tk tk', Kept s h' → Q (.str (textOf fs) tk') { s with heap := h', toks := tk }) :
    wpAny (model prog w) A (call (.ref 94) [.ref l]) Q E s := by
  have hlen : vs.length = fs.length := hi.length
  refine enterP (i := 16) (binds := [("row", .ref l)]) S T (by decide) hroom (fun _ _ => rfl) fun L h₁ F => ?_
  have hhd : ∀ e, (A.deeper e).handled = none := fun _ => hh
  have hl₁ : h₁.IsList l vs.toArray := stays_list F.keep hl
  refine wpAny_execs_cons (wpAny_Return_some (MethodCall_ ?_))
  refine Calls.Constant_str (GM.join (callWith_method1 (args_cons ?_)))
  refine compE (P' := fun v => v ∈ vs) (Z := fun ws => ws = vs) (p := fun _ => true) (R := fun v y => ∃ f t u, v = .int f t ∧ y = .str ⟨#[sgn f]⟩ u) (cl := []) F rfl
    (fun K hK => lname F rfl (srcList (vs := vs) (hhd _) hl₁ (by (first | lia | omega)) hK)) (CompOk.plain ?_) ?_
  · intro C v s₃ m₃ E' hv hns hm hk
    obtain ⟨f, t, hfm, rfl⟩ := mem_ints hi hv
    have := hf f hfm
    refine Subscript_ (Calls.Constant_str (wpAny_BinOp (wpAny_Constant_int (wpAny_Name (wpAny_loadName_local rfl rfl hns hm (add_int ?_))))))
    refine signAt (c := sgn f) (by (first | lia | omega)) (by (first | lia | omega)) (tbl_get (by (first | lia | omega)) (by (first | lia | omega))) ⟨⟨f, t, _, rfl, rfl⟩, _, _, rfl, fun _ _ e => e⟩
  · rintro D h' tk ws ys n rfl hP F' hk' hD
    rw [List.filter_eq_self.mpr (by simp)] at hP
    refine args_nil (join_list (F'.isList (.head _)) (ys := fs.map fun f => (⟨#[sgn f]⟩ : Str)) (pair_strs hi hP) ?_ fun t' k => ?_)
    · have : ∀ fs : List Int, ((fs.map fun f => (⟨#[sgn f]⟩ : Str)).map (·.length)).sum = fs.length := by
        intro fs
        induction fs with
        | nil => rfl
        | cons a r ih => simp only [List.map_cons, List.sum_cons, ih, List.length_cons]; show 1 + _ = _; (first | lia | omega)
      rw [this, List.length_map]
      show fs.length + fs.length * 0 ≤ _
      (first | lia | omega)
    · have := hQ h' k t' (fun b o e => hk' b o (F.keep b o e))
      rw [← join_signs, ← StrLaws.glued_eq_join] at this
      exact this
end Mine

/-! CellsM -/
set_option maxRecDepth 100000
namespace Mine
variable {prog : Program} {w : World} {A : Around} {E : Value → Shared → Prop} {s : Shared} {Q : Value → Shared → Prop}

def envC (i : Nat) (f L : Addr) : Env := { envAt i f L with cells := cellsFrom (L + 1) (stScope (topAt i)).names [] }

section
variable {M : Model} {env : Env} {x : Str} {pos : Pos} {c L : Addr} {v : Value} {oc : Obj} {g : Heap} {m : Str → Option Value} {own : List (Addr × Obj)}
/-- a name that a scope within reads -/
theorem cname (F : Fm g L s.heap m own) (hm : (c, oc) ∈ own) (hd : oc.data = .cell (some v)) (h : Q v s) (hc : env.cells.lookup x = some c := by rfl)
    (hk : env.scope.kind = .function := by rfl) (hl : env.kindOf x = some .cell := by rfl) (hdb : (x == ("__debug__" : Str)) = false := by decide) :
    wpAny M A (eval (.Name x pos) env) Q E s := wpAny_Name (wpAny_loadName_cell hk hl hc ⟨oc, F.get hm, hd⟩ h) hdb
theorem cstore {Q : Unit → Shared → Prop} {v₀ : Option Value} (F : Fm g L s.heap m own) (i : Nat) (hi : own[i]? = some (c, oc)) (hd : oc.data = .cell v₀)
    (h : ∀ h' oc', oc'.data = .cell (some v) → Fm g L h' m (own.set i (c, oc')) → Q () { s with heap := h' }) (hc : env.cells.lookup x = some c := by rfl)
    (hk : env.scope.kind = .function := by rfl) (hl : env.kindOf x = some .cell := by rfl) :
    wpAny M A (storeName env x v) Q E s := by
  refine wpAny_storeName_cell hk hl hc ⟨oc, F.get (List.mem_of_getElem? hi), hd⟩ fun h' hc' hs => ?_
  obtain ⟨oc', e', d'⟩ := hc'
  exact h h' oc' d' (F.upd i hi (fun b ob hb e => hs.extBut b ob hb e) e' (.cell hd))
theorem cstoreK {Q : Unit → Shared → Prop} {v₀ : Option Value} (F : Fm g L s.heap m own) (i : Nat) (hi : own[i]? = some (c, oc)) (hd : oc.data = .cell v₀)
    (h : ∀ h' oc', oc'.data = .cell (some v) → Fm g L h' m (own.set i (c, oc')) → (∀ b ob, b ≠ c → s.heap.get? b = some ob → h'.get? b = some ob) → Q () { s with heap := h' }) (hc : env.cells.lookup x = some c := by rfl)
    (hk : env.scope.kind = .function := by rfl) (hl : env.kindOf x = some .cell := by rfl) :
    wpAny M A (storeName env x v) Q E s := by
  refine wpAny_storeName_cell hk hl hc ⟨oc, F.get (List.mem_of_getElem? hi), hd⟩ fun h' hc' hs => ?_
  obtain ⟨oc', e', d'⟩ := hc'
  exact h h' oc' d' (F.upd i hi (fun b ob hb e => hs.extBut b ob hb e) e' (.cell hd)) fun b ob hb e => hs.extBut b ob hb e
theorem codeRec_cell {h h' : Heap} {c c' : Addr} {q : Str} {oc : Obj} {v : Option Value} (x : h.CodeRec (.ref c') q) (hc : h.get? c = some oc) (hd : oc.data = .cell v) (k : ∀ b ob, b ≠ c → h.get? b = some ob → h'.get? b = some ob) : h'.CodeRec (.ref c') q := by
  obtain ⟨c1, o, vs, t, e, g, d, r⟩ := x
  refine ⟨c1, o, vs, t, e, k _ _ (fun z => ?_) g, d, r⟩
  subst z
  rw [hc] at g; cases g
  rw [hd] at d; cases d
end

theorem cells_own {L : Addr} {m cm : Str → Option Value} {cs : List (Str × Addr)} {s₁ : Shared} (T : Tabs s.heap) (hL : s.heap.get? L = none) (hnd : (cs.map (·.1)).Nodup)
    (x : InCallC s L m cs cm s₁) :
    Fm s.heap L s₁.heap m (cs.map fun p => (p.2, (s₁.heap.get? p.2).getD default)) ∧ ∀ n c, (n, c) ∈ cs → ((s₁.heap.get? c).getD default).data = .cell (cm n) := by
  have F0 := Fm.startP s.heap x.toInCall.keep x.toInCall.ns hL T
  have look : ∀ {cs : List (Str × Addr)}, (cs.map (·.1)).Nodup → ∀ n c, (n, c) ∈ cs → cs.lookup n = some c := by
    intro cs
    induction cs with
    | nil => intro _ _ _ h; cases h
    | cons p r ih =>
      intro hn n c hm
      rw [List.map_cons, List.nodup_cons] at hn
      rcases List.mem_cons.mp hm with rfl | hm
      · simp
      · have : n ≠ p.1 := fun z => hn.1 (z ▸ List.mem_map_of_mem (f := (·.1)) hm)
        rw [List.lookup_cons, beq_eq_false_iff_ne.mpr this]
        exact ih hn.2 n c hm
  have cell : ∀ n c, (n, c) ∈ cs → ∃ o, s₁.heap.get? c = some o ∧ o.data = .cell (cm n) := fun n c hm => x.cell n c (look hnd n c hm)
  refine ⟨⟨F0.ns, F0.keep, F0.new, ?_, ?_, F0.tab, F0.t58, F0.t51⟩, ?_⟩
  · intro p hp
    obtain ⟨q, hq, rfl⟩ := List.mem_map.mp hp
    obtain ⟨o, e, d⟩ := cell q.1 q.2 hq
    have hLc := x.above q.1 q.2 hq
    have hn : s.heap.get? q.2 = none := by
      cases z : s.heap.get? q.2 with
      | none => rfl
      | some o' => exact absurd (Heap.lt_size z) (Nat.not_lt.mpr (Nat.le_of_lt (Nat.lt_of_le_of_lt x.toInCall.fresh hLc)))
    refine ⟨?_, hn, Nat.ne_of_gt hLc, ?_, ?_⟩
    · show s₁.heap.get? q.2 = some ((s₁.heap.get? q.2).getD default)
      rw [e]; rfl
    · intro z
      obtain ⟨_, e2, _⟩ := T.2
      have z' : q.2 = 58 := z
      rw [z', e2] at hn; cases hn
    · intro z
      obtain ⟨_, e2, _⟩ := T.1
      have z' : q.2 = 51 := z
      rw [z', e2] at hn; cases hn
  · rw [List.map_map]
    show (cs.map (·.2)).Nodup
    rw [List.Nodup, List.pairwise_map]
    exact x.apart
  · intro n c hm
    obtain ⟨o, e, d⟩ := cell n c hm
    rw [e]; exact d

/-- into a def with cells that changes nothing that stood -/
theorem enterPC {f : Addr} {i : Nat} {args : List Value} {binds : List (Str × Value)} (S : Stat s.heap) (T : Tabs s.heap) (hf : (f, i) ∈ fl) (hroom : A.depth < recursionLimit)
    (hbind : ∀ doc pm, bindArgs (fdAt i f doc pm) ⟨args, []⟩ = pure binds)
    (h : ∀ L h₁ tk (oc : Addr → Obj), Fm s.heap L h₁ (bindL (envC i f L).kindOf binds fun _ => none) ((cellsFrom (L + 1) (stScope (topAt i)).names []).map fun p => (p.2, oc p.2)) →
      (∀ n c, (n, c) ∈ cellsFrom (L + 1) (stScope (topAt i)).names [] → (oc c).data = .cell (bindC (envC i f L).kindOf binds (fun _ => none) n)) →
      wpAny (model prog w) (A.deeper (envC i f L)) (execs (stBody (topAt i)) (envC i f L)) (fun fl s' => Q (retOf fl) s') (fun _ _ => False) { s with heap := h₁, toks := tk })
    (hkind : (binds.all fun y => (stScope (topAt i)).names.lookup y.1 == some .local || (stScope (topAt i)).names.lookup y.1 == some .cell) = true := by rfl)
    (hnd : ∀ n, ((cellsFrom n (stScope (topAt i)).names []).map (·.1)).Nodup)
    (hco : (stScope (topAt i)).isCoroutine = false := by rfl) (hgen : (stScope (topAt i)).isGenerator = false := by rfl) (hk : (stScope (topAt i)).kind = .function := by rfl) :
    wpAny (model prog w) A (call (.ref f) args) Q E s := by
  obtain ⟨o, doc, pm, ho, hd, hc⟩ := S.fn hf
  refine wpAny_call (codeAny_call_cells (fd := fdAt i f doc pm) (body := stBody (topAt i)) (binds := binds) hroom ho hd S.st.nolimit hc rfl (hbind doc pm) rfl (kindsX hkind _) (fun s₁ x => ?_) hco hgen hk)
  obtain ⟨h₁, tk, rfl⟩ := x.toInCall.same
  obtain ⟨F, hcells⟩ := cells_own T (get_size_none _) (hnd _) x
  refine wpAny_mono (h s.heap.objs.size h₁ tk (fun c => (h₁.get? c).getD default) F hcells) (fun fl s' q => ?_) fun _ _ q => q.elim
  cases fl <;> exact q
end Mine

/-! BridgeM -/
set_option maxRecDepth 100000
namespace Mine
variable {prog : Program} {w : World} {A : Around} {E : Value → Shared → Prop} {s : Shared}

theorem szl {n : Nat} (h : n ≤ 10000) : n ≤ sizeLine := Nat.le_trans h (by decide)
/-- every object of a heap, but for the locals: a ledger for the library's rules -/
def allOf (h : Heap) (L : Addr) : List (Addr × Obj) := (List.range h.objs.size).filterMap fun a => if a = L then none else (h.get? a).map (a, ·)
theorem mem_allOf {h : Heap} {L a : Addr} {o : Obj} : (a, o) ∈ allOf h L ↔ a ≠ L ∧ h.get? a = some o := by
  unfold allOf
  rw [List.mem_filterMap]
  constructor
  · rintro ⟨b, _, hb⟩
    by_cases hL : b = L
    · rw [if_pos hL] at hb; cases hb
    · rw [if_neg hL] at hb
      cases q : h.get? b with
      | none => rw [q] at hb; cases hb
      | some o' => rw [q] at hb; cases hb; exact ⟨hL, q⟩
  · rintro ⟨hL, e⟩
    exact ⟨a, List.mem_range.mpr (Heap.lt_size e), by rw [if_neg hL, e]; rfl⟩
theorem empty_get (a : Addr) : (({} : Heap)).get? a = none := by
  unfold Heap.get?
  simp

section
variable {g h h' : Heap} {L a : Addr} {m m' : Str → Option Value} {own : List (Addr × Obj)} {o : Obj}
theorem Fm.fr (F : Fm g L h m own) : Fr {} L h m := ⟨F.ns, fun b o e => (by rw [empty_get] at e; exact nomatch e), Nat.zero_le _⟩
theorem newsAll : News {} L h (allOf h L) := fun p hp => ⟨(mem_allOf.mp hp).2, (mem_allOf.mp hp).1, empty_get _⟩
theorem Fm.ofFr (F : Fm g L h m own) (F' : Fr {} L h' m') (N' : News {} L h' (allOf h L)) : Fm g L h' m' own :=
  F.setK F'.ns fun b o hb e => N'.get (mem_allOf.mpr ⟨hb, e⟩)
theorem Fm.ofFrAdd (F : Fm g L h m own) (F' : Fr {} L h' m') (N' : News {} L h' ((a, o) :: allOf h L)) (ha : h.get? a = none) : Fm g L h' m' ((a, o) :: own) :=
  F.setAdd F'.ns (fun b o hb e => N'.get (.tail _ (mem_allOf.mpr ⟨hb, e⟩))) ha (N'.get (.head _))
end

section
variable {g : Heap} {L : Addr} {m : Str → Option Value} {own : List (Addr × Obj)}
def tupOf (vs : List Value) : Obj := { cls := .type "tuple", data := .seq vs.toArray }
theorem Fm.isTup {h : Heap} {a : Addr} {vs : List Value} (F : Fm g L h m own) (hm : (a, tupOf vs) ∈ own) : IsTup h a vs.toArray := ⟨_, F.get hm, rfl, 0, rfl⟩

theorem newTup {vs : List Value} {Q : Value → Shared → Prop} (F : Fm g L s.heap m own) (hsz : vs.length ≤ 100)
    (h : ∀ a h', s.heap.get? a = none → Fm g L h' m ((a, tupOf vs) :: own) → Q (.ref a) { s with heap := h' }) : wpAny (model prog w) A (newTuple vs) Q E s :=
  newTuple_N F.fr newsAll (fun h' F' N' => h _ h' (get_size_none _) (F.ofFrAdd F' N' (get_size_none _))) (szl (by (first | lia | omega)))
theorem newLst {vs : List Value} {Q : Value → Shared → Prop} (F : Fm g L s.heap m own) (hsz : vs.length ≤ 100)
    (h : ∀ a h', s.heap.get? a = none → Fm g L h' m ((a, listOf vs.toArray 0) :: own) → Q (.ref a) { s with heap := h' }) : wpAny (model prog w) A (newList vs) Q E s :=
  newList_N F.fr newsAll (fun h' F' N' => h _ h' (get_size_none _) (F.ofFrAdd F' N' (get_size_none _))) (szl (by (first | lia | omega)))
theorem addLst {l b : Addr} {vs ws : List Value} {Q : Value → Shared → Prop} (F : Fm g L s.heap m own) (hl : s.heap.IsList l vs.toArray) (hb : s.heap.IsList b ws.toArray) (hsz : vs.length + ws.length ≤ 1000)
    (h : ∀ a h', s.heap.get? a = none → Fm g L h' m ((a, listOf (vs ++ ws).toArray 0) :: own) → Q (.ref a) { s with heap := h' }) : wpAny (model prog w) A (binaryOp .Add (.ref l) (.ref b)) Q E s :=
  add_lists F.fr newsAll hl hb (fun h' F' N' => h _ h' (get_size_none _) (F.ofFrAdd F' N' (get_size_none _))) (szl (by (first | lia | omega)))

/-- [v] * k -/
theorem mulLst {l : Addr} {v : Value} {n : Nat} {x : Int} {u : Tok} {Q : Value → Shared → Prop} (F : Fm g L s.heap m own) (hl : s.heap.get? l = some (listOf [v].toArray n)) (h0 : 0 ≤ x) (hx : x ≤ 1000000)
    (h : ∀ a h', s.heap.get? a = none → Fm g L h' m ((a, listOf (List.replicate x.toNat v).toArray 0) :: own) → Q (.ref a) { s with heap := h' }) : wpAny (model prog w) A (binaryOp .Mult (.ref l) (.int x u)) Q E s := by
  refine mul_list F.fr newsAll hl (by (first | lia | omega)) (by (first | lia | omega)) (by simp; (first | lia | omega)) fun h' F' N' => h _ h' (get_size_none _) (F.ofFrAdd F' ?_ (get_size_none _))
  have e : List.foldl (fun (x1 x2 : Array Value) => x1 ++ x2) #[] (List.replicate (if ([v].toArray).isEmpty = true then 0 else x.toNat) [v].toArray) = (List.replicate x.toNat v).toArray := by
    have hne : ([v].toArray).isEmpty = false := rfl
    rw [hne, if_neg (by decide)]
    have key : ∀ (k : Nat) (acc : Array Value), List.foldl (fun (x1 x2 : Array Value) => x1 ++ x2) acc (List.replicate k [v].toArray) = acc ++ (List.replicate k v).toArray := by
      intro k
      induction k with
      | zero => intro acc; simp
      | succ k ih =>
        intro acc
        rw [List.replicate_succ, List.foldl_cons, ih, List.replicate_succ]
        apply Array.ext'
        simp
    rw [key]; simp
  rw [e] at N'
  exact N'

/-- a tuple taken apart -/
theorem unpackM {env : Env} {elts : List Expr} {k} {pos : Pos} {t : Addr} {vs : List Value} {Q : Unit → Shared → Prop} (F : Fm g L s.heap m own) (ht : IsTup s.heap t vs.toArray) (hh : A.handled = none)
    (h : ∀ h', Fm g L h' m own → wpAny (model prog w) A (assignInOrder ((assignEach elts env).map (·.2)) vs) Q E { s with heap := h' })
    (hn : (assignEach elts env).length = vs.toArray.size := by rfl) (hstar : (assignEach elts env).findIdx? (·.1) = none := by rfl) :
    wpAny (model prog w) A (assign (.Tuple elts k pos) env (.ref t)) Q E s :=
  assign_Tuple_tuple hh ht hn hstar fun h' he => h h' (F.grow fun b o e => he b o (Nat.ne_of_lt (Heap.lt_size e)) e)
theorem aio_nil {M : Model} {Q : Unit → Shared → Prop} (h : Q () s) : wpAny M A (assignInOrder [] []) Q E s := wpAny_pure h
theorem aio_cons {M : Model} {f : Value → Sem Unit} {ts : List (Value → Sem Unit)} {x : Value} {xs : List Value} {Q : Unit → Shared → Prop}
    (h : wpAny M A (f x) (fun _ s₁ => wpAny M A (assignInOrder ts xs) Q E s₁) E s) : wpAny M A (assignInOrder (f :: ts) (x :: xs)) Q E s := by
  rw [assignInOrder]
  exact wpAny_bind (wpAny_holding h)
end
end Mine

/-! F6 -/
set_option maxRecDepth 100000
set_option maxHeartbeats 1000000
namespace Mine
variable {prog : Program} {w : World} {A : Around} {E : Value → Shared → Prop} {s : Shared} {Q : Value → Shared → Prop}

theorem Src.tok {s s₂ : Shared} {k : Nat} {P : Value → Prop} {Z : List Value → Prop} {it : Value} (x : Src prog w A { s with toks := k } s₂ P Z it) : Src prog w A s s₂ P Z it :=
  ⟨x.src, x.up, let ⟨h', tk, e⟩ := x.at'; ⟨h', tk, e⟩⟩

theorem pow_small {b : Int} (h1 : 1 ≤ b) (h9 : b ≤ 9) {k : Nat} (hk : k < 9) : 1 ≤ b ^ k ∧ b ^ k ≤ 387420489 := by
  obtain ⟨n, rfl⟩ := Int.eq_ofNat_of_zero_le (Int.le_trans (by decide) h1)
  have d : ∀ n : Nat, n < 10 → (1 : Int) ≤ (n : Int) → ∀ k, k < 9 → 1 ≤ (n : Int) ^ k ∧ (n : Int) ^ k ≤ 387420489 := by decide +kernel
  exact d n (Nat.lt_succ_of_le (Int.ofNat_le.mp h9)) h1 k hk

theorem pair_bound {hf : Int} {ws ys : List Value} (hP : Paired (fun _ y => ∃ q t, y = .int q t ∧ -hf ≤ q ∧ q ≤ hf) ws ys) : ∃ qs, IntsAre ys qs ∧ qs.length = ws.length ∧ ∀ q ∈ qs, -hf ≤ q ∧ q ≤ hf := by
  induction hP with
  | nil => exact ⟨[], .nil, rfl, fun _ h => (nomatch h)⟩
  | cons h _ ih =>
    obtain ⟨q, t, rfl, hq⟩ := h
    obtain ⟨qs, h1, h2, h3⟩ := ih
    refine ⟨q :: qs, .cons _ _ h1, by simp [h2], fun z hz => ?_⟩
    rcases List.mem_cons.mp hz with rfl | hz
    · exact hq
    · exact h3 z hz

theorem Fm.baseNone {g h : Heap} {L a : Addr} {m : Str → Option Value} {own : List (Addr × Obj)} (F : Fm g L h m own) (hn : h.get? a = none) : g.get? a = none := (F.fresh hn).1

theorem law_row_ok {c hf : Int} {t u : Tok} (S : Stat s.heap) (T : Tabs s.heap) (hroom : A.depth < recursionLimit) (hh : A.handled = none) (h1 : 1 ≤ hf) (h4 : hf ≤ 4)
    (hQ : ∀ h' tk a vs n fs, Kept s h' → s.heap.get? a = none → h'.get? a = some (listOf vs.toArray n) → IntsAre vs fs → fs.length = 8 → (∀ f ∈ fs, -hf ≤ f ∧ f ≤ hf) → Q (.ref a) { s with heap := h', toks := tk }) :
    wpAny (model prog w) A (call (.ref 89) [.int c t, .int hf u]) Q E s := by
  have hhd : ∀ e, (A.deeper e).handled = none := fun _ => hh
  refine enterPC (i := 15) (binds := [("cell", .int c t), ("half", .int hf u)]) S T (by decide) hroom (fun _ _ => rfl) (fun L h₁ tk oc F hc => ?_) (hnd := fun n => (by decide : ([Str.ofString "base", Str.ofString "half", Str.ofString "cell"] : List Str).Nodup))
  replace F : Fm s.heap L h₁ (fun _ => none) [(L + 3, oc (L + 3)), (L + 2, oc (L + 2)), (L + 1, oc (L + 1))] := F
  have d1 : (oc (L + 1)).data = .cell (some (.int c t)) := hc "cell" (L + 1) (.tail _ (.tail _ (.head _)))
  have d2 : (oc (L + 2)).data = .cell (some (.int hf u)) := hc "half" (L + 2) (.tail _ (.head _))
  have d3 : (oc (L + 3)).data = .cell none := hc "base" (L + 3) (.head _)
  clear hc
  generalize oc (L + 1) = o1 at F d1
  generalize oc (L + 2) = o2 at F d2
  generalize oc (L + 3) = o3 at F d3
  have fm4 := Int.fmod_nonneg_of_pos c (b := 4) (by decide)
  have fl4 := Int.fmod_lt_of_pos c (b := 4) (by decide)
  have fm4' := Int.fmod_nonneg_of_pos (c.fdiv 4) (b := 4) (by decide)
  have fl4' := Int.fmod_lt_of_pos (c.fdiv 4) (b := 4) (by decide)
  refine wpAny_execs_cons (Assign_Tuple (Tuple_ (args_cons ?_)))
  refine wpAny_BinOp (wpAny_BinOp (wpAny_Constant_int (cname F (.tail _ (.head _)) d2 (mul_int (wpAny_Constant_int (add_int (args_cons ?_))) (.of_left (by decide))))))
  dsimp only
  refine wpAny_BinOp (cname F (.tail _ (.tail _ (.head _))) d1 (wpAny_Constant_int (mod_int' (by decide) (args_cons ?_))))
  dsimp only
  refine wpAny_BinOp (wpAny_BinOp (cname F (.tail _ (.tail _ (.head _))) d1 (wpAny_Constant_int (floordiv_int (by decide) (wpAny_Constant_int (mod_int' (by decide) (args_nil ?_)))))))
  dsimp only
  refine newTup F (by exact Nat.le_of_ble_eq_true rfl) fun a h₂ ha F₂ => ?_
  dsimp only
  refine unpackM F₂ (F₂.isTup (.head _)) (hhd _) fun h₃ F₃ => ?_
  replace F₃ := F₃.tail
  refine aio_cons (wpAny_assign_Name (cstore F₃ 0 rfl d3 fun h₄ o3' d3' F₄ => ?_))
  replace F₄ : Fm s.heap L h₄ (fun _ => none) [(L + 3, o3'), (L + 2, o2), (L + 1, o1)] := F₄
  refine aio_cons (wpAny_assign_Name (lstore F₄ fun h₅ F₅ => ?_))
  dsimp only
  refine aio_cons (wpAny_assign_Name (lstore F₅ fun h₆ F₆ => aio_nil ?_))
  dsimp only
  have hB1 : 3 ≤ 2 * hf + 1 := by omega
  have hB9 : 2 * hf + 1 ≤ 9 := by omega
  refine wpAny_execs_cons (compA (cl := [("half", L + 2), ("cell", L + 1), ("base", L + 3)]) (P' := fun v => ∃ (i : Nat) (u : Tok), (i : Int) < 8 - c.fmod 4 - (c.fdiv 4).fmod 4 ∧ v = .int i u)
    (Z := fun ws => IntsAre ws ((List.range (8 - c.fmod 4 - (c.fdiv 4).fmod 4).toNat).map (fun k : Nat => (k : Int)))) (p := fun _ => true) (R := fun _ y => ∃ q t, y = .int q t ∧ -hf ≤ q ∧ q ≤ hf) F₆ rfl ?_ (CompOk.plain ?_) ?_)
  · intro K hK
    refine callT (F₆.stat S) rfl rfl (args_cons (wpAny_BinOp (wpAny_BinOp (wpAny_Constant_int (lname F₆ rfl (sub_int' ?_))))))
    dsimp only
    refine lname F₆ rfl (sub_int' (args_nil ?_))
    dsimp only
    exact srcRange (hhd _) (by omega) (by omega) fun it s₂ x => hK it s₂ x.tok
  · rintro C v s₃ m₃ E' ⟨i, ui, hi, rfl⟩ hns hm hk
    have c1 : s₃.heap.IsCell (L + 1) (some (.int c t)) := ⟨o1, hk _ _ (F₆.get (.tail _ (.tail _ (.head _)))), d1⟩
    have c2 : s₃.heap.IsCell (L + 2) (some (.int hf u)) := ⟨o2, hk _ _ (F₆.get (.tail _ (.head _))), d2⟩
    have c3 : s₃.heap.IsCell (L + 3) (some (.int (2 * hf + 1) _)) := ⟨o3', hk _ _ (F₆.get (.head _)), d3'⟩
    have hi8 : i < 8 := by omega
    have ps := pow_small (b := 2 * hf + 1) (by omega) hB9 (k := i) (by omega)
    have r0 := Int.fmod_nonneg_of_pos ((c.fdiv 16).fdiv ((2 * hf + 1) ^ i)) (b := 2 * hf + 1) (by omega)
    have r1 := Int.fmod_lt_of_pos ((c.fdiv 16).fdiv ((2 * hf + 1) ^ i)) (b := 2 * hf + 1) (by omega)
    refine wpAny_BinOp (wpAny_BinOp (wpAny_BinOp (wpAny_BinOp (wpAny_Name (wpAny_loadName_cell rfl rfl rfl c1 (wpAny_Constant_int (floordiv_int (by decide) ?_)))))))
    dsimp only
    refine wpAny_BinOp (wpAny_Name (wpAny_loadName_cell rfl rfl rfl c3 (wpAny_Name (wpAny_loadName_local rfl rfl hns hm (pow_int_small (by omega) (by omega) (by omega) ?_)))))
    dsimp only
    refine floordiv_int (by show (2 * hf + 1) ^ i ≠ 0; omega) ?_ (.inl (PyProof.noPylong_small (by show ((2 * hf + 1) ^ i).natAbs < _; omega)))
    refine wpAny_Name (wpAny_loadName_cell rfl rfl rfl c3 (mod_int' (by omega) ?_))
    dsimp only
    refine wpAny_Name (wpAny_loadName_cell rfl rfl rfl c2 (sub_int' ?_))
    refine ⟨⟨_, _, rfl, ?_, ?_⟩, _, _, rfl, fun _ _ e => e⟩
    · show -hf ≤ ((c.fdiv 16).fdiv ((2 * hf + 1) ^ i)).fmod (2 * hf + 1) - hf
      omega
    · show ((c.fdiv 16).fdiv ((2 * hf + 1) ^ i)).fmod (2 * hf + 1) - hf ≤ hf
      omega
  · rintro D h₇ tk7 ws ys n hz hP F₇
    rw [List.filter_eq_self.mpr (by simp)] at hP
    obtain ⟨qs, hqs, hql, hqb⟩ := pair_bound hP
    have hwl : ws.length = (8 - c.fmod 4 - (c.fdiv 4).fmod 4).toNat := by rw [hz.length]; simp
    dsimp only
    refine wpAny_execs_cons (wpAny_Return_some (wpAny_BinOp (wpAny_BinOp (wpAny_BinOp (List_ (args_cons (wpAny_Constant_int (args_nil (newLst F₇ (by exact Nat.le_of_ble_eq_true rfl) fun a1 h₈ n1 F₈ => ?_)))))))))
    dsimp only
    refine lname F₈ rfl (mulLst F₈ (F₈.get (.head _)) (by omega) (by omega) fun a2 h₉ n2 F₉ => ?_)
    dsimp only
    refine lname F₉ rfl (addLst F₉ (F₉.isList (.head _)) (F₉.isList (.tail _ (.tail _ (.head _)))) ?_ fun a3 h₁₀ n3 F₁₀ => ?_)
    · rw [List.length_replicate, hP.length.symm, hwl]; omega
    dsimp only
    refine wpAny_BinOp (List_ (args_cons (wpAny_Constant_int (args_nil (newLst F₁₀ (by exact Nat.le_of_ble_eq_true rfl) fun a4 h₁₁ n4 F₁₁ => ?_)))))
    dsimp only
    refine lname F₁₁ rfl (mulLst F₁₁ (F₁₁.get (.head _)) (by omega) (by omega) fun a5 h₁₂ n5 F₁₂ => ?_)
    dsimp only
    refine addLst F₁₂ (F₁₂.isList (.tail _ (.tail _ (.head _)))) (F₁₂.isList (.head _)) ?_ fun a6 h₁₃ n6 F₁₃ => ?_
    · simp only [List.length_append, List.length_replicate]
      rw [hP.length.symm, hwl]; omega
    have intz : ∀ (k : Nat) (v : Int) (tt : Tok), IntsAre (List.replicate k (Value.int v tt)) (List.replicate k v) := by
      intro k v tt
      induction k with
      | zero => exact .nil
      | succ k ih => exact .cons _ _ ih
    refine hQ h₁₃ _ a6 _ 0 _ F₁₃.keep (F₁₂.baseNone n6) (F₁₃.get (.head _)) (((intz _ _ _).append hqs).append (intz _ _ _)) ?_ ?_
    · simp only [List.length_append, List.length_replicate]
      rw [hql, hwl]; omega
    · intro f hf'
      simp only [List.mem_append, List.mem_replicate] at hf'
      rcases hf' with (⟨_, rfl⟩ | hf') | ⟨_, rfl⟩
      · omega
      · exact hqb f hf'
      · omega
end Mine

/-! RulesM -/
set_option maxRecDepth 100000
set_option maxHeartbeats 1000000
namespace Mine
variable {prog : Program} {w : World} {A : Around} {E : Value → Shared → Prop} {s : Shared}
section
variable {g : Heap} {L : Addr} {m : Str → Option Value} {own : List (Addr × Obj)}

theorem minM {a b : Int} {t u : Tok} {Q : Value → Shared → Prop} (F : Fm g L s.heap m own) (hh : A.handled = none)
    (h : ∀ h' tk t', Fm g L h' m own → Q (.int (min a b) t') { s with heap := h', toks := tk }) : wpAny (model prog w) A (call (.builtin "min") [.int a t, .int b u]) Q E s := by
  refine min_two_N hh F.fr newsAll fun h' tk F' N' => ?_
  have e : (if b < a then b else a) = min a b := by (first | lia | omega)
  rw [e]
  exact h h' tk _ (F.ofFr F' N')

theorem unpackItemsM {t : Addr} {vs : List Value} {n : Nat} {Q : List Value → Shared → Prop} (F : Fm g L s.heap m own) (ht : IsTup s.heap t vs.toArray) (hh : A.handled = none)
    (h : ∀ h', Fm g L h' m own → Q vs { s with heap := h' }) (hn : n = vs.toArray.size := by rfl) : wpAny (model prog w) A (unpackItems (.ref t) n none) Q E s := by
  subst hn
  exact unpackItems_tuple hh ht fun h' he => h h' (F.grow fun b o e => he b o (Nat.ne_of_lt (Heap.lt_size e)) e)

theorem appendC {D : Addr} {vs : List Value} {n : Nat} {v : Value} {Q : Value → Shared → Prop} (F : Fm g L s.heap m own) (i : Nat) (hi : own[i]? = some (D, listOf vs.toArray n)) (hsz : vs.length ≤ 1000)
    (h : ∀ h' n', Fm g L h' m (own.set i (D, listOf (vs ++ [v]).toArray n')) → Q .none { s with heap := h' }) : wpAny (model prog w) A (call (.builtin "list.append") [.ref D, v]) Q E s := by
  refine wpAny_list_append_plain ⟨n, F.get (List.mem_of_getElem? hi)⟩ (fun h' hp hs => ?_) (szl (by rw [List.size_toArray]; (first | lia | omega)))
  obtain ⟨n', e⟩ := hp
  refine h h' n' (F.upd i hi (fun b ob hb e => hs.extBut b ob hb e) ?_ (.seq rfl))
  rw [e]; simp
end

/-- the cuts, as reckoned by the law -/
def cutsF (sz : List Int) (on : Bool) : Nat → Nat → Int → List Int
  | 0, _, _ => []
  | n + 1, k, pos => if 8 ≤ pos ∨ (sz.length ≤ k ∧ on = false) then [] else (pos + sz.getD (min k (sz.length - 1)) 0) :: cutsF sz on n (k + 1) (pos + sz.getD (min k (sz.length - 1)) 0)

theorem snocInts {vs : List Value} {ns : List Int} (h : IntsAre vs ns) (v : Int) (t : Tok) : IntsAre (vs ++ [.int v t]) (ns ++ [v]) := h.append (.cons _ _ .nil)

variable {Q : Value → Shared → Prop}
theorem law_cuts_ok {l : Addr} {vs : List Value} {sz : List Int} {on : Bool} {t : Tok} (S : Stat s.heap) (T : Tabs s.heap) (hroom : A.depth < recursionLimit) (hh : A.handled = none)
    (hl : s.heap.IsList l vs.toArray) (hi : IntsAre vs sz) (hn1 : 1 ≤ sz.length) (hn : sz.length ≤ 8)
    (hQ : ∀ h' tk a ws n, Kept s h' → s.heap.get? a = none → h'.get? a = some (listOf ws.toArray n) → IntsAre ws (cutsF sz on 8 0 0) → Q (.ref a) { s with heap := h', toks := tk }) :
    wpAny (model prog w) A (call (.ref 108) [.ref l, .bool on, .int 8 t]) Q E s := by
  have hhd : ∀ e, (A.deeper e).handled = none := fun _ => hh
  have hlen : vs.length = sz.length := hi.length
  refine enterP (i := 18) (binds := [("sizes", .ref l), ("on", .bool on), ("length", .int 8 t)]) S T (by decide) hroom (fun _ _ => rfl) fun L h₁ F => ?_
  refine wpAny_execs_cons (Assign_Tuple_swapped (Tuple_ (args_cons (List_ (args_nil (newLst F (by exact Nat.le_of_ble_eq_true rfl) fun D h₂ nD F₂ => args_cons (wpAny_Constant_int (args_nil ?_))))))))
  dsimp only
  refine newTup F₂ (by exact Nat.le_of_ble_eq_true rfl) fun a h₃ ha F₃ => ?_
  dsimp only
  refine unpackItemsM F₃ (F₃.isTup (.head _)) (hhd _) fun h₄ F₄ => ?_
  replace F₄ := F₄.tail
  refine aio_cons (wpAny_bindName (lstore F₄ fun h₅ F₅ => ?_))
  refine aio_cons (wpAny_bindName (lstore F₅ fun h₆ F₆ => aio_nil ?_))
  dsimp only
  have hl₆ : ∀ {h : Heap} {m' : Str → Option Value} {own' : List (Addr × Obj)}, Fm s.heap L h m' own' → h.IsList l vs.toArray := fun F => stays_list F.keep hl
  refine wpAny_execs_cons (wpAny_For (callT (F₆.stat S) rfl rfl (args_cons (lname F₆ rfl (args_nil (rangeLoop (hhd _) (by decide) (by decide) F₆
    (fun k m own => ∃ (pos : Int) (ws : List Value) (n : Nat) (acc : List Int), own = [(D, listOf ws.toArray n)] ∧ IntsAre ws acc ∧ m "sizes" = some (.ref l) ∧ m "on" = some (.bool on) ∧ m "length" = some (.int 8 t) ∧ m "cuts" = some (.ref D) ∧
      (∃ ta, m "at" = some (.int pos ta)) ∧ acc ++ cutsF sz on (8 - k) k pos = cutsF sz on 8 0 0 ∧ acc.length = k)
    ⟨0, [], 0, [], rfl, .nil, rfl, rfl, rfl, rfl, ⟨_, rfl⟩, rfl, rfl⟩ ?_ ?_))))))
  · rintro k tk m₁ own₁ p h₇ tk7 hk ⟨pos, ws, n, acc, rfl, hws, ms, mo, ml, mc, ⟨ta, ma⟩, heq, hacc⟩ F₇
    have hk8 : k < 8 := hk
    have stop : (8 ≤ pos ∨ (sz.length ≤ k ∧ on = false)) → cutsF sz on 8 0 0 = acc := fun hs => by
      rw [← heq]
      obtain ⟨j, hj⟩ : ∃ j, 8 - k = j + 1 := ⟨7 - k, by (first | lia | omega)⟩
      rw [hj, cutsF, if_pos hs, List.append_nil]
    have leave : ∀ tk', (8 ≤ pos ∨ (sz.length ≤ k ∧ on = false)) → Q (.ref D) { s with heap := h₇, toks := tk' } := fun tk' hs =>
      hQ h₇ tk' D ws n F₇.keep (F.baseNone nD) (F₇.get (.tail _ (.head _))) (by rw [stop hs]; exact hws)
    have hszl : (vs.toArray.size : Int) = (sz.length : Int) := by rw [List.size_toArray, hlen]
    refine wpAny_execs_cons (wpAny_If (wpAny_mono (Q := fun b s₂ => ∃ tk', s₂ = { s with heap := h₇, toks := tk' } ∧ (b = true ↔ (8 ≤ pos ∨ (sz.length ≤ k ∧ on = false)))) ?_ ?_ fun _ _ q => q))
    · refine wpAny_isTrue_BoolOp (wpAny_allTrue_Or_cons (wpAny_isTrue_Compare1 (lname F₇ ma (lname F₇ ml (ge_int (wpAny_truthy_bool ?_))))))
      by_cases h8 : pos ≥ 8
      · exact ite_pos (decide_eq_true h8) ⟨_, rfl, by simp; exact .inl h8⟩
      · refine ite_neg (by rw [decide_eq_false h8]; decide) ?_
        refine wpAny_allTrue_Or_cons (wpAny_isTrue_BoolOp (wpAny_allTrue_And_cons (wpAny_isTrue_Compare1 (lname F₇ rfl (callB (F₇.stat S) rfl rfl (args_cons (lname F₇ ms (args_nil (len_list (hl₆ F₇) (by rw [List.size_toArray]; (first | lia | omega)) (ge_int (wpAny_truthy_bool ?_)))))))))))
        by_cases hks : (k : Int) ≥ (vs.toArray.size : Int)
        · refine ite_pos (decide_eq_true hks) ?_
          refine wpAny_allTrue_And_cons (wpAny_isTrue_Not (wpAny_isTrue_value (lname F₇ mo (wpAny_truthy_bool ?_))))
          cases hon : on with
          | false => exact ite_pos rfl (wpAny_allTrue_And_nil (ite_pos rfl ⟨_, rfl, by simp; exact .inr (by (first | lia | omega))⟩))
          | true => exact ite_neg (by decide) (ite_neg (by decide) (wpAny_allTrue_Or_nil ⟨_, rfl, by simp; (first | lia | omega)⟩))
        · exact ite_neg (by rw [decide_eq_false hks]; decide) (ite_neg (by decide) (wpAny_allTrue_Or_nil ⟨_, rfl, by simp; (first | lia | omega)⟩))
    rintro b s₂ ⟨tk', rfl, hb⟩
    cases b with
    | true => exact ite_pos rfl (wpAny_execs_cons (wpAny_Return_some (lname F₇ mc (leave _ (hb.mp rfl)))))
    | false =>
      have hgo : ¬ (8 ≤ pos ∨ (sz.length ≤ k ∧ on = false)) := fun q => by cases hb.mpr q
      refine ite_neg (by decide) (wpAny_execs_nil ?_)
      have hmin : min k (sz.length - 1) < sz.length := by (first | lia | omega)
      obtain ⟨tv, hv⟩ := hi.get (min k (sz.length - 1)) sz[min k (sz.length - 1)] (by simp)
      refine wpAny_execs_cons <| wpAny_AugAssign_Name <| lload F₇ ma <| Subscript_ <| lname F₇ ms <| callB (F₇.stat S) rfl rfl <| args_cons <| lname F₇ rfl <| args_cons <| wpAny_BinOp <| callB (F₇.stat S) rfl rfl <| args_cons <| lname F₇ ms <| args_nil <| len_list (hl₆ F₇) (by rw [List.size_toArray]; (first | lia | omega)) ?_
      dsimp only
      refine wpAny_Constant_int (sub_int' (args_nil ?_))
      dsimp only
      refine minM F₇ (hhd _) fun h₈ tk8 t8 F₈ => ?_
      have hidx : min (k : Int) ((vs.toArray.size : Int) - 1) = ((min k (sz.length - 1) : Nat) : Int) := by
        rw [List.size_toArray, hlen]; (first | lia | omega)
      rw [hidx]
      refine item_listL (hl₆ F₈) (by (first | lia | omega)) (by (first | lia | omega)) (by simpa using hv) (wpAny_iadd_int (lstore F₈ fun h₉ F₉ => ?_))
      dsimp only
      refine wpAny_execs_cons (wpAny_Expr (MethodCall_ ?_))
      refine lname F₉ mc (Calls.getMethod_list_append (F₉.get (.tail _ (.head _))) rfl rfl (callWith_method1 (args_cons (lname F₉ rfl (args_nil ?_)))))
      refine appendC F₉ 1 rfl (by rw [hws.length, hacc]; (first | lia | omega)) fun h₁₀ n' F₁₀ => wpAny_execs_nil ?_
      refine ⟨_, _, _, _, rfl, F₁₀, _, _, n', _, rfl, snocInts hws _ _, ms, mo, ml, mc, ⟨_, rfl⟩, ?_, by simp [hacc]⟩
      rw [← heq]
      obtain ⟨j, hj⟩ : ∃ j, 8 - k = j + 1 := ⟨7 - k, by (first | lia | omega)⟩
      have hj' : 8 - (k + 1) = j := by (first | lia | omega)
      rw [hj, hj', cutsF, if_neg hgo, List.append_assoc]
      have eg : sz.getD (min k (sz.length - 1)) 0 = sz[min k (sz.length - 1)] := by rw [List.getD_eq_getElem?_getD, List.getElem?_eq_getElem hmin]; rfl
      rw [eg]; rfl
  · rintro h' tk' m' own' ⟨pos, ws, n, acc, rfl, hws, ms, mo, ml, mc, ⟨ta, ma⟩, heq, hacc⟩ F'
    refine wpAny_execs_cons (wpAny_Return_some (lname F' mc ?_))
    refine hQ h' _ D ws n F'.keep (F.baseNone nD) (F'.get (.head _)) ?_
    have e : cutsF sz on 8 0 0 = acc := by rw [← heq]; simp [cutsF]
    rw [e]; exact hws
end Mine

/-! D1 -/
set_option maxRecDepth 100000
set_option maxHeartbeats 1000000
namespace Mine
variable {prog : Program} {w : World} {A : Around} {E : Value → Shared → Prop} {s : Shared} {Q : Value → Shared → Prop}

theorem bits_lt {a k : Nat} (h : a < 2 ^ k) : Builtin.Int.intBits (a : Int) ≤ k := by
  unfold Builtin.Int.intBits
  by_cases h0 : (a : Int) == 0
  · rw [if_pos h0]; exact Nat.zero_le _
  · rw [if_neg h0]
    have : a ≠ 0 := by simpa using h0
    have := (Nat.log2_lt this).mpr h
    show Nat.log2 a + 1 ≤ k
    (first | lia | omega)
theorem bits_lti {a : Int} {k : Nat} (h : a.natAbs < 2 ^ k) : Builtin.Int.intBits a ≤ k := by
  unfold Builtin.Int.intBits
  by_cases h0 : a == 0
  · rw [if_pos h0]; exact Nat.zero_le _
  · rw [if_neg h0]
    have : a.natAbs ≠ 0 := by simpa using h0
    have := (Nat.log2_lt this).mpr h
    (first | lia | omega)
theorem bits_eq {b n : Nat} (h1 : 2 ^ n ≤ b) (h2 : b < 2 ^ (n + 1)) : Builtin.Int.intBits (b : Int) = n + 1 := by
  have hb : b ≠ 0 := by have := Nat.two_pow_pos n; (first | lia | omega)
  unfold Builtin.Int.intBits
  rw [if_neg (by simpa using hb)]
  show Nat.log2 b + 1 = n + 1
  have := (Nat.log2_eq_iff hb).mpr ⟨h1, h2⟩
  (first | lia | omega)
theorem nopy {a : Int} {b : Nat} (h : b < 2 ^ 9000) : Builtin.divisionGoesByPylong a (b : Int) = false := by
  refine PyProof.noPylong_of_log2 ?_
  show Nat.log2 b < 9000
  by_cases h0 : b = 0
  · rw [h0]; decide
  · exact (Nat.log2_lt h0).mpr h

theorem fdivN (a b : Nat) : ((a : Int).fdiv (b : Int)) = ((a / b : Nat) : Int) := by rw [Int.fdiv_eq_ediv_of_nonneg _ (by (first | lia | omega))]; rfl
theorem fmodN (a b : Nat) : ((a : Int).fmod (b : Int)) = ((a % b : Nat) : Int) := by rw [Int.fmod_eq_emod_of_nonneg _ (by (first | lia | omega))]; rfl

theorem rshiftN {a n : Nat} {t u : Tok} (h : Q (.int ((a / 2 ^ n : Nat) : Int) s.toks) { s with toks := s.toks + 1 }) : wpAny (model prog w) A (binaryOp .RShift (.int a t) (.int n u)) Q E s := by
  refine rshift_int (by (first | lia | omega)) ?_
  have e : ((a : Int).fdiv (2 ^ (n : Int).toNat)) = ((a / 2 ^ n : Nat) : Int) := by
    rw [← fdivN]; rfl
  rw [e]; exact h
theorem lshiftN {a n k : Nat} {t u : Tok} (ha : a < 2 ^ k) (hk : k + n ≤ 1000000) (h : Q (.int ((a * 2 ^ n : Nat) : Int) s.toks) { s with toks := s.toks + 1 }) : wpAny (model prog w) A (binaryOp .LShift (.int a t) (.int n u)) Q E s := by
  refine lshift_int (by (first | lia | omega)) ?_ ?_
  · have := bits_lt ha
    (first | lia | omega)
  · have e : ((a : Int) * 2 ^ (n : Int).toNat) = ((a * 2 ^ n : Nat) : Int) := by
      push_cast; rfl
    rw [e]; exact h
theorem andN {a n : Nat} {t u : Tok} (h : Q (.int ((a % 2 ^ n : Nat) : Int) s.toks) { s with toks := s.toks + 1 }) : wpAny (model prog w) A (binaryOp .BitAnd (.int a t) (.int ((2 ^ n - 1 : Nat) : Int) u)) Q E s := by
  refine and_int ?_
  have e : Builtin.bitAnd (a : Int) ((2 ^ n - 1 : Nat) : Int) = ((a % 2 ^ n : Nat) : Int) := by
    rw [bitAnd_pp (by (first | lia | omega)) (by (first | lia | omega))]
    show ((a &&& (2 ^ n - 1) : Nat) : Int) = _
    rw [Nat.and_two_pow_sub_one_eq_mod]
  rw [e]; exact h
theorem orN {a b n : Nat} {t u : Tok} (hb : b < 2 ^ n) (h : Q (.int ((a * 2 ^ n + b : Nat) : Int) s.toks) { s with toks := s.toks + 1 }) : wpAny (model prog w) A (binaryOp .BitOr (.int ((a * 2 ^ n : Nat) : Int) t) (.int b u)) Q E s := by
  refine or_int ?_
  have e : Builtin.bitOr ((a * 2 ^ n : Nat) : Int) (b : Int) = ((a * 2 ^ n + b : Nat) : Int) := by
    rw [bitOr_and, bitAnd_pp (by (first | lia | omega)) (by (first | lia | omega))]
    have : ((a * 2 ^ n : Nat) : Int).toNat &&& (b : Int).toNat = 0 := by
      show (a * 2 ^ n) &&& b = 0
      apply Nat.eq_of_testBit_eq
      intro i
      rw [Nat.testBit_and, Nat.zero_testBit, Nat.mul_comm, Nat.testBit_two_pow_mul]
      by_cases hi : n ≤ i
      · rw [Nat.testBit_lt_two_pow (Nat.lt_of_lt_of_le hb (Nat.pow_le_pow_right (by decide) hi)), Bool.and_false]
      · simp [hi]
    rw [this]
    push_cast; (first | lia | omega)
  rw [e]; exact h

/-- divmod of the built-ins -/
theorem divmodM {a b : Int} {t u : Tok} {g : Heap} {L : Addr} {m : Str → Option Value} {own : List (Addr × Obj)} (F : Fm g L s.heap m own) (hb : b ≠ 0) (hp : Builtin.divisionGoesByPylong a b = false)
    (h : ∀ c h' tk t1 t2, s.heap.get? c = none → Fm g L h' m ((c, tupOf [.int (a.fdiv b) t1, .int (a.fmod b) t2]) :: own) → Q (.ref c) { s with heap := h', toks := tk }) :
    wpAny (model prog w) A (call (.builtin "divmod") [.int a t, .int b u]) Q E s :=
  divmod_N F.fr newsAll hb (fun h' F' N' => h _ h' _ _ _ (get_size_none _) (F.ofFrAdd F' N' (get_size_none _))) (.inl hp)

/-- what a def that hands back two ints in a tuple leaves -/
def Pair (s : Shared) (Q : Value → Shared → Prop) (x y : Int) : Prop :=
  ∀ h' tk c t1 t2, Kept s h' → s.heap.get? c = none → h'.get? c = some (tupOf [.int x t1, .int y t2]) → Q (.ref c) { s with heap := h', toks := tk }

/-- the short way of _div2n1n -/
theorem div2_small {a b n : Nat} {t u v : Tok} (S : Stat s.heap) (T : Tabs s.heap) (hroom : A.depth < recursionLimit) (hb : 0 < b) (hb9 : b < 2 ^ 9000) (ha : a < 2 ^ (4000 + n))
    (hQ : Pair s Q ((a / b : Nat) : Int) ((a % b : Nat) : Int)) :
    wpAny (model prog w) A (call (.ref 42) [.int a t, .int b u, .int n v]) Q E s := by
  refine enterP (i := 7) (binds := [("a", .int a t), ("b", .int b u), ("n", .int n v)]) S T (by decide) hroom (fun _ _ => rfl) fun L h₁ F => ?_
  refine wpAny_execs_cons <| wpAny_If <| wpAny_isTrue_Compare1 <| wpAny_BinOp <| MethodCall_ ?_
  refine lname F rfl <| getMethod_int_bit_length <| callWith_method0 <| call_int_bit_length <| lname F rfl <| sub_int' <| gname (F.stat S) rfl <| le_int <| wpAny_truthy_bool <| ite_pos ?_ ?_
  · refine decide_eq_true ?_
    have := bits_lt ha
    (first | lia | omega)
  dsimp only
  refine wpAny_execs_cons <| wpAny_Return_some <| callB (F.stat S) rfl rfl <| args_cons <| lname F rfl <| args_cons <| lname F rfl <| args_nil <| divmodM F (by (first | lia | omega)) (nopy hb9) fun c h₂ tk t1 t2 hc F₂ => ?_
  rw [fdivN, fmodN] at F₂
  exact hQ h₂ tk c t1 t2 F₂.keep (F.baseNone hc) (F₂.get (.head _))
end Mine

/-! D2 -/
set_option maxRecDepth 100000
set_option maxHeartbeats 1000000
namespace Mine
variable {prog : Program} {w : World} {A : Around} {E : Value → Shared → Prop} {s : Shared} {Q : Value → Shared → Prop}

theorem divmod_unique {q r : Int} {A b : Nat} (h : q * b + r = A) (h0 : 0 ≤ r) (hr : r < b) : q = ((A / b : Nat) : Int) ∧ r = ((A % b : Nat) : Int) := by
  have hb : (0 : Int) < b := by (first | lia | omega)
  have e1 : (A : Int) / (b : Int) = q := by
    rw [← h, Int.add_comm, Int.add_mul_ediv_right _ _ (by (first | lia | omega)), Int.ediv_eq_zero_of_lt h0 hr]; (first | lia | omega)
  have e2 : (A : Int) % (b : Int) = r := by
    rw [← h, Int.add_comm, Int.add_mul_emod_self_right, Int.emod_eq_of_lt h0 hr]
  exact ⟨e1.symm, e2.symm⟩

/-- the step's two ways meet in this -/
structure Div3 (a12 a3 b b1 b2 n q r : Nat) : Prop where
  eq : q * b1 + r = a12
  hq : q < 2 ^ n
  hr : r < 2 ^ (n + 1)
  le : r * 2 ^ n + a3 < b + q * b2

theorem div3_A {a12 a3 b b1 b2 n : Nat} (hb : b = b1 * 2 ^ n + b2) (hb1 : b1 < 2 ^ n) (hb2 : b2 < 2 ^ n) (ha : a12 < b) (ha3 : a3 < 2 ^ n) (h : a12 / 2 ^ n = b1) :
    Div3 a12 a3 b b1 b2 n (2 ^ n - 1) (a12 - b1 * 2 ^ n + b1) ∧ b1 * 2 ^ n ≤ a12 := by
  have hp := Nat.two_pow_pos n
  have hd := Nat.div_add_mod a12 (2 ^ n)
  rw [h, Nat.mul_comm] at hd
  generalize hx : a12 % 2 ^ n = x at hd
  generalize hP : 2 ^ n = P at *
  have hxb : x < b2 := by (first | lia | omega)
  have e1 : a12 - b1 * P = x := by (first | lia | omega)
  rw [e1]
  obtain ⟨p, rfl⟩ : ∃ p, P = p + 1 := ⟨P - 1, by (first | lia | omega)⟩
  refine ⟨⟨?_, by rw [hP]; (first | lia | omega), by rw [Nat.pow_succ, hP]; (first | lia | omega), ?_⟩, by (first | lia | omega)⟩
  · rw [Nat.add_sub_cancel]
    have := Nat.mul_comm p b1
    have e : b1 * (p + 1) = b1 * p + b1 := by rw [Nat.mul_add, Nat.mul_one]
    (first | lia | omega)
  · rw [hP, Nat.add_sub_cancel]
    have e2 : (x + b1) * (p + 1) = x * (p + 1) + b1 * (p + 1) := Nat.add_mul _ _ _
    have e3 : (x + 1) * (p + 1) ≤ b2 * (p + 1) := Nat.mul_le_mul_right _ hxb
    have e4 : (x + 1) * (p + 1) = x * (p + 1) + (p + 1) := by rw [Nat.add_mul, Nat.one_mul]
    have e5 : b2 * (p + 1) = p * b2 + b2 := by rw [Nat.mul_add, Nat.mul_one, Nat.mul_comm]
    (first | lia | omega)
theorem div3_B {a12 a3 b b1 b2 n : Nat} (hb : b = b1 * 2 ^ n + b2) (hb1 : b1 < 2 ^ n) (h0 : 0 < b1) (hb2 : b2 < 2 ^ n) (ha : a12 < b) (ha3 : a3 < 2 ^ n) (h : a12 / 2 ^ n ≠ b1) :
    a12 < b1 * 2 ^ n ∧ Div3 a12 a3 b b1 b2 n (a12 / b1) (a12 % b1) := by
  have hp := Nat.two_pow_pos n
  have hlt : a12 / 2 ^ n < b1 := by
    have : a12 / 2 ^ n < b1 + 1 := by
      rw [Nat.div_lt_iff_lt_mul hp, Nat.add_mul, Nat.one_mul]; (first | lia | omega)
    (first | lia | omega)
  have h1 : a12 < b1 * 2 ^ n := (Nat.div_lt_iff_lt_mul hp).mp hlt
  have hr := Nat.mod_lt a12 h0
  refine ⟨h1, ⟨Nat.div_add_mod' a12 b1, ?_, ?_, ?_⟩⟩
  · rw [Nat.div_lt_iff_lt_mul h0, Nat.mul_comm]; exact h1
  · rw [Nat.pow_succ]; (first | lia | omega)
  · have e : (a12 % b1 + 1) * 2 ^ n ≤ b1 * 2 ^ n := Nat.mul_le_mul_right _ hr
    rw [Nat.add_mul, Nat.one_mul] at e
    have := Nat.zero_le (a12 / b1 * b2)
    (first | lia | omega)

theorem div3_ok {a12 a3 b b1 b2 n : Nat} {t1 t2 t3 t4 t5 t6 : Tok} (S : Stat s.heap) (T : Tabs s.heap) (hroom : A.depth + 1 < recursionLimit) (hh : A.handled = none)
    (hb : b = b1 * 2 ^ n + b2) (hb1 : b1 < 2 ^ n) (h0 : 0 < b1) (hb2 : b2 < 2 ^ n) (ha : a12 < b) (ha3 : a3 < 2 ^ n) (hn : n ≤ 4000)
    (hQ : Pair s Q (((a12 * 2 ^ n + a3) / b : Nat) : Int) (((a12 * 2 ^ n + a3) % b : Nat) : Int)) :
    wpAny (model prog w) A (call (.ref 49) [.int a12 t1, .int a3 t2, .int b t3, .int b1 t4, .int b2 t5, .int n t6]) Q E s := by
  have hhd : ∀ e, (A.deeper e).handled = none := fun _ => hh
  refine enterP (i := 8) (binds := [("a12", .int a12 t1), ("a3", .int a3 t2), ("b", .int b t3), ("b1", .int b1 t4), ("b2", .int b2 t5), ("n", .int n t6)]) S T (by decide) (by (first | lia | omega)) (fun _ _ => rfl) fun L h₁ F => ?_
  refine wpAny_execs_cons (wpAny_mono (Q := fun f s' => f = .next ∧ ∃ h' tk m', ∃ (q r : Nat), ∃ tq tr, s' = { s with heap := h', toks := tk } ∧ Fm s.heap L h' m' [] ∧ m' "q" = some (.int q tq) ∧ m' "r" = some (.int r tr) ∧
    m' "a3" = some (.int a3 t2) ∧ m' "b" = some (.int b t3) ∧ m' "b2" = some (.int b2 t5) ∧ m' "n" = some (.int n t6) ∧ Div3 a12 a3 b b1 b2 n q r) ?_ ?_ fun _ _ q => q)
  · refine wpAny_If <| wpAny_isTrue_Compare1 <| wpAny_BinOp <| lname F rfl <| lname F rfl <| rshiftN <| lname F rfl <| eq_int <| wpAny_truthy_bool ?_
    dsimp only
    by_cases hc : a12 / 2 ^ n = b1
    · obtain ⟨D, hle⟩ := div3_A hb hb1 hb2 ha ha3 hc
      refine ite_pos (by rw [hc]; exact beq_self_eq_true _) ?_
      refine wpAny_execs_cons <| Assign_Tuple_swapped <| Tuple_ <| args_cons <| wpAny_BinOp <| wpAny_BinOp <| wpAny_Constant_int <| lname F rfl <| lshiftN (a := 1) (k := 1) (by decide) (by (first | lia | omega)) <| wpAny_Constant_int <| sub_int' <| args_cons ?_
      dsimp only
      refine wpAny_BinOp <| wpAny_BinOp <| lname F rfl <| wpAny_BinOp <| lname F rfl <| lname F rfl <| lshiftN hb1 (by (first | lia | omega)) <| sub_int' <| lname F rfl <| add_int <| args_nil ?_
      dsimp only
      refine newTup F (by exact Nat.le_of_ble_eq_true rfl) fun c h₂ hc F₂ => ?_
      refine unpackItemsM F₂ (F₂.isTup (.head _)) (hhd _) fun h₃ F₃ => ?_
      replace F₃ := F₃.tail
      refine aio_cons (wpAny_bindName (lstore F₃ fun h₄ F₄ => ?_))
      refine aio_cons (wpAny_bindName (lstore F₄ fun h₅ F₅ => aio_nil (wpAny_execs_nil ?_)))
      refine ⟨rfl, h₅, _, _, 2 ^ n - 1, a12 - b1 * 2 ^ n + b1, _, _, rfl, F₅, ieq ?_, ieq ?_, rfl, rfl, rfl, rfl, D⟩
      · have := Nat.two_pow_pos n
        (first | lia | omega)
      · (first | lia | omega)
    · obtain ⟨hlt, D⟩ := div3_B hb hb1 h0 hb2 ha ha3 hc
      refine ite_neg (by simpa using fun q => hc (by exact_mod_cast q)) ?_
      refine wpAny_execs_cons <| Assign_Tuple <| callF (i := 7) (F.stat S) rfl (by decide) <| args_cons <| lname F rfl <| args_cons <| lname F rfl <| args_cons <| lname F rfl <| args_nil ⟨F.stat S, ?_⟩
      dsimp only
      refine div2_small (F.stat S) F.tab (by show A.depth + 1 < _; exact hroom) h0 (Nat.lt_of_lt_of_le hb1 (Nat.pow_le_pow_right (by decide) (by (first | lia | omega)))) ?_ ?_
      · refine Nat.lt_of_lt_of_le hlt ?_
        rw [Nat.add_comm, Nat.pow_add, Nat.mul_comm]
        exact Nat.mul_le_mul_left _ (Nat.le_trans (Nat.le_of_lt hb1) (Nat.pow_le_pow_right (by decide) hn))
      · intro h₂ tk c tq tr hk hcn hc2
        have F₂ := F.add hk hcn hc2
        refine unpackM F₂ (F₂.isTup (.head _)) (hhd _) fun h₃ F₃ => ?_
        replace F₃ := F₃.tail
        refine aio_cons (wpAny_assign_Name (lstore F₃ fun h₄ F₄ => ?_))
        refine aio_cons (wpAny_assign_Name (lstore F₄ fun h₅ F₅ => aio_nil (wpAny_execs_nil ?_)))
        exact ⟨rfl, h₅, _, _, a12 / b1, a12 % b1, _, _, rfl, F₅, rfl, rfl, rfl, rfl, rfl, rfl, D⟩
  rintro f s' ⟨rfl, h₂, tk, m₂, q, r, tq, tr, rfl, F₂, mq, mr, ma3, mb, mb2, mn, D⟩
  dsimp only
  have hqb : Builtin.Int.intBits (q : Int) ≤ 2 ^ 20 := Nat.le_trans (bits_lt D.hq) (by (first | lia | omega))
  have hb2b : Builtin.Int.intBits (b2 : Int) ≤ 2 ^ 20 := Nat.le_trans (bits_lt hb2) (by (first | lia | omega))
  refine wpAny_execs_cons <| wpAny_Assign_Name <| wpAny_BinOp <| wpAny_BinOp <| wpAny_BinOp <| lname F₂ mr <| lname F₂ mn <| lshiftN D.hr (by (first | lia | omega)) <| lname F₂ ma3 <| orN ha3 <| wpAny_BinOp <| lname F₂ mq <| lname F₂ mb2 <| mul_int (hm := .of_bits hqb hb2b) <| sub_int' <| lstore F₂ fun h₃ F₃ => ?_
  dsimp only
  have heq : ((q : Int) * (b : Int) + (((r * 2 ^ n + a3 : Nat) : Int) - (q : Int) * (b2 : Int))) = ((a12 * 2 ^ n + a3 : Nat) : Int) := by
    have e := D.eq
    subst hb
    push_cast
    rw [← e]
    push_cast
    rw [Int.mul_add, Int.add_mul, Int.mul_assoc]
    (first | lia | omega)
  have hlt : (((r * 2 ^ n + a3 : Nat) : Int) - (q : Int) * (b2 : Int)) < (b : Int) := by
    have := D.le
    have e : (q : Int) * (b2 : Int) = ((q * b2 : Nat) : Int) := by push_cast; rfl
    rw [e]; (first | lia | omega)
  refine wpAny_execs_cons (whileF (fun k m own => own = [] ∧ ∃ (q r : Int), ∃ tq tr, k = (-r).toNat ∧ m "q" = some (.int q tq) ∧ m "r" = some (.int r tr) ∧ m "b" = some (.int b t3) ∧ q * b + r = ((a12 * 2 ^ n + a3 : Nat) : Int) ∧ r < b)
    (fun m own => own = [] ∧ ∃ (q r : Int), ∃ tq tr, m "q" = some (.int q tq) ∧ m "r" = some (.int r tr) ∧ q * b + r = ((a12 * 2 ^ n + a3 : Nat) : Int) ∧ r < b ∧ 0 ≤ r) _ F₃
    ⟨rfl, q, _, tq, _, rfl, mq, rfl, mb, heq, hlt⟩ ?_ ?_)
  · rintro k m₃ own₃ h₄ tk4 ⟨rfl, q, r, tq, tr, rfl, mq, mr, mb, heq, hlt⟩ F₄
    refine wpAny_isTrue_Compare1 <| lname F₄ mr <| wpAny_Constant_int <| lt_int <| wpAny_truthy_bool ?_
    by_cases hr : r < 0
    · refine ite_pos (decide_eq_true hr) ?_
      refine wpAny_execs_cons <| wpAny_AugAssign_Name <| lload F₄ mq <| wpAny_Constant_int <| isub_int <| lstore F₄ fun h₅ F₅ => ?_
      refine wpAny_execs_cons <| wpAny_AugAssign_Name <| lload F₅ mr <| lname F₅ mb <| wpAny_iadd_int <| lstore F₅ fun h₆ F₆ => wpAny_execs_nil ?_
      refine ⟨_, _, _, [], _, rfl, ?_, F₆, rfl, q - 1, r + b, _, _, rfl, rfl, rfl, mb, ?_, by (first | lia | omega)⟩
      · (first | lia | omega)
      · rw [← heq, Int.sub_mul]; (first | lia | omega)
    · refine ite_neg (by rw [decide_eq_false hr]; decide) ?_
      exact ⟨_, _, m₃, [], rfl, ⟨rfl, q, r, tq, tr, mq, mr, heq, hlt, by (first | lia | omega)⟩, F₄⟩
  · rintro h₄ tk4 m₃ own₃ ⟨rfl, q, r, tq, tr, mq, mr, heq, hlt, hr⟩ F₄
    obtain ⟨eq1, eq2⟩ := divmod_unique heq hr hlt
    subst eq1 eq2
    refine wpAny_execs_cons <| wpAny_Return_some <| Tuple_ <| args_cons <| lname F₄ mq <| args_cons <| lname F₄ mr <| args_nil <| newTup F₄ (by exact Nat.le_of_ble_eq_true rfl) fun c h₅ hc F₅ => ?_
    exact hQ h₅ _ c tq tr F₅.keep (F₄.baseNone hc) (F₅.get (.head _))
end Mine

/-! D3 -/
set_option maxRecDepth 100000
set_option maxHeartbeats 2000000
namespace Mine
variable {prog : Program} {w : World} {A : Around} {E : Value → Shared → Prop} {s : Shared} {Q : Value → Shared → Prop}

theorem irshiftN {a n : Nat} {t u : Tok} (h : Q (.int ((a / 2 ^ n : Nat) : Int) s.toks) { s with toks := s.toks + 1 }) : wpAny (model prog w) A (inplaceOp .RShift (.int a t) (.int n u)) Q E s := by
  refine irshift_int (by (first | lia | omega)) ?_
  have e : ((a : Int).fdiv (2 ^ (n : Int).toNat)) = ((a / 2 ^ n : Nat) : Int) := by
    rw [← fdivN]; rfl
  rw [e]; exact h
theorem ilshiftN {a n k : Nat} {t u : Tok} (ha : a < 2 ^ k) (hk : k + n ≤ 1000000) (h : Q (.int ((a * 2 ^ n : Nat) : Int) s.toks) { s with toks := s.toks + 1 }) : wpAny (model prog w) A (inplaceOp .LShift (.int a t) (.int n u)) Q E s := by
  refine ilshift_int (by (first | lia | omega)) ?_ ?_
  · have := bits_lt ha
    (first | lia | omega)
  · have e : ((a : Int) * 2 ^ (n : Int).toNat) = ((a * 2 ^ n : Nat) : Int) := by
      push_cast; rfl
    rw [e]; exact h

theorem bits_ge {a k : Nat} (h : ¬ a < 2 ^ k) : k < Builtin.Int.intBits (a : Int) := by
  have h0 : a ≠ 0 := by have := Nat.two_pow_pos k; (first | lia | omega)
  unfold Builtin.Int.intBits
  rw [if_neg (by simpa using h0)]
  show k < Nat.log2 a + 1
  have : ¬ Nat.log2 a < k := fun q => h ((Nat.log2_lt h0).mp q)
  (first | lia | omega)

/-- the recursion's sums -/
theorem div2_math {a b P : Nat} (hP : 0 < P) (hb : 0 < b) (ha : a < P * P * b) :
    a / (P * P) < b ∧ (a / (P * P) * P + a / P % P) % b < b ∧ (((a / (P * P) * P + a / P % P) % b * P + a % P) / b) < P ∧
    (a / (P * P) * P + a / P % P) / b * P + ((a / (P * P) * P + a / P % P) % b * P + a % P) / b = a / b ∧
    ((a / (P * P) * P + a / P % P) % b * P + a % P) % b = a % b := by
  have hX : a / (P * P) * P + a / P % P = a / P := by
    rw [← Nat.div_div_eq_div_mul]
    exact Nat.div_add_mod' (a / P) P
  rw [hX]
  have h1 : a / (P * P) < b := by
    rw [Nat.div_lt_iff_lt_mul (Nat.mul_pos hP hP), Nat.mul_comm]; exact ha
  have hr := Nat.mod_lt (a / P) hb
  have h2 : (a / P % b * P + a % P) / b < P := by
    rw [Nat.div_lt_iff_lt_mul hb]
    have : (a / P % b + 1) * P ≤ b * P := Nat.mul_le_mul_right _ hr
    rw [Nat.add_mul, Nat.one_mul] at this
    have := Nat.mod_lt a hP
    rw [Nat.mul_comm P b]; (first | lia | omega)
  have e1 := Nat.div_add_mod' (a / P) b
  have e2 := Nat.div_add_mod' a P
  have e3 := Nat.div_add_mod' (a / P % b * P + a % P) b
  generalize hq1 : a / P / b = q1 at *
  generalize hr1 : a / P % b = r1 at *
  generalize hq2 : (r1 * P + a % P) / b = q2 at *
  generalize hr2 : (r1 * P + a % P) % b = r2 at *
  have hr2b : r2 < b := by rw [← hr2]; exact Nat.mod_lt _ hb
  have key : (q1 * P + q2) * b + r2 = a := by
    have e4 : (q1 * b + r1) * P + a % P = a := by rw [e1]; exact e2
    rw [Nat.add_mul] at e4 ⊢
    have : q1 * b * P = q1 * P * b := Nat.mul_right_comm _ _ _
    (first | lia | omega)
  have u := divmod_unique (q := ((q1 * P + q2 : Nat) : Int)) (r := (r2 : Int)) (A := a) (b := b) (by exact_mod_cast key) (by (first | lia | omega)) (by (first | lia | omega))
  refine ⟨h1, hr, h2, ?_, ?_⟩
  · exact_mod_cast u.1
  · exact_mod_cast u.2

theorem div2_ok {a b n : Nat} {t u v : Tok} (S : Stat s.heap) (T : Tabs s.heap) (hroom : A.depth + 2 < recursionLimit) (hh : A.handled = none) (hb1 : 2 ^ n ≤ 2 * b) (hb : b < 2 ^ n) (ha : a < 2 ^ n * b) (hn : n ≤ 7000)
    (hQ : Pair s Q ((a / b : Nat) : Int) ((a % b : Nat) : Int)) :
    wpAny (model prog w) A (call (.ref 42) [.int a t, .int b u, .int n v]) Q E s := by
  have hb0 : 0 < b := by have := Nat.two_pow_pos n; (first | lia | omega)
  by_cases hs : a < 2 ^ (4000 + n)
  · exact div2_small S T (by (first | lia | omega)) hb0 (Nat.lt_of_lt_of_le hb (Nat.pow_le_pow_right (by decide) (by (first | lia | omega)))) hs hQ
  have hhd : ∀ e, (A.deeper e).handled = none := fun _ => hh
  refine enterP (i := 7) (binds := [("a", .int a t), ("b", .int b u), ("n", .int n v)]) S T (by decide) (by (first | lia | omega)) (fun _ _ => rfl) fun L h₁ F => ?_
  refine wpAny_execs_cons <| wpAny_If <| wpAny_isTrue_Compare1 <| wpAny_BinOp <| MethodCall_ ?_
  refine lname F rfl <| getMethod_int_bit_length <| callWith_method0 <| call_int_bit_length <| lname F rfl <| sub_int' <| gname (F.stat S) rfl <| le_int <| wpAny_truthy_bool <| ite_neg ?_ <| wpAny_execs_nil ?_
  · have := bits_ge hs
    rw [decide_eq_false (by (first | lia | omega))]; decide
  dsimp only
  have ha2 : a < 2 ^ (2 * n) := by
    refine Nat.lt_of_lt_of_le ha ?_
    rw [Nat.two_mul, Nat.pow_add]
    exact Nat.mul_le_mul_left _ (Nat.le_of_lt hb)
  refine wpAny_execs_cons <| wpAny_Assign_Name <| wpAny_BinOp <| lname F rfl <| wpAny_Constant_int <| andN (n := 1) <| lstore F fun h₂ F₂ => ?_
  dsimp only
  have hm2 : n % 2 ^ 1 = n % 2 := rfl
  rw [hm2] at F₂
  refine wpAny_execs_cons (wpAny_mono (Q := fun f s' => f = .next ∧ ∃ h' tk m' ta tb tn, s' = { s with heap := h', toks := tk } ∧ Fm s.heap L h' m' [] ∧ m' "a" = some (.int ((a * 2 ^ (n % 2) : Nat) : Int) ta) ∧ m' "b" = some (.int ((b * 2 ^ (n % 2) : Nat) : Int) tb) ∧
    m' "n" = some (.int ((n + n % 2 : Nat) : Int) tn) ∧ ∃ tp, m' "pad" = some (.int ((n % 2 : Nat) : Int) tp)) ?_ ?_ fun _ _ q => q)
  · refine wpAny_If <| wpAny_isTrue_value <| lname F₂ rfl <| truthy_int ?_
    by_cases hp : n % 2 = 0
    · refine ite_neg (by rw [hp]; decide) <| wpAny_execs_nil ?_
      rw [hp] at F₂ ⊢
      exact ⟨rfl, h₂, _, _, _, _, _, rfl, F₂, ieq (by simp), ieq (by simp), ieq (by simp), _, rfl⟩
    · have hp1 : n % 2 = 1 := by (first | lia | omega)
      refine ite_pos (by rw [hp1]; decide) ?_
      refine wpAny_execs_cons <| wpAny_AugAssign_Name <| lload F₂ rfl <| wpAny_Constant_int <| ilshiftN (n := 1) ha2 (by (first | lia | omega)) <| lstore F₂ fun h₃ F₃ => ?_
      dsimp only
      refine wpAny_execs_cons <| wpAny_AugAssign_Name <| lload F₃ rfl <| wpAny_Constant_int <| ilshiftN (n := 1) hb (by (first | lia | omega)) <| lstore F₃ fun h₄ F₄ => ?_
      dsimp only
      refine wpAny_execs_cons <| wpAny_AugAssign_Name <| lload F₄ rfl <| wpAny_Constant_int <| wpAny_iadd_int <| lstore F₄ fun h₅ F₅ => wpAny_execs_nil ?_
      dsimp only
      rw [hp1] at F₅ ⊢
      exact ⟨rfl, h₅, _, _, _, _, _, rfl, F₅, rfl, rfl, ieq (by (first | lia | omega)), _, rfl⟩
  rintro f s' ⟨rfl, h₃, tk, m₃, ta, tb, tn, rfl, F₃, mA, mB, mN, tp, mP⟩
  dsimp only
  have he : n % 2 = 0 ∨ n % 2 = 1 := by (first | lia | omega)
  obtain ⟨H, hH⟩ : ∃ H, n + n % 2 = 2 * H := ⟨(n + n % 2) / 2, by (first | lia | omega)⟩
  have hfin : (a * 2 ^ (n % 2)) / (b * 2 ^ (n % 2)) = a / b ∧ (a * 2 ^ (n % 2)) % (b * 2 ^ (n % 2)) = a % b * 2 ^ (n % 2) :=
    ⟨Nat.mul_div_mul_right _ _ (Nat.two_pow_pos _), Nat.mul_mod_mul_right _ _ _⟩
  have hb' : b * 2 ^ (n % 2) < 2 ^ (2 * H) := by
    rw [← hH, Nat.pow_add]; exact Nat.mul_lt_mul_of_pos_right hb (Nat.two_pow_pos _)
  have hb1' : 2 ^ (2 * H) ≤ 2 * (b * 2 ^ (n % 2)) := by
    rw [← hH, Nat.pow_add, ← Nat.mul_assoc]; exact Nat.mul_le_mul_right _ hb1
  have ha' : a * 2 ^ (n % 2) < 2 ^ H * 2 ^ H * (b * 2 ^ (n % 2)) := by
    have e : 2 ^ H * 2 ^ H = 2 ^ n * 2 ^ (n % 2) := by rw [← Nat.pow_add, ← Nat.two_mul, ← hH, Nat.pow_add]
    rw [e]
    have e2 : 2 ^ n * 2 ^ (n % 2) * (b * 2 ^ (n % 2)) = (2 ^ n * b) * 2 ^ (n % 2) * 2 ^ (n % 2) := by
      rw [Nat.mul_mul_mul_comm, Nat.mul_assoc (2 ^ n * b)]
    rw [e2]
    have h1 : a * 2 ^ (n % 2) < (2 ^ n * b) * 2 ^ (n % 2) := Nat.mul_lt_mul_of_pos_right ha (Nat.two_pow_pos _)
    exact Nat.lt_of_lt_of_le h1 (Nat.le_mul_of_pos_right _ (Nat.two_pow_pos _))
  rw [hH] at mN
  generalize hea : a * 2 ^ (n % 2) = a' at *
  generalize heb : b * 2 ^ (n % 2) = b' at *
  have hb0' : 0 < b' := by have := Nat.two_pow_pos (2 * H); (first | lia | omega)
  have hHn : H ≤ 3501 := by (first | lia | omega)
  have hH0 : 0 < H := by
    rcases Nat.eq_zero_or_pos H with q | q
    · subst q; rw [Nat.mul_zero, Nat.pow_zero] at hb'; (first | lia | omega)
    · exact q
  have hPP : 2 ^ (2 * H) = 2 ^ H * 2 ^ H := by rw [Nat.two_mul, Nat.pow_add]
  obtain ⟨c1, c2, c3, c4, c5⟩ := div2_math (Nat.two_pow_pos H) hb0' ha'
  have hbd : b' = b' / 2 ^ H * 2 ^ H + b' % 2 ^ H := (Nat.div_add_mod' _ _).symm
  have hb1lt : b' / 2 ^ H < 2 ^ H := by rw [Nat.div_lt_iff_lt_mul (Nat.two_pow_pos _), ← hPP]; exact hb'
  have hb1pos : 0 < b' / 2 ^ H := by
    have h1 : 2 ^ H ≤ b' := by
      obtain ⟨k, rfl⟩ : ∃ k, H = k + 1 := ⟨H - 1, by (first | lia | omega)⟩
      have e : 2 ^ (2 * (k + 1)) = 2 * (2 ^ (k + 1) * 2 ^ k) := by
        rw [hPP, Nat.pow_succ 2 k]; rw [Nat.mul_comm (2 ^ k * 2) (2 ^ k * 2), Nat.mul_assoc, Nat.mul_comm 2 (2 ^ k * 2), ← Nat.mul_assoc, Nat.mul_comm _ 2]
        congr 1
        exact Nat.mul_comm _ _
      have := Nat.le_mul_of_pos_right (2 ^ (k + 1)) (Nat.two_pow_pos k)
      (first | lia | omega)
    exact Nat.div_pos h1 (Nat.two_pow_pos _)
  have hb2lt : b' % 2 ^ H < 2 ^ H := Nat.mod_lt _ (Nat.two_pow_pos _)
  refine wpAny_execs_cons <| wpAny_Assign_Name <| wpAny_BinOp <| lname F₃ mN <| wpAny_Constant_int <| rshiftN (n := 1) <| lstore F₃ fun h₄ F₄ => ?_
  dsimp only
  have hhalf : 2 * H / 2 ^ 1 = H := by (first | lia | omega)
  rw [hhalf] at F₄
  refine wpAny_execs_cons <| wpAny_Assign_Name <| wpAny_BinOp <| wpAny_BinOp <| wpAny_Constant_int <| lname F₄ rfl <| lshiftN (a := 1) (k := 1) (by decide) (by (first | lia | omega)) <| wpAny_Constant_int <| sub_int' <| lstore F₄ fun h₅ F₅ => ?_
  dsimp only
  have hmask : (((1 * 2 ^ H : Nat) : Int) - 1) = ((2 ^ H - 1 : Nat) : Int) := by
    have := Nat.two_pow_pos H
    (first | lia | omega)
  rw [hmask] at F₅
  refine wpAny_execs_cons <| Assign_Tuple_swapped <| Tuple_ <| args_cons <| wpAny_BinOp <| lname F₅ mB <| lname F₅ rfl <| rshiftN <| args_cons <| wpAny_BinOp <| lname F₅ mB <| lname F₅ rfl <| andN <| args_nil ?_
  dsimp only
  refine newTup F₅ (by exact Nat.le_of_ble_eq_true rfl) fun c h₆ hc F₆ => ?_
  refine unpackItemsM F₆ (F₆.isTup (.head _)) (hhd _) fun h₇ F₇ => ?_
  replace F₇ := F₇.tail
  refine aio_cons (wpAny_bindName (lstore F₇ fun h₈ F₈ => ?_))
  refine aio_cons (wpAny_bindName (lstore F₈ fun h₉ F₉ => aio_nil ?_))
  dsimp only
  clear F₇ F₈ F₆ F₅ F₄ F₃ F₂
  refine wpAny_execs_cons <| Assign_Tuple <| callF (i := 8) (F₉.stat S) rfl (by decide) <| args_cons <| wpAny_BinOp <| lname F₉ mA <| lname F₉ mN <| rshiftN <| args_cons <| wpAny_BinOp <| wpAny_BinOp <| lname F₉ mA <| lname F₉ rfl <| rshiftN <| lname F₉ rfl <| andN <| args_cons <| lname F₉ mB <| args_cons <| lname F₉ rfl <| args_cons <| lname F₉ rfl <| args_cons <| lname F₉ rfl <| args_nil ⟨F₉.stat S, ?_⟩
  dsimp only
  rw [hPP]
  refine div3_ok (F₉.stat S) F₉.tab (by show A.depth + 1 + 1 < _; exact hroom) (hhd _) hbd hb1lt hb1pos hb2lt c1 (Nat.mod_lt _ (Nat.two_pow_pos _)) (by (first | lia | omega)) ?_
  intro h₁₀ tk₁₀ c' tq tr hk hcn hc2
  have F₁₀ := F₉.add hk hcn hc2
  refine unpackM F₁₀ (F₁₀.isTup (.head _)) (hhd _) fun h₁₁ F₁₁ => ?_
  replace F₁₁ := F₁₁.tail
  refine aio_cons (wpAny_assign_Name (lstore F₁₁ fun h₁₂ F₁₂ => ?_))
  refine aio_cons (wpAny_assign_Name (lstore F₁₂ fun h₁₃ F₁₃ => aio_nil ?_))
  dsimp only
  refine wpAny_execs_cons <| Assign_Tuple <| callF (i := 8) (F₁₃.stat S) rfl (by decide) <| args_cons <| lname F₁₃ rfl <| args_cons <| wpAny_BinOp <| lname F₁₃ mA <| lname F₁₃ rfl <| andN <| args_cons <| lname F₁₃ mB <| args_cons <| lname F₁₃ rfl <| args_cons <| lname F₁₃ rfl <| args_cons <| lname F₁₃ rfl <| args_nil ⟨F₁₃.stat S, ?_⟩
  dsimp only
  refine div3_ok (F₁₃.stat S) F₁₃.tab (by show A.depth + 1 + 1 < _; exact hroom) (hhd _) hbd hb1lt hb1pos hb2lt c2 (Nat.mod_lt _ (Nat.two_pow_pos _)) (by (first | lia | omega)) ?_
  intro h₁₄ tk₁₄ c'' tq2 tr2 hk2 hcn2 hc22
  have F₁₄ := F₁₃.add hk2 hcn2 hc22
  refine unpackM F₁₄ (F₁₄.isTup (.head _)) (hhd _) fun h₁₅ F₁₅ => ?_
  replace F₁₅ := F₁₅.tail
  refine aio_cons (wpAny_assign_Name (lstore F₁₅ fun h₁₆ F₁₆ => ?_))
  refine aio_cons (wpAny_assign_Name (lstore F₁₆ fun h₁₇ F₁₇ => aio_nil ?_))
  dsimp only
  rw [c5] at F₁₇
  clear F₁₆ F₁₅ F₁₄ F₁₃ F₁₂ F₁₁ F₁₀ F₉
  generalize hq1 : (a' / (2 ^ H * 2 ^ H) * 2 ^ H + a' / 2 ^ H % 2 ^ H) / b' = q1 at *
  generalize hq2 : ((a' / (2 ^ H * 2 ^ H) * 2 ^ H + a' / 2 ^ H % 2 ^ H) % b' * 2 ^ H + a' % 2 ^ H) / b' = q2 at *
  have hq1b : q1 < 2 ^ (4 * H) := by
    have e1 : q1 ≤ q1 * 2 ^ H := Nat.le_mul_of_pos_right _ (Nat.two_pow_pos _)
    have e2 : a' / b' ≤ a' := Nat.div_le_self _ _
    have e3 : a' < 2 ^ (4 * H) := by
      refine Nat.lt_of_lt_of_le ha' ?_
      have : 4 * H = 2 * H + 2 * H := by (first | lia | omega)
      rw [this, Nat.pow_add, hPP]
      exact Nat.mul_le_mul_left _ (by rw [← hPP]; exact Nat.le_of_lt hb')
    (first | lia | omega)
  refine wpAny_execs_cons (wpAny_mono (Q := fun f s' => f = .next ∧ ∃ h' tk m' t1 t2 t3 t4, s' = { s with heap := h', toks := tk } ∧ Fm s.heap L h' m' [] ∧ m' "q1" = some (.int (q1 : Int) t1) ∧ m' "q2" = some (.int (q2 : Int) t2) ∧
    m' "half_n" = some (.int (H : Int) t3) ∧ m' "r" = some (.int ((a % b : Nat) : Int) t4)) ?_ ?_ fun _ _ q => q)
  · refine wpAny_If <| wpAny_isTrue_value <| lname F₁₇ mP <| truthy_int ?_
    rcases he with hp | hp
    · refine ite_neg (by rw [hp]; decide) <| wpAny_execs_nil ?_
      refine ⟨rfl, h₁₇, _, _, _, _, _, _, rfl, F₁₇, rfl, rfl, rfl, ieq ?_⟩
      rw [hfin.2, hp]; simp
    · refine ite_pos (by rw [hp]; decide) ?_
      refine wpAny_execs_cons <| wpAny_AugAssign_Name <| lload F₁₇ rfl <| wpAny_Constant_int <| irshiftN (n := 1) <| lstore F₁₇ fun h₁₈ F₁₈ => wpAny_execs_nil ?_
      refine ⟨rfl, h₁₈, _, _, _, _, _, _, rfl, F₁₈, rfl, rfl, rfl, ieq ?_⟩
      rw [hfin.2, hp]
      have : a % b * 2 ^ 1 / 2 ^ 1 = a % b := Nat.mul_div_cancel _ (by decide)
      rw [this]
  rintro f s' ⟨rfl, h₁₈, tk₁₈, m₁₈, t1, t2, t3, t4, rfl, F₁₈, n1, n2, n3, n4⟩
  dsimp only
  refine wpAny_execs_cons <| wpAny_Return_some <| Tuple_ <| args_cons <| wpAny_BinOp <| wpAny_BinOp <| lname F₁₈ n1 <| lname F₁₈ n3 <| lshiftN hq1b (by (first | lia | omega)) <| lname F₁₈ n2 <| orN c3 <| args_cons <| lname F₁₈ n4 <| args_nil <| newTup F₁₈ (by exact Nat.le_of_ble_eq_true rfl) fun c h₁₉ hc F₁₉ => ?_
  rw [c4, hfin.1] at F₁₉
  exact hQ h₁₉ _ c _ _ F₁₉.keep (F₁₈.baseNone hc) (F₁₉.get (.head _))
end Mine

/-! N1 -/
set_option maxRecDepth 100000
set_option maxHeartbeats 2000000
namespace Mine
variable {prog : Program} {w : World} {A : Around} {E : Value → Shared → Prop} {s : Shared} {Q : Value → Shared → Prop}

/-- a list's object -/
def LObj (o : Obj) (vs : List Value) : Prop := o.cls = .type "list" ∧ ∃ n, o.data = .seq vs.toArray n
theorem LObj.of (vs : List Value) (n : Nat) : LObj (listOf vs.toArray n) vs := ⟨rfl, n, rfl⟩
theorem LObj.not {o : Obj} {vs : List Value} (x : LObj o vs) : NotCode o := let ⟨_, _, d⟩ := x; .seq d
theorem LObj.is {h : Heap} {D : Addr} {o : Obj} {vs : List Value} (x : LObj o vs) (e : h.get? D = some o) : h.IsList D vs.toArray := ⟨o, e, x⟩

theorem list_ne_tab {h : Heap} {D P : Addr} {o : Obj} {vs : List Value} {ps : Array Value} (x : LObj o vs) (hD : h.get? D = some o) (hP : h.get? P = some (tabObj ps)) : D ≠ P := by
  rintro rfl
  rw [hD] at hP; cases hP
  cases x.1

/-- a new frame whose one changing object is the list D -/
theorem Fm.startB {L D : Addr} {h : Heap} {m : Str → Option Value} {oD : Obj} {vs : List Value} (hs : Heap) (k : ∀ b o, hs.get? b = some o → h.get? b = some o) (n : h.Ns L m) (nL : hs.get? L = none) (T0 : Tabs hs)
    (hD : hs.get? D = some oD) (x : LObj oD vs) : Fm (hideAll hs [D]) L h m [(D, oD)] := by
  have t58 : D ≠ 58 := let ⟨_, e, _⟩ := T0.2; list_ne_tab x hD e
  have t51 : D ≠ 51 := let ⟨_, e, _⟩ := T0.1; list_ne_tab x hD e
  have F := Fm.startP hs k n nL T0
  refine ⟨n, fun b o e => k b o (of_hideAll _ e), ?_, ?_, by simp, T0.keeps k, F.t58, F.t51⟩
  · cases q : (hideAll hs [D]).get? L with
    | none => rfl
    | some o => rw [of_hideAll _ q] at nL; cases nL
  · intro p hp
    rw [List.mem_singleton.mp hp]
    refine ⟨k _ _ hD, hideAll_none _ (.head _), ?_, t58, t51⟩
    intro z
    have z' : D = L := z
    rw [z', nL] at hD; cases hD

/-- all that stood stays, but for the list D -/
def KeptBut (s : Shared) (D : Addr) (h' : Heap) : Prop := ∀ b o, b ≠ D → s.heap.get? b = some o → h'.get? b = some o

def inStmt (i : Nat) : Stmt := (stBody (topAt i)).getD (if i = 9 then 1 else 0) (.Pass ⟨0, 0, 0, 0⟩)
/-- what inner sees -/
structure In1 (i : Nat) (q : Str) (h : Heap) (f c' cn ci cd : Addr) (d : Str) (D : Addr) (n : Nat) : Prop where
  fn : ∃ doc pm ctv o, h.get? f = some o ∧ o.data = .func (fnX "inner" q (stParams (inStmt i)) (stBody (inStmt i)) (stScope (inStmt i)) [("n", cn), ("inner", ci), (d, cd)] .none .none doc pm none (.ref c') ctv)
  code : h.CodeRec (.ref c') q
  num : ∃ t, h.IsCell cn (some (.int n t))
  self : h.IsCell ci (some (.ref f))
  dig : h.IsCell cd (some (.ref D))
  nolimit : h.NoLimit
theorem In1.keeps {i : Nat} {q : Str} {h h' : Heap} {f c' cn ci cd D : Addr} {d : Str} {n : Nat} (x : In1 i q h f c' cn ci cd d D n) (k : ∀ b o, h.get? b = some o → h'.get? b = some o) : In1 i q h' f c' cn ci cd d D n :=
  ⟨let ⟨a, b, c, o, e, r⟩ := x.fn; ⟨a, b, c, o, k _ _ e, r⟩, x.code.keeps k, let ⟨t, e⟩ := x.num; ⟨t, e.keeps k⟩, x.self.keeps k, x.dig.keeps k, x.nolimit.keeps k⟩

def envI (i : Nat) (q : Str) (f c' : Addr) (cl : List (Str × Addr)) (L : Addr) : Env :=
  { scope := stScope (inStmt i), locals := L, globals := 3, cells := cl, qual := q ++ ".<locals>.", func := some f, code := .ref c', frame := some L, builtins := 0 }

/-- the places L to R hold the figures of x -/
def Filled (vs vs' : List Value) (l r x n : Nat) : Prop :=
  vs'.length = vs.length ∧ (∀ j, (j < l ∨ r ≤ j) → vs'[j]? = vs[j]?) ∧ ∀ j, l ≤ j → j < r → ∃ t, vs'[j]? = some (.int ((x / 2 ^ (n * (j - l)) % 2 ^ n : Nat) : Int) t)

theorem filled_join {vs vs1 vs2 : List Value} {l m r x n : Nat} (hlm : l ≤ m) (hmr : m ≤ r) (h1 : Filled vs vs1 l m (x % 2 ^ ((m - l) * n)) n) (h2 : Filled vs1 vs2 m r (x / 2 ^ ((m - l) * n)) n) : Filled vs vs2 l r x n := by
  refine ⟨h2.1.trans h1.1, ?_, ?_⟩
  · intro j hj
    rw [h2.2.1 j (by (first | lia | omega)), h1.2.1 j (by (first | lia | omega))]
  · intro j hl hr
    by_cases hjm : j < m
    · obtain ⟨t, e⟩ := h1.2.2 j hl hjm
      refine ⟨t, ?_⟩
      rw [h2.2.1 j (.inl hjm), e]
      refine congrArg (fun q : Nat => some (Value.int (q : Int) t)) ?_
      have hle : n * (j - l) + n ≤ (m - l) * n := by
        have : n * (j - l) + n = (j - l + 1) * n := by rw [Nat.add_mul, Nat.one_mul, Nat.mul_comm]
        rw [this]; exact Nat.mul_le_mul_right _ (by (first | lia | omega))
      obtain ⟨k, hk⟩ : ∃ k, (m - l) * n = n * (j - l) + (n + k) := ⟨(m - l) * n - n * (j - l) - n, by (first | lia | omega)⟩
      rw [hk, Nat.pow_add, Nat.pow_add, Nat.mod_mul_right_div_self, Nat.mod_mul_right_mod]
    · obtain ⟨t, e⟩ := h2.2.2 j (by (first | lia | omega)) hr
      refine ⟨t, ?_⟩
      rw [e]
      refine congrArg (fun q : Nat => some (Value.int (q : Int) t)) ?_
      have : n * (j - l) = (m - l) * n + n * (j - m) := by rw [Nat.mul_comm (m - l) n, ← Nat.mul_add]; congr 1; (first | lia | omega)
      rw [Nat.div_div_eq_div_mul, ← Nat.pow_add, this]

theorem xor_low {x k : Nat} : Builtin.bitXor (x : Int) ((x / 2 ^ k * 2 ^ k : Nat) : Int) = ((x % 2 ^ k : Nat) : Int) := by
  unfold Builtin.bitXor
  rw [bitOr_and, bitAnd_pp (by (first | lia | omega)) (by (first | lia | omega))]
  have h : x &&& (x / 2 ^ k * 2 ^ k) = x / 2 ^ k * 2 ^ k := by
    apply Nat.eq_of_testBit_eq
    intro i
    rw [Nat.testBit_and, Nat.mul_comm, Nat.testBit_two_pow_mul, Nat.testBit_div_two_pow]
    by_cases hi : k ≤ i
    · have : i - k + k = i := by (first | lia | omega)
      simp [hi, this]
    · simp [hi]
  have h' : ((x : Int).toNat &&& ((x / 2 ^ k * 2 ^ k : Nat) : Int).toNat : Nat) = x / 2 ^ k * 2 ^ k := h
  rw [h']
  have := Nat.div_add_mod' x (2 ^ k)
  (first | lia | omega)
end Mine

/-! N2 -/
set_option maxRecDepth 100000
set_option maxHeartbeats 2000000
namespace Mine
variable {prog : Program} {w : World} {A : Around} {E : Value → Shared → Prop} {s : Shared} {Q : Value → Shared → Prop}

theorem fname {M : Model} {env : Env} {x : Str} {pos : Pos} {c : Addr} {v : Value} (hv : s.heap.IsCell c (some v)) (h : Q v s) (hc : env.cells.lookup x = some c := by rfl)
    (hk : env.scope.kind = .function := by rfl) (hl : env.kindOf x = some .free := by rfl) (hdb : (x == ("__debug__" : Str)) = false := by decide)
    (hdn : (x == ("__classdict__" : Str)) = false := by decide) :
    wpAny M A (eval (.Name x pos) env) Q E s := wpAny_Name (wpAny_loadName_free hk hl hc hv h hdn) hdb

section
variable {i : Nat} {q : Str} {G : Heap} {f c' cn ci cd D : Addr} {d : Str} {n : Nat}
theorem enterIB {oD : Obj} {vs : List Value} {args : List Value} {binds : List (Str × Value)} (I : In1 i q G f c' cn ci cd d D n) (hG : ∀ b o, G.get? b = some o → s.heap.get? b = some o) (T : Tabs s.heap) (hD : s.heap.get? D = some oD) (x : LObj oD vs) (hroom : A.depth < recursionLimit)
    (hbind : ∀ doc pm ctv, bindArgs (fnX "inner" q (stParams (inStmt i)) (stBody (inStmt i)) (stScope (inStmt i)) [("n", cn), ("inner", ci), (d, cd)] .none .none doc pm none (.ref c') ctv) ⟨args, []⟩ = pure binds)
    (h : ∀ L h₁, Fm (hideAll s.heap [D]) L h₁ (fun y => binds.reverse.lookup y) [(D, oD)] → (∀ b o, s.heap.get? b = some o → h₁.get? b = some o) →
      wpAny (model prog w) (A.deeper (envI i q f c' [("n", cn), ("inner", ci), (d, cd)] L)) (execs (stBody (inStmt i)) (envI i q f c' [("n", cn), ("inner", ci), (d, cd)] L)) (fun fl s' => Q (retOf fl) s') (fun _ _ => False) { s with heap := h₁, toks := s.toks + binds.length })
    (hcell : ∀ x ∈ (stScope (inStmt i)).names, x.2 ≠ .cell) (hloc : ∀ x ∈ binds, (stScope (inStmt i)).names.lookup x.1 = some .local)
    (hco : (stScope (inStmt i)).isCoroutine = false) (hgen : (stScope (inStmt i)).isGenerator = false) (hk : (stScope (inStmt i)).kind = .function) :
    wpAny (model prog w) A (call (.ref f) args) Q E s := by
  obtain ⟨doc, pm, ctv, o, ho, hd⟩ := I.fn
  refine wpAny_call (codeAny_call_def (body := stBody (inStmt i)) (binds := binds) hroom (hG _ _ ho) hd (I.nolimit.keeps hG) (I.code.keeps hG) rfl (.of_eq (hbind doc pm ctv)) hcell hloc (fun h₀ hns hk₀ => ?_) hco hgen hk)
  refine wpAny_mono (h s.heap.objs.size h₀ (Fm.startB s.heap hk₀ hns (get_size_none _) T hD x) hk₀) (fun fl s' q => ?_) fun _ _ q => q.elim
  cases fl <;> exact q
end

/-- a call of a def that was made in the call -/
theorem callI {env : Env} {x : Str} {p pos : Pos} {e : Expr} {rest : List Expr} {f c : Addr} (hv : s.heap.IsCell c (some (.ref f))) (hf : FnAt f s.heap)
    (h : wpAny (model prog w) A (spliced (backTo pos (starEach (e :: rest) env))) (fun vs s₁ => FnAt f s₁.heap ∧ wpAny (model prog w) A (call (.ref f) vs) Q E s₁) E s)
    (hl : env.kindOf x = some .free := by rfl) (hc : env.cells.lookup x = some c := by rfl)
    (he : starEach (e :: rest) env = (false, eval e env) :: starEach rest env := by rfl) (hpl : (backTo pos (starEach rest env)).any (·.1) = false := by rfl)
    (hk : env.scope.kind = .function := by rfl) (hd : (x == ("__debug__" : Str)) = false := by decide) (hdn : (x == ("__classdict__" : Str)) = false := by decide) :
    wpAny (model prog w) A (eval (.Call (.Name x p) (e :: rest) [] pos) env) Q E s :=
  wpAny_Call_NameR (wpAny_Name (wpAny_loadName_free hk hl hc hv (callWith_F (first := []) hf h he hpl) hdn) hd)
theorem In1.fnAt {i : Nat} {q : Str} {h : Heap} {f c' cn ci cd D : Addr} {d : Str} {n : Nat} (x : In1 i q h f c' cn ci cd d D n) : FnAt f h := by
  obtain ⟨doc, pm, ctv, ⟨oc, od, dt, sl⟩, ho, hd⟩ := x.fn
  dsimp only at hd
  subst hd
  exact ⟨oc, od, _, sl, ho⟩

theorem inner1_ok {G : Heap} {f c' cn ci cd D : Addr} {n : Nat} (I : In1 9 "_int2digits.<locals>.inner" G f c' cn ci cd "a_digits" D n) (hGD : G.get? D = none) (hn : n ≤ 7000) :
    ∀ (len : Nat) (A : Around) (s : Shared) (Q : Value → Shared → Prop) (E : Value → Shared → Prop) (l r x : Nat) (vs : List Value) (oD : Obj) (t1 t2 t3 : Tok), r - l = len → l < r → len ≤ 64 → x < 2 ^ (n * (r - l)) → r ≤ vs.length → vs.length ≤ 1000 →
      (∀ b o, G.get? b = some o → s.heap.get? b = some o) → Tabs s.heap → s.heap.get? D = some oD → LObj oD vs → A.depth + len < recursionLimit →
      (∀ h' tk vs' oD', KeptBut s D h' → Tabs h' → h'.get? D = some oD' → LObj oD' vs' → Filled vs vs' l r x n → Q .none { s with heap := h', toks := tk }) →
      wpAny (model prog w) A (call (.ref f) [.int x t1, .int l t2, .int r t3]) Q E s := by
  intro len
  induction len using Nat.strongRecOn with
  | ind len ih =>
  intro A s Q E l r x vs oD t1 t2 t3 hlen hlr h64 hx hr hvs hG T hD hO hroom hQ
  obtain ⟨tn, hnum⟩ := I.num
  refine enterIB (binds := [("x", .int x t1), ("L", .int l t2), ("R", .int r t3)]) I hG T hD hO (by (first | lia | omega)) (fun _ _ _ => rfl) (fun L h₁ F hk₁ => ?_) (by decide) (by exact locs rfl) rfl rfl rfl
  have up : ∀ {h' : Heap} {m : Str → Option Value} {own : List (Addr × Obj)}, Fm (hideAll s.heap [D]) L h' m own → ∀ b o, G.get? b = some o → h'.get? b = some o := fun F' b o eb =>
    F'.keep b o (hideAll_get _ (hG b o eb) (by
      intro z
      rw [List.mem_singleton.mp z, hGD] at eb; cases eb))
  have kb : ∀ {h' : Heap} {m : Str → Option Value} {own : List (Addr × Obj)}, Fm (hideAll s.heap [D]) L h' m own → KeptBut s D h' := fun F' b o hb eb => F'.keep b o (hideAll_get _ eb (by simpa using hb))
  refine wpAny_execs_cons <| wpAny_If <| wpAny_isTrue_Compare1 <| wpAny_BinOp <| lname F rfl <| wpAny_Constant_int <| add_int <| lname F rfl <| eq_int <| wpAny_truthy_bool ?_
  dsimp only
  by_cases h1 : l + 1 = r
  · refine ite_pos (by rw [beq_iff_eq]; (first | lia | omega)) ?_
    refine wpAny_execs_cons <| wpAny_Assign_Subscript <| lname F rfl <| fname (I.dig.keeps (up F)) <| lname F rfl <| wpAny_setItem_list (hO.is (F.get (.head _))) (by (first | lia | omega)) (by (first | lia | omega)) (by simp; (first | lia | omega)) fun h₂ hl₂ hs₂ => ?_
    obtain ⟨o2, e2, c2, n2, d2⟩ := hl₂
    dsimp only
    have hO2 : LObj o2 (vs.set l (.int x t1)) := ⟨c2, n2, by rw [d2]; congr 1; simp⟩
    have F₂ := F.upd 0 rfl (fun b ob hb e => hs₂.extBut b ob hb e) e2 hO.not
    refine wpAny_execs_cons <| wpAny_Return_none ?_
    refine hQ h₂ _ (vs.set l (.int x t1)) o2 (kb F₂) F₂.tab e2 hO2 ⟨by simp, ?_, ?_⟩
    · intro j hj
      rw [List.getElem?_set_ne (by (first | lia | omega))]
    · intro j hl hr'
      have : j = l := by (first | lia | omega)
      subst this
      refine ⟨t1, ?_⟩
      rw [List.getElem?_set_self (by (first | lia | omega)), Nat.sub_self, Nat.mul_zero, Nat.pow_zero, Nat.div_one, Nat.mod_eq_of_lt]
      have e : n * (r - j) = n := by rw [show r - j = 1 by (first | lia | omega), Nat.mul_one]
      rw [e] at hx; exact hx
  · refine ite_neg (by simpa using fun q => h1 (by (first | lia | omega))) (wpAny_execs_nil ?_)
    obtain ⟨m, hm⟩ : ∃ m, m = (l + r) / 2 := ⟨_, rfl⟩
    have hm1 : l < m := by (first | lia | omega)
    have hm2 : m < r := by (first | lia | omega)
    have emid : (l + r) / 2 ^ 1 = m := by rw [hm]
    clear hm
    refine wpAny_execs_cons <| wpAny_Assign_Name <| wpAny_BinOp <| wpAny_BinOp <| lname F rfl <| lname F rfl <| add_int <| wpAny_Constant_int ?_
    dsimp only
    have esum : ((l : Int) + (r : Int)) = ((l + r : Nat) : Int) := by push_cast; rfl
    rw [esum]
    refine rshiftN (n := 1) <| lstore F fun h₂ F₂ => ?_
    dsimp only
    rw [emid] at F₂
    refine wpAny_execs_cons <| wpAny_Assign_Name <| wpAny_BinOp <| wpAny_BinOp <| lname F₂ rfl <| lname F₂ rfl <| sub_int' <| fname (hnum.keeps (up F₂)) <| mul_int (hm := .of_right (bits_lti (k := 64) (by simp; (first | lia | omega)))) <| lstore F₂ fun h₃ F₃ => ?_
    dsimp only
    have eshift : ((m : Int) - (l : Int)) * (n : Int) = (((m - l) * n : Nat) : Int) := by
      push_cast
      rw [Int.ofNat_sub (by (first | lia | omega))]
    rw [eshift] at F₃
    refine wpAny_execs_cons <| wpAny_Assign_Name <| wpAny_BinOp <| lname F₃ rfl <| lname F₃ rfl <| rshiftN <| lstore F₃ fun h₄ F₄ => ?_
    dsimp only
    have hxk : x / 2 ^ ((m - l) * n) < 2 ^ (n * (r - m)) := by
      rw [Nat.div_lt_iff_lt_mul (Nat.two_pow_pos _), ← Nat.pow_add]
      have : n * (r - m) + (m - l) * n = n * (r - l) := by rw [Nat.mul_comm (m - l) n, ← Nat.mul_add]; congr 1; (first | lia | omega)
      rw [this]; exact hx
    have hbig : n * (r - m) ≤ 448000 := by
      calc n * (r - m) ≤ 7000 * 64 := Nat.mul_le_mul hn (by (first | lia | omega))
        _ = 448000 := rfl
    have hbig2 : (m - l) * n ≤ 448000 := by
      calc (m - l) * n ≤ 64 * 7000 := Nat.mul_le_mul (by (first | lia | omega)) hn
        _ = 448000 := rfl
    refine wpAny_execs_cons <| wpAny_Assign_Name <| wpAny_BinOp <| lname F₄ rfl <| wpAny_BinOp <| lname F₄ rfl <| lname F₄ rfl <| lshiftN hxk (by (first | lia | omega)) <| xor_int <| lstore F₄ fun h₅ F₅ => ?_
    dsimp only
    rw [xor_low] at F₅
    clear F₄ F₃ F₂
    have I₅ := I.keeps (up F₅)
    refine wpAny_execs_cons <| wpAny_Expr_any <| callI I₅.self I₅.fnAt <| args_cons <| lname F₅ rfl <| args_cons <| lname F₅ rfl <| args_cons <| lname F₅ rfl <| args_nil ⟨I₅.fnAt, ?_⟩
    dsimp only
    refine ih (m - l) (by (first | lia | omega)) _ _ _ _ l m (x % 2 ^ ((m - l) * n)) vs oD _ _ _ rfl hm1 (by (first | lia | omega)) (by rw [Nat.mul_comm n]; exact Nat.mod_lt _ (Nat.two_pow_pos _)) (by (first | lia | omega)) hvs (up F₅) F₅.tab (F₅.get (.head _)) hO (by show A.depth + 1 + _ < _; (first | lia | omega)) ?_
    intro h₆ tk6 vs6 oD6 k6 T6 hD6 hO6 fill6
    have F₆ := F₅.upd 0 rfl k6 hD6 hO.not
    have I₆ := I.keeps (up F₆)
    dsimp only
    refine wpAny_execs_cons <| wpAny_Expr_any <| callI I₆.self I₆.fnAt <| args_cons <| lname F₆ rfl <| args_cons <| lname F₆ rfl <| args_cons <| lname F₆ rfl <| args_nil ⟨I₆.fnAt, ?_⟩
    dsimp only
    refine ih (r - m) (by (first | lia | omega)) _ _ _ _ m r (x / 2 ^ ((m - l) * n)) vs6 oD6 _ _ _ rfl hm2 (by (first | lia | omega)) hxk (by rw [fill6.1]; exact hr) (by rw [fill6.1]; exact hvs) (up F₆) F₆.tab (F₆.get (.head _)) hO6 (by show A.depth + 1 + _ < _; (first | lia | omega)) ?_
    intro h₇ tk7 vs7 oD7 k7 T7 hD7 hO7 fill7
    have F₇ := F₆.upd 0 rfl k7 hD7 hO6.not
    refine wpAny_execs_nil ?_
    exact hQ h₇ _ vs7 oD7 (kb F₇) F₇.tab hD7 hO7 (filled_join (by (first | lia | omega)) (by (first | lia | omega)) fill6 fill7)
end Mine

/-! N3 -/
set_option maxRecDepth 100000
set_option maxHeartbeats 2000000
namespace Mine
variable {prog : Program} {w : World} {A : Around} {E : Value → Shared → Prop} {s : Shared} {Q : Value → Shared → Prop}

theorem Fm.weak {g g' h : Heap} {L : Addr} {m : Str → Option Value} {own : List (Addr × Obj)} (F : Fm g L h m own) (k : ∀ b o, g'.get? b = some o → g.get? b = some o) : Fm g' L h m own where
  ns := F.ns
  keep := fun b o e => F.keep b o (k b o e)
  new := by
    cases q : g'.get? L with
    | none => rfl
    | some o => have := k _ _ q; rw [F.new] at this; cases this
  has := fun p hp => by
    refine ⟨(F.has p hp).1, ?_, (F.has p hp).2.2⟩
    cases q : g'.get? p.1 with
    | none => rfl
    | some o => have := k _ _ q; rw [(F.has p hp).2.1] at this; cases this
  nd := F.nd
  tab := F.tab
  t58 := F.t58
  t51 := F.t51

/-- into a def with cells; the tables may turn -/
theorem enterC {f : Addr} {i : Nat} {args : List Value} {binds : List (Str × Value)} (S : Stat s.heap) (T : Tabs s.heap) (hf : (f, i) ∈ fl) (hroom : A.depth < recursionLimit)
    (hbind : ∀ doc pm, bindArgs (fdAt i f doc pm) ⟨args, []⟩ = pure binds)
    (h : ∀ g L h₁ tk (oc : Addr → Obj), Fm g L h₁ (bindL (envC i f L).kindOf binds fun _ => none) ((cellsFrom (L + 1) (stScope (topAt i)).names []).map fun p => (p.2, oc p.2)) → Stat g → Hid g → KeepT s.heap g → (∀ b o, g.get? b = some o → s.heap.get? b = some o) → Kept s h₁ →
      (∀ n c, (n, c) ∈ cellsFrom (L + 1) (stScope (topAt i)).names [] → (oc c).data = .cell (bindC (envC i f L).kindOf binds (fun _ => none) n)) →
      wpAny (model prog w) (A.deeper (envC i f L)) (execs (stBody (topAt i)) (envC i f L)) (fun fl s' => Q (retOf fl) s') (fun _ _ => False) { s with heap := h₁, toks := tk })
    (hkind : (binds.all fun y => (stScope (topAt i)).names.lookup y.1 == some .local || (stScope (topAt i)).names.lookup y.1 == some .cell) = true := by rfl)
    (hnd : ∀ n, ((cellsFrom n (stScope (topAt i)).names []).map (·.1)).Nodup)
    (hco : (stScope (topAt i)).isCoroutine = false := by rfl) (hgen : (stScope (topAt i)).isGenerator = false := by rfl) (hk : (stScope (topAt i)).kind = .function := by rfl) :
    wpAny (model prog w) A (call (.ref f) args) Q E s := by
  refine enterPC S T hf hroom hbind (fun L h₁ tk oc F hc => ?_) hkind hnd hco hgen hk
  have k1 : KeepT s.heap (hideAll s.heap [58, 51]) := fun b o n1 n2 e => hideAll_get _ e (by simp [n1, n2])
  exact h (hideAll s.heap [58, 51]) L h₁ tk oc (F.weak fun b o e => of_hideAll _ e) (S.keepT k1) ⟨hideAll_none _ (by simp), hideAll_none _ (by simp)⟩ k1 (fun b o e => of_hideAll _ e) F.keep hc

theorem notcode_tab : NotCode (tabObj #[]) := fun vs q t e => by cases e; simp

/-- what the making of inner leaves -/
def Made1 (s : Shared) (i : Nat) (q : Str) (clos : List (Str × Addr)) (Q : Value → Shared → Prop) : Prop :=
  ∀ f c' doc pm ctv H tk, KeepT s.heap H → Tabs H → s.heap.get? f = none → H.get? f = some (fnMade "inner" q (stParams (inStmt i)) (stBody (inStmt i)) (stScope (inStmt i)) clos doc pm c' ctv) → H.CodeRec (.ref c') q →
    Q (.ref f) { s with heap := H, toks := tk }

theorem builtinsAt (S : Stat s.heap) {P : Addr} (hP : P ≠ 4) : ∃ mg, s.heap.Ns 3 mg ∧ s.heap.BuiltinsAt mg P := by
  obtain ⟨mg, n, r⟩ := S.st.glob
  obtain ⟨ob, e, c, d, p⟩ := S.st.b4
  exact ⟨mg, n, 4, ob, r _ _ rfl, by decide, by decide, fun z => hP z.symm, e, c, d, p⟩

theorem mkInner9 {env : Env} {clos : List (Str × Addr)} (S : Stat s.heap) (T : Tabs s.heap) (hcl : closureFor (stScope (inStmt 9)) env = pure clos) (hge0 : env.globals = 3) (hcode : env.code = .ref 55)
    (hQ : Made1 s 9 "_int2digits.<locals>.inner" clos Q) :
    wpAny (model prog w) A (makeFunction "inner" "_int2digits.<locals>.inner" (stParams (inStmt 9)) (.stmts (stBody (inStmt 9))) (stScope (inStmt 9)) env [] [] [] ⟨58, 4, 67, 28⟩ 58) Q E s := by
  obtain ⟨mg, n, hb⟩ := builtinsAt S (P := 51) (by decide)
  obtain ⟨ps, hP, hps⟩ := T.1
  rcases hps with rfl | ⟨c', rfl, cr⟩
  · refine makeFunction_K hcl hge0 n hcode S.st.hd1 hP trivial rfl (by decide) hb ?_
    intro c' ctv doc h' tk hx hge hlt hrec htab
    have up : ∀ b o, h'.get? b = some o → (h'.push (fnMade "inner" "_int2digits.<locals>.inner" (stParams (inStmt 9)) (stBody (inStmt 9)) (stScope (inStmt 9)) clos doc ((mg "__name__").getD .none) c' ctv)).get? b = some o := fun b o e => Heap.get?_push_of_some _ e
    refine hQ h'.objs.size c' doc _ ctv _ tk (fun b o n1 n2 e => up b o (hx b o n2 e)) ⟨?_, ?_⟩ ?_ (Heap.get?_push_size _ rfl) (hrec.keeps up)
    · exact TabAt1.keeps ⟨_, htab, .inr ⟨c', rfl, hrec⟩⟩ up
    · exact TabAt1.keeps (tab_same T.2 hx (by decide) fun oo e => by rw [hP] at e; cases e; exact notcode_tab) up
    · cases q : s.heap.get? h'.objs.size with
      | none => rfl
      | some o => exact absurd (Nat.lt_trans (Nat.lt_of_lt_of_le (Heap.lt_size q) hge) hlt) (Nat.lt_irrefl _)
  · refine makeFunction_hit hcl hge0 n hcode S.st.hd1 hP trivial (cv := .ref c') rfl hb ?_
    intro ctv doc h' tk hk hge
    have up : ∀ b o, s.heap.get? b = some o → (h'.push (fnMade "inner" "_int2digits.<locals>.inner" (stParams (inStmt 9)) (stBody (inStmt 9)) (stScope (inStmt 9)) clos doc ((mg "__name__").getD .none) c' ctv)).get? b = some o := fun b o e => Heap.get?_push_of_some _ (hk b o e)
    refine hQ h'.objs.size c' doc _ ctv _ tk (.of up) (T.keeps up) ?_ (Heap.get?_push_size _ rfl) (cr.keeps up)
    cases q : s.heap.get? h'.objs.size with
    | none => rfl
    | some o => exact absurd (Nat.lt_of_lt_of_le (Heap.lt_size q) hge) (Nat.lt_irrefl _)
theorem mkInner10 {env : Env} {clos : List (Str × Addr)} (S : Stat s.heap) (T : Tabs s.heap) (hcl : closureFor (stScope (inStmt 10)) env = pure clos) (hge0 : env.globals = 3) (hcode : env.code = .ref 62)
    (hQ : Made1 s 10 "_digits2int.<locals>.inner" clos Q) :
    wpAny (model prog w) A (makeFunction "inner" "_digits2int.<locals>.inner" (stParams (inStmt 10)) (.stmts (stBody (inStmt 10))) (stScope (inStmt 10)) env [] [] [] ⟨73, 4, 78, 55⟩ 73) Q E s := by
  obtain ⟨mg, n, hb⟩ := builtinsAt S (P := 58) (by decide)
  obtain ⟨ps, hP, hps⟩ := T.2
  rcases hps with rfl | ⟨c', rfl, cr⟩
  · refine makeFunction_K hcl hge0 n hcode S.st.hd2 hP trivial rfl (by decide) hb ?_
    intro c' ctv doc h' tk hx hge hlt hrec htab
    have up : ∀ b o, h'.get? b = some o → (h'.push (fnMade "inner" "_digits2int.<locals>.inner" (stParams (inStmt 10)) (stBody (inStmt 10)) (stScope (inStmt 10)) clos doc ((mg "__name__").getD .none) c' ctv)).get? b = some o := fun b o e => Heap.get?_push_of_some _ e
    refine hQ h'.objs.size c' doc _ ctv _ tk (fun b o n1 n2 e => up b o (hx b o n1 e)) ⟨?_, ?_⟩ ?_ (Heap.get?_push_size _ rfl) (hrec.keeps up)
    · exact TabAt1.keeps (tab_same T.1 hx (by decide) fun oo e => by rw [hP] at e; cases e; exact notcode_tab) up
    · exact TabAt1.keeps ⟨_, htab, .inr ⟨c', rfl, hrec⟩⟩ up
    · cases q : s.heap.get? h'.objs.size with
      | none => rfl
      | some o => exact absurd (Nat.lt_trans (Nat.lt_of_lt_of_le (Heap.lt_size q) hge) hlt) (Nat.lt_irrefl _)
  · refine makeFunction_hit hcl hge0 n hcode S.st.hd2 hP trivial (cv := .ref c') rfl hb ?_
    intro ctv doc h' tk hk hge
    have up : ∀ b o, s.heap.get? b = some o → (h'.push (fnMade "inner" "_digits2int.<locals>.inner" (stParams (inStmt 10)) (stBody (inStmt 10)) (stScope (inStmt 10)) clos doc ((mg "__name__").getD .none) c' ctv)).get? b = some o := fun b o e => Heap.get?_push_of_some _ (hk b o e)
    refine hQ h'.objs.size c' doc _ ctv _ tk (.of up) (T.keeps up) ?_ (Heap.get?_push_size _ rfl) (cr.keeps up)
    cases q : s.heap.get? h'.objs.size with
    | none => rfl
    | some o => exact absurd (Nat.lt_of_lt_of_le (Heap.lt_size q) hge) (Nat.lt_irrefl _)
end Mine

/-! N4 -/
set_option maxRecDepth 100000
set_option maxHeartbeats 2000000
namespace Mine
variable {prog : Program} {w : World} {A : Around} {E : Value → Shared → Prop} {s : Shared} {Q : Value → Shared → Prop}

def digs (a n k : Nat) : List Int := (List.range k).map fun j => ((a / 2 ^ (n * j) % 2 ^ n : Nat) : Int)

theorem filled_digs {vs vs' : List Value} {k a n : Nat} (hk : vs.length = k) (h : Filled vs vs' 0 k a n) : IntsAre vs' (digs a n k) := by
  have key : ∀ (k : Nat) (ws : List Value) (a0 : Nat), ws.length = k → (∀ j, j < k → ∃ t, ws[j]? = some (.int ((a / 2 ^ (n * (a0 + j)) % 2 ^ n : Nat) : Int) t)) →
      IntsAre ws ((List.range' a0 k).map fun j => ((a / 2 ^ (n * j) % 2 ^ n : Nat) : Int)) := by
    intro k
    induction k with
    | zero => intro ws a0 hl _; rw [List.length_eq_zero_iff.mp hl]; exact .nil
    | succ k ih =>
      intro ws a0 hl hw
      cases ws with
      | nil => cases hl
      | cons v r =>
        obtain ⟨t, e⟩ := hw 0 (by (first | lia | omega))
        simp only [List.getElem?_cons_zero, Option.some.injEq, Nat.add_zero] at e
        subst e
        rw [List.range'_succ, List.map_cons]
        refine .cons _ _ (ih r (a0 + 1) (by simpa using hl) fun j hj => ?_)
        obtain ⟨t', e'⟩ := hw (j + 1) (by (first | lia | omega))
        exact ⟨t', by rw [show a0 + 1 + j = a0 + (j + 1) by (first | lia | omega)]; simpa using e'⟩
  have := key k vs' 0 (by rw [h.1, hk]) fun j hj => by
    obtain ⟨t, e⟩ := h.2.2 j (Nat.zero_le _) hj
    exact ⟨t, by simpa using e⟩
  rw [digs, List.range_eq_range']
  exact this

theorem cell_ne_list {h : Heap} {b D : Addr} {v : Option Value} {oD : Obj} {vs : List Value} (hc : h.IsCell b v) (hD : h.get? D = some oD) (x : LObj oD vs) : b ≠ D := by
  rintro rfl
  obtain ⟨o, e, d⟩ := hc
  rw [hD] at e; cases e
  obtain ⟨_, n, d'⟩ := x
  rw [d] at d'; cases d'

theorem int2digits_ok {a n : Nat} {t u : Tok} (S : Stat s.heap) (T : Tabs s.heap) (hroom : A.depth + 70 < recursionLimit) (hh : A.handled = none) (hn0 : 0 < n) (hn : n ≤ 7000) (ha : a < 2 ^ (n * 64))
    (hQ : ∀ h' tk D vs oD, KeepT s.heap h' → Tabs h' → s.heap.get? D = none → h'.get? D = some oD → LObj oD vs → IntsAre vs (digs a n ((Builtin.Int.intBits (a : Int) + n - 1) / n)) → Q (.ref D) { s with heap := h', toks := tk }) :
    wpAny (model prog w) A (call (.ref 56) [.int a t, .int n u]) Q E s := by
  have hhd : ∀ e, (A.deeper e).handled = none := fun _ => hh
  have hk64 : (Builtin.Int.intBits (a : Int) + n - 1) / n ≤ 64 := by
    have h1 := bits_lt ha
    have : (Builtin.Int.intBits (a : Int) + n - 1) / n < 65 := by
      rw [Nat.div_lt_iff_lt_mul hn0]
      have : 65 * n = n * 64 + n := by (first | lia | omega)
      (first | lia | omega)
    (first | lia | omega)
  generalize hk : (Builtin.Int.intBits (a : Int) + n - 1) / n = k at *
  refine enterC (i := 9) (binds := [("a", .int a t), ("n", .int n u)]) S T (by decide) (by (first | lia | omega)) (fun _ _ => rfl) (fun g L h₁ tk oc F Sg Hg k1 k2 k3 hc => ?_) (hnd := fun n => (by decide : ([Str.ofString "inner", Str.ofString "a_digits", Str.ofString "n"] : List Str).Nodup))
  replace F : Fm g L h₁ (fun y => if y = "a" then some (.int a t) else none) [(L + 3, oc (L + 3)), (L + 2, oc (L + 2)), (L + 1, oc (L + 1))] := F
  have d1 : (oc (L + 1)).data = .cell (some (.int n u)) := hc "n" (L + 1) (.tail _ (.tail _ (.head _)))
  have d2 : (oc (L + 2)).data = .cell none := hc "a_digits" (L + 2) (.tail _ (.head _))
  have d3 : (oc (L + 3)).data = .cell none := hc "inner" (L + 3) (.head _)
  clear hc
  generalize oc (L + 1) = o1 at F d1
  generalize oc (L + 2) = o2 at F d2
  generalize oc (L + 3) = o3 at F d3
  refine wpAny_execs_cons <| wpAny_Assign_Name <| wpAny_BinOp <| List_ <| args_cons <| wpAny_Constant_int <| args_nil <| newLst F (by exact Nat.le_of_ble_eq_true rfl) fun a1 h₂ n1 F₂ => ?_
  dsimp only
  refine wpAny_BinOp <| wpAny_BinOp <| wpAny_BinOp <| MethodCall_ ?_
  refine lname F₂ rfl <| getMethod_int_bit_length <| callWith_method0 <| call_int_bit_length <| cname F₂ (.tail _ (.tail _ (.tail _ (.head _)))) d1 <| add_int <| wpAny_Constant_int <| sub_int' ?_
  dsimp only
  refine cname F₂ (.tail _ (.tail _ (.tail _ (.head _)))) d1 ?_
  have e1 : ((Builtin.Int.intBits (a : Int) : Int) + (n : Int) - 1) = ((Builtin.Int.intBits (a : Int) + n - 1 : Nat) : Int) := by (first | lia | omega)
  rw [e1]
  refine floordiv_int (by (first | lia | omega)) ?_ (.inl (nopy (Nat.lt_of_lt_of_le (show n < 2 ^ 13 by (first | lia | omega)) (Nat.pow_le_pow_right (by decide) (by decide)))))
  rw [fdivN, hk]
  refine mulLst F₂ (F₂.get (.head _)) (by (first | lia | omega)) (by (first | lia | omega)) fun D h₃ nD F₃ => ?_
  replace F₃ : Fm g L h₃ (fun y => if y = "a" then some (.int a t) else none) [(D, listOf (List.replicate k (Value.int 0 _)).toArray 0), (a1, listOf [Value.int 0 _].toArray 0), (L + 3, o3), (L + 2, o2), (L + 1, o1)] := F₃
  dsimp only
  refine cstore F₃ 3 rfl d2 fun h₄ o2' d2' F₄ => ?_
  replace F₄ : Fm g L h₄ (fun y => if y = "a" then some (.int a t) else none) [(D, listOf (List.replicate k (Value.int 0 _)).toArray 0), (L + 3, o3), (L + 2, o2'), (L + 1, o1)] := F₄.drop (by
    refine .cons₂ _ (.cons _ ?_)
    exact List.Sublist.refl _)
  have nDs : s.heap.get? D = none := by
    cases q : s.heap.get? D with
    | none => rfl
    | some o =>
      have z1 := (F₄.has _ (.head _)).2.1
      have z2 := (F₄.has _ (.head _)).2.2.2
      have := k1 D o z2.1 z2.2 q
      rw [z1] at this; cases this
  dsimp only
  have eq : qualnameIn (envC 9 56 L) "inner" "inner" = "_int2digits.<locals>.inner" := rfl
  refine wpAny_execs_cons <| nestDef_K rfl rfl rfl ?_
  refine mkInner9 (clos := [("n", L + 1), ("inner", L + 3), ("a_digits", L + 2)]) (F₄.stat Sg) F₄.tab rfl rfl rfl ?_
  intro f c' doc pm ctv H tkH kH TH nf ef cr
  have F₅ := F₄.callAdd Hg kH TH nf ef
  dsimp only
  refine cstoreK F₅ 2 rfl d3 fun h₆ o3' d3' F₆ kc => ?_
  replace F₆ : Fm g L h₆ (fun y => if y = "a" then some (.int a t) else none) [(f, fnMade "inner" "_int2digits.<locals>.inner" (stParams (inStmt 9)) (stBody (inStmt 9)) (stScope (inStmt 9)) [("n", L + 1), ("inner", L + 3), ("a_digits", L + 2)] doc pm c' ctv),
    (D, listOf (List.replicate k (Value.int 0 _)).toArray 0), (L + 3, o3'), (L + 2, o2'), (L + 1, o1)] := F₆
  dsimp only
  have cr6 : h₆.CodeRec (.ref c') "_int2digits.<locals>.inner" := codeRec_cell cr (F₅.get (.tail _ (.tail _ (.head _)))) d3 kc
  have kfin : ∀ {h' : Heap} {m : Str → Option Value} {own : List (Addr × Obj)}, Fm g L h' m own → KeepT s.heap h' := fun F' b o n1 n2 e => F'.keep b o (k1 b o n1 n2 e)
  have hLD := LObj.of (List.replicate k (Value.int 0 s.toks)) 0
  refine wpAny_execs_cons (wpAny_mono (Q := fun fl s' => fl = .next ∧ ∃ h' tk vs oD, s' = { s with heap := h', toks := tk } ∧ KeepT s.heap h' ∧ Tabs h' ∧ h'.get? D = some oD ∧ LObj oD vs ∧ IntsAre vs (digs a n k) ∧ h'.IsCell (L + 2) (some (.ref D))) ?_ ?_ fun _ _ q => q)
  · refine wpAny_If <| wpAny_isTrue_value <| lname F₆ rfl <| truthy_int ?_
    by_cases ha0 : a = 0
    · refine ite_neg (by rw [ha0]; decide) <| wpAny_execs_nil ?_
      have hk0 : k = 0 := by
        rw [← hk, ha0]
        show (0 + n - 1) / n = 0
        rw [Nat.div_eq_zero_iff]; right; (first | lia | omega)
      subst hk0
      exact ⟨rfl, h₆, _, [], _, rfl, kfin F₆, F₆.tab, F₆.get (.tail _ (.head _)), .of [] 0, .nil, ⟨_, F₆.get (.tail _ (.tail _ (.tail _ (.head _)))), d2'⟩⟩
    · refine ite_pos (by simp; (first | lia | omega)) ?_
      have mf : ∀ {x : Addr × Obj}, x ∈ [(f, fnMade "inner" "_int2digits.<locals>.inner" (stParams (inStmt 9)) (stBody (inStmt 9)) (stScope (inStmt 9)) [("n", L + 1), ("inner", L + 3), ("a_digits", L + 2)] doc pm c' ctv), (L + 3, o3'), (L + 2, o2'), (L + 1, o1)] → x.1 ≠ D → (hideAll h₆ [D]).get? x.1 = some x.2 := by
        intro x hx hne
        refine hideAll_get _ (F₆.get ?_) (by simpa using hne)
        rcases List.mem_cons.mp hx with rfl | hx
        · exact .head _
        · exact .tail _ (.tail _ hx)
      have hD6 := F₆.get (.tail _ (.head _))
      have cl1 : h₆.IsCell (L + 1) (some (.int n u)) := ⟨_, F₆.get (.tail _ (.tail _ (.tail _ (.tail _ (.head _))))), d1⟩
      have cl2 : h₆.IsCell (L + 2) (some (.ref D)) := ⟨_, F₆.get (.tail _ (.tail _ (.tail _ (.head _)))), d2'⟩
      have cl3 : h₆.IsCell (L + 3) (some (.ref f)) := ⟨_, F₆.get (.tail _ (.tail _ (.head _))), d3'⟩
      have hfD : f ≠ D := by
        intro z
        have e1 := F₆.get (.head _)
        rw [z, hD6] at e1
        have z2 : Value.type "list" = Value.type "function" := congrArg Obj.cls (Option.some.inj e1)
        exact absurd z2 (by decide)
      have G1 : In1 9 "_int2digits.<locals>.inner" (hideAll h₆ [D]) f c' (L + 1) (L + 3) (L + 2) "a_digits" D n := by
        refine ⟨⟨doc, pm, ctv, _, mf (.head _) hfD, rfl⟩, ?_, ⟨u, _, mf (.tail _ (.tail _ (.tail _ (.head _)))) (cell_ne_list cl1 hD6 (.of _ _)), d1⟩, ⟨_, mf (.tail _ (.head _)) (cell_ne_list cl3 hD6 (.of _ _)), d3'⟩, ⟨_, mf (.tail _ (.tail _ (.head _))) (cell_ne_list cl2 hD6 (.of _ _)), d2'⟩, ?_⟩
        · obtain ⟨c1, o, vs, tt, e, gg, d, r⟩ := cr6
          refine ⟨c1, o, vs, tt, e, hideAll_get _ gg ?_, d, r⟩
          intro z
          rw [List.mem_singleton.mp z, hD6] at gg; cases gg
          cases d
        · obtain ⟨mc, ⟨o, es, ep, e, d, r⟩, q⟩ := (F₆.stat Sg).st.nolimit
          refine ⟨mc, ⟨o, es, ep, hideAll_get _ e ?_, d, r⟩, q⟩
          intro z
          rw [List.mem_singleton.mp z, hD6] at e; cases e
          cases d
      have fa : FnAt f h₆ := ⟨_, _, _, _, F₆.get (.head _)⟩
      refine wpAny_execs_cons <| wpAny_Expr_any <| wpAny_Call_NameR <| wpAny_Name <| wpAny_loadName_cell rfl rfl rfl cl3 <| callWith_F (first := []) fa <| args_cons <| lname F₆ rfl <| args_cons <| wpAny_Constant_int <| args_cons <| callB (F₆.stat Sg) rfl rfl <| args_cons <| cname F₆ (.tail _ (.tail _ (.tail _ (.head _)))) d2' <| args_nil <| len_list (F₆.isList (.tail _ (.head _))) (by simp; (first | lia | omega)) <| args_nil ⟨fa, ?_⟩
      dsimp only
      have hB : Builtin.Int.intBits (a : Int) < n * (k + 1) - n + 1 := by
        have h1 : (Builtin.Int.intBits (a : Int) + n - 1) / n < k + 1 := by (first | lia | omega)
        rw [Nat.div_lt_iff_lt_mul hn0, Nat.mul_comm] at h1
        (first | lia | omega)
      have hB' : Builtin.Int.intBits (a : Int) ≤ n * k := by
        rw [Nat.mul_add, Nat.mul_one] at hB; (first | lia | omega)
      have hk1 : 0 < k := by
        rcases Nat.eq_zero_or_pos k with q | q
        · subst q
          have := bits_ge (a := a) (k := 0) (by simp; (first | lia | omega))
          (first | lia | omega)
        · exact q
      have hax : a < 2 ^ (n * k) := by
        refine Classical.byContradiction fun q => ?_
        have := bits_ge q
        (first | lia | omega)
      have hsz : ((List.replicate k (Value.int 0 s.toks)).toArray.size : Int) = (k : Int) := by simp
      have hsz2 : ∀ v : Value, ((List.replicate k v).toArray.size : Int) = ((k : Nat) : Int) := fun v => by simp
      rw [hsz2]
      refine inner1_ok G1 (hideAll_none _ (.head _)) hn k _ _ _ _ 0 k a _ _ _ _ _ (by (first | lia | omega)) hk1 hk64 (by simpa using hax) (by simp) (by simp; (first | lia | omega)) (fun b o e => of_hideAll _ e) F₆.tab hD6 (.of _ _) (by show A.depth + 1 + k < _; (first | lia | omega)) ?_
      intro h₇ tk7 vs7 oD7 kb7 T7 hD7 hO7 fill7
      have F₇ := F₆.upd 1 rfl kb7 hD7 (.seq rfl)
      refine wpAny_execs_nil ⟨rfl, h₇, _, vs7, oD7, rfl, kfin F₇, T7, hD7, hO7, filled_digs (by simp) fill7, ⟨_, F₇.get (.tail _ (.tail _ (.tail _ (.head _)))), d2'⟩⟩
  rintro fl s' ⟨rfl, h₇, tk7, vs7, oD7, rfl, k7, T7, e7, l7, i7, c7⟩
  dsimp only
  refine wpAny_execs_cons <| wpAny_Return_some <| wpAny_Name <| wpAny_loadName_cell rfl rfl rfl c7 ?_
  exact hQ h₇ tk7 D vs7 oD7 k7 T7 nDs e7 l7 i7
end Mine

/-! N5 -/
set_option maxRecDepth 100000
set_option maxHeartbeats 2000000
namespace Mine
variable {prog : Program} {w : World} {A : Around} {E : Value → Shared → Prop} {s : Shared} {Q : Value → Shared → Prop}

def dval (n : Nat) : List Nat → Nat
  | [] => 0
  | d :: r => d + 2 ^ n * dval n r
theorem dval_append (n : Nat) : ∀ xs ys : List Nat, dval n (xs ++ ys) = dval n xs + 2 ^ (n * xs.length) * dval n ys
  | [], ys => by simp [dval]
  | d :: r, ys => by
    show d + 2 ^ n * dval n (r ++ ys) = (d + 2 ^ n * dval n r) + 2 ^ (n * (r.length + 1)) * dval n ys
    rw [dval_append n r ys, Nat.mul_add, Nat.mul_add, Nat.mul_one, Nat.add_comm (n * r.length) n, Nat.pow_add, Nat.mul_assoc]
    (first | lia | omega)
theorem dval_lt (n : Nat) : ∀ xs : List Nat, (∀ d ∈ xs, d < 2 ^ n) → dval n xs < 2 ^ (n * xs.length)
  | [], _ => by simp [dval]
  | d :: r, h => by
    have ih := dval_lt n r fun x hx => h x (.tail _ hx)
    have hd := h d (.head _)
    show d + 2 ^ n * dval n r < 2 ^ (n * (r.length + 1))
    rw [Nat.mul_add, Nat.mul_one, Nat.add_comm, Nat.pow_add, Nat.mul_comm (2 ^ (n * r.length))]
    have : 2 ^ n * (dval n r + 1) ≤ 2 ^ n * 2 ^ (n * r.length) := Nat.mul_le_mul_left _ ih
    rw [Nat.mul_add, Nat.mul_one] at this
    (first | lia | omega)
def slice (ds : List Nat) (l r : Nat) : List Nat := (ds.drop l).take (r - l)
theorem slice_join {ds : List Nat} {l m r : Nat} (h1 : l ≤ m) (h2 : m ≤ r) : slice ds l r = slice ds l m ++ slice ds m r := by
  unfold slice
  have e : r - l = (m - l) + (r - m) := by (first | lia | omega)
  rw [e, List.take_add, List.drop_drop]
  congr 3
  (first | lia | omega)
theorem slice_len {ds : List Nat} {l r : Nat} (h : r ≤ ds.length) : (slice ds l r).length = r - l := by
  unfold slice; simp; (first | lia | omega)
theorem slice_mem {ds : List Nat} {l r d : Nat} (h : d ∈ slice ds l r) : d ∈ ds := List.mem_of_mem_drop (List.mem_of_mem_take h)

section
variable {i : Nat} {q : Str} {G : Heap} {f c' cn ci cd D : Addr} {d : Str} {n : Nat}
theorem enterIP {args : List Value} {binds : List (Str × Value)} (I : In1 i q s.heap f c' cn ci cd d D n) (T : Tabs s.heap) (hroom : A.depth < recursionLimit)
    (hbind : ∀ doc pm ctv, bindArgs (fnX "inner" q (stParams (inStmt i)) (stBody (inStmt i)) (stScope (inStmt i)) [("n", cn), ("inner", ci), (d, cd)] .none .none doc pm none (.ref c') ctv) ⟨args, []⟩ = pure binds)
    (h : ∀ L h₁, Fm s.heap L h₁ (fun y => binds.reverse.lookup y) [] →
      wpAny (model prog w) (A.deeper (envI i q f c' [("n", cn), ("inner", ci), (d, cd)] L)) (execs (stBody (inStmt i)) (envI i q f c' [("n", cn), ("inner", ci), (d, cd)] L)) (fun fl s' => Q (retOf fl) s') (fun _ _ => False) { s with heap := h₁, toks := s.toks + binds.length })
    (hcell : ∀ x ∈ (stScope (inStmt i)).names, x.2 ≠ .cell) (hloc : ∀ x ∈ binds, (stScope (inStmt i)).names.lookup x.1 = some .local)
    (hco : (stScope (inStmt i)).isCoroutine = false) (hgen : (stScope (inStmt i)).isGenerator = false) (hk : (stScope (inStmt i)).kind = .function) :
    wpAny (model prog w) A (call (.ref f) args) Q E s := by
  obtain ⟨doc, pm, ctv, o, ho, hd⟩ := I.fn
  refine wpAny_call (codeAny_call_def (body := stBody (inStmt i)) (binds := binds) hroom ho hd I.nolimit I.code rfl (.of_eq (hbind doc pm ctv)) hcell hloc (fun h₀ hns hk₀ => ?_) hco hgen hk)
  refine wpAny_mono (h s.heap.objs.size h₀ (Fm.startP s.heap hk₀ hns (get_size_none _) T)) (fun fl s' q => ?_) fun _ _ q => q.elim
  cases fl <;> exact q
end

theorem inner2_ok {f c' cn ci cd D : Addr} {n : Nat} {vs : List Value} {ds : List Nat} (hn : n ≤ 7000) (hvs : IntsAre vs (ds.map fun d : Nat => (d : Int))) (hds : ∀ d ∈ ds, d < 2 ^ n) (h64 : ds.length ≤ 64) :
    ∀ (len : Nat) (A : Around) (s : Shared) (Q : Value → Shared → Prop) (E : Value → Shared → Prop) (l r : Nat) (t2 t3 : Tok), r - l = len → l < r → r ≤ ds.length →
      In1 10 "_digits2int.<locals>.inner" s.heap f c' cn ci cd "digits" D n → Tabs s.heap → s.heap.IsList D vs.toArray → A.depth + len < recursionLimit →
      (∀ h' tk t, Kept s h' → Q (.int ((dval n (slice ds l r) : Nat) : Int) t) { s with heap := h', toks := tk }) →
      wpAny (model prog w) A (call (.ref f) [.int l t2, .int r t3]) Q E s := by
  intro len
  induction len using Nat.strongRecOn with
  | ind len ih =>
  intro A s Q E l r t2 t3 hlen hlr hr I T hD hroom hQ
  obtain ⟨tn, hnum⟩ := I.num
  refine enterIP (binds := [("L", .int l t2), ("R", .int r t3)]) I T (by (first | lia | omega)) (fun _ _ _ => rfl) (fun L h₁ F => ?_) (by decide) (by exact locs rfl) rfl rfl rfl
  refine wpAny_execs_cons <| wpAny_If <| wpAny_isTrue_Compare1 <| wpAny_BinOp <| lname F rfl <| wpAny_Constant_int <| add_int <| lname F rfl <| eq_int <| wpAny_truthy_bool ?_
  dsimp only
  by_cases h1 : l + 1 = r
  · refine ite_pos (by rw [beq_iff_eq]; (first | lia | omega)) ?_
    have hl : l < ds.length := by (first | lia | omega)
    obtain ⟨tv, hv⟩ := hvs.get l (ds[l] : Int) (by simp [hl])
    refine wpAny_execs_cons <| wpAny_Return_some <| Subscript_ <| fname (I.dig.keeps F.keep) <| lname F rfl <| item_listL (stays_list F.keep hD) (by (first | lia | omega)) (by (first | lia | omega)) (by simpa using hv) ?_
    have := hQ h₁ (s.toks + 2 + 1 + 1) tv F.keep
    have e : dval n (slice ds l r) = ds[l] := by
      unfold slice
      rw [show r - l = 1 by (first | lia | omega), List.drop_eq_getElem_cons hl, List.take_succ_cons, List.take_zero]
      show ds[l] + 2 ^ n * 0 = ds[l]
      (first | lia | omega)
    rw [e] at this
    exact this
  · refine ite_neg (by simpa using fun q => h1 (by (first | lia | omega))) (wpAny_execs_nil ?_)
    obtain ⟨m, hm⟩ : ∃ m, m = (l + r) / 2 := ⟨_, rfl⟩
    have hm1 : l < m := by (first | lia | omega)
    have hm2 : m < r := by (first | lia | omega)
    have emid : (l + r) / 2 ^ 1 = m := by rw [hm]
    clear hm
    refine wpAny_execs_cons <| wpAny_Assign_Name <| wpAny_BinOp <| wpAny_BinOp <| lname F rfl <| lname F rfl <| add_int <| wpAny_Constant_int ?_
    dsimp only
    have esum : ((l : Int) + (r : Int)) = ((l + r : Nat) : Int) := by push_cast; rfl
    rw [esum]
    refine rshiftN (n := 1) <| lstore F fun h₂ F₂ => ?_
    dsimp only
    rw [emid] at F₂
    refine wpAny_execs_cons <| wpAny_Assign_Name <| wpAny_BinOp <| wpAny_BinOp <| lname F₂ rfl <| lname F₂ rfl <| sub_int' <| fname (hnum.keeps F₂.keep) <| mul_int (hm := .of_right (bits_lti (k := 64) (by simp; (first | lia | omega)))) <| lstore F₂ fun h₃ F₃ => ?_
    dsimp only
    have eshift : ((m : Int) - (l : Int)) * (n : Int) = (((m - l) * n : Nat) : Int) := by
      push_cast
      rw [Int.ofNat_sub (by (first | lia | omega))]
    rw [eshift] at F₃
    have I₃ := I.keeps F₃.keep
    have hlt1 := dval_lt n (slice ds m r) fun d hd => hds d (slice_mem hd)
    rw [slice_len hr] at hlt1
    have hbig : n * (r - m) ≤ 448000 := by
      calc n * (r - m) ≤ 7000 * 64 := Nat.mul_le_mul hn (by (first | lia | omega))
        _ = 448000 := rfl
    have hbig2 : (m - l) * n ≤ 448000 := by
      calc (m - l) * n ≤ 64 * 7000 := Nat.mul_le_mul (by (first | lia | omega)) hn
        _ = 448000 := rfl
    refine wpAny_execs_cons <| wpAny_Return_some <| wpAny_BinOp <| wpAny_BinOp <| callI I₃.self I₃.fnAt <| args_cons <| lname F₃ rfl <| args_cons <| lname F₃ rfl <| args_nil ⟨I₃.fnAt, ?_⟩
    dsimp only
    refine ih (r - m) (by (first | lia | omega)) _ _ _ _ m r _ _ rfl hm2 hr I₃ F₃.tab (stays_list F₃.keep hD) (by show A.depth + 1 + _ < _; (first | lia | omega)) ?_
    intro h₄ tk4 t4 k4
    have F₄ := F₃.grow k4
    have I₄ := I.keeps F₄.keep
    dsimp only
    refine lname F₄ rfl <| lshiftN hlt1 (by (first | lia | omega)) <| callI I₄.self I₄.fnAt <| args_cons <| lname F₄ rfl <| args_cons <| lname F₄ rfl <| args_nil ⟨I₄.fnAt, ?_⟩
    dsimp only
    refine ih (m - l) (by (first | lia | omega)) _ _ _ _ l m _ _ rfl hm1 (by (first | lia | omega)) I₄ F₄.tab (stays_list F₄.keep hD) (by show A.depth + 1 + _ < _; (first | lia | omega)) ?_
    intro h₅ tk5 t5 k5
    have F₅ := F₄.grow k5
    dsimp only
    refine add_int ?_
    have := hQ h₅ (tk5 + 1) tk5 F₅.keep
    have e : (((dval n (slice ds m r) * 2 ^ ((m - l) * n) : Nat) : Int) + ((dval n (slice ds l m) : Nat) : Int)) = ((dval n (slice ds l r) : Nat) : Int) := by
      rw [slice_join (ds := ds) (l := l) (m := m) (r := r) (by (first | lia | omega)) (by (first | lia | omega)), dval_append, slice_len (by (first | lia | omega)), Nat.mul_comm n (m - l)]
      push_cast
      rw [Int.mul_comm]; (first | lia | omega)
    rw [← e] at this
    exact this
end Mine

/-! N6 -/
set_option maxRecDepth 100000
set_option maxHeartbeats 2000000
namespace Mine
variable {prog : Program} {w : World} {A : Around} {E : Value → Shared → Prop} {s : Shared} {Q : Value → Shared → Prop}

theorem slice_all (ds : List Nat) : slice ds 0 ds.length = ds := by simp [slice]

theorem digits2int_ok {n : Nat} {u : Tok} {D : Addr} {vs : List Value} {ds : List Nat} (S : Stat s.heap) (T : Tabs s.heap) (hroom : A.depth + 70 < recursionLimit) (hh : A.handled = none) (hn : n ≤ 7000)
    (hD : s.heap.IsList D vs.toArray) (hvs : IntsAre vs (ds.map fun d : Nat => (d : Int))) (hds : ∀ d ∈ ds, d < 2 ^ n) (h64 : ds.length ≤ 64)
    (hQ : ∀ h' tk t, KeepT s.heap h' → Tabs h' → Q (.int ((dval n ds : Nat) : Int) t) { s with heap := h', toks := tk }) :
    wpAny (model prog w) A (call (.ref 63) [.ref D, .int n u]) Q E s := by
  have hhd : ∀ e, (A.deeper e).handled = none := fun _ => hh
  have hlen : vs.length = ds.length := by simpa using hvs.length
  have hDT : ∀ h', KeepT s.heap h' → h'.IsList D vs.toArray := by
    intro h' k
    obtain ⟨o, e, d⟩ := hD
    refine ⟨o, k D o ?_ ?_ e, d⟩
    · exact let ⟨_, e', _⟩ := T.2; list_ne_tab d e e'
    · exact let ⟨_, e', _⟩ := T.1; list_ne_tab d e e'
  refine enterC (i := 10) (binds := [("digits", .ref D), ("n", .int n u)]) S T (by decide) (by (first | lia | omega)) (fun _ _ => rfl) (fun g L h₁ tk oc F Sg Hg k1 k2 k3 hc => ?_) (hnd := fun n => (by decide : ([Str.ofString "inner", Str.ofString "n", Str.ofString "digits"] : List Str).Nodup))
  replace F : Fm g L h₁ (fun y => none) [(L + 3, oc (L + 3)), (L + 2, oc (L + 2)), (L + 1, oc (L + 1))] := F
  have d1 : (oc (L + 1)).data = .cell (some (.ref D)) := hc "digits" (L + 1) (.tail _ (.tail _ (.head _)))
  have d2 : (oc (L + 2)).data = .cell (some (.int n u)) := hc "n" (L + 2) (.tail _ (.head _))
  have d3 : (oc (L + 3)).data = .cell none := hc "inner" (L + 3) (.head _)
  clear hc
  generalize oc (L + 1) = o1 at F d1
  generalize oc (L + 2) = o2 at F d2
  generalize oc (L + 3) = o3 at F d3
  have eq : qualnameIn (envC 10 63 L) "inner" "inner" = "_digits2int.<locals>.inner" := rfl
  refine wpAny_execs_cons <| nestDef_K rfl rfl rfl ?_
  refine mkInner10 (clos := [("n", L + 2), ("inner", L + 3), ("digits", L + 1)]) (F.stat Sg) F.tab rfl rfl rfl ?_
  intro f c' doc pm ctv H tkH kH TH nf ef cr
  have F₅ := F.callAdd Hg kH TH nf ef
  dsimp only
  refine cstoreK F₅ 1 rfl d3 fun h₆ o3' d3' F₆ kc => ?_
  replace F₆ : Fm g L h₆ (fun y => none) [(f, fnMade "inner" "_digits2int.<locals>.inner" (stParams (inStmt 10)) (stBody (inStmt 10)) (stScope (inStmt 10)) [("n", L + 2), ("inner", L + 3), ("digits", L + 1)] doc pm c' ctv),
    (L + 3, o3'), (L + 2, o2), (L + 1, o1)] := F₆
  dsimp only
  have cr6 : h₆.CodeRec (.ref c') "_digits2int.<locals>.inner" := codeRec_cell cr (F₅.get (.tail _ (.head _))) d3 kc
  have kfin : ∀ {h' : Heap} {m : Str → Option Value} {own : List (Addr × Obj)}, Fm g L h' m own → KeepT s.heap h' := fun F' b o n1 n2 e => F'.keep b o (k1 b o n1 n2 e)
  have D6 := hDT h₆ (kfin F₆)
  have cl1 : h₆.IsCell (L + 1) (some (.ref D)) := ⟨_, F₆.get (.tail _ (.tail _ (.tail _ (.head _)))), d1⟩
  have cl2 : h₆.IsCell (L + 2) (some (.int n u)) := ⟨_, F₆.get (.tail _ (.tail _ (.head _))), d2⟩
  have cl3 : h₆.IsCell (L + 3) (some (.ref f)) := ⟨_, F₆.get (.tail _ (.head _)), d3'⟩
  have fa : FnAt f h₆ := ⟨_, _, _, _, F₆.get (.head _)⟩
  have G1 : In1 10 "_digits2int.<locals>.inner" h₆ f c' (L + 2) (L + 3) (L + 1) "digits" D n := by
    refine ⟨⟨doc, pm, ctv, _, F₆.get (.head _), rfl⟩, cr6, ⟨u, cl2⟩, cl3, cl1, (F₆.stat Sg).st.nolimit⟩
  refine wpAny_execs_cons <| wpAny_Return_some <| wpAny_IfExp <| wpAny_isTrue_value <| wpAny_Name <| wpAny_loadName_cell rfl rfl rfl cl1 <| wpAny_truthy_list D6 (by simp; (first | lia | omega)) ?_
  dsimp only
  by_cases h0 : ds.length = 0
  · have e0 : ds = [] := List.length_eq_zero_iff.mp h0
    refine ite_neg (by simp; exact List.length_eq_zero_iff.mp (by (first | lia | omega))) <| wpAny_Constant_int ?_
    subst e0
    exact hQ _ _ _ (kfin F₆) F₆.tab
  · refine ite_pos (by simp; intro z; rw [z] at hlen; exact h0 hlen.symm) ?_
    refine wpAny_Call_NameR <| wpAny_Name <| wpAny_loadName_cell rfl rfl rfl cl3 <| callWith_F (first := []) fa <| args_cons <| wpAny_Constant_int <| args_cons <| callB (F₆.stat Sg) rfl rfl <| args_cons <| wpAny_Name <| wpAny_loadName_cell rfl rfl rfl cl1 <| args_nil <| len_list D6 (by simp; (first | lia | omega)) <| args_nil ⟨fa, ?_⟩
    dsimp only
    have hsz : (vs.toArray.size : Int) = ((ds.length : Nat) : Int) := by simp [hlen]
    rw [hsz]
    refine inner2_ok hn hvs hds h64 ds.length _ _ _ _ 0 ds.length _ _ (by (first | lia | omega)) (by (first | lia | omega)) (Nat.le_refl _) G1 F₆.tab D6 (by show A.depth + 1 + _ < _; (first | lia | omega)) ?_
    intro h' tk' t' k'
    rw [slice_all]
    have F₇ := F₆.grow k'
    exact hQ h' tk' t' (kfin F₇) F₇.tab
end Mine

/-! P1 -/
set_option maxRecDepth 100000
set_option maxHeartbeats 2000000
namespace Mine
variable {prog : Program} {w : World} {A : Around} {E : Value → Shared → Prop} {s : Shared} {Q : Value → Shared → Prop}

section
variable {g : Heap} {L : Addr} {m : Str → Option Value} {own : List (Addr × Obj)}
theorem reverseC {D : Addr} {vs : List Value} {n : Nat} {Q : Value → Shared → Prop} (F : Fm g L s.heap m own) (i : Nat) (hi : own[i]? = some (D, listOf vs.toArray n)) (hsz : vs.length ≤ 1000)
    (h : ∀ h', Fm g L h' m (own.set i (D, listOf vs.reverse.toArray n)) → Q .none { s with heap := h' }) : wpAny (model prog w) A (call (.builtin "list.reverse") [.ref D]) Q E s := by
  have z := F.get (List.mem_of_getElem? hi)
  refine call_meets PySem.F.slot_list_reverse ⟨_, z, rfl⟩ PySem.F.entry_list_reverse (PySem.F.args_list_reverse_1 _) (PySem.AutoSeq1.list_reverse_list_0 D vs.toArray n (szl (by rw [List.size_toArray]; (first | lia | omega)))) ⟨z, h _ (F.upd i hi (fun b ob hb e => (Heap.SameBut.update ..).extBut b ob hb e) ?_ (.seq rfl))⟩
  have q := PySem.IsL.update z (fun x => x.reverse)
  rw [if_pos (by simp)] at q
  rw [q]
  simp [PySem.W.listOf]
theorem methRev {D : Addr} {vs : List Value} {n : Nat} {pl : Sem Bool} {Q : Value × List Value → Shared → Prop} (hD : s.heap.get? D = some (listOf vs.toArray n))
    (h : Q (.builtin "list.reverse", [.ref D]) s) : wpAny (model prog w) A (getMethod (.ref D) "reverse" pl) Q E s :=
  getMethod_builtin ⟨_, hD, rfl⟩ PySem.F.plainAttrs_list PySem.F.slot_list_reverse PySem.F.type_list_reverse (fun a e => by cases e; exact ⟨_, hD, rfl⟩) h
end

/-- two numbers in a new tuple, the tables may have turned -/
def PairT (s : Shared) (Q : Value → Shared → Prop) (x y : Int) : Prop :=
  ∀ h' tk c t1 t2, KeepT s.heap h' → Tabs h' → s.heap.get? c = none → h'.get? c = some (tupOf [.int x t1, .int y t2]) → Q (.ref c) { s with heap := h', toks := tk }

theorem live_rev {I l : Addr} {items : Array Value} : ∀ (i : Nat) (h : Heap), (i ≤ items.size ∧ h.IsRevIter I l ((items.size : Int) - 1 - (i : Int)) ∧ h.IsList l items) → ∃ o, h.get? I = some o ∧ NotCode o := by
  rintro i h ⟨_, ⟨o, e, _, d⟩, _⟩
  exact ⟨o, e, .int d rfl⟩

/-- one step of the long division -/
theorem step_math {X d b P : Nat} (hb : 0 < b) : (X * P + d) / b = (X % b * P + d) / b + P * (X / b) ∧ (X * P + d) % b = (X % b * P + d) % b := by
  have e : X * P + d = (X % b * P + d) + b * (P * (X / b)) := by
    have h := Nat.div_add_mod X b
    calc X * P + d = (b * (X / b) + X % b) * P + d := by rw [h]
      _ = _ := by rw [Nat.add_mul, Nat.mul_assoc, Nat.mul_comm (X / b) P]; (first | lia | omega)
  rw [e, Nat.add_mul_div_left _ _ hb, Nat.add_mul_mod_self_left]
  exact ⟨rfl, rfl⟩

def digN (a n k : Nat) : List Nat := (List.range k).map fun j => a / 2 ^ (n * j) % 2 ^ n
theorem digs_eq (a n k : Nat) : digs a n k = (digN a n k).map fun d : Nat => (d : Int) := by
  unfold digs digN
  rw [List.map_map]; rfl
theorem div_step (a n i : Nat) : a / 2 ^ (n * i) = a / 2 ^ (n * (i + 1)) * 2 ^ n + a / 2 ^ (n * i) % 2 ^ n := by
  have : 2 ^ (n * (i + 1)) = 2 ^ (n * i) * 2 ^ n := by rw [Nat.mul_add, Nat.mul_one, Nat.pow_add]
  rw [this, ← Nat.div_div_eq_div_mul]
  exact (Nat.div_add_mod' _ _).symm

theorem divmod_pos_ok {a b : Nat} {t u : Tok} (S : Stat s.heap) (T : Tabs s.heap) (hroom : A.depth + 75 < recursionLimit) (hh : A.handled = none) (hb : 0 < b) (hbits : Builtin.Int.intBits (b : Int) ≤ 7000)
    (ha : a < 2 ^ (Builtin.Int.intBits (b : Int) * 64)) (hQ : PairT s Q ((a / b : Nat) : Int) ((a % b : Nat) : Int)) :
    wpAny (model prog w) A (call (.ref 70) [.int a t, .int b u]) Q E s := by
  have hhd : ∀ e, (A.deeper e).handled = none := fun _ => hh
  have hpow : b < 2 ^ Builtin.Int.intBits (b : Int) ∧ 2 ^ Builtin.Int.intBits (b : Int) ≤ 2 * b := by
    have e : Builtin.Int.intBits (b : Int) = Nat.log2 b + 1 := by
      unfold Builtin.Int.intBits
      rw [if_neg (by simp; (first | lia | omega))]; rfl
    rw [e]
    refine ⟨Nat.lt_log2_self, ?_⟩
    rw [Nat.pow_succ, Nat.mul_comm]
    exact Nat.mul_le_mul_left _ (Nat.log2_self_le (by (first | lia | omega)))
  obtain ⟨n, hn⟩ : ∃ n, Builtin.Int.intBits (b : Int) = n := ⟨_, rfl⟩
  rw [hn] at hpow hbits ha
  obtain ⟨hb2, hb1⟩ := hpow
  have hn0 : 0 < n := by
    rcases Nat.eq_zero_or_pos n with z | z
    · subst z; simp at hb2; (first | lia | omega)
    · exact z
  refine enterF (i := 11) (binds := [("a", .int a t), ("b", .int b u)]) S T (by decide) (by (first | lia | omega)) (fun _ _ => rfl) (fun g L h₁ F Sg Hg k1 k2 => ?_)
  have kfin : ∀ {g' h' : Heap} {m : Str → Option Value} {own : List (Addr × Obj)}, (∀ b o, g.get? b = some o → g'.get? b = some o) → Fm g' L h' m own → KeepT s.heap h' := fun kg F' b o n1 n2 e => F'.keep b o (kg b o (k1 b o n1 n2 e))
  refine wpAny_execs_cons <| wpAny_Assign_Name <| MethodCall_ ?_
  refine lname F rfl <| getMethod_int_bit_length <| callWith_method0 <| call_int_bit_length ?_
  rw [hn]
  refine lstore F fun h₂ F₂ => ?_
  dsimp only
  refine wpAny_execs_cons <| wpAny_Assign_Name <| callF (i := 9) (F₂.stat Sg) rfl (by decide) <| args_cons <| lname F₂ rfl <| args_cons <| lname F₂ rfl <| args_nil ⟨F₂.stat Sg, ?_⟩
  dsimp only
  refine int2digits_ok (F₂.stat Sg) F₂.tab (by show A.depth + 1 + 70 < _; (first | lia | omega)) (hhd _) hn0 hbits ha ?_
  intro h₃ tk3 D vs oD k3 T3 nD eD lD iD
  have F₃ := F₂.callAdd Hg k3 T3 nD eD
  dsimp only
  have hk64 : (Builtin.Int.intBits (a : Int) + n - 1) / n ≤ 64 := by
    have h1 := bits_lt ha
    have : (Builtin.Int.intBits (a : Int) + n - 1) / n < 65 := by
      rw [Nat.div_lt_iff_lt_mul hn0]
      have : 65 * n = n * 64 + n := by (first | lia | omega)
      (first | lia | omega)
    (first | lia | omega)
  have hak : a < 2 ^ (n * ((Builtin.Int.intBits (a : Int) + n - 1) / n)) := by
    refine Classical.byContradiction fun q => ?_
    have := bits_ge q
    have h1 : (Builtin.Int.intBits (a : Int) + n - 1) / n < (Builtin.Int.intBits (a : Int) + n - 1) / n + 1 := by (first | lia | omega)
    rw [Nat.div_lt_iff_lt_mul hn0, Nat.add_mul, Nat.one_mul, Nat.mul_comm] at h1
    (first | lia | omega)
  generalize (Builtin.Int.intBits (a : Int) + n - 1) / n = k at iD hk64 hak
  have hlen : vs.length = k := by rw [iD.length]; simp [digs]
  refine lstore F₃ fun h₄ F₄ => ?_
  dsimp only
  obtain ⟨g', F₅, Hg', kg, gD⟩ := F₄.rebase Hg [] (List.nil_sublist _)
  have eDg := gD _ (.head _) (by simp)
  have Sg' : Stat g' := Sg.keeps kg
  have LD : ∀ {h : Heap} {m' : Str → Option Value} {own' : List (Addr × Obj)}, Fm g' L h m' own' → h.IsList D vs.toArray := fun F => lD.is (F.keep _ _ eDg)
  refine wpAny_execs_cons <| wpAny_Assign_Name <| wpAny_Constant_int <| lstore F₅ fun h₆ F₆ => ?_
  refine wpAny_execs_cons <| wpAny_Assign_Name <| List_ <| args_nil <| newLst F₆ (by exact Nat.le_of_ble_eq_true rfl) fun W h₇ nW F₇ => ?_
  refine lstore F₇ fun h₈ F₈ => ?_
  dsimp only
  refine wpAny_execs_cons <| wpAny_For <| callT (F₈.stat Sg') rfl rfl <| args_cons <| lname F₈ rfl <| args_nil <| call_reversed_list (LD F₈) ?_
  have F₉ := F₈.push (revObj D ((vs.toArray.size : Int) - 1))
  have nI : g'.get? h₈.objs.size = none := (F₉.has _ (.head _)).2.1
  have hne : D ≠ h₈.objs.size := by
    intro z; rw [z, nI] at eDg; cases eDg
  have hsz : vs.toArray.size = k := by rw [List.size_toArray, hlen]
  refine wpAny_pyIter_revIter (l := D) (i := (vs.toArray.size : Int) - 1) ⟨_, Heap.get?_push_size _ rfl, rfl, rfl⟩ ?_
  dsimp only
  refine forW (Walks.listRev (hhd _) h₈.objs.size D hne vs.toArray) live_rev F₉ ⟨Nat.zero_le _, ⟨_, F₉.get (.head _), rfl, by simp [revObj]⟩, LD F₉⟩ (fun b hb hbn => ?_)
    (fun i m own => ∃ (qs : List Nat) (ws : List Value) (c : Nat), own = [(W, listOf ws.toArray c)] ∧ IntsAre ws (qs.map fun d : Nat => (d : Int)) ∧ (∀ q ∈ qs, q < 2 ^ n) ∧ qs.length = i ∧ i ≤ k ∧
      dval n qs.reverse = a / 2 ^ (n * (k - i)) / b ∧ (∃ tr, m "r" = some (.int (a / 2 ^ (n * (k - i)) % b : Nat) tr)) ∧ (∃ tn, m "n" = some (.int n tn)) ∧ m "b" = some (.int b u) ∧ m "q_digits" = some (.ref W))
    ⟨[], [], 0, rfl, .nil, by simp, rfl, Nat.zero_le _, ?_, ⟨_, ieq ?_⟩, ⟨_, rfl⟩, rfl, rfl⟩ ?_ ?_
  · rcases List.mem_cons.mp hb with z | z
    · exact absurd z hbn
    · rw [List.mem_singleton.mp z]; exact ⟨_, eDg⟩
  · rw [Nat.sub_zero, Nat.div_eq_of_lt hak, Nat.zero_div]; rfl
  · rw [Nat.sub_zero, Nat.div_eq_of_lt hak, Nat.zero_mod]; rfl
  · rintro i v m₁ own₁ oI h₁₀ tk10 hi hv ⟨qs, ws, c, rfl, hws, hlt, hql, hik, hdv, ⟨tr, mr⟩, ⟨tn, mn⟩, mb, mq⟩ F₁₀
    rw [hsz] at hi hv
    have hj : k - 1 - i < k := by (first | lia | omega)
    obtain ⟨td, hd⟩ := iD.get (k - 1 - i) ((a / 2 ^ (n * (k - 1 - i)) % 2 ^ n : Nat) : Int) (by simp [digs, hj])
    have hv' : v = .int ((a / 2 ^ (n * (k - 1 - i)) % 2 ^ n : Nat) : Int) td := by
      rw [List.getElem?_toArray, hd] at hv; exact (Option.some.inj hv).symm
    subst hv'
    obtain ⟨X, hX⟩ : ∃ X, X = a / 2 ^ (n * (k - i)) := ⟨_, rfl⟩
    obtain ⟨d, hdd⟩ : ∃ d, d = a / 2 ^ (n * (k - 1 - i)) % 2 ^ n := ⟨_, rfl⟩
    have hXd : a / 2 ^ (n * (k - (i + 1))) = X * 2 ^ n + d := by
      have := div_step a n (k - 1 - i)
      rw [show k - 1 - i + 1 = k - i by (first | lia | omega), ← hX, ← hdd] at this
      rw [show k - (i + 1) = k - 1 - i by (first | lia | omega)]
      exact this
    rw [← hdd] at F₁₀
    rw [← hX] at hdv mr
    have hdlt : d < 2 ^ n := by rw [hdd]; exact Nat.mod_lt _ (Nat.two_pow_pos n)
    have hrb : X % b < b := Nat.mod_lt _ hb
    obtain ⟨m1, m2⟩ := step_math (X := X) (d := d) (b := b) (P := 2 ^ n) hb
    obtain ⟨r, hr⟩ : ∃ r, r = X % b := ⟨_, rfl⟩
    rw [← hr] at m1 m2 mr hrb
    have hal : r * 2 ^ n + d < 2 ^ n * b := by
      have : (r + 1) * 2 ^ n ≤ b * 2 ^ n := Nat.mul_le_mul_right _ hrb
      rw [Nat.add_mul, Nat.one_mul, Nat.mul_comm b] at this
      (first | lia | omega)
    refine wpAny_execs_cons <| Assign_Tuple <| callF (i := 7) (F₁₀.stat Sg') rfl (by decide) <| args_cons <| wpAny_BinOp <| wpAny_BinOp <| lname F₁₀ mr <| lname F₁₀ mn <| lshiftN (Nat.lt_trans hrb hb2) (by (first | lia | omega)) <| lname F₁₀ rfl <| add_int <| args_cons <| lname F₁₀ mb <| args_cons <| lname F₁₀ mn <| args_nil ⟨F₁₀.stat Sg', ?_⟩
    dsimp only
    have esum : (((r * 2 ^ n : Nat) : Int) + (d : Int)) = ((r * 2 ^ n + d : Nat) : Int) := by push_cast; rfl
    rw [esum]
    refine div2_ok (F₁₀.stat Sg') F₁₀.tab (by show A.depth + 1 + 2 < _; (first | lia | omega)) (hhd _) hb1 hb2 hal hbits ?_
    intro h₁₁ tk11 cc tq tr' hk11 hcn hc2
    have F₁₁ := F₁₀.add hk11 hcn hc2
    refine unpackM F₁₁ (F₁₁.isTup (.head _)) (hhd _) fun h₁₂ F₁₂ => ?_
    replace F₁₂ := F₁₂.tail
    refine aio_cons (wpAny_assign_Name (lstore F₁₂ fun h₁₃ F₁₃ => ?_))
    refine aio_cons (wpAny_assign_Name (lstore F₁₃ fun h₁₄ F₁₄ => aio_nil ?_))
    dsimp only
    refine wpAny_execs_cons (wpAny_Expr (MethodCall_ ?_))
    refine lname F₁₄ mq (Calls.getMethod_list_append (F₁₄.get (.tail _ (.head _))) rfl rfl (callWith_method1 (args_cons (lname F₁₄ rfl (args_nil ?_)))))
    refine appendC F₁₄ 1 rfl (by rw [hws.length, List.length_map, hql]; (first | lia | omega)) fun h₁₅ c' F₁₅ => wpAny_execs_nil ?_
    refine ⟨_, _, _, _, rfl, F₁₅, qs ++ [(r * 2 ^ n + d) / b], _, c', rfl, ?_, ?_, by simp [hql], by (first | lia | omega), ?_, ⟨_, ieq ?_⟩, ⟨_, mn⟩, mb, mq⟩
    · rw [List.map_append]
      exact snocInts hws _ _
    · intro q hq
      rcases List.mem_append.mp hq with hq | hq
      · exact hlt q hq
      · rw [List.mem_singleton.mp hq, Nat.div_lt_iff_lt_mul hb]; exact hal
    · rw [List.reverse_append]
      show (r * 2 ^ n + d) / b + 2 ^ n * dval n qs.reverse = _
      rw [hdv, hXd, m1]
    · rw [hXd, m2]
  · rintro h₁₀ tk10 m₁ own₁ ⟨qs, ws, c, rfl, hws, hlt, hql, hik, hdv, ⟨tr, mr⟩, ⟨tn, mn⟩, mb, mq⟩ F₁₀
    rw [hsz, Nat.sub_self, Nat.mul_zero, Nat.pow_zero, Nat.div_one] at hdv
    rw [hsz, Nat.sub_self, Nat.mul_zero, Nat.pow_zero, Nat.div_one] at mr
    refine wpAny_execs_cons (wpAny_Expr (MethodCall_ ?_))
    refine lname F₁₀ mq (methRev (F₁₀.get (.head _)) (callWith_method0 ?_))
    refine reverseC F₁₀ 0 rfl (by rw [hws.length, List.length_map, hql]; (first | lia | omega)) fun h₁₁ F₁₁ => ?_
    replace F₁₁ : Fm g' L h₁₁ m₁ [(W, listOf ws.reverse.toArray c)] := F₁₁
    dsimp only
    refine wpAny_execs_cons <| wpAny_Assign_Name <| callF (i := 10) (F₁₁.stat Sg') rfl (by decide) <| args_cons <| lname F₁₁ mq <| args_cons <| lname F₁₁ mn <| args_nil ⟨F₁₁.stat Sg', ?_⟩
    dsimp only
    refine digits2int_ok (ds := qs.reverse) (F₁₁.stat Sg') F₁₁.tab (by show A.depth + 1 + 70 < _; (first | lia | omega)) (hhd _) hbits (F₁₁.isList (.head _)) (by rw [List.map_reverse]; exact hws.reverse) (fun d hd => hlt d (List.mem_reverse.mp hd)) (by rw [List.length_reverse, hql]; (first | lia | omega)) ?_
    intro h₁₂ tk12 t12 k12 T12
    have F₁₂ := F₁₁.call Hg' k12 T12
    rw [hdv]
    refine lstore F₁₂ fun h₁₃ F₁₃ => ?_
    dsimp only
    refine wpAny_execs_cons <| wpAny_Return_some <| Tuple_ <| args_cons <| lname F₁₃ rfl <| args_cons <| lname F₁₃ mr <| args_nil <| newTup F₁₃ (by exact Nat.le_of_ble_eq_true rfl) fun cc h₁₄ hc F₁₄ => ?_
    refine hQ h₁₄ _ cc _ _ (kfin kg F₁₄) F₁₄.tab ?_ (F₁₄.get (.head _))
    have z1 := (F₁₄.has _ (.head _)).2.1
    have z2 := (F₁₄.has _ (.head _)).2.2.2
    cases q : s.heap.get? cc with
    | none => rfl
    | some o =>
      have := kg _ _ (k1 cc o z2.1 z2.2 q)
      rw [z1] at this; cases this
end Mine

/-! P2 -/
set_option maxRecDepth 100000
set_option maxHeartbeats 2000000
namespace Mine
variable {prog : Program} {w : World} {A : Around} {E : Value → Shared → Prop} {s : Shared} {Q : Value → Shared → Prop}

theorem fdm_unique {a q r b : Int} (h : q * b + r = a) (h0 : 0 ≤ r) (hr : r < b) : a.fdiv b = q ∧ a.fmod b = r := by
  have hb : 0 < b := by (first | lia | omega)
  rw [Int.fdiv_eq_ediv_of_nonneg _ (by (first | lia | omega)), Int.fmod_eq_emod_of_nonneg _ (by (first | lia | omega))]
  refine ⟨?_, ?_⟩
  · rw [← h, Int.add_comm, Int.add_mul_ediv_right _ _ (by (first | lia | omega)), Int.ediv_eq_zero_of_lt h0 hr]; (first | lia | omega)
  · rw [← h, Int.add_comm, Int.add_mul_emod_self_right, Int.emod_eq_of_lt h0 hr]
theorem fdm_neg (a b : Int) (hb : b ≠ 0) : a.fdiv b = (-a).fdiv (-b) ∧ a.fmod b = -((-a).fmod (-b)) := by
  have e : (-a).fdiv (-b) = a.fdiv b := Int.neg_fdiv_neg a b
  refine ⟨e.symm, ?_⟩
  rw [Int.fmod_def, Int.fmod_def, e, Int.neg_mul]
  (first | lia | omega)

theorem idm_nn {a b : Nat} {t u : Tok} (S : Stat s.heap) (T : Tabs s.heap) (hroom : A.depth + 76 < recursionLimit) (hh : A.handled = none) (hb : 0 < b) (hbits : Builtin.Int.intBits (b : Int) ≤ 7000)
    (ha : a < 2 ^ (Builtin.Int.intBits (b : Int) * 64)) (hQ : PairT s Q ((a / b : Nat) : Int) ((a % b : Nat) : Int)) :
    wpAny (model prog w) A (call (.ref 77) [.int a t, .int b u]) Q E s := by
  have hhd : ∀ e, (A.deeper e).handled = none := fun _ => hh
  refine enterF (i := 12) (binds := [("a", .int a t), ("b", .int b u)]) S T (by decide) (by (first | lia | omega)) (fun _ _ => rfl) (fun g L h₁ F Sg Hg k1 k2 => ?_)
  refine wpAny_execs_cons <| wpAny_If <| wpAny_isTrue_Compare1 <| lname F rfl <| wpAny_Constant_int <| eq_int <| wpAny_truthy_bool <| ite_neg (by simp; (first | lia | omega)) ?_
  dsimp only
  refine wpAny_execs_cons <| wpAny_If <| wpAny_isTrue_Compare1 <| lname F rfl <| wpAny_Constant_int <| lt_int <| wpAny_truthy_bool <| ite_neg (by simp) ?_
  dsimp only
  refine wpAny_execs_cons <| wpAny_If <| wpAny_isTrue_Compare1 <| lname F rfl <| wpAny_Constant_int <| lt_int <| wpAny_truthy_bool <| ite_neg (by simp) ?_
  dsimp only
  refine wpAny_execs_cons <| wpAny_Return_some <| callF (i := 11) (F.stat Sg) rfl (by decide) <| args_cons <| lname F rfl <| args_cons <| lname F rfl <| args_nil ⟨F.stat Sg, ?_⟩
  dsimp only
  refine divmod_pos_ok (F.stat Sg) F.tab (by show A.depth + 1 + 75 < _; (first | lia | omega)) (hhd _) hb hbits ha ?_
  intro h' tk c t1 t2 k T' nc ec
  have F' := F.callAdd Hg k T' nc ec
  refine hQ h' tk c t1 t2 (fun b o n1 n2 e => F'.keep b o (k1 b o n1 n2 e)) T' ?_ ec
  have z1 := (F'.has _ (.head _)).2.1
  have z2 := (F'.has _ (.head _)).2.2.2
  cases q : s.heap.get? c with
  | none => rfl
  | some o =>
    have := k1 c o z2.1 z2.2 q
    rw [z1] at this; cases this

theorem KeepT.freshOf {g h : Heap} {L c : Addr} {m : Str → Option Value} {own : List (Addr × Obj)} {o : Obj} {hs : Heap} (k1 : KeepT hs g) (F : Fm g L h m own) (hm : (c, o) ∈ own) : hs.get? c = none := by
  have z1 := (F.has _ hm).2.1
  have z2 := (F.has _ hm).2.2.2
  cases q : hs.get? c with
  | none => rfl
  | some o =>
    have := k1 c o z2.1 z2.2 q
    rw [z1] at this; cases this

theorem idm_pos {a : Int} {b : Nat} {t u : Tok} (S : Stat s.heap) (T : Tabs s.heap) (hroom : A.depth + 77 < recursionLimit) (hh : A.handled = none) (hb : 0 < b) (hbits : Builtin.Int.intBits (b : Int) ≤ 7000)
    (ha : a.natAbs < 2 ^ (Builtin.Int.intBits (b : Int) * 64)) (hQ : PairT s Q (a.fdiv b) (a.fmod b)) :
    wpAny (model prog w) A (call (.ref 77) [.int a t, .int b u]) Q E s := by
  have hhd : ∀ e, (A.deeper e).handled = none := fun _ => hh
  by_cases h0 : 0 ≤ a
  · obtain ⟨n, rfl⟩ := Int.eq_ofNat_of_zero_le h0
    refine idm_nn S T (by (first | lia | omega)) hh hb hbits ha ?_
    rw [← fdivN, ← fmodN]; exact hQ
  obtain ⟨n, hn⟩ : ∃ n : Nat, -a - 1 = (n : Int) := Int.eq_ofNat_of_zero_le (by (first | lia | omega))
  refine enterF (i := 12) (binds := [("a", .int a t), ("b", .int b u)]) S T (by decide) (by (first | lia | omega)) (fun _ _ => rfl) (fun g L h₁ F Sg Hg k1 k2 => ?_)
  refine wpAny_execs_cons <| wpAny_If <| wpAny_isTrue_Compare1 <| lname F rfl <| wpAny_Constant_int <| eq_int <| wpAny_truthy_bool <| ite_neg (by simp; (first | lia | omega)) ?_
  dsimp only
  refine wpAny_execs_cons <| wpAny_If <| wpAny_isTrue_Compare1 <| lname F rfl <| wpAny_Constant_int <| lt_int <| wpAny_truthy_bool <| ite_neg (by simp) ?_
  dsimp only
  refine wpAny_execs_cons <| wpAny_If <| wpAny_isTrue_Compare1 <| lname F rfl <| wpAny_Constant_int <| lt_int <| wpAny_truthy_bool <| ite_pos (by simp; (first | lia | omega)) ?_
  dsimp only
  refine wpAny_execs_cons <| Assign_Tuple <| callF (i := 12) (F.stat Sg) rfl (by decide) <| args_cons <| UnaryOp_ <| lname F rfl <| invert_int <| args_cons <| lname F rfl <| args_nil ⟨F.stat Sg, ?_⟩
  dsimp only
  have en : Builtin.bitNot a = (n : Int) := hn
  rw [en]
  refine idm_nn (F.stat Sg) F.tab (by show A.depth + 1 + 76 < _; (first | lia | omega)) (hhd _) hb hbits (by (first | lia | omega)) ?_
  intro h₂ tk2 c tq tr k T' nc ec
  have F₂ := F.callAdd Hg k T' nc ec
  refine unpackM F₂ (F₂.isTup (.head _)) (hhd _) fun h₃ F₃ => ?_
  replace F₃ := F₃.tail
  refine aio_cons (wpAny_assign_Name (lstore F₃ fun h₄ F₄ => ?_))
  refine aio_cons (wpAny_assign_Name (lstore F₄ fun h₅ F₅ => aio_nil ?_))
  dsimp only
  refine wpAny_execs_cons <| wpAny_Return_some <| Tuple_ <| args_cons <| UnaryOp_ <| lname F₅ rfl <| invert_int <| args_cons <| wpAny_BinOp <| lname F₅ rfl <| UnaryOp_ <| lname F₅ rfl <| invert_int <| add_int <| args_nil <| newTup F₅ (by exact Nat.le_of_ble_eq_true rfl) fun cc h₆ hc F₆ => ?_
  have e : a.fdiv b = Builtin.bitNot ((n / b : Nat) : Int) ∧ a.fmod b = (b : Int) + Builtin.bitNot ((n % b : Nat) : Int) := by
    have h1 : (b : Int) * ((n / b : Nat) : Int) + ((n % b : Nat) : Int) = (n : Int) := by exact_mod_cast Nat.div_add_mod n b
    have h2 : n % b < b := Nat.mod_lt _ hb
    unfold Builtin.bitNot
    refine fdm_unique ?_ (by (first | lia | omega)) (by (first | lia | omega))
    rw [Int.sub_mul, Int.neg_mul, Int.mul_comm]
    (first | lia | omega)
  rw [e.1, e.2] at hQ
  exact hQ h₆ _ cc _ _ (fun b o n1 n2 e => F₆.keep b o (k1 b o n1 n2 e)) F₆.tab (k1.freshOf F₆ (.head _)) (F₆.get (.head _))

theorem int_divmod_ok {a b : Int} {t u : Tok} (S : Stat s.heap) (T : Tabs s.heap) (hroom : A.depth + 78 < recursionLimit) (hh : A.handled = none) (hb : b ≠ 0) (hbits : Builtin.Int.intBits b ≤ 7000)
    (ha : a.natAbs < 2 ^ (Builtin.Int.intBits b * 64)) (hQ : PairT s Q (a.fdiv b) (a.fmod b)) :
    wpAny (model prog w) A (call (.ref 77) [.int a t, .int b u]) Q E s := by
  have hhd : ∀ e, (A.deeper e).handled = none := fun _ => hh
  by_cases h0 : 0 ≤ b
  · obtain ⟨n, rfl⟩ := Int.eq_ofNat_of_zero_le h0
    exact idm_pos S T (by (first | lia | omega)) hh (by (first | lia | omega)) hbits ha hQ
  obtain ⟨n, hn⟩ : ∃ n : Nat, -b = (n : Int) := Int.eq_ofNat_of_zero_le (by (first | lia | omega))
  have eb : Builtin.Int.intBits b = Builtin.Int.intBits (n : Int) := by
    unfold Builtin.Int.intBits
    rw [if_neg (by simpa using hb), if_neg (by simp; (first | lia | omega))]
    congr 2
    (first | lia | omega)
  rw [eb] at hbits ha
  refine enterF (i := 12) (binds := [("a", .int a t), ("b", .int b u)]) S T (by decide) (by (first | lia | omega)) (fun _ _ => rfl) (fun g L h₁ F Sg Hg k1 k2 => ?_)
  refine wpAny_execs_cons <| wpAny_If <| wpAny_isTrue_Compare1 <| lname F rfl <| wpAny_Constant_int <| eq_int <| wpAny_truthy_bool <| ite_neg (by simpa using hb) ?_
  dsimp only
  refine wpAny_execs_cons <| wpAny_If <| wpAny_isTrue_Compare1 <| lname F rfl <| wpAny_Constant_int <| lt_int <| wpAny_truthy_bool <| ite_pos (by simp; (first | lia | omega)) ?_
  dsimp only
  refine wpAny_execs_cons <| Assign_Tuple <| callF (i := 12) (F.stat Sg) rfl (by decide) <| args_cons <| UnaryOp_ <| lname F rfl <| neg_int <| args_cons <| UnaryOp_ <| lname F rfl <| neg_int <| args_nil ⟨F.stat Sg, ?_⟩
  dsimp only
  rw [hn]
  refine idm_pos (F.stat Sg) F.tab (by show A.depth + 1 + 77 < _; (first | lia | omega)) (hhd _) (by (first | lia | omega)) hbits (by (first | lia | omega)) ?_
  intro h₂ tk2 c tq tr k T' nc ec
  have F₂ := F.callAdd Hg k T' nc ec
  refine unpackM F₂ (F₂.isTup (.head _)) (hhd _) fun h₃ F₃ => ?_
  replace F₃ := F₃.tail
  refine aio_cons (wpAny_assign_Name (lstore F₃ fun h₄ F₄ => ?_))
  refine aio_cons (wpAny_assign_Name (lstore F₄ fun h₅ F₅ => aio_nil ?_))
  dsimp only
  refine wpAny_execs_cons <| wpAny_Return_some <| Tuple_ <| args_cons <| lname F₅ rfl <| args_cons <| UnaryOp_ <| lname F₅ rfl <| neg_int <| args_nil <| newTup F₅ (by exact Nat.le_of_ble_eq_true rfl) fun cc h₆ hc F₆ => ?_
  have e := fdm_neg a b hb
  rw [e.1, e.2, hn] at hQ
  exact hQ h₆ _ cc _ _ (fun b o n1 n2 e => F₆.keep b o (k1 b o n1 n2 e)) F₆.tab (k1.freshOf F₆ (.head _)) (F₆.get (.head _))
end Mine

/-! G1 -/
set_option maxRecDepth 100000
set_option maxHeartbeats 2000000
namespace Mine

section
variable {M : Model} {A : Around} {R : GenEnd} {Y : Protocol} {n : Nat} {s₀ : Shared} {c : Code} {fs : List Frame} {s : Shared} {env : Env}
  {K : Flow → Sem Fin} {H : Value → Sem Fin} {gd : Bool → Bool} {lv : List Value → List Value}

theorem seg_stmt {α : Type} {m : Sem α} {K : α → Sem Fin} (h : wpAny M (A.over c fs) m (fun a s' => Seg M A R Y n s₀ c (K a) fs s') (fun _ _ => False) s) : Seg M A R Y n s₀ c (m.wrap K H gd lv) fs s :=
  seg_wrap (wpAny_mono h (fun _ _ q => q) fun _ _ q => q.elim)

theorem seg_If {test : Expr} {body orelse : List Stmt} {pos : Pos}
    (h : wpAny M (A.over c fs) (isTrue test env (eval test env)) (fun b s' => if b = true then Seg M A R Y n s₀ c ((execs body env).wrap K H gd lv) fs s' else Seg M A R Y n s₀ c ((execs orelse env).wrap K H gd lv) fs s') (fun _ _ => False) s) :
    Seg M A R Y n s₀ c ((exec (.If test body orelse pos) env).wrap K H gd lv) fs s := by
  rw [exec_If]
  show Seg M A R Y n s₀ c (.at pos fun _ => (isTrue test env (eval test env) >>= fun b => if b = true then execs body env else execs orelse env).wrap K H gd lv) fs s
  refine seg_at (seg_bind_wrap (wpAny_mono h (fun b s' q => ?_) fun _ _ q => q.elim))
  cases b with
  | true => exact q
  | false => exact q

theorem seg_For {target iter : Expr} {body orelse : List Stmt} {pos : Pos} (hgd : gd false = false)
    (h : wpAny M (A.over c fs) (eval iter env) (fun x s₁ => wpAny M (A.over c fs) (pyIter x) (fun it s₂ =>
      ∀ p k l, (∀ f, k (.ok f) = K f) → Seg M A R Y n s₀ (.forLoop target it body orelse env) (M.den (.forLoop target it body orelse env)) (.ret k none false l c p [] :: fs) s₂) (fun _ _ => False) s₁) (fun _ _ => False) s)
    (hs : ∀ x, foldedSetIterable iter env x = pure x := by intro _; rfl) :
    Seg M A R Y n s₀ c ((exec (.For target iter body orelse pos) env).wrap K H gd lv) fs s := by
  rw [exec_For]
  show Seg M A R Y n s₀ c (.at pos fun _ => (eval iter env >>= fun x => foldedSetIterable iter env x >>= fun x => standAt iter.pos >>= fun _ => holding [x] (pyIter x) >>= fun it => runOwn (.forLoop target it body orelse env) env).wrap K H gd lv) fs s
  refine seg_at (seg_bind_wrap (wpAny_mono h (fun x s₁ h₁ => ?_) fun _ _ q => q.elim))
  refine seg_bind_wrap (wpAny_of_eq (hs x) ?_)
  refine seg_bind_wrap (wpAny_standAt ?_)
  refine seg_bind_wrap (wpAny_holding (wpAny_mono h₁ (fun it s₂ h₂ => ?_) fun _ _ q => q.elim))
  refine seg_call fun p => ?_
  rw [hgd]
  exact h₂ p _ _ fun f => rfl

theorem seg_While' {test : Expr} {body orelse : List Stmt} {pos : Pos} (hgd : gd false = false)
    (h : ∀ p k l, (∀ f, k (.ok f) = K f) → Seg M A R Y n s₀ (.whileLoop test body orelse env) (M.den (.whileLoop test body orelse env)) (.ret k none false l c p [] :: fs) s) :
    Seg M A R Y n s₀ c ((exec (.While test body orelse pos) env).wrap K H gd lv) fs s := by
  refine seg_While fun p => ?_
  rw [hgd]
  exact h p _ _ fun f => rfl
end

/-- what a loop's body ends in -/
def loopEnd (c : Code) : Flow → Sem Fin
  | .next | .cont => .pure (.again c)
  | .brk => .pure (.done .next)
  | .ret v => .pure (.done (.ret v))

section
variable {prog : Program} {w : World} {A : Around} {R : GenEnd} {Y : Protocol} {n : Nat} {s₀ : Shared} {fs : List Frame} {s : Shared} {env : Env}

theorem seg_forLoop {x : Str} {px : Pos} {it : Value} {body : List Stmt} {k : Result → Sem Fin} {l : List Value} {c₁ : Code} {p₁ : Pos}
    (h : wpAny (model prog w) (A.over (.forLoop (.Name x px) it body [] env) (.ret k none false l c₁ p₁ [] :: fs)) (pyNext it) (fun r s₁ => match r with
      | none => Seg (model prog w) A R Y n s₀ c₁ (k (.ok .next)) fs s₁
      | some v => wpAny (model prog w) (A.over (.forLoop (.Name x px) it body [] env) (.ret k none false l c₁ p₁ [] :: fs)) (assign (.Name x px) env v) (fun _ s₂ =>
          ∀ H, Seg (model prog w) A R Y n s₀ (.forLoop (.Name x px) it body [] env) ((execs body env).wrap (loopEnd (.forLoop (.Name x px) it body [] env)) H id id) (.ret k none false l c₁ p₁ [] :: fs) s₂) (fun _ _ => False) s₁) (fun _ _ => False) s) :
    Seg (model prog w) A R Y n s₀ (.forLoop (.Name x px) it body [] env) ((model prog w).den (.forLoop (.Name x px) it body [] env)) (.ret k none false l c₁ p₁ [] :: fs) s := by
  show Seg _ A R Y n s₀ _ ((forTurn (.Name x px) it body [] env).onRaise (fun x => do noteFrame x env; theTreesLotGoes x)) _ s
  unfold forTurn
  rw [Sem.onRaise_eq_wrap]
  refine seg_bind_wrap (wpAny_standAt ?_)
  refine seg_bind_wrap (wpAny_onRaise (wpAny_mono h (fun r s₁ h₁ => ?_) fun _ _ q => q.elim))
  cases r with
  | none =>
    refine seg_again rfl ?_
    exact seg_leaf (.ok .next) h₁
  | some v =>
    refine seg_bind_wrap (wpAny_pure ?_)
    refine seg_bind_wrap (wpAny_mono h₁ (fun _ s₂ h₂ => ?_) fun _ _ q => q.elim)
    rw [Sem.bind_eq_wrap', Sem.wrap_wrap]
    rw [Sem.wrap_congr (execs body env) _ _ (K' := loopEnd (.forLoop (.Name x px) it body [] env)) (H' := fun e => Sem.wrap Sem.pure (fun e => (do noteFrame e env; theTreesLotGoes e : Sem Unit).bind fun _ => .raise e) id id (Sem.raise e)) (fun f => by cases f <;> rfl) (fun e => rfl)]
    exact h₂ _

theorem seg_whileTrue {test : Expr} {body : List Stmt} {k : Result → Sem Fin} {l : List Value} {c₁ : Code} {p₁ : Pos}
    (h : wpAny (model prog w) (A.over (.whileLoop test body [] env) (.ret k none false l c₁ p₁ [] :: fs)) (isTrue test env (eval test env)) (fun b s' => b = true ∧
      ∀ H, Seg (model prog w) A R Y n s₀ (.whileLoop test body [] env) ((execs body env).wrap (loopEnd (.whileLoop test body [] env)) H id id) (.ret k none false l c₁ p₁ [] :: fs) s') (fun _ _ => False) s) :
    Seg (model prog w) A R Y n s₀ (.whileLoop test body [] env) ((model prog w).den (.whileLoop test body [] env)) (.ret k none false l c₁ p₁ [] :: fs) s := by
  refine seg_whileLoop (wpAny_mono h (fun b s' q => ?_) fun _ _ q => q.elim)
  obtain ⟨rfl, q⟩ := q
  refine ite_pos rfl ?_
  have := q ((fun e => (do noteFrame e env; theTreesLotGoes e : Sem Unit).wrap (fun _ => .raise e) .raise id id))
  rw [Sem.wrap_congr (execs body env) _ _ (K' := loopEnd (.whileLoop test body [] env)) (H' := ((fun e => (do noteFrame e env; theTreesLotGoes e : Sem Unit).wrap (fun _ => .raise e) .raise id id))) (fun f => by cases f <;> rfl) (fun e => rfl)]
  exact this
end
end Mine

/-! G2 -/
set_option maxRecDepth 100000
set_option maxHeartbeats 2000000
namespace Mine

theorem Fm.turn {g h h' : Heap} {L : Addr} {m : Str → Option Value} {xs ys own : List (Addr × Obj)} (F : Fm g L h m (xs ++ own)) (hx : ∀ p ∈ xs, NotCode p.2) (e : ys.map (·.1) = xs.map (·.1))
    (k : ∀ b o, b ∉ xs.map (·.1) → h.get? b = some o → h'.get? b = some o) (hy : ∀ p ∈ ys, h'.get? p.1 = some p.2) : Fm g L h' m (ys ++ own) := by
  have G := F.lose hx k
  refine ⟨G.ns, G.keep, G.new, ?_, ?_, G.tab, G.t58, G.t51⟩
  · intro p hp
    rcases List.mem_append.mp hp with hp | hp
    · have hm : p.1 ∈ xs.map (·.1) := by rw [← e]; exact List.mem_map_of_mem hp
      obtain ⟨q, hq, z⟩ := List.mem_map.mp hm
      have P := F.has q (List.mem_append_left _ hq)
      rw [z] at P
      exact ⟨hy p hp, P.2⟩
    · exact G.has p hp
  · rw [List.map_append, e, ← List.map_append]; exact F.nd

/-- what the generator tells, place by place -/
def strm : Option Int → List Int → Nat → Option Int
  | _, [], _ => none
  | last, x :: xs, k => if x = 127 then none else if x = 0 then last else match k with
    | 0 => some x
    | k + 1 => strm (some x) xs k
def strmOk : Option Int → List Int → Prop
  | _, [] => True
  | last, x :: xs => x = 127 ∨ (x = 0 ∧ last.isSome = true) ∨ (x ≠ 0 ∧ x ≠ 127 ∧ strmOk (some x) xs)

def forB : Stmt → List Stmt
  | .For _ _ b _ _ => b
  | _ => []
def forX : Stmt → Expr
  | .For x _ _ _ _ => x
  | _ => .Constant .none 0 ⟨0, 0, 0, 0⟩
def ifB : Stmt → List Stmt
  | .If _ b _ _ => b
  | _ => []
def whB : Stmt → List Stmt
  | .While _ b _ _ => b
  | _ => []
def whT : Stmt → Expr
  | .While t _ _ _ => t
  | _ => .Constant .none 0 ⟨0, 0, 0, 0⟩
def giFor : Stmt := (stBody (topAt 3)).getD 1 (.Pass ⟨0, 0, 0, 0⟩)
def giWh : Stmt := (ifB ((forB giFor).getD 1 (.Pass ⟨0, 0, 0, 0⟩))).getD 1 (.Pass ⟨0, 0, 0, 0⟩)

/-- all but two objects stay -/
def Keep2 (C I : Addr) (h h' : Heap) : Prop := ∀ b o, b ≠ C → b ≠ I → h.get? b = some o → h'.get? b = some o
theorem Keep2.trans {C I : Addr} {a b c : Heap} (x : Keep2 C I a b) (y : Keep2 C I b c) : Keep2 C I a c := fun p o h1 h2 e => y p o h1 h2 (x p o h1 h2 e)

/-- where the generator may be woken -/
def GIn (g : Heap) (C I : Addr) (oC oI : Obj) (h : Heap) : Prop := (∀ b o, g.get? b = some o → h.get? b = some o) ∧ h.get? C = some oC ∧ h.get? I = some oI ∧ Tabs h

def gProto (ys : Nat → Option Int) (N : Nat) (g : Heap) (C I : Addr) : Protocol := fun n s₀ v s' kap =>
  ∃ x t h' tk oC oI, v = .int x t ∧ ys (N - 1 - n) = some x ∧ s' = { s₀ with heap := h', toks := tk } ∧ Keep2 C I s₀.heap h' ∧ h'.get? C = some oC ∧ NotCode oC ∧ h'.get? I = some oI ∧ NotCode oI ∧
    (n = 0 ∨ ∀ s'' : Shared, GIn g C I oC oI s''.heap → kap (.send .none) s'')
def gOver (ys : Nat → Option Int) (N : Nat) (C I : Addr) : Nat → Shared → Shared → Prop := fun n s₀ s₁ => ys (N - n) = none ∧ ∃ h' tk, s₁ = { s₀ with heap := h', toks := tk } ∧ Keep2 C I s₀.heap h'
def gEnd (P : Nat → Shared → Shared → Prop) : GenEnd := fun n s₀ r s₁ => r = .ok (.ret .none) ∧ P n s₀ s₁
end Mine

/-! G3 -/
set_option maxRecDepth 100000
set_option maxHeartbeats 2000000
namespace Mine
variable {prog : Program} {w : World} {A : Around} {P : Nat → Shared → Shared → Prop} {ys : Nat → Option Int} {N : Nat} {g : Heap} {C I : Addr} {fs : List Frame} {k2 : Result → Sem Fin} {l2 : List Value} {c₁ : Code} {p₁ : Pos}

theorem Fm.wake {h h'' : Heap} {m : Str → Option Value} {oC oI : Obj} (F : Fm g C h m [(I, oI)]) (eC : h.get? C = some oC) (G : GIn g C I oC oI h'') : Fm g C h'' m [(I, oI)] where
  ns := by
    obtain ⟨o, es, ep, e, r⟩ := F.ns
    rw [eC] at e; cases e
    exact ⟨_, es, ep, G.2.1, r⟩
  keep := G.1
  new := F.new
  has := fun p hp => by
    have := F.has p hp
    rw [List.mem_singleton.mp hp] at this ⊢
    exact ⟨G.2.2.1, this.2⟩
  nd := F.nd
  tab := G.2.2.2
  t58 := F.t58
  t51 := F.t51
theorem Fm.dictAt {h : Heap} {m : Str → Option Value} {own : List (Addr × Obj)} (F : Fm g C h m own) : ∃ oC, h.get? C = some oC ∧ NotCode oC := by
  obtain ⟨o, es, ep, e, d, r⟩ := F.ns
  exact ⟨o, e, .dict d⟩

theorem seg_inf (hf1 : splitAtGen fs = none) (hf2 : fs.any Frame.guarded = false) (x : Int) : ∀ (n : Nat) (s₀ : Shared) (h : Heap) (tk : Nat) (m : Str → Option Value) (oI : Obj) (t : Tok), Fm g C h m [(I, oI)] → NotCode oI → m "last_interval" = some (.int x t) →
    Keep2 C I s₀.heap h → (∀ j, N - (n + 1) ≤ j → ys j = some x) →
    Seg (model prog w) A (gEnd P) (gProto ys N g C I) (n + 1) s₀ (.whileLoop (whT giWh) (whB giWh) [] (envAt 3 28 C)) ((model prog w).den (.whileLoop (whT giWh) (whB giWh) [] (envAt 3 28 C))) (.ret k2 none false l2 c₁ p₁ [] :: fs) { s₀ with heap := h, toks := tk } := by
  intro n
  induction n with
  | zero =>
    intro s₀ h tk m oI t F hI hl hk hy
    refine seg_whileTrue (wpAny_isTrue_value <| wpAny_Constant_bool <| wpAny_truthy_bool ⟨rfl, fun H => ?_⟩)
    refine seg_execs_cons (seg_Expr_Yield (by show (splitAtGen fs).map _ = none; rw [hf1]; rfl) rfl (by show (false || fs.any Frame.guarded) = false; rw [hf2]; rfl) ?_)
    refine lname F hl fun kap hkap => ?_
    obtain ⟨oC, eC, nC⟩ := F.dictAt
    exact ⟨x, t, h, _, oC, oI, rfl, hy _ (by (first | lia | omega)), rfl, hk, eC, nC, F.get (.head _), hI, .inl rfl⟩
  | succ n ih =>
    intro s₀ h tk m oI t F hI hl hk hy
    refine seg_whileTrue (wpAny_isTrue_value <| wpAny_Constant_bool <| wpAny_truthy_bool ⟨rfl, fun H => ?_⟩)
    refine seg_execs_cons (seg_Expr_Yield (by show (splitAtGen fs).map _ = none; rw [hf1]; rfl) rfl (by show (false || fs.any Frame.guarded) = false; rw [hf2]; rfl) ?_)
    refine lname F hl fun kap hkap => ?_
    obtain ⟨oC, eC, nC⟩ := F.dictAt
    refine ⟨x, t, h, _, oC, oI, rfl, hy _ (by (first | lia | omega)), rfl, hk, eC, nC, F.get (.head _), hI, .inr fun s'' G => hkap .none s'' ?_⟩
    refine seg_again rfl ?_
    exact ih s'' s''.heap s''.toks m oI t (F.wake eC G) hI hl (fun _ _ _ _ e => e) fun j hj => hy j (by (first | lia | omega))

theorem lstoreK {s : Shared} {E : Value → Shared → Prop} {env : Env} {x : Str} {v : Value} {M : Model} {g : Heap} {L : Addr} {m : Str → Option Value} {own : List (Addr × Obj)} {Q : Unit → Shared → Prop} (F : Fm g L s.heap m own)
    (h : ∀ h', Fm g L h' (fun y => if y = x then some v else m y) own → (∀ b o, b ≠ L → s.heap.get? b = some o → h'.get? b = some o) → h'.objs.size = s.heap.objs.size → Q () { s with heap := h', toks := s.toks + 1 })
    (hk : env.scope.kind = .function := by rfl) (hl : env.kindOf x = some .local := by rfl) (hL : env.locals = L := by rfl) :
    wpAny M A (storeName env x v) Q E s := by
  subst hL
  exact wpAny_storeName_local hl F.ns (fun h' hn hs => h h' (F.set hn hs) (fun b o hb e => (hs.2 b hb).trans e) hs.1) (by rw [hk]; rfl)

theorem strm_const {last : Option Int} {x : Int} {xs : List Int} {k : Nat} (h1 : x ≠ 127) (h0 : x = 0) : strm last (x :: xs) k = last := by
  rw [strm.eq_def]
  simp only [if_neg h1, if_pos h0]
theorem strm_stop {last : Option Int} {x : Int} {xs : List Int} {k : Nat} (h1 : x = 127) : strm last (x :: xs) k = none := by
  rw [strm.eq_def]
  simp only [if_pos h1]
theorem strm_zero {last : Option Int} {x : Int} {xs : List Int} (h1 : x ≠ 127) (h0 : x ≠ 0) : strm last (x :: xs) 0 = some x := by
  unfold strm
  rw [if_neg h1, if_neg h0]
theorem strm_succ {last : Option Int} {x : Int} {xs : List Int} {k : Nat} (h1 : x ≠ 127) (h0 : x ≠ 0) : strm last (x :: xs) (k + 1) = strm (some x) xs k := by
  rw [strm.eq_def]
  simp only [if_neg h1, if_neg h0]

/-- the loop over the list -/
theorem seg_gloop {l : Addr} {vs : List Value} {ns : List Int} (hh : A.handled = none) (Sg : Stat g) (hl : g.IsList l vs.toArray) (hvs : IntsAre vs ns)
    (hk1 : k2 (.ok .next) = leafOf (.ok (.ret .none))) (hk2 : k2 (.ok (.ret .none)) = leafOf (.ok (.ret .none))) :
    ∀ (rest : List Int) (i n : Nat) (last : Option Int) (s₀ : Shared) (h : Heap) (tk : Nat) (m : Str → Option Value) (oI : Obj), ns.drop i = rest → i ≤ ns.length → Fm g C h m [(I, oI)] → NotCode oI → h.IsListIter I l i →
    (∀ x, last = some x → ∃ t, m "last_interval" = some (.int x t)) → strmOk last rest → Keep2 C I s₀.heap h → n + 1 ≤ N → (∀ j, ys (N - (n + 1) + j) = strm last rest j) →
    Seg (model prog w) A (gEnd (gOver ys N C I)) (gProto ys N g C I) (n + 1) s₀ (.forLoop (forX giFor) (.ref I) (forB giFor) [] (envAt 3 28 C)) ((model prog w).den (.forLoop (forX giFor) (.ref I) (forB giFor) [] (envAt 3 28 C))) [.ret k2 none false l2 c₁ p₁ []] { s₀ with heap := h, toks := tk } := by
  have hh2 : ∀ (c : Code), (A.over c [.ret k2 none false l2 c₁ p₁ []]).handled = none := fun c => by
    show markOver none A.handled A.handled = none
    rw [hh]; rfl
  intro rest
  induction rest with
  | nil =>
    intro i n last s₀ h tk m oI hd hi F hI hit hlast hok hk hN hy
    have hii : i = vs.toArray.size := by
      have : ns.length ≤ i := List.drop_eq_nil_iff.mp hd
      rw [List.size_toArray, hvs.length]; (first | lia | omega)
    have hne : l ≠ I := by
      rintro rfl
      obtain ⟨o, e, _⟩ := hl
      have := (F.has _ (.head _)).2.1
      rw [e] at this; cases this
    refine seg_forLoop ((Walks.list (hh2 _) I l hne vs.toArray).done _ _ _ ⟨by rw [← hii]; exact hit, stays_list F.keep hl⟩ fun h' tk' hk' => ?_)
    dsimp only
    rw [hk1]
    refine seg_end _ ⟨rfl, ?_, h', tk', rfl, fun b o h1 h2 e => hk' b o (by simpa using h2) (hk b o h1 h2 e)⟩
    have := hy 0
    exact this
  | cons x rest ih =>
    intro i n last s₀ h tk m oI hd hi F hI hit hlast hok hk hN hy
    have hne : l ≠ I := by
      rintro rfl
      obtain ⟨o, e, _⟩ := hl
      have := (F.has _ (.head _)).2.1
      rw [e] at this; cases this
    have hilt : i < ns.length := by
      rcases Nat.lt_or_ge i ns.length with q | q
      · exact q
      · rw [List.drop_eq_nil_of_le q] at hd; cases hd
    have hx : ns[i]? = some x := by
      have := congrArg (fun l => l[0]?) hd
      simpa using this
    have hrest : ns.drop (i + 1) = rest := by
      rw [← List.drop_drop, hd]; rfl
    obtain ⟨tx, hvx⟩ := hvs.get i x hx
    refine seg_forLoop ((Walks.list (hh2 _) I l hne vs.toArray).item i _ _ _ (by rw [List.size_toArray, hvs.length]; exact hilt) ⟨hit, stays_list F.keep hl⟩ fun v h' tk' hv st' hk' => ?_)
    have hve : v = .int x tx := by
      rw [List.getElem?_toArray, hvx] at hv; exact (Option.some.inj hv).symm
    subst hve
    obtain ⟨oI', eI', cI', dI'⟩ := st'.1
    have hI' : NotCode oI' := .int dI' rfl
    have F₂ : Fm g C h' m [(I, oI')] := F.upd 0 rfl (fun b ob hb e => hk' b ob (by simpa using hb) e) eI' hI
    have hk₂ : Keep2 C I s₀.heap h' := fun b o h1 h2 e => hk' b o (by simpa using h2) (hk b o h1 h2 e)
    dsimp only
    refine wpAny_assign_Name (lstoreK F₂ fun h₃ F₃ k₃ _ H => ?_)
    dsimp only
    have hk₃ : Keep2 C I s₀.heap h₃ := fun b o h1 h2 e => k₃ b o h1 (hk₂ b o h1 h2 e)
    have it₃ : h₃.IsListIter I l (i + 1) := ⟨oI', F₃.get (.head _), cI', dI'⟩
    refine seg_execs_cons <| seg_If <| wpAny_isTrue_Compare1 <| lname F₃ rfl <| gname (F₃.stat Sg) rfl <| eq_int <| wpAny_truthy_bool ?_
    by_cases h127 : x = 127
    · refine ite_pos (by rw [h127]; rfl) ?_
      refine seg_execs_cons (seg_stmt (wpAny_Return_none ?_))
      refine seg_leaf (.ok (.ret .none)) ?_
      rw [hk2]
      refine seg_end _ ⟨rfl, ?_, h₃, _, rfl, hk₃⟩
      have := hy 0
      rw [strm_stop h127] at this
      exact this
    refine ite_neg (by simpa using h127) (seg_execs_nil ?_)
    refine seg_execs_cons <| seg_If <| wpAny_isTrue_Compare1 <| lname F₃ rfl <| wpAny_Constant_int <| eq_int <| wpAny_truthy_bool ?_
    dsimp only
    by_cases h0 : x = 0
    · refine ite_pos (by rw [h0]; rfl) ?_
      have hsome : last.isSome = true := by
        rcases hok with q | ⟨_, q⟩ | ⟨q, _⟩
        · exact absurd q h127
        · exact q
        · exact absurd h0 q
      obtain ⟨y, rfl⟩ := Option.isSome_iff_exists.mp hsome
      obtain ⟨ty, hty⟩ := hlast y rfl
      refine seg_execs_cons <| seg_If <| wpAny_isTrue_Compare1 <| lname F₃ hty <| wpAny_Constant_none <| is_int_none <| wpAny_truthy_bool <| ite_neg (by decide) <| seg_execs_nil ?_
      dsimp only
      refine seg_execs_cons <| seg_While' rfl fun p k l _ => ?_
      refine seg_inf rfl rfl y n s₀ h₃ _ _ oI' ty F₃ hI' hty hk₃ fun j hj => ?_
      have := hy (j - (N - (n + 1)))
      rw [strm_const h127 h0, show N - (n + 1) + (j - (N - (n + 1))) = j by (first | lia | omega)] at this
      exact this
    refine ite_neg (by simpa using h0) (seg_execs_nil ?_)
    have hok' : strmOk (some x) rest := by
      rcases hok with q | ⟨q, _⟩ | ⟨_, _, q⟩
      · exact absurd q h127
      · exact absurd q h0
      · exact q
    refine seg_execs_cons (seg_Expr_Yield rfl rfl rfl ?_)
    refine lname F₃ rfl fun kap hkap => ?_
    obtain ⟨oC, eC, nC⟩ := F₃.dictAt
    have hy0 : ys (N - 1 - n) = some x := by
      rw [show N - 1 - n = N - (n + 1) + 0 by (first | lia | omega), hy 0]
      exact strm_zero h127 h0
    refine ⟨x, tx, h₃, _, oC, oI', rfl, hy0, rfl, hk₃, eC, nC, F₃.get (.head _), hI', ?_⟩
    cases n with
    | zero => exact .inl rfl
    | succ n =>
      refine .inr fun s'' G => hkap .none s'' ?_
      have F₄ := F₃.wake eC G
      refine seg_execs_cons (seg_stmt (wpAny_Assign_Name <| lname F₄ rfl <| lstoreK F₄ fun h₅ F₅ k₅ _ => ?_))
      refine seg_again rfl ?_
      refine ih (i + 1) n (some x) s'' h₅ _ _ oI' hrest (by (first | lia | omega)) F₅ hI' ⟨oI', F₅.get (.head _), cI', dI'⟩ (fun z hz => ?_) hok' (fun b o h1 h2 e => k₅ b o h1 e) (by (first | lia | omega)) fun j => ?_
      · cases hz; exact ⟨_, rfl⟩
      · rw [show N - (n + 1) + j = N - (n + 1 + 1) + (j + 1) by (first | lia | omega), hy (j + 1)]
        exact strm_succ h127 h0
end Mine

/-! G4 -/
set_option maxRecDepth 100000
set_option maxHeartbeats 2000000
namespace Mine
variable {prog : Program} {w : World} {A : Around} {E : Value → Shared → Prop} {s : Shared}

/-- a generator is asked for its next item -/
theorem nextGen {a : Addr} {gi n : Nat} {gs : GenState} {P : Nat → Shared → Shared → Prop} {Y : Protocol} {Q : Option Value → Shared → Prop} (hh : A.handled = none) (hl : s.heap.NoLimit) (hroom : A.depth < recursionLimit)
    (hg : s.heap.IsGen a gi) (hgs : s.gens[gi]? = some gs) (hgo : gs.Goes (model prog w) A.in1 (gEnd P) Y n (.send .none) (s.setGen gi .running))
    (hY : ∀ v s₁ gs', gs'.bare = true → Y (n - 1) (s.setGen gi .running) v s₁ (fun r' s'' => match n with | 0 => False | k + 1 => gs'.Goes (model prog w) A.in1 (gEnd P) Y k r' s'') → Q (some v) (s₁.setGen gi gs'))
    (hP : ∀ s₁, P n (s.setGen gi .running) s₁ → ∀ h', (∀ b o, s₁.heap.get? b = some o → h'.get? b = some o) → Q none { s₁.setGen gi .finished with heap := h' }) :
    wpAny (model prog w) A (pyNext (.ref a)) Q E s := by
  unfold pyNext
  refine wpAny_bind <| wpAny_attempt <| wpAny_callSpecial?_slot (name := Str.ofString "__next__") hg.typeIs slot_gen_next <| wpAny_call_entry slot_gen_next hg.typeIs entry_gen_next ?_ (args_gen_next _)
  show wpAny _ A.in1 (Builtin.Generator.genWake (.ref a) (.send .none)) _ _ s
  unfold Builtin.Generator.genWake
  refine wpAny_bind <| wpAny_holding <| wpAny_genNumber hg <| wpAny_bind <| wpAny_genState hgs ?_
  have body : ∀ (k : GenResult → Sem Value), (∀ r, k r = k r) → True := fun _ _ => trivial
  cases gs with
  | running => exact hgo.elim
  | finished => exact hgo.elim
  | _ =>
    refine wpAny_bind (wpAny_roomToWake hl hroom ?_)
    show wpAny _ A.in1 (.resume gi (.send .none) [] _) _ _ s
    refine wpAny_resumeQ hgs hgo (fun x s₁ hx => ?_) fun v s₁ gs' hb hv => wpAny_pure ⟨v, rfl, wpAny_pure (hY v s₁ gs' hb hv)⟩
    obtain ⟨rfl, hp⟩ := hx
    show wpAny _ A.in1 (newExc (.type "StopIteration") [] >>= _) _ _ _
    refine wpAny_bind ?_
    simp only [newExc, newTuple]
    refine wpAny_bind (wpAny_newObj_type ?_ (by size_fits))
    refine wpAny_bind (m := firstArgMember _ _) (wpAny_of_eq (a := Value.none) (by first | rfl | (simp only [firstArgMember]; rfl)) ?_)
    refine wpAny_newObj_type ?_ (by size_fits)
    simp only [raiseNew]
    refine wpAny_bind (wpAny_bind (wpAny_handled ?_))
    first | rw [show A.in1.handled = none from hh] | rw [hh]
    refine wpAny_throw ?_
    refine wpAny_bind (wpAny_isInstance (T := "StopIteration") (b := true) ⟨_, Heap.get?_push_size _ rfl, rfl⟩ isSubtype_stop ?_)
    exact wpAny_pure (hP s₁ hp _ fun b o hb => Heap.get?_push_of_some _ (Heap.get?_push_of_some _ hb))

def Bares (a : Array GenState) : Prop := ∀ x ∈ a, x.bare = true

theorem Bares.two {s : Shared} {gi : Nat} {x y : GenState} (b : Bares s.gens) (hgs : s.gens[gi]? = some y) (hx : x.bare = true) : Bares ((s.setGen gi .running).setGen gi x).gens :=
  (GenOnlyQ.of ((GenOnly.setGen s gi .running).trans (GenOnly.setGen _ gi x)) (setGen_self (gs := .running) (setGen_self hgs)) hx).bare b

theorem Fm.more {g h : Heap} {L I : Addr} {m : Str → Option Value} {own : List (Addr × Obj)} {o : Obj} (F : Fm g L h m own) (e : h.get? I = some o) (h0 : g.get? I = none ∧ I ≠ L ∧ I ≠ 58 ∧ I ≠ 51) (nd : I ∉ own.map (·.1)) : Fm g L h m ((I, o) :: own) where
  ns := F.ns
  keep := F.keep
  new := F.new
  has := fun p hp => by
    rcases List.mem_cons.mp hp with rfl | hp
    · exact ⟨e, h0⟩
    · exact F.has p hp
  nd := by rw [List.map_cons, List.nodup_cons]; exact ⟨nd, F.nd⟩
  tab := F.tab
  t58 := F.t58
  t51 := F.t51

/-- the generator can be woken with n items to come -/
def GRdy (prog : Program) (w : World) (A : Around) (ys : Nat → Option Int) (N : Nat) (g : Heap) (C I : Addr) (n : Nat) (gs : GenState) (oC oI : Obj) : Prop :=
  ∀ s'' : Shared, GIn g C I oC oI s''.heap → gs.Goes (model prog w) A.in1 (gEnd (gOver ys N C I)) (gProto ys N g C I) n (.send .none) s''

/-- how the generator stands after j items -/
def GStand (prog : Program) (w : World) (A : Around) (ys : Nat → Option Int) (N : Nat) (g : Heap) (C l : Addr) (j : Nat) (h : Heap) (gs : GenState) (xs : List (Addr × Obj)) : Prop :=
  (j = 0 ∧ gs = .fresh (.func (stBody (topAt 3)) (envAt 3 28 C)) ∧ ∃ oC mC, xs = [(C, oC)] ∧ NotCode oC ∧ h.Ns C mC ∧ mC "grouping" = some (.ref l)) ∨
  (∃ oC oI I, xs = [(I, oI), (C, oC)] ∧ NotCode oC ∧ NotCode oI ∧ (j = N ∨ GRdy prog w A ys N g C I (N - j) gs oC oI))

theorem gen_next {g : Heap} {L C a l : Addr} {gi N j : Nat} {gs : GenState} {m : Str → Option Value} {xs own : List (Addr × Obj)} {vs : List Value} {ns : List Int} {ys : Nat → Option Int} {Q : Option Value → Shared → Prop}
    (hh : A.handled = none) (hroom : A.depth < recursionLimit) (Sg : Stat g) (hl : g.IsList l vs.toArray) (hvs : IntsAre vs ns) (hok : strmOk none ns) (hys : ∀ k, ys k = strm none ns k)
    (F : Fm g L s.heap m (xs ++ own)) (hgen : s.heap.IsGen a gi) (hgs : s.gens[gi]? = some gs) (hb : Bares s.gens) (G : GStand prog w A ys N g C l j s.heap gs xs) (hj : j < N)
    (hsome : ∀ x t h' tk gens' gs' xs', ys j = some x → Fm g L h' m (xs' ++ own) → gens'[gi]? = some gs' → Bares gens' → GStand prog w A ys N g C l (j + 1) h' gs' xs' → Q (some (.int x t)) { s with heap := h', toks := tk, gens := gens' })
    (hnone : ∀ h' tk gens', ys j = none → Fm g L h' m own → Bares gens' → Q none { s with heap := h', toks := tk, gens := gens' }) :
    wpAny (model prog w) A (pyNext (.ref a)) Q E s := by
  have hset : ∀ x : GenState, ((s.setGen gi .running).setGen gi x).gens[gi]? = some x := fun x => setGen_self (gs := .running) (setGen_self hgs)
  rcases G with ⟨rfl, rfl, oC, mC, rfl, nC, nsC, hgr⟩ | ⟨oC, oI, I, rfl, nC, nI, hr⟩
  · -- woken for the first time
    obtain ⟨n, hn⟩ : ∃ n, N = n + 1 := ⟨N - 1, by (first | lia | omega)⟩
    have FC : Fm g C s.heap mC [] := by
      have P := F.has _ (.head _)
      exact ⟨nsC, F.keep, P.2.1, fun _ hp => (nomatch hp), List.nodup_nil, F.tab, P.2.2.2.1, P.2.2.2.2⟩
    obtain ⟨I, hI⟩ : ∃ I, I = s.heap.objs.size := ⟨_, rfl⟩
    have nI : s.heap.get? I = none := by rw [hI]; exact get_size_none _
    have fI := F.fresh nI
    have hx : ∀ p ∈ [(C, oC)], NotCode p.2 := fun p hp => by
      rw [List.mem_singleton.mp hp]; exact nC
    have hgo : (GenState.fresh (.func (stBody (topAt 3)) (envAt 3 28 C))).Goes (model prog w) A.in1 (gEnd (gOver ys N C I)) (gProto ys N g C I) (n + 1) (.send .none) (s.setGen gi .running) := by
      refine ⟨rfl, seg_func ?_⟩
      refine seg_execs_cons (seg_stmt (wpAny_Assign_Name <| wpAny_Constant_none <| lstoreK FC fun h₂ F₂ k₂ sz₂ => ?_))
      refine seg_execs_cons <| seg_For rfl <| lname F₂ hgr <| wpAny_pyIter_list (stays_list F₂.keep hl) fun p k lv hk => ?_
      have eI : h₂.objs.size = I := by rw [hI]; exact sz₂
      have F₃ := F₂.push { cls := .type "list_iterator", data := .fields #[.ref l, .int 0 0] }
      rw [eI] at F₃
      dsimp only
      rw [eI]
      refine seg_gloop (A := A.in1) (N := N) hh Sg hl hvs (hk _) (hk _) ns 0 n none _ _ _ _ _ rfl (Nat.zero_le _) F₃ (.int rfl rfl) ⟨_, F₃.get (.head _), rfl, rfl⟩ (fun _ z => nomatch z) hok (fun b o h1 h2 e => Heap.get?_push_of_some _ (k₂ b o h1 e)) (by (first | lia | omega)) fun j => ?_
      rw [hn, Nat.sub_self, Nat.zero_add, hys]
    refine nextGen (n := n + 1) hh (F.stat Sg).st.nolimit hroom hgen hgs hgo (fun v s₁ gs' hbare hv => ?_) fun s₁ hp h' hk => ?_
    · obtain ⟨x, t, h', tk, oC', oI', rfl, hyx, rfl, k2, eC, nC', eI, nI', hgo⟩ := hv
      have kk : ∀ b o, b ∉ [(C, oC)].map (·.1) → s.heap.get? b = some o → h'.get? b = some o := fun b o hb e => by
        refine k2 b o (by simpa using hb) ?_ e
        rintro rfl; rw [nI] at e; cases e
      have F' := F.turn (ys := [(C, oC')]) hx rfl kk fun p hp => by rw [List.mem_singleton.mp hp]; exact eC
      have nd := F.freshNd (o := oI') nI
      refine hsome x t h' tk _ gs' [(I, oI'), (C, oC')] (by rw [← hyx]; congr 1; (first | lia | omega)) (F'.more eI fI ?_) (hset gs') (hb.two hgs hbare) (.inr ⟨oC', oI', I, rfl, nC', nI', ?_⟩)
      · rw [List.map_cons, List.nodup_cons] at nd
        exact nd.1
      · rcases hgo with q | q
        · exact .inl (by (first | lia | omega))
        · refine .inr ?_
          rw [show N - (0 + 1) = n by (first | lia | omega)]
          exact q
    · obtain ⟨hy, h₁, tk, rfl, k2⟩ := hp
      refine hnone h' tk _ (by rw [← hy]; congr 1; (first | lia | omega)) ((F.lose hx (h' := h₁) fun b o hb e => ?_).grow hk) (hb.two hgs rfl)
      refine k2 b o (by simpa using hb) ?_ e
      rintro rfl; rw [nI] at e; cases e
  · have hr : GRdy prog w A ys N g C I (N - j) gs oC oI := hr.resolve_left (by (first | lia | omega))
    obtain ⟨n, hn⟩ : ∃ n, N - j = n + 1 := ⟨N - j - 1, by (first | lia | omega)⟩
    rw [hn] at hr
    have hx : ∀ p ∈ [(I, oI), (C, oC)], NotCode p.2 := fun p hp => by
      rcases List.mem_cons.mp hp with rfl | hp
      · exact nI
      · rw [List.mem_singleton.mp hp]; exact nC
    refine nextGen hh (F.stat Sg).st.nolimit hroom hgen hgs (hr _ ⟨F.keep, F.get (.tail _ (.head _)), F.get (.head _), F.tab⟩) (fun v s₁ gs' hbare hv => ?_) fun s₁ hp h' hk => ?_
    · obtain ⟨x, t, h', tk, oC', oI', rfl, hyx, rfl, k2, eC, nC', eI, nI', hgo⟩ := hv
      refine hsome x t h' tk _ gs' [(I, oI'), (C, oC')] (by rw [← hyx]; congr 1; (first | lia | omega)) (F.turn hx rfl (fun b o hb e => ?_) fun p hp => ?_) (hset gs') (hb.two hgs hbare) (.inr ⟨oC', oI', I, rfl, nC', nI', ?_⟩)
      · simp only [List.map_cons, List.map_nil, List.mem_cons, List.not_mem_nil, or_false, not_or] at hb
        exact k2 b o hb.2 hb.1 e
      · rcases List.mem_cons.mp hp with rfl | hp
        · exact eI
        · rw [List.mem_singleton.mp hp]; exact eC
      · rcases hgo with q | q
        · exact .inl (by (first | lia | omega))
        · refine .inr ?_
          rw [show N - (j + 1) = n by (first | lia | omega)]
          exact q
    · obtain ⟨hy, h₁, tk, rfl, k2⟩ := hp
      refine hnone h' tk _ (by rw [← hy]; congr 1; (first | lia | omega)) ((F.lose hx (h' := h₁) fun b o hb e => ?_).grow hk) (hb.two hgs rfl)
      simp only [List.map_cons, List.map_nil, List.mem_cons, List.not_mem_nil, or_false, not_or] at hb
      exact k2 b o hb.2 hb.1 e
end Mine

/-! G5 -/
set_option maxRecDepth 100000
set_option maxHeartbeats 2000000
namespace Mine
variable {prog : Program} {w : World} {A : Around} {E : Value → Shared → Prop} {s : Shared} {Q : Value → Shared → Prop}

def genObj (gi : Nat) (nm qn : Value) : Obj := { cls := .type "generator", data := .fields #[.int gi 0, nm, qn] }
theorem Fm.isGen {g h : Heap} {L a : Addr} {m : Str → Option Value} {own : List (Addr × Obj)} {gi : Nat} {nm qn : Value} (F : Fm g L h m own) (hm : (a, genObj gi nm qn) ∈ own) : h.IsGen a gi := ⟨_, nm, qn, F.get hm, rfl, rfl, rfl⟩

theorem gen_make {g : Heap} {L l : Addr} {m : Str → Option Value} {own : List (Addr × Obj)} {ys : Nat → Option Int} {N : Nat} (A' : Around) (Sg : Stat g) (F : Fm g L s.heap m own) (hroom : A.depth < recursionLimit) (hb : Bares s.gens)
    (hQ : ∀ C a oC h' tk gens' nm qn, Fm g L h' m ([(C, oC)] ++ (a, genObj s.gens.size nm qn) :: own) → gens'[s.gens.size]? = some (.fresh (.func (stBody (topAt 3)) (envAt 3 28 C))) → Bares gens' →
      GStand prog w A' ys N g C l 0 h' (.fresh (.func (stBody (topAt 3)) (envAt 3 28 C))) [(C, oC)] → Q (.ref a) { s with heap := h', toks := tk, gens := gens' }) :
    wpAny (model prog w) A (call (.ref 28) [.ref l]) Q E s := by
  obtain ⟨o, doc, pm, ho, hd, hc⟩ := (F.stat Sg).fn (f := 28) (i := 3) (by decide)
  refine wpAny_call (codeAny_call_generator (fd := fdAt 3 28 doc pm) (body := stBody (topAt 3)) hroom ho hd rfl rfl rfl hc ?_)
  refine wpAny_of_eq (a := ([("grouping", Value.ref l)] : List (Str × Value))) rfl ?_
  refine wpAny_newFunctionEnv (show ∀ x ∈ (stScope (topAt 3)).names, x.2 ≠ NameKind.cell by decide) (by exact locs rfl) (fun h' hns hsb => ?_) rfl
  have kp : ∀ b o, s.heap.get? b = some o → h'.get? b = some o := fun b o e => hsb.extBut b o (Nat.ne_of_lt (Heap.lt_size e)) (Heap.get?_push_of_some _ e)
  obtain ⟨oC, es, ep, eC, dC, rC⟩ := id hns
  have F₁ : Fm g L h' m ((s.heap.objs.size, oC) :: own) := F.add kp (get_size_none _) eC
  refine ⟨(F₁.stat Sg).st.nolimit, ?_⟩
  dsimp only
  have F₂ := F₁.push { cls := .type "generator", data := .fields #[.int s.gens.size 0, .str (fdAt 3 28 doc pm).name (s.toks + 1), .str (fdAt 3 28 doc pm).qualname (s.toks + 1 + 1)] }
  have F₃ : Fm g L (h'.push (genObj s.gens.size (.str (fdAt 3 28 doc pm).name (s.toks + 1)) (.str (fdAt 3 28 doc pm).qualname (s.toks + 1 + 1)))) m ([(s.heap.objs.size, oC)] ++ (h'.objs.size, genObj s.gens.size (.str (fdAt 3 28 doc pm).name (s.toks + 1)) (.str (fdAt 3 28 doc pm).qualname (s.toks + 1 + 1))) :: own) := by
    refine ⟨F₂.ns, F₂.keep, F₂.new, fun p hp => F₂.has p ?_, ?_, F₂.tab, F₂.t58, F₂.t51⟩
    · rcases List.mem_cons.mp hp with hp | hp
      · rw [hp]; exact .tail _ (.head _)
      · rcases List.mem_cons.mp hp with hp | hp
        · rw [hp]; exact .head _
        · exact .tail _ (.tail _ hp)
    · have := F₂.nd
      simp only [List.map_cons, List.nodup_cons, List.mem_cons, not_or] at this
      simp only [List.cons_append, List.nil_append, List.map_cons, List.nodup_cons, List.mem_cons, not_or]
      exact ⟨⟨fun z => this.1.1 z.symm, this.2.1⟩, this.1.2, this.2.2⟩
  refine hQ s.heap.objs.size h'.objs.size oC _ _ _ _ _ F₃ (Array.getElem?_push_size ..) ?_ (.inl ⟨rfl, rfl, oC, _, rfl, .dict dC, hns.push _, rfl⟩)
  intro x hx
  rcases Array.mem_push.mp hx with hx | hx
  · exact hb x hx
  · rw [hx]; rfl
end Mine

/-! M1 -/
set_option maxRecDepth 100000
set_option maxHeartbeats 2000000
namespace Mine

/-- a row's number -/
def hor (b : Int) (fs : List Int) : Int := fs.foldl (fun n f => n * b + f) 0

theorem hor_acc (b : Int) : ∀ (fs : List Int) (n : Int), fs.foldl (fun n f => n * b + f) n = n * b ^ fs.length + hor b fs
  | [], n => by simp [hor]
  | f :: r, n => by
    have h1 := hor_acc b r (n * b + f)
    have h2 := hor_acc b r (0 * b + f)
    show r.foldl (fun n f => n * b + f) (n * b + f) = n * b ^ (r.length + 1) + r.foldl (fun n f => n * b + f) (0 * b + f)
    rw [h1, h2, Int.pow_succ, Int.add_mul, Int.zero_mul, Int.zero_add, Int.mul_assoc, Int.mul_comm b]
    (first | lia | omega)
theorem hor_cons (b f : Int) (r : List Int) : hor b (f :: r) = f * b ^ r.length + hor b r := by
  have := hor_acc b r (0 * b + f)
  rw [Int.zero_mul, Int.zero_add] at this
  show r.foldl (fun n f => n * b + f) (0 * b + f) = _
  rw [Int.zero_mul, Int.zero_add]
  exact this
theorem hor_append (b : Int) (xs ys : List Int) : hor b (xs ++ ys) = hor b xs * b ^ ys.length + hor b ys := by
  unfold hor
  rw [List.foldl_append, hor_acc]
  rfl
theorem pow_pos' {b : Int} (hb : 0 < b) (n : Nat) : 0 < b ^ n := Int.pow_pos hb

theorem hor_bound {hf : Int} (h0 : 0 ≤ hf) : ∀ fs : List Int, (∀ f ∈ fs, -hf ≤ f ∧ f ≤ hf) → 2 * hor (2 * hf + 1) fs + 1 ≤ (2 * hf + 1) ^ fs.length ∧ -((2 * hf + 1) ^ fs.length) + 1 ≤ 2 * hor (2 * hf + 1) fs
  | [], _ => by simp [hor]
  | f :: r, h => by
    obtain ⟨i1, i2⟩ := hor_bound h0 r fun x hx => h x (.tail _ hx)
    obtain ⟨f1, f2⟩ := h f (.head _)
    rw [hor_cons]
    have hP := pow_pos' (show 0 < 2 * hf + 1 by (first | lia | omega)) r.length
    have e : (2 * hf + 1) ^ (f :: r).length = 2 * (hf * (2 * hf + 1) ^ r.length) + (2 * hf + 1) ^ r.length := by
      rw [List.length_cons, Int.pow_succ, Int.mul_add, Int.mul_one, Int.mul_comm _ (2 * hf), Int.mul_assoc]
    rw [e]
    have m1 : f * (2 * hf + 1) ^ r.length ≤ hf * (2 * hf + 1) ^ r.length := Int.mul_le_mul_of_nonneg_right f2 (by (first | lia | omega))
    have m2 : -hf * (2 * hf + 1) ^ r.length ≤ f * (2 * hf + 1) ^ r.length := Int.mul_le_mul_of_nonneg_right f1 (by (first | lia | omega))
    rw [Int.neg_mul] at m2
    (first | lia | omega)

/-- the signs rise -/
theorem sgn_lt {f g : Int} (hf0 : -4 ≤ f) (hf : f ≤ 4) (hg0 : -4 ≤ g) (hg : g ≤ 4) : sgn f < sgn g ↔ f < g := by
  have key : ∀ i j : Fin 9, signs.getD i.val 0 < signs.getD j.val 0 ↔ i.val < j.val := by decide
  have := key ⟨(4 + f).toNat, by (first | lia | omega)⟩ ⟨(4 + g).toNat, by (first | lia | omega)⟩
  unfold sgn
  refine this.trans ?_
  show (4 + f).toNat < (4 + g).toNat ↔ f < g
  (first | lia | omega)
theorem sgn_inj {f g : Int} (hf0 : -4 ≤ f) (hf : f ≤ 4) (hg0 : -4 ≤ g) (hg : g ≤ 4) (e : sgn f = sgn g) : f = g := by
  have h1 := sgn_lt hf0 hf hg0 hg
  have h2 := sgn_lt hg0 hg hf0 hf
  (first | lia | omega)
theorem sgn_mem {f : Int} (h0 : -4 ≤ f) (h : f ≤ 4) : sgn f ∈ signs := by
  have key : ∀ i : Fin 9, signs.getD i.val 0 ∈ signs := by decide
  exact key ⟨(4 + f).toNat, by (first | lia | omega)⟩
theorem dig_sgn {f : Int} (h0 : -4 ≤ f) (h : f ≤ 4) : digOf (sgn f) = f := by
  have key : ∀ i : Fin 9, signs.idxOf (signs.getD i.val 0) = i.val := by decide
  have := key ⟨(4 + f).toNat, by (first | lia | omega)⟩
  unfold digOf sgn
  rw [this]
  show ((4 + f).toNat : Int) - 4 = f
  (first | lia | omega)
theorem sgn_blank {f : Int} (h0 : -4 ≤ f) (h : f ≤ 4) : sgn f = 32 ↔ f = 0 := by
  have key : ∀ i : Fin 9, signs.getD i.val 0 = 32 ↔ i.val = 4 := by decide
  have := key ⟨(4 + f).toNat, by (first | lia | omega)⟩
  unfold sgn
  rw [this]
  show (4 + f).toNat = 4 ↔ f = 0
  (first | lia | omega)

theorem worth_hor (b : Int) (fs : List Int) (h : ∀ f ∈ fs, -4 ≤ f ∧ f ≤ 4) : worthC b (fs.map sgn) = hor b fs := by
  unfold worthC hor
  rw [List.foldl_map]
  have : ∀ (fs : List Int) (n : Int), (∀ f ∈ fs, -4 ≤ f ∧ f ≤ 4) → fs.foldl (fun x y => x * b + digOf (sgn y)) n = fs.foldl (fun n f => n * b + f) n := by
    intro fs
    induction fs with
    | nil => intro n _; rfl
    | cons f r ih =>
      intro n h
      show r.foldl _ (n * b + digOf (sgn f)) = r.foldl _ (n * b + f)
      rw [dig_sgn (h f (.head _)).1 (h f (.head _)).2]
      exact ih _ fun x hx => h x (.tail _ hx)
  exact this fs 0 h

/-- the order of two texts is the order of their numbers -/
theorem text_lt {hf : Int} (h0 : 0 ≤ hf) (h4 : hf ≤ 4) : ∀ fs gs : List Int, fs.length = gs.length → (∀ f ∈ fs, -hf ≤ f ∧ f ≤ hf) → (∀ f ∈ gs, -hf ≤ f ∧ f ≤ hf) →
    ((fs.map sgn < gs.map sgn) ↔ hor (2 * hf + 1) fs < hor (2 * hf + 1) gs)
  | [], [], _, _, _ => by simp [hor]
  | [], _ :: _, e, _, _ => by cases e
  | _ :: _, [], e, _, _ => by cases e
  | f :: r, g :: q, e, hf', hg' => by
    have el : r.length = q.length := by simpa using e
    have ih := text_lt h0 h4 r q el (fun x hx => hf' x (.tail _ hx)) fun x hx => hg' x (.tail _ hx)
    obtain ⟨f1, f2⟩ := hf' f (.head _)
    obtain ⟨g1, g2⟩ := hg' g (.head _)
    obtain ⟨b1, b2⟩ := hor_bound h0 r fun x hx => hf' x (.tail _ hx)
    obtain ⟨c1, c2⟩ := hor_bound h0 q fun x hx => hg' x (.tail _ hx)
    have hP := pow_pos' (show 0 < 2 * hf + 1 by (first | lia | omega)) r.length
    rw [List.map_cons, List.map_cons, List.cons_lt_cons_iff, hor_cons, hor_cons, sgn_lt (by (first | lia | omega)) (by (first | lia | omega)) (by (first | lia | omega)) (by (first | lia | omega)), ih, ← el]
    rw [← el] at c1 c2
    rcases Int.lt_trichotomy f g with z | z | z
    · have m := Int.mul_le_mul_of_nonneg_right (show f + 1 ≤ g by (first | lia | omega)) (Int.le_of_lt hP)
      rw [Int.add_mul, Int.one_mul] at m
      constructor
      · intro _; (first | lia | omega)
      · intro _; exact .inl z
    · subst z
      constructor
      · rintro (q | ⟨_, q⟩)
        · (first | lia | omega)
        · (first | lia | omega)
      · intro q; exact .inr ⟨rfl, by (first | lia | omega)⟩
    · have m := Int.mul_le_mul_of_nonneg_right (show g + 1 ≤ f by (first | lia | omega)) (Int.le_of_lt hP)
      rw [Int.add_mul, Int.one_mul] at m
      constructor
      · rintro (q | ⟨q, _⟩)
        · (first | lia | omega)
        · have := sgn_inj (by (first | lia | omega)) (by (first | lia | omega)) (by (first | lia | omega)) (by (first | lia | omega)) q
          (first | lia | omega)
      · intro _; (first | lia | omega)
end Mine

/-! M2 -/
set_option maxRecDepth 100000
set_option maxHeartbeats 2000000
namespace Mine

theorem round_up {hi lo P : Int} (h1 : 2 * lo + 1 ≤ P) (h2 : -P + 1 ≤ 2 * lo) : (hi * P + lo + P.fdiv 2).fdiv P = hi ∧ (hi * P + lo + P.fdiv 2).fmod P = lo + P.fdiv 2 := by
  have e : P.fdiv 2 = P / 2 := Int.fdiv_eq_ediv_of_nonneg _ (by decide)
  rw [e]
  exact fdm_unique (by (first | lia | omega)) (by (first | lia | omega)) (by (first | lia | omega))
theorem round_dn {hi lo P : Int} (h1 : 2 * lo + 1 ≤ P) (h2 : -P + 1 ≤ 2 * lo) : (hi * P + lo - P.fdiv 2).fdiv (-P) = -hi ∧ (hi * P + lo - P.fdiv 2).fmod (-P) = lo - P.fdiv 2 := by
  have e : P.fdiv 2 = P / 2 := Int.fdiv_eq_ediv_of_nonneg _ (by decide)
  rw [e]
  have n := fdm_neg (hi * P + lo - P / 2) (-P) (by (first | lia | omega))
  rw [n.1, n.2, Int.neg_neg]
  have u := fdm_unique (a := -(hi * P + lo - P / 2)) (q := -hi) (r := P / 2 - lo) (b := P) (by rw [Int.neg_mul]; (first | lia | omega)) (by (first | lia | omega)) (by (first | lia | omega))
  rw [u.1, u.2]
  (first | lia | omega)

theorem pow_mono {b : Int} (hb : 1 ≤ b) {m n : Nat} (h : m ≤ n) : b ^ m ≤ b ^ n := by
  obtain ⟨k, rfl⟩ := Nat.exists_eq_add_of_le h
  rw [Int.pow_add]
  have h1 := pow_pos' (show 0 < b by (first | lia | omega)) m
  have h2 : 1 ≤ b ^ k := by have := pow_pos' (show 0 < b by (first | lia | omega)) k; (first | lia | omega)
  have := Int.mul_le_mul_of_nonneg_left h2 (Int.le_of_lt h1)
  rw [Int.mul_one] at this
  exact this

/-- a row cut z figures from the right -/
theorem cut_hor {hf : Int} (h0 : 0 ≤ hf) {fs : List Int} (h : ∀ f ∈ fs, -hf ≤ f ∧ f ≤ hf) (z : Nat) :
    hor (2 * hf + 1) fs = hor (2 * hf + 1) (fs.take (fs.length - z)) * (2 * hf + 1) ^ z + hor (2 * hf + 1) (fs.drop (fs.length - z)) ∧
    2 * hor (2 * hf + 1) (fs.drop (fs.length - z)) + 1 ≤ (2 * hf + 1) ^ z ∧ -((2 * hf + 1) ^ z) + 1 ≤ 2 * hor (2 * hf + 1) (fs.drop (fs.length - z)) := by
  have hb := hor_bound h0 (fs.drop (fs.length - z)) fun f hf => h f (List.mem_of_mem_drop hf)
  have hm : (2 * hf + 1) ^ (fs.drop (fs.length - z)).length ≤ (2 * hf + 1) ^ z := pow_mono (by (first | lia | omega)) (by rw [List.length_drop]; (first | lia | omega))
  refine ⟨?_, by (first | lia | omega), by (first | lia | omega)⟩
  have e := hor_append (2 * hf + 1) (fs.take (fs.length - z)) (fs.drop (fs.length - z))
  rw [List.take_append_drop] at e
  by_cases hz : z ≤ fs.length
  · rw [show (fs.drop (fs.length - z)).length = z by rw [List.length_drop]; (first | lia | omega)] at e
    exact e
  · have t0 : fs.length - z = 0 := by (first | lia | omega)
    rw [t0, List.take_zero] at e ⊢
    have z0 : hor (2 * hf + 1) [] = 0 := rfl
    rw [z0, Int.zero_mul] at e ⊢
    exact e

theorem told_ok {hf : Int} (h0 : 0 ≤ hf) {fs : List Int} (h : ∀ f ∈ fs, -hf ≤ f ∧ f ≤ hf) (z : Nat) :
    (hor (2 * hf + 1) fs + ((2 * hf + 1) ^ z).fdiv 2).fdiv ((2 * hf + 1) ^ z) = hor (2 * hf + 1) (fs.take (fs.length - z)) ∧
    (hor (2 * hf + 1) fs + ((2 * hf + 1) ^ z).fdiv 2).fmod ((2 * hf + 1) ^ z) = hor (2 * hf + 1) (fs.drop (fs.length - z)) + ((2 * hf + 1) ^ z).fdiv 2 := by
  obtain ⟨e, b1, b2⟩ := cut_hor h0 h z
  have := round_up (hi := hor (2 * hf + 1) (fs.take (fs.length - z))) b1 b2
  rw [← e] at this
  exact this

theorem hor_front (b : Int) : ∀ (a : Nat) (xs : List Int), hor b (List.replicate a 0 ++ xs) = hor b xs
  | 0, _ => rfl
  | a + 1, xs => by
    rw [List.replicate_succ, List.cons_append, hor_cons, Int.zero_mul, Int.zero_add]
    exact hor_front b a xs
theorem hor_zeros (b : Int) (k : Nat) : hor b (List.replicate k 0) = 0 := by
  have := hor_front b k []
  rw [List.append_nil] at this
  rw [this]; rfl
theorem hor_back (b : Int) (xs : List Int) (k : Nat) : hor b (xs ++ List.replicate k 0) = hor b xs * b ^ k := by
  rw [hor_append, hor_zeros, List.length_replicate, Int.add_zero]

/-- the number divides by the power of the noughts behind, and by no more -/
theorem bare_ok {q P : Int} (hP : 0 < P) : (q * P).fdiv P = q ∧ (q * P).fmod P = 0 := fdm_unique (by (first | lia | omega)) (by (first | lia | omega)) hP
theorem once_more {b d q P : Int} (hP : 0 < P) (hd : d ≠ 0) (h1 : -b < d) (h2 : d < b) : ((q * b + d) * P).fmod (P * b) ≠ 0 := by
  intro e
  have hb : 0 < b := by (first | lia | omega)
  have m := Int.mul_fdiv_add_fmod ((q * b + d) * P) (P * b)
  rw [e, Int.add_zero] at m
  generalize ((q * b + d) * P).fdiv (P * b) = k at m
  have m2 : P * (b * k) = P * (q * b + d) := by rw [← Int.mul_assoc, m, Int.mul_comm]
  have m3 : b * k = q * b + d := Int.eq_of_mul_eq_mul_left (by (first | lia | omega)) m2
  have m4 : b * (k - q) = d := by rw [Int.mul_sub, Int.mul_comm b q]; (first | lia | omega)
  rcases Int.lt_trichotomy (k - q) 0 with z | z | z
  · have := Int.mul_le_mul_of_nonneg_left (show k - q ≤ -1 by (first | lia | omega)) (Int.le_of_lt hb)
    (first | lia | omega)
  · rw [z, Int.mul_zero] at m4; exact hd m4.symm
  · have := Int.mul_le_mul_of_nonneg_left (show 1 ≤ k - q by (first | lia | omega)) (Int.le_of_lt hb)
    (first | lia | omega)
end Mine

/-! M3 -/
set_option maxRecDepth 100000
set_option maxHeartbeats 2000000
namespace Mine

/-- what the generator tells, by the sizes -/
def Told (sz : List Int) (on : Bool) (ys : Nat → Option Int) : Prop := ∀ k, ys k = if k < sz.length ∨ on = true then some (sz.getD (min k (sz.length - 1)) 0) else none

theorem Told.stop {sz : List Int} {on : Bool} {ys : Nat → Option Int} (T : Told sz on ys) {j : Nat} (h : ys j = none) (n : Nat) (pos : Int) : cutsF sz on n j pos = [] := by
  cases n with
  | zero => rfl
  | succ n =>
    rw [T j] at h
    rw [cutsF, if_pos]
    right
    by_cases q : j < sz.length ∨ on = true
    · rw [if_pos q] at h; cases h
    · cases on with
      | false => exact ⟨by (first | lia | omega), rfl⟩
      | true => exact absurd (.inr rfl) q
theorem cuts_full {sz : List Int} {on : Bool} {pos : Int} (h : 8 ≤ pos) (n j : Nat) : cutsF sz on n j pos = [] := by
  cases n with
  | zero => rfl
  | succ n => rw [cutsF, if_pos (.inl h)]
theorem Told.go {sz : List Int} {on : Bool} {ys : Nat → Option Int} (T : Told sz on ys) {j : Nat} {z pos : Int} (h : ys j = some z) (hp : pos < 8) (n : Nat) : cutsF sz on (n + 1) j pos = (pos + z) :: cutsF sz on n (j + 1) (pos + z) := by
  rw [T j] at h
  by_cases q : j < sz.length ∨ on = true
  · rw [if_pos q] at h
    have e := Option.some.inj h
    rw [cutsF, if_neg, e]
    rintro (z | ⟨z1, z2⟩)
    · (first | lia | omega)
    · rcases q with q | q
      · (first | lia | omega)
      · rw [q] at z2; cases z2
  · rw [if_neg q] at h; cases h

/-- the five ends -/
def ends : List (List Int) := [[0], [127, 1], [], [0, 2], [200]]
def moreOf (e : List Int) : List Int := if e = [200] then [200] else []
def onOf (e : List Int) : Bool := e.take 1 == [0]

theorem told_ends {a b c : Int} (ha : 1 ≤ a ∧ a ≤ 3) (hb : 1 ≤ b ∧ b ≤ 3) (hc : 1 ≤ c ∧ c ≤ 3) {e : List Int} (he : e ∈ ends) : Told ([a, b, c] ++ moreOf e) (onOf e) (strm none ([a, b, c] ++ e)) := by
  have three : ∀ (e : List Int) (k : Nat), strm none (a :: b :: c :: e) (k + 3) = strm (some c) e k := fun e k => by
    rw [strm_succ (by (first | lia | omega)) (by (first | lia | omega)), strm_succ (by (first | lia | omega)) (by (first | lia | omega)), strm_succ (by (first | lia | omega)) (by (first | lia | omega))]
  have s0 : ∀ e : List Int, strm none (a :: b :: c :: e) 0 = some a := fun e => strm_zero (by (first | lia | omega)) (by (first | lia | omega))
  have s1 : ∀ e : List Int, strm none (a :: b :: c :: e) 1 = some b := fun e => by rw [strm_succ (by (first | lia | omega)) (by (first | lia | omega)), strm_zero (by (first | lia | omega)) (by (first | lia | omega))]
  have s2 : ∀ e : List Int, strm none (a :: b :: c :: e) 2 = some c := fun e => by rw [strm_succ (by (first | lia | omega)) (by (first | lia | omega)), strm_succ (by (first | lia | omega)) (by (first | lia | omega)), strm_zero (by (first | lia | omega)) (by (first | lia | omega))]
  simp only [ends, List.mem_cons, List.not_mem_nil, or_false] at he
  intro k
  rcases he with rfl | rfl | rfl | rfl | rfl
  · match k with
    | 0 => exact s0 _
    | 1 => exact s1 _
    | 2 => exact s2 _
    | k + 3 =>
      show strm none (a :: b :: c :: [0]) (k + 3) = _
      rw [three, strm_const (by decide) rfl, if_pos (.inr rfl)]
      show some c = some (([a, b, c] : List Int).getD (min (k + 3) 2) 0)
      rw [show min (k + 3) 2 = 2 by (first | lia | omega)]; rfl
  · match k with
    | 0 => exact s0 _
    | 1 => exact s1 _
    | 2 => exact s2 _
    | k + 3 =>
      show strm none (a :: b :: c :: [127, 1]) (k + 3) = _
      rw [three, strm_stop rfl, if_neg]
      rintro (q | q)
      · exact absurd (show k + 3 < 3 from q) (by (first | lia | omega))
      · exact absurd q (by decide)
  · match k with
    | 0 => exact s0 _
    | 1 => exact s1 _
    | 2 => exact s2 _
    | k + 3 =>
      show strm none (a :: b :: c :: []) (k + 3) = _
      rw [three, strm, if_neg]
      rintro (q | q)
      · exact absurd (show k + 3 < 3 from q) (by (first | lia | omega))
      · exact absurd q (by decide)
  · match k with
    | 0 => exact s0 _
    | 1 => exact s1 _
    | 2 => exact s2 _
    | k + 3 =>
      show strm none (a :: b :: c :: [0, 2]) (k + 3) = _
      rw [three, strm_const (by decide) rfl, if_pos (.inr rfl)]
      show some c = some (([a, b, c] : List Int).getD (min (k + 3) 2) 0)
      rw [show min (k + 3) 2 = 2 by (first | lia | omega)]; rfl
  · match k with
    | 0 => exact s0 _
    | 1 => exact s1 _
    | 2 => exact s2 _
    | 3 =>
      show strm none (a :: b :: c :: [200]) (0 + 3) = _
      rw [three, strm_zero (by decide) (by decide)]; rfl
    | k + 4 =>
      show strm none (a :: b :: c :: [200]) ((k + 1) + 3) = _
      rw [three, strm_succ (by decide) (by decide), strm, if_neg]
      rintro (q | q)
      · exact absurd (show k + 4 < 4 from q) (by (first | lia | omega))
      · exact absurd q (by decide)

theorem ends_ok {a b c : Int} (ha : 1 ≤ a ∧ a ≤ 3) (hb : 1 ≤ b ∧ b ≤ 3) (hc : 1 ≤ c ∧ c ≤ 3) {e : List Int} (he : e ∈ ends) : strmOk none ([a, b, c] ++ e) := by
  simp only [ends, List.mem_cons, List.not_mem_nil, or_false] at he
  refine .inr (.inr ⟨by (first | lia | omega), by (first | lia | omega), .inr (.inr ⟨by (first | lia | omega), by (first | lia | omega), .inr (.inr ⟨by (first | lia | omega), by (first | lia | omega), ?_⟩)⟩)⟩)
  rcases he with rfl | rfl | rfl | rfl | rfl
  · exact .inr (.inl ⟨rfl, rfl⟩)
  · exact .inl rfl
  · trivial
  · exact .inr (.inl ⟨rfl, rfl⟩)
  · exact .inr (.inr ⟨by decide, by decide, trivial⟩)

theorem told_size {a b c : Int} (ha : 1 ≤ a ∧ a ≤ 3) (hb : 1 ≤ b ∧ b ≤ 3) (hc : 1 ≤ c ∧ c ≤ 3) {e : List Int} {ys : Nat → Option Int} (T : Told ([a, b, c] ++ moreOf e) (onOf e) ys) {j : Nat} {z : Int} (h : ys j = some z) : 1 ≤ z ∧ z ≤ 200 := by
  rw [T j] at h
  split at h
  · have hz := Option.some.inj h
    have hlen : min j (([a, b, c] ++ moreOf e).length - 1) < ([a, b, c] ++ moreOf e).length := by
      have : 3 ≤ ([a, b, c] ++ moreOf e).length := by simp
      (first | lia | omega)
    rw [List.getD_eq_getElem?_getD, List.getElem?_eq_getElem hlen] at hz
    have hm : z ∈ [a, b, c] ++ moreOf e := by rw [← hz]; exact List.getElem_mem hlen
    rcases List.mem_append.mp hm with hm | hm
    · simp only [List.mem_cons, List.not_mem_nil, or_false] at hm
      (first | lia | omega)
    · unfold moreOf at hm
      split at hm
      · rw [List.mem_singleton.mp hm]; decide
      · cases hm
  · cases h
end Mine

/-! S1 -/
set_option maxRecDepth 100000
set_option maxHeartbeats 2000000
namespace Mine
variable {prog : Program} {w : World} {A : Around} {E : Value → Shared → Prop} {s : Shared} {Q : Value → Shared → Prop}

theorem strcoll_ok {x y : Str} {t u : Tok} (S : Stat s.heap) (T : Tabs s.heap) (hroom : A.depth < recursionLimit)
    (hQ : ∀ h' tk tk', Kept s h' → Q (.int (b2i (decide (y.cps.toList < x.cps.toList)) - b2i (decide (x.cps.toList < y.cps.toList))) tk') { s with heap := h', toks := tk }) :
    wpAny (model prog w) A (call (.ref 21) [.str x t, .str y u]) Q E s := by
  refine enterP (i := 1) (binds := [("a", .str x t), ("b", .str y u)]) S T (by decide) hroom (fun _ _ => rfl) fun L h₁ F => ?_
  refine wpAny_execs_cons (wpAny_Return_some (wpAny_BinOp (wpAny_Compare1 (lname F rfl (lname F rfl (P.gt_str (wpAny_Compare1 (lname F rfl (lname F rfl (PyProof.Rows.lt_str (sub_bool ?_)))))))))))
  exact hQ _ _ _ F.keep

end Mine

/-! L1 -/
set_option maxRecDepth 100000
set_option maxHeartbeats 2000000
namespace Mine
variable {prog : Program} {w : World} {A : Around} {E : Value → Shared → Prop} {s : Shared}

theorem sliceL {value slice : Expr} {g : Heap} {L : Addr} {m : Str → Option Value} {own : List (Addr × Obj)} {Q : Value → Shared → Prop} {l : Addr} {items : Array Value} {vl vu : Value} {lo hi : Option Int}
    (F : Fm g L s.heap m own) (hl : s.heap.IsList l items) (pl : IsPart vl lo) (pu : IsPart vu hi) (hsz : items.size ≤ 1000)
    (h : ∀ a h', s.heap.get? a = none → Fm g L h' m ((a, listOf (slicePick items lo hi none) 0) :: own) → Q (.ref a) { s with heap := h' })
    (hs : subscripted slice false (.ref l) (.ref s.heap.objs.size) = operate [.ref s.heap.objs.size, .ref l] (getItem (.ref l) (.ref s.heap.objs.size)) := by with_unfolding_all rfl)
    (ht : ∀ r, letTemporaryGo value (.ref l) r = pure () := by intro _; with_unfolding_all rfl) :
    wpAny (model prog w) A (subscriptTail value slice (.ref l) (.ref s.heap.objs.size)) Q E { s with heap := s.heap.push { cls := .type "slice", data := .fields #[vl, vu, .none] } } := by
  have hn : s.heap.get? (s.heap.objs.size + 1) = none := by
    cases q : s.heap.get? (s.heap.objs.size + 1) with
    | none => rfl
    | some o => exact absurd (Heap.lt_size q) (Nat.not_lt.mpr (Nat.le_succ _))
  exact slice_list F.fr newsAll hl pl pu (fun h' F' N' => h _ h' hn (F.ofFrAdd F' N' hn)) hs ht (szl (by omega))
end Mine

/-! L2 -/
set_option maxRecDepth 100000
set_option maxHeartbeats 2000000
namespace Mine
variable {fa : Addr} {cd : Value} {prog : Program} {w : World} {A : Around} {E : Value → Shared → Prop} {s : Shared}

abbrev lawB : List Stmt := stBody (topAt 19)
abbrev lawE (fa : Addr) (cd : Value) (L : Addr) : Env := envOfC (stName (topAt 19)) (stScope (topAt 19)) L fa cd

/-- a row: eight figures from -hf to hf -/
def Row (hf : Int) (fs : List Int) : Prop := fs.length = 8 ∧ ∀ f ∈ fs, -hf ≤ f ∧ f ≤ hf

theorem Fm.perm {g h : Heap} {L : Addr} {m : Str → Option Value} {own own' : List (Addr × Obj)} (F : Fm g L h m own) (p : own.Perm own') : Fm g L h m own' where
  ns := F.ns
  keep := F.keep
  new := F.new
  has := fun q hq => F.has q (p.mem_iff.mpr hq)
  nd := (p.map _).nodup_iff.mp F.nd
  tab := F.tab
  t58 := F.t58
  t51 := F.t51

theorem law_p1 {g : Heap} {L sl : Addr} {m : Str → Option Value} {ot ob : Obj} {vs : List Value} {ns : List Int} {Q : Flow → Shared → Prop} (hh : A.handled = none) (hroom : A.depth + 100 < recursionLimit)
    (Sg : Stat g) (hl : g.IsList sl vs.toArray) (hi : IntsAre vs ns) (hn : ns.length ≤ 63) (F : Fm g L s.heap m [(L + 2, ot), (L + 1, ob)]) (dt : ot.data = .cell none) (db : ob.data = .cell none) (ms : m "script" = some (.ref sl))
    (next : ∀ h' tk hf tb m' ob' R r1 r2 ws1 ws2 n1 n2 n3 fs1 fs2 own, 1 ≤ hf → hf ≤ 4 → ob'.data = .cell (some (.int (2 * hf + 1) tb)) → m' "script" = some (.ref sl) → m' "rows" = some (.ref R) → IntsAre ws1 fs1 → IntsAre ws2 fs2 → Row hf fs1 → Row hf fs2 →
      Fm g L h' m' ((L + 2, ot) :: (L + 1, ob') :: own) → (R, listOf #[.ref r1, .ref r2] n3) ∈ own → (r1, listOf ws1.toArray n1) ∈ own → (r2, listOf ws2.toArray n2) ∈ own →
      wpAny (model prog w) A (execs (lawB.drop 5) (lawE fa cd L)) Q E { s with heap := h', toks := tk }) :
    wpAny (model prog w) A (execs lawB (lawE fa cd L)) Q E s := by
  have hlF : ∀ {h : Heap} {m' : Str → Option Value} {own' : List (Addr × Obj)}, Fm g L h m' own' → h.IsList sl vs.toArray := fun F => stays_list F.keep hl
  refine wpAny_execs_cons <| wpAny_Assign_Name <| wpAny_BinOp <| wpAny_Constant_int <| wpAny_BinOp <| callF (i := 14) (F.stat Sg) rfl (by decide) <| args_cons <| lname F ms <| args_cons <| wpAny_Constant_int <| args_cons <| wpAny_Constant_int <| args_nil ⟨F.stat Sg, ?_⟩
  dsimp only
  refine law_cell_ok (i := 0) (F.stat Sg) F.tab (by (first | lia | omega)) (hlF F) hi hn (by decide) fun h₂ tk2 t2 k2 => ?_
  have F₂ := F.grow k2
  refine wpAny_Constant_int <| mod_int' (by decide) <| add_int <| lstore F₂ fun h₃ F₃ => ?_
  dsimp only
  have f0 := Int.fmod_nonneg_of_pos (cellV ns 0 1) (b := 4) (by decide)
  have f1 := Int.fmod_lt_of_pos (cellV ns 0 1) (b := 4) (by decide)
  obtain ⟨hf, ehf⟩ : ∃ hf, 1 + (cellV ns 0 1).fmod 4 = hf := ⟨_, rfl⟩
  rw [ehf] at F₃
  have h1 : 1 ≤ hf := by (first | lia | omega)
  have h4 : hf ≤ 4 := by (first | lia | omega)
  refine wpAny_execs_cons <| wpAny_Assign_Name <| wpAny_BinOp <| wpAny_BinOp <| wpAny_Constant_int <| lname F₃ rfl <| mul_int (hm := .of_left (by decide)) <| wpAny_Constant_int <| add_int <| cstore F₃ 1 rfl db fun h₄ ob' db' F₄ => ?_
  dsimp only
  replace F₄ : Fm g L h₄ _ [(L + 2, ot), (L + 1, ob')] := F₄
  refine wpAny_execs_cons <| wpAny_Assign_Name <| callF (i := 15) (F₄.stat Sg) rfl (by decide) <| args_cons <| callF (i := 14) (F₄.stat Sg) rfl (by decide) <| args_cons <| lname F₄ ms <| args_cons <| wpAny_Constant_int <| args_cons <| wpAny_Constant_int <| args_nil ⟨F₄.stat Sg, ?_⟩
  dsimp only
  refine law_cell_ok (i := 1) (F₄.stat Sg) F₄.tab (by (first | lia | omega)) (hlF F₄) hi hn (by decide) fun h₅ tk5 t5 k5 => ?_
  have F₅ := F₄.grow k5
  dsimp only
  refine args_cons <| lname F₅ rfl <| args_nil ⟨F₅.stat Sg, ?_⟩
  dsimp only
  refine law_row_ok (F₅.stat Sg) F₅.tab (by (first | lia | omega)) hh h1 h4 fun h₆ tk6 r1 ws1 n1 fs1 k6 nr1 er1 iw1 len1 bd1 => ?_
  have F₆ := F₅.add k6 nr1 er1
  refine lstore F₆ fun h₇ F₇ => ?_
  dsimp only
  refine wpAny_execs_cons <| wpAny_Assign_Name <| wpAny_BinOp <| callF (i := 14) (F₇.stat Sg) rfl (by decide) <| args_cons <| lname F₇ ms <| args_cons <| wpAny_Constant_int <| args_cons <| wpAny_Constant_int <| args_nil ⟨F₇.stat Sg, ?_⟩
  dsimp only
  refine law_cell_ok (i := 3) (F₇.stat Sg) F₇.tab (by (first | lia | omega)) (hlF F₇) hi hn (by decide) fun h₈ tk8 t8 k8 => ?_
  have F₈ := F₇.grow k8
  refine wpAny_Constant_int <| mod_int' (by decide) <| lstore F₈ fun h₉ F₉ => ?_
  dsimp only
  have s0 := Int.fmod_nonneg_of_pos (cellV ns 3 3) (b := 8) (by decide)
  have s1 := Int.fmod_lt_of_pos (cellV ns 3 3) (b := 8) (by decide)
  generalize (cellV ns 3 3).fmod 8 = same at F₉ s0 s1
  have hw1 : ws1.length = 8 := by rw [iw1.length, len1]
  refine wpAny_execs_cons <| wpAny_Assign_Name <| List_ <| args_cons <| lname F₉ rfl <| args_cons <| wpAny_BinOp <| Subscript_ <| lname F₉ rfl <| wpAny_Slice ?_
  refine wpAny_pure <| lname F₉ rfl <| wpAny_pure ?_
  refine sliceL (items := ws1.toArray) (lo := none) (hi := some same) F₉ (F₉.isList (.head _)) .none (.int _ _) (by rw [List.size_toArray]; (first | lia | omega)) (fun a1 h₁₀ na1 F₁₀ => ?_)
  dsimp only
  refine Subscript_ <| callF (i := 15) (F₁₀.stat Sg) rfl (by decide) <| args_cons <| callF (i := 14) (F₁₀.stat Sg) rfl (by decide) <| args_cons <| lname F₁₀ ms <| args_cons <| wpAny_Constant_int <| args_cons <| wpAny_Constant_int <| args_nil ⟨F₁₀.stat Sg, ?_⟩
  dsimp only
  refine law_cell_ok (i := 2) (F₁₀.stat Sg) F₁₀.tab (by (first | lia | omega)) (hlF F₁₀) hi hn (by decide) fun h₁₁ tk11 t11 k11 => ?_
  have F₁₁ := F₁₀.grow k11
  dsimp only
  refine args_cons <| lname F₁₁ rfl <| args_nil ⟨F₁₁.stat Sg, ?_⟩
  dsimp only
  refine law_row_ok (F₁₁.stat Sg) F₁₁.tab (by (first | lia | omega)) hh h1 h4 fun h₁₂ tk12 r2 ws2 n2 fs2 k12 nr2 er2 iw2 len2 bd2 => ?_
  have F₁₂ := F₁₁.add k12 nr2 er2
  have hw2 : ws2.length = 8 := by rw [iw2.length, len2]
  dsimp only
  refine wpAny_Slice ?_
  refine lname F₁₂ rfl <| wpAny_pure <| wpAny_pure ?_
  refine kba_turn (value' := .Name "one" ⟨0, 0, 0, 0⟩) (fun _ => rfl) ?_
  refine sliceL (items := ws2.toArray) (lo := some same) (hi := none) F₁₂ (F₁₂.isList (.head _)) (.int _ _) .none (by rw [List.size_toArray]; (first | lia | omega)) (fun a2 h₁₃ na2 F₁₃ => ?_)
  dsimp only
  have i1 := slice_ints_uptoW iw1 s0
  have i2 := slice_ints_fromW iw2 s0
  have l1 := i1.length
  have l2 := i2.length
  rw [List.length_take, len1] at l1
  rw [List.length_drop, len2] at l2
  obtain ⟨z1, e1⟩ : ∃ z : List Value, slicePick ws1.toArray none (some same) none = z.toArray := ⟨_, (Array.toArray_toList ..).symm⟩
  obtain ⟨z2, e2⟩ : ∃ z : List Value, slicePick ws2.toArray (some same) none none = z.toArray := ⟨_, (Array.toArray_toList ..).symm⟩
  rw [e1] at F₁₃ i1 l1
  rw [e2] at F₁₃ i2 l2
  simp only at i1 i2 l1 l2
  refine addLst F₁₃ (F₁₃.isList (.tail _ (.tail _ (.head _)))) (F₁₃.isList (.head _)) (by (first | lia | omega)) fun a3 h₁₄ na3 F₁₄ => ?_
  dsimp only
  refine args_nil <| newLst F₁₄ (by exact Nat.le_of_ble_eq_true rfl) fun R h₁₅ nR F₁₅ => ?_
  dsimp only
  refine lstore F₁₅ fun h₁₆ F₁₆ => ?_
  dsimp only
  have F₁₇ := F₁₆.perm (own' := (L + 2, ot) :: (L + 1, ob') :: [(R, _), (a3, _), (a2, _), (r2, _), (a1, _), (r1, _)]) (List.perm_append_comm (l₁ := [_, _, _, _, _, _]) (l₂ := [_, _]))
  refine next h₁₆ _ hf _ _ ob' R r1 a3 ws1 (z1 ++ z2) n1 0 0 fs1 (fs1.take same.toNat ++ fs2.drop same.toNat) _ h1 h4 db' (by exact ms) (by exact rfl) iw1 (i1.append i2) ⟨len1, bd1⟩ ⟨?_, ?_⟩ F₁₇ (.head _) (.tail _ (.tail _ (.tail _ (.tail _ (.tail _ (.head _)))))) (.tail _ (.head _))
  · rw [List.length_append, List.length_take, List.length_drop, len1, len2]; (first | lia | omega)
  · intro f hf
    rcases List.mem_append.mp hf with hf | hf
    · exact bd1 f (List.mem_of_mem_take hf)
    · exact bd2 f (List.mem_of_mem_drop hf)
end Mine

/-! L3 -/
set_option maxRecDepth 100000
set_option maxHeartbeats 2000000
namespace Mine
variable {fa : Addr} {cd : Value} {prog : Program} {w : World} {A : Around} {E : Value → Shared → Prop} {s : Shared}

theorem ints_unique {vs : List Value} {a b : List Int} (x : IntsAre vs a) (y : IntsAre vs b) : a = b := by rw [← x.nums, ← y.nums]
theorem ints_neg {vs ys : List Value} {fs : List Int} (h : IntsAre vs fs) (hP : Paired (fun v y => ∃ f t u, v = .int f t ∧ y = .int (-f) u) vs ys) : IntsAre ys (fs.map fun f => -f) := by
  induction h generalizing ys with
  | nil => cases hP; exact .nil
  | cons n t _ ih =>
    cases hP with
    | cons hab hr =>
      obtain ⟨f, t', u, e, rfl⟩ := hab
      cases e
      exact .cons _ _ (ih hr)

theorem pair2 {α β : Type} {P : α → β → Prop} {a b : α} {ys : List β} (h : Paired P [a, b] ys) : ∃ y z, ys = [y, z] ∧ P a y ∧ P b z := by
  cases h with
  | cons h1 r =>
    cases r with
    | cons h2 r => cases r; exact ⟨_, _, rfl, h1, h2⟩

theorem law_p2 {g : Heap} {L R r1 r2 : Addr} {m : Str → Option Value} {own : List (Addr × Obj)} {ws1 ws2 : List Value} {n1 n2 n3 : Nat} {fs1 fs2 : List Int} {hf : Int} {Q : Flow → Shared → Prop} (hh : A.handled = none) (hroom : A.depth + 100 < recursionLimit)
    (Sg : Stat g) (h1 : 1 ≤ hf) (h4 : hf ≤ 4) (F : Fm g L s.heap m own) (mr : m "rows" = some (.ref R)) (i1 : IntsAre ws1 fs1) (i2 : IntsAre ws2 fs2) (R1 : Row hf fs1) (R2 : Row hf fs2)
    (oR : (R, listOf #[.ref r1, .ref r2] n3) ∈ own) (o1 : (r1, listOf ws1.toArray n1) ∈ own) (o2 : (r2, listOf ws2.toArray n2) ∈ own)
    (next : ∀ h' tk D ys n, Fm g L h' (fun y => if y = "texts" then some (.ref D) else m y) ((D, listOf ys.toArray n) :: own) → StrsAre ys [textOf fs1, textOf fs2, textOf (fs1.map fun f => -f), textOf (fs2.map fun f => -f)] →
      wpAny (model prog w) A (execs (lawB.drop 6) (lawE fa cd L)) Q E { s with heap := h', toks := tk }) :
    wpAny (model prog w) A (execs (lawB.drop 5) (lawE fa cd L)) Q E s := by
  have rowOf : ∀ {h : Heap}, (∀ b o, s.heap.get? b = some o → h.get? b = some o) → ∀ v ∈ [Value.ref r1, Value.ref r2], ∃ r ws n fs, v = .ref r ∧ s.heap.get? r = some (listOf ws.toArray n) ∧ h.IsList r ws.toArray ∧ IntsAre ws fs ∧ Row hf fs := by
    intro h k v hv
    rcases List.mem_cons.mp hv with rfl | hv
    · exact ⟨r1, ws1, n1, fs1, rfl, F.get o1, stays_list k (F.isList o1), i1, R1⟩
    · rw [List.mem_singleton.mp hv]
      exact ⟨r2, ws2, n2, fs2, rfl, F.get o2, stays_list k (F.isList o2), i2, R2⟩
  refine wpAny_execs_cons <| wpAny_Assign_Name <| wpAny_BinOp <| compE (P' := fun v => v ∈ [Value.ref r1, Value.ref r2]) (Z := fun ws => ws = [Value.ref r1, Value.ref r2]) (p := fun _ => true)
    (R := fun v y => ∃ r ws n fs t, v = .ref r ∧ s.heap.get? r = some (listOf ws.toArray n) ∧ IntsAre ws fs ∧ y = .str (textOf fs) t) (cl := []) F rfl
    (fun K hK => lname F mr (srcList (vs := [.ref r1, .ref r2]) hh (F.isList oR) (by exact Nat.le_of_ble_eq_true rfl) hK)) (CompOk.plain ?_) ?_
  · intro C v s₃ m₃ E' hv hns hm hk
    obtain ⟨r, ws, n, fs, rfl, gr, ir, iw, rw1, rw2⟩ := rowOf hk v hv
    have S₃ := (F.stat Sg).keeps hk
    refine callF (i := 16) S₃ rfl (by decide) <| args_cons <| wpAny_Name <| wpAny_loadName_local rfl rfl hns hm <| args_nil ⟨S₃, ?_⟩
    refine law_text_ok S₃ (F.tab.keeps hk) (by (first | lia | omega)) hh ir iw (by (first | lia | omega)) (fun f hf => by have := rw2 f hf; (first | lia | omega)) fun h' tk t' k' => ?_
    exact ⟨⟨r, ws, n, fs, t', rfl, gr, iw, rfl⟩, h', tk, rfl, k'⟩
  rintro D1 h₂ tk2 ws ys1 m1 rfl hP1 F₂ k₂ nD1
  rw [List.filter_eq_self.mpr (by simp)] at hP1
  dsimp only
  have rowOf2 : ∀ {h : Heap}, (∀ b o, h₂.get? b = some o → h.get? b = some o) → ∀ v ∈ [Value.ref r1, Value.ref r2], ∃ r ws n fs, v = .ref r ∧ s.heap.get? r = some (listOf ws.toArray n) ∧ h.IsList r ws.toArray ∧ IntsAre ws fs ∧ Row hf fs :=
    fun k v hv => rowOf (fun b o e => k b o (k₂ b o e)) v hv
  refine compE (P' := fun v => v ∈ [Value.ref r1, Value.ref r2]) (Z := fun ws => ws = [Value.ref r1, Value.ref r2]) (p := fun _ => true)
    (R := fun v y => ∃ r ws n fs t, v = .ref r ∧ s.heap.get? r = some (listOf ws.toArray n) ∧ IntsAre ws fs ∧ y = .str (textOf (fs.map fun f => -f)) t) (cl := []) F₂ rfl
    (fun K hK => lname F₂ mr (srcList (vs := [.ref r1, .ref r2]) hh (F₂.isList (.tail _ oR)) (by exact Nat.le_of_ble_eq_true rfl) hK)) (CompOk.plain ?_) ?_
  · intro C v s₃ m₃ E' hv hns hm hk
    obtain ⟨r, ws, n, fs, rfl, gr, ir, iw, rw1, rw2⟩ := rowOf2 hk v hv
    have S₃ := (F₂.stat Sg).keeps hk
    have F₃ := F₂.grow hk
    refine callF (i := 16) S₃ rfl (by decide) <| args_cons ?_
    refine compE (P' := fun v => v ∈ ws) (Z := fun zs => zs = ws) (p := fun _ => true) (R := fun v y => ∃ f t u, v = .int f t ∧ y = .int (-f) u) (cl := []) F₃ rfl
      (fun K hK => wpAny_Name <| wpAny_loadName_local rfl rfl hns hm (srcList (vs := ws) hh ir (by rw [iw.length, rw1]; (first | lia | omega)) hK)) (CompOk.plain ?_) ?_
    · intro C2 v s₄ m₄ E'' hv hns hm hk
      obtain ⟨f, t, _, rfl⟩ := mem_ints iw hv
      refine UnaryOp_ <| wpAny_Name <| wpAny_loadName_local rfl rfl hns hm <| neg_int ⟨⟨f, t, _, rfl, rfl⟩, _, _, rfl, fun _ _ e => e⟩
    rintro D3 h₅ tk5 zs ys3 m3 rfl hP3 F₅ k₅ nD3
    rw [List.filter_eq_self.mpr (by simp)] at hP3
    refine args_nil ⟨F₅.stat Sg, ?_⟩
    refine law_text_ok (F₅.stat Sg) F₅.tab (by (first | lia | omega)) hh (F₅.isList (.head _)) (ints_neg iw hP3) (by rw [List.length_map, rw1]; (first | lia | omega)) (fun f hf => ?_) fun h' tk t' k' => ?_
    · obtain ⟨f', hf', rfl⟩ := List.mem_map.mp hf
      have := rw2 f' hf'; (first | lia | omega)
    · exact ⟨⟨r, zs, n, fs, t', rfl, gr, iw, rfl⟩, h', tk, rfl, fun b o e => k' b o (k₅ b o e)⟩
  rintro D2 h₆ tk6 ws ys2 m2 rfl hP2 F₆ k₆ nD2
  rw [List.filter_eq_self.mpr (by simp)] at hP2
  dsimp only
  have un : ∀ {r : Addr} {ws ws' : List Value} {n n' : Nat}, s.heap.get? r = some (listOf ws.toArray n) → s.heap.get? r = some (listOf ws'.toArray n') → ws = ws' := by
    intro r ws ws' n n' e e'
    rw [e] at e'
    have := congrArg Obj.data (Option.some.inj e')
    injection this with z
    simpa using z
  obtain ⟨y1, y2, rfl, a1, b1⟩ := pair2 hP1
  obtain ⟨y3, y4, rfl, a2, b2⟩ := pair2 hP2
  obtain ⟨r, ws, n, fs, ta1, er, gr, iw, rfl⟩ := a1
  cases er
  have := un gr (F.get o1); subst this
  have := ints_unique iw i1; subst this
  obtain ⟨r, ws', n, fs', tb1, er, gr', iw', rfl⟩ := b1
  cases er
  have := un gr' (F.get o2); subst this
  have := ints_unique iw' i2; subst this
  obtain ⟨r, ws'', n, fs'', ta2, er, gr'', iw'', rfl⟩ := a2
  cases er
  have := un gr'' (F.get o1); subst this
  have := ints_unique iw'' i1; subst this
  obtain ⟨r, ws3, n, fs3, tb2, er, gr3, iw3, rfl⟩ := b2
  cases er
  have := un gr3 (F.get o2); subst this
  have := ints_unique iw3 i2; subst this
  refine addLst F₆ (F₆.isList (.tail _ (.head _))) (F₆.isList (.head _)) (by exact Nat.le_of_ble_eq_true rfl) fun D h₇ nD F₇ => ?_
  dsimp only
  refine lstore F₇ fun h₈ F₈ => ?_
  dsimp only
  refine next h₈ _ D _ 0 (F₈.drop (.cons₂ _ (.cons _ (.cons _ (List.Sublist.refl _))))) (.cons _ _ (.cons _ _ (.cons _ _ (.cons _ _ .nil))))
end Mine

/-! L4 -/
set_option maxRecDepth 100000
set_option maxHeartbeats 2000000
namespace Mine
variable {fa : Addr} {cd : Value} {prog : Program} {w : World} {A : Around} {E : Value → Shared → Prop} {s : Shared}

theorem mem_strs {vs : List Value} {xs : List Str} (h : StrsAre vs xs) {v : Value} (hv : v ∈ vs) : ∃ x t, x ∈ xs ∧ v = .str x t := by
  induction h with
  | nil => cases hv
  | cons n t _ ih =>
    rcases List.mem_cons.mp hv with rfl | hv
    · exact ⟨n, t, .head _, rfl⟩
    · obtain ⟨f, t', hf, e⟩ := ih hv
      exact ⟨f, t', .tail _ hf, e⟩

theorem pair_worth {b : Int} {vs ys : List Value} {xs : List Str} (h : StrsAre vs xs) (hP : Paired (fun v y => ∃ x t u, v = .str x t ∧ y = .int (worthC b x.cps.toList) u) vs ys) : IntsAre ys (xs.map fun x => worthC b x.cps.toList) := by
  induction h generalizing ys with
  | nil => cases hP; exact .nil
  | cons n t _ ih =>
    cases hP with
    | cons hab hr =>
      obtain ⟨f, t', u, e, rfl⟩ := hab
      cases e
      exact .cons _ _ (ih hr)

theorem law_p3 {g : Heap} {L D : Addr} {m : Str → Option Value} {own : List (Addr × Obj)} {ob : Obj} {ys : List Value} {xs : List Str} {n : Nat} {hf : Int} {tb : Tok} {Q : Flow → Shared → Prop} (hh : A.handled = none) (hroom : A.depth + 100 < recursionLimit)
    (Sg : Stat g) (h1 : 1 ≤ hf) (h4 : hf ≤ 4) (F : Fm g L s.heap m own) (mt : m "texts" = some (.ref D)) (ob1 : (L + 1, ob) ∈ own) (db : ob.data = .cell (some (.int (2 * hf + 1) tb))) (oD : (D, listOf ys.toArray n) ∈ own) (hys : StrsAre ys xs) (hlen : xs.length ≤ 8)
    (hxs : ∀ x ∈ xs, ∀ c ∈ x.cps.toList, c ∈ signs)
    (next : ∀ h' tk W zs n, Fm g L h' (fun y => if y = "worths" then some (.ref W) else m y) ((W, listOf zs.toArray n) :: own) → IntsAre zs (xs.map fun x => worthC (2 * hf + 1) x.cps.toList) →
      wpAny (model prog w) A (execs (lawB.drop 7) (lawE fa cd L)) Q E { s with heap := h', toks := tk }) :
    wpAny (model prog w) A (execs (lawB.drop 6) (lawE fa cd L)) Q E s := by
  refine wpAny_execs_cons <| compA (P' := fun v => v ∈ ys) (Z := fun ws => ws = ys) (p := fun _ => true) (R := fun v y => ∃ x t u, v = .str x t ∧ y = .int (worthC (2 * hf + 1) x.cps.toList) u) (cl := [("base", L + 1)]) F rfl
    (fun K hK => lname F mt (srcList (vs := ys) hh (F.isList oD) (by have := hys.length; (first | lia | omega)) hK)) (CompOk.plain ?_) ?_
  · intro C v s₃ m₃ E' hv hns hm hk
    obtain ⟨x, t, hx, rfl⟩ := mem_strs hys hv
    have S₃ := (F.stat Sg).keeps hk
    have c3 : s₃.heap.IsCell (L + 1) (some (.int (2 * hf + 1) tb)) := ⟨ob, hk _ _ (F.get ob1), db⟩
    refine callF (i := 17) S₃ rfl (by decide) <| args_cons <| wpAny_Name <| wpAny_loadName_local rfl rfl hns hm <| args_cons <| wpAny_Name <| wpAny_loadName_cell rfl rfl rfl c3 <| args_nil ⟨S₃, ?_⟩
    refine law_worth_ok S₃ (F.tab.keeps hk) (by (first | lia | omega)) hh (hxs x hx) (by (first | lia | omega)) (by (first | lia | omega)) fun h' tk t' k' => ?_
    exact ⟨⟨x, t, t', rfl, rfl⟩, h', tk, rfl, k'⟩
  rintro W h₂ tk2 ws zs m1 rfl hP F₂
  rw [List.filter_eq_self.mpr (by simp)] at hP
  exact next h₂ tk2 W zs m1 F₂ (pair_worth hys hP)
end Mine

/-! L5 -/
set_option maxRecDepth 100000
set_option maxHeartbeats 2000000
namespace Mine
variable {fa : Addr} {cd : Value} {prog : Program} {w : World} {A : Around} {E : Value → Shared → Prop} {s : Shared}

/-- the texts and their numbers, as the law keeps them -/
structure Wr (m : Str → Option Value) (own : List (Addr × Obj)) (hf : Int) (D W : Addr) (ys zs : List Value) (nD nW : Nat) (rs : List (List Int)) : Prop where
  mt : m "texts" = some (.ref D)
  mw : m "worths" = some (.ref W)
  oD : (D, listOf ys.toArray nD) ∈ own
  oW : (W, listOf zs.toArray nW) ∈ own
  len : rs.length = 4
  row : ∀ fs ∈ rs, Row hf fs
  hys : StrsAre ys (rs.map textOf)
  hzs : IntsAre zs (rs.map (hor (2 * hf + 1)))

/-- but for some names the map is as it was -/
def Same (xs : List Str) (m m' : Str → Option Value) : Prop := ∀ y, y ∉ xs → m' y = m y
theorem Same.set {xs : List Str} {m m' : Str → Option Value} (h : Same xs m m') {x : Str} {v : Value} (hx : x ∈ xs) : Same xs m (fun y => if y = x then some v else m' y) := fun y hy => by
  show (if y = x then some v else m' y) = m y
  have e : y ≠ x := fun e => hy (by rw [e]; exact hx)
  rw [if_neg e]; exact h y hy

theorem order_due {hf : Int} (h0 : 1 ≤ hf) (h4 : hf ≤ 4) {a b : List Int} (ha : Row hf a) (hb : Row hf b) :
    (b2i (decide ((textOf b).cps.toList < (textOf a).cps.toList)) - b2i (decide ((textOf a).cps.toList < (textOf b).cps.toList))) =
      if hor (2 * hf + 1) a = hor (2 * hf + 1) b then 0 else if hor (2 * hf + 1) b < hor (2 * hf + 1) a then 1 else -1 := by
  have e1 := text_lt (by (first | lia | omega)) h4 a b (ha.1.trans hb.1.symm) ha.2 hb.2
  have e2 := text_lt (by (first | lia | omega)) h4 b a (hb.1.trans ha.1.symm) hb.2 ha.2
  have t : ∀ x, (textOf x).cps.toList = x.map sgn := fun x => by simp [textOf]
  rw [t, t, decide_eq_decide.mpr e1, decide_eq_decide.mpr e2]
  rcases Int.lt_trichotomy (hor (2 * hf + 1) a) (hor (2 * hf + 1) b) with z | z | z
  · rw [decide_eq_true z, decide_eq_false (show ¬ _ by (first | lia | omega)), if_neg (by (first | lia | omega)), if_neg (by (first | lia | omega))]; rfl
  · rw [decide_eq_false (show ¬ hor (2 * hf + 1) a < _ by (first | lia | omega)), decide_eq_false (show ¬ _ by (first | lia | omega)), if_pos z]; rfl
  · rw [decide_eq_true z, decide_eq_false (show ¬ _ by (first | lia | omega)), if_neg (by (first | lia | omega)), if_pos z]; rfl

def cmpNames : List Str := ["here", "there", "said", "due"]

theorem law_p4 {g : Heap} {L D W : Addr} {m : Str → Option Value} {own : List (Addr × Obj)} {ys zs : List Value} {nD nW : Nat} {rs : List (List Int)} {hf : Int} {Q : Flow → Shared → Prop} (hh : A.handled = none) (hroom : A.depth + 100 < recursionLimit)
    (Sg : Stat g) (h1 : 1 ≤ hf) (h4 : hf ≤ 4) (F : Fm g L s.heap m own) (X : Wr m own hf D W ys zs nD nW rs)
    (next : ∀ h' tk m', Fm g L h' m' own → Same cmpNames m m' → wpAny (model prog w) A (execs (lawB.drop 8) (lawE fa cd L)) Q E { s with heap := h', toks := tk }) :
    wpAny (model prog w) A (execs (lawB.drop 7) (lawE fa cd L)) Q E s := by
  refine wpAny_execs_cons <| wpAny_For <| callT (F.stat Sg) rfl rfl <| args_cons <| wpAny_Constant_int <| args_nil <| rangeLoop hh (by decide) (by decide) F (fun _ m' own' => own' = own ∧ Same cmpNames m m') ⟨rfl, fun _ _ => rfl⟩ ?_ ?_
  · rintro i ti m₁ own₁ p h₁ tk1 hi ⟨rfl, hm₁⟩ F₁
    have hi4 : i < 4 := hi
    have hm₁' := hm₁.set (x := "here") (v := .int i ti) (by decide)
    refine wpAny_execs_cons <| wpAny_For <| callT (F₁.stat Sg) rfl rfl <| args_cons <| wpAny_Constant_int <| args_nil <| rangeLoop hh (by decide) (by decide) F₁ (fun _ m' own' => own' = p :: own₁ ∧ Same cmpNames m m' ∧ m' "here" = some (.int i ti)) ⟨rfl, hm₁', rfl⟩ ?_ ?_
    · rintro j tj m₂ own₂ p2 h₂ tk2 hj ⟨rfl, hm₂, mh⟩ F₂
      have hj4 : j < 4 := hj
      have hm₂' := hm₂.set (x := "there") (v := .int j tj) (by decide)
      have mt : ∀ {m' : Str → Option Value}, Same cmpNames m m' → m' "texts" = some (.ref D) := fun h => (h _ (by decide)).trans X.mt
      have mw : ∀ {m' : Str → Option Value}, Same cmpNames m m' → m' "worths" = some (.ref W) := fun h => (h _ (by decide)).trans X.mw
      have hil : i < rs.length := by rw [X.len]; exact hi4
      have hjl : j < rs.length := by rw [X.len]; exact hj4
      obtain ⟨ta, ea⟩ := X.hys.get i (textOf rs[i]) (by simp [hil])
      obtain ⟨tb, eb⟩ := X.hys.get j (textOf rs[j]) (by simp [hjl])
      obtain ⟨tc, ec⟩ := X.hzs.get i (hor (2 * hf + 1) rs[i]) (by simp [hil])
      obtain ⟨td, ed⟩ := X.hzs.get j (hor (2 * hf + 1) rs[j]) (by simp [hjl])
      have due := order_due h1 h4 (X.row _ (List.getElem_mem hil)) (X.row _ (List.getElem_mem hjl))
      generalize hor (2 * hf + 1) rs[i] = u at ec due
      generalize hor (2 * hf + 1) rs[j] = v at ed due
      have oD : (D, listOf ys.toArray nD) ∈ p2 :: p :: own₁ := .tail _ (.tail _ X.oD)
      have oW : (W, listOf zs.toArray nW) ∈ p2 :: p :: own₁ := .tail _ (.tail _ X.oW)
      have mh' : (fun y => if y = "there" then some (Value.int j tj) else m₂ y) "here" = some (.int i ti) := mh
      refine wpAny_execs_cons <| wpAny_Assign_Name <| callF (i := 1) (F₂.stat Sg) rfl (by decide) <| args_cons <| Subscript_ <| lname F₂ (mt hm₂) <| lname F₂ mh' <| item_listL (F₂.isList oD) (by (first | lia | omega)) (by (first | lia | omega)) (by simpa using ea) <| args_cons <| Subscript_ <| lname F₂ (mt hm₂) <| lname F₂ rfl <| item_listL (F₂.isList oD) (by (first | lia | omega)) (by (first | lia | omega)) (by simpa using eb) <| args_nil ⟨F₂.stat Sg, ?_⟩
      dsimp only
      refine strcoll_ok (F₂.stat Sg) F₂.tab (by (first | lia | omega)) fun h₃ tk3 t3 k3 => ?_
      have F₃ := F₂.grow k3
      rw [due]
      refine lstore F₃ fun h₄ F₄ => ?_
      dsimp only
      have hm₄ := hm₂'.set (x := "said") (v := .int (if u = v then 0 else if v < u then 1 else -1) t3) (by decide)
      refine wpAny_execs_cons (wpAny_mono (Q := fun f s' => f = .next ∧ ∃ h' tk' t', s' = { s with heap := h', toks := tk' } ∧ Fm g L h' (fun y => if y = "due" then some (.int (if u = v then 0 else if v < u then 1 else -1) t') else if y = "said" then some (.int (if u = v then 0 else if v < u then 1 else -1) t3) else if y = "there" then some (Value.int j tj) else m₂ y) (p2 :: p :: own₁)) ?_ ?_ fun _ _ q => q)
      · refine wpAny_Assign_Name <| wpAny_IfExp <| wpAny_isTrue_Compare1 <| Subscript_ <| lname F₄ (mw hm₂) <| lname F₄ mh' <| item_listL (F₄.isList oW) (by (first | lia | omega)) (by (first | lia | omega)) (by simpa using ec) <| Subscript_ <| lname F₄ (mw hm₂) <| lname F₄ rfl <| item_listL (F₄.isList oW) (by (first | lia | omega)) (by (first | lia | omega)) (by simpa using ed) <| eq_int <| wpAny_truthy_bool ?_
        by_cases huv : u = v
        · refine ite_pos (by rw [huv]; exact beq_self_eq_true _) <| wpAny_Constant_int <| lstore F₄ fun h₅ F₅ => ⟨rfl, h₅, _, _, rfl, (by rw [if_pos huv]; rw [if_pos huv] at F₅; exact F₅)⟩
        · refine ite_neg (by simpa using huv) ?_
          refine wpAny_IfExp <| wpAny_isTrue_Compare1 <| Subscript_ <| lname F₄ (mw hm₂) <| lname F₄ mh' <| item_listL (F₄.isList oW) (by (first | lia | omega)) (by (first | lia | omega)) (by simpa using ec) <| Subscript_ <| lname F₄ (mw hm₂) <| lname F₄ rfl <| item_listL (F₄.isList oW) (by (first | lia | omega)) (by (first | lia | omega)) (by simpa using ed) <| PyProof.Rows.gt_int <| wpAny_truthy_bool ?_
          by_cases hlt : v < u
          · refine ite_pos (decide_eq_true hlt) <| wpAny_Constant_int <| lstore F₄ fun h₅ F₅ => ⟨rfl, h₅, _, _, rfl, (by rw [if_neg huv, if_pos hlt]; rw [if_neg huv, if_pos hlt] at F₅; exact F₅)⟩
          · refine ite_neg (by simpa using hlt) <| UnaryOp_ <| wpAny_Constant_int <| neg_int <| lstore F₄ fun h₅ F₅ => ⟨rfl, h₅, _, _, rfl, (by rw [if_neg huv, if_neg hlt]; rw [if_neg huv, if_neg hlt] at F₅; exact F₅)⟩
      rintro f s' ⟨rfl, h₅, tk5, t5, rfl, F₅⟩
      dsimp only
      have hm₅ := hm₄.set (x := "due") (v := .int (if u = v then 0 else if v < u then 1 else -1) t5) (by decide)
      refine wpAny_execs_cons <| wpAny_If <| wpAny_isTrue_BoolOp <| wpAny_allTrue_Or_cons <| wpAny_isTrue_Compare1 <| lname F₅ rfl <| lname F₅ rfl <| PyProof.Rows.ne_int <| wpAny_truthy_bool <| ite_neg (by simp) ?_
      refine wpAny_allTrue_Or_cons <| wpAny_isTrue_value <| callB (F₅.stat Sg) rfl rfl <| args_cons <| lname F₅ rfl <| args_cons <| bname (F₅.stat Sg) rfl rfl <| args_nil <| IsiPair.int_bool <| wpAny_truthy_bool <| ite_neg (by decide) <| wpAny_allTrue_Or_nil <| ite_neg (by decide) <| wpAny_execs_nil <| wpAny_execs_nil ?_
      exact ⟨h₅, _, _, p :: own₁, rfl, F₅, rfl, hm₅, mh⟩
    · rintro h₂ tk2 m₂ own₂ ⟨rfl, hm₂, mh⟩ F₂
      exact wpAny_execs_nil ⟨h₂, tk2, m₂, own₁, rfl, F₂, rfl, hm₂⟩
  · rintro h₁ tk1 m₁ own₁ ⟨rfl, hm₁⟩ F₁
    exact next h₁ tk1 m₁ F₁ hm₁
end Mine

/-! U1 -/
set_option maxRecDepth 100000
set_option maxHeartbeats 2000000
namespace Mine
variable {prog : Program} {w : World} {A : Around} {E : Value → Shared → Prop} {s : Shared}

section
open PySem.Spec PySem.SeqAt PyProof.V
theorem shaped_pair (ns : List Int) : shaped (.tuple (ns.map PyData.int)) = true := by
  have h1 := PySem.W.depthAll_ints ns
  have h2 : PyData.depth (.tuple (ns.map PyData.int)) ≤ 64 := by simp only [PyData.depth]; (first | lia | omega)
  show (PyData.canLay0 (.tuple (ns.map PyData.int)) && decide (PyData.depth (.tuple (ns.map PyData.int)) ≤ 64)) = true
  rw [Bool.and_eq_true]
  exact ⟨by simp only [PyData.canLay0]; exact canLayAll0_ints ns, decide_eq_true h2⟩
/-- two tuples of ints are told apart -/
theorem neTup {a b : Addr} {vs us : List Value} {ns ms : List Int} {Q : Value → Shared → Prop} (ha : s.heap.get? a = some (tupOf vs)) (hi : IntsAre vs ns) (hb : s.heap.get? b = some (tupOf us)) (hi' : IntsAre us ms) (hu : A.units + 64 < cLine)
    (h : Q (.bool (!decide (ns = ms))) s) : wpAny (model prog w) A (compareOp .NotEq (.ref a) (.ref b)) Q E s :=
  ne_dataH_same (Reads.tuple ha rfl rfl (by simpa using readsAll_of_ints hi)) (Reads.tuple hb rfl rfl (by simpa using readsAll_of_ints hi')) (shaped_pair ns) (shaped_pair ms) hu (by simp only [noMix]; exact noMix_ints ns ms) (by simp only [PySem.Spec.same]; rw [same_ints]; exact h)
end

/-- an item of a list, of a tuple, whatever the list's expression -/
theorem itemL {value slice : Expr} {a : Addr} {l : List Value} {k : Int} {u : Tok} {x : Value} {Q : Value → Shared → Prop} (hl : s.heap.IsList a l.toArray)
    (h0 : 0 ≤ k) (hfit : k < 2 ^ 63) (hx : l[k.toNat]? = some x) (h : Q x s)
    (hs : subscripted slice false (.ref a) (.int k u) = operate [.ref a, .int k u] (getItem (.ref a) (.int k u)) := by with_unfolding_all rfl) :
    wpAny (model prog w) A (subscriptTail value slice (.ref a) (.int k u)) Q E s :=
  tail_any hl.typeIs slot_list_getitem.lookup (wpAny_getItem_list hl h0 hfit (by simpa using hx) h) hs
theorem itemNeg {value slice : Expr} {a : Addr} {l : List Value} {k : Int} {u : Tok} {x : Value} {Q : Value → Shared → Prop} (hl : s.heap.IsList a l.toArray)
    (h0 : k < 0) (h1 : -(l.length : Int) ≤ k) (hfit : -(2 ^ 63) ≤ k) (hx : l[(k + l.length).toNat]? = some x) (h : Q x s)
    (hs : subscripted slice false (.ref a) (.int k u) = operate [.ref a, .int k u] (getItem (.ref a) (.int k u)) := by with_unfolding_all rfl) :
    wpAny (model prog w) A (subscriptTail value slice (.ref a) (.int k u)) Q E s :=
  tail_any hl.typeIs slot_list_getitem.lookup (wpAny_getItem_list_neg hl h0 (by simpa using h1) hfit (by simpa using hx) h) hs

/-- back to the first base, behind a loop that changed one object -/
theorem Fm.back {g g' h h' : Heap} {L D : Addr} {m m' : Str → Option Value} {o o' : Obj} {rest : List (Addr × Obj)} (F : Fm g L h m ((D, o) :: rest)) (hg : ∀ b o, g.get? b = some o → g'.get? b = some o)
    (hr : ∀ p ∈ (D, o) :: rest, p.1 ∉ ([(D, o)] : List (Addr × Obj)).map (·.1) → g'.get? p.1 = some p.2) (F' : Fm g' L h' m' [(D, o')]) : Fm g L h' m' ((D, o') :: rest) where
  ns := F'.ns
  keep := fun b o e => F'.keep b o (hg b o e)
  new := F.new
  has := fun p hp => by
    rcases List.mem_cons.mp hp with rfl | hp
    · exact ⟨F'.get (.head _), (F.has _ (.head _)).2⟩
    · refine ⟨F'.keep _ _ (hr p (.tail _ hp) ?_), (F.has p (.tail _ hp)).2⟩
      intro hm
      have nd := F.nd
      rw [List.map_cons, List.nodup_cons] at nd
      have e : p.1 = D := List.mem_singleton.mp hm
      exact nd.1 (by show D ∈ _; rw [← e]; exact List.mem_map_of_mem hp)
  nd := F.nd
  tab := F'.tab
  t58 := F.t58
  t51 := F.t51

theorem toText (cs : List Nat) : (⟨cs.toArray⟩ : Str).cps.toList = cs := by simp
theorem text_list (fs : List Int) : (textOf fs).cps.toList = fs.map sgn := by simp [textOf]
theorem text_size (fs : List Int) : (textOf fs).cps.size = fs.length := by simp [textOf]
theorem text_len (fs : List Int) : (textOf fs).length = fs.length := text_size fs
theorem text_get (fs : List Int) (k : Nat) : (textOf fs).cps[k]? = fs[k]?.map sgn := by simp [textOf]

/-- slices of a text -/
theorem slice_mid (fs : List Int) {i j : Nat} (h1 : i ≤ j) (h2 : j ≤ fs.length) : Txt.slice (textOf fs) (some (i : Int)) (some (j : Int)) = textOf ((fs.drop i).take (j - i)) := by
  have := slice_closesL (x := textOf fs) (i := i) (j := j) (by (first | lia | omega)) (by (first | lia | omega)) (by rw [text_len]; (first | lia | omega))
  rw [eq_of_beq this, text_list]
  unfold textOf
  rw [Int.toNat_natCast, show ((j : Int) - (i : Int)).toNat = j - i by (first | lia | omega), List.map_take, List.map_drop]
theorem slice_last (fs : List Int) {z : Int} (h1 : 1 ≤ z) : Txt.slice (textOf fs) (some (-z)) none = textOf (fs.drop (fs.length - z.toNat)) := by
  have key : Txt.slice (textOf fs) (some (-z)) none = Txt.slice (textOf fs) (some ((fs.length - z.toNat : Nat) : Int)) none := by
    unfold Txt.slice
    have e : PySem.Builtin.Str.strSliceIndices (some (-z)) none 1 (textOf fs).length = PySem.Builtin.Str.strSliceIndices (some ((fs.length - z.toNat : Nat) : Int)) none 1 (textOf fs).length := by
      rw [text_len]
      have h0 : -z < 0 := by (first | lia | omega)
      have h1 : ¬ (((fs.length - z.toNat : Nat) : Int) < 0) := by (first | lia | omega)
      have h2 : (1 : Int) > 0 := by decide
      simp only [PySem.Builtin.Str.strSliceIndices, h0, h1, h2, if_false, if_true]
      have e3 : max 0 (min (-z + (fs.length : Int)) (fs.length : Int)) = max 0 (min ((fs.length - z.toNat : Nat) : Int) (fs.length : Int)) := by (first | lia | omega)
      rw [e3]
    rw [e]
  rw [key, slice_from_eq (b := (fs.length : Int)) (by (first | lia | omega)) (by rw [text_len]; (first | lia | omega)) (by rw [text_len]), text_list]
  unfold textOf
  rw [Int.toNat_natCast, ← List.map_drop, ← List.map_take, List.take_of_length_le (by rw [List.length_drop]; (first | lia | omega))]
theorem slice_front (fs : List Int) {z : Int} (h1 : 1 ≤ z) : Txt.slice (textOf fs) none (some (-z)) = textOf (fs.take (fs.length - z.toNat)) := by
  have key : Txt.slice (textOf fs) none (some (-z)) = Txt.slice (textOf fs) none (some ((fs.length - z.toNat : Nat) : Int)) := by
    unfold Txt.slice
    have e : PySem.Builtin.Str.strSliceIndices none (some (-z)) 1 (textOf fs).length = PySem.Builtin.Str.strSliceIndices none (some ((fs.length - z.toNat : Nat) : Int)) 1 (textOf fs).length := by
      rw [text_len]
      have h0 : -z < 0 := by (first | lia | omega)
      have h1 : ¬ (((fs.length - z.toNat : Nat) : Int) < 0) := by (first | lia | omega)
      have h2 : (1 : Int) > 0 := by decide
      simp only [PySem.Builtin.Str.strSliceIndices, h0, h1, h2, if_false, if_true]
      have e3 : max 0 (min (-z + (fs.length : Int)) (fs.length : Int)) = max 0 (min ((fs.length - z.toNat : Nat) : Int) (fs.length : Int)) := by (first | lia | omega)
      rw [e3]
    rw [e]
  have := slice_closes_toL (x := textOf fs) (j := ((fs.length - z.toNat : Nat) : Int)) (by (first | lia | omega)) (by rw [text_len]; (first | lia | omega))
  rw [key, eq_of_beq this, text_list]
  unfold textOf
  rw [Int.sub_zero, Int.toNat_natCast, List.map_take]
  rfl
end Mine

/-! L6 -/
set_option maxRecDepth 100000
set_option maxHeartbeats 2000000
namespace Mine
variable {fa : Addr} {cd : Value} {prog : Program} {w : World} {A : Around} {E : Value → Shared → Prop} {s : Shared}

theorem law_p5 {g : Heap} {L sl : Addr} {m : Str → Option Value} {own : List (Addr × Obj)} {vs : List Value} {ns : List Int} {Q : Flow → Shared → Prop} (hroom : A.depth + 100 < recursionLimit)
    (Sg : Stat g) (hl : g.IsList sl vs.toArray) (hi : IntsAre vs ns) (hn : ns.length ≤ 63) (F : Fm g L s.heap m own) (ms : m "script" = some (.ref sl))
    (next : ∀ h' tk Z a b c zs, (1 ≤ a ∧ a ≤ 3) → (1 ≤ b ∧ b ≤ 3) → (1 ≤ c ∧ c ≤ 3) → Fm g L h' (fun y => if y = "sizes" then some (.ref Z) else m y) ((Z, listOf zs.toArray 0) :: own) → IntsAre zs [a, b, c] →
      wpAny (model prog w) A (execs (lawB.drop 9) (lawE fa cd L)) Q E { s with heap := h', toks := tk }) :
    wpAny (model prog w) A (execs (lawB.drop 8) (lawE fa cd L)) Q E s := by
  have hlF : ∀ {h : Heap} {m' : Str → Option Value} {own' : List (Addr × Obj)}, Fm g L h m' own' → h.IsList sl vs.toArray := fun F => stays_list F.keep hl
  have b3 : ∀ c : Int, 1 ≤ 1 + c.fmod 3 ∧ 1 + c.fmod 3 ≤ 3 := fun c => by
    have := Int.fmod_nonneg_of_pos c (b := 3) (by decide)
    have := Int.fmod_lt_of_pos c (b := 3) (by decide)
    (first | lia | omega)
  refine wpAny_execs_cons <| wpAny_Assign_Name <| List_ <| args_cons <| wpAny_BinOp <| wpAny_Constant_int <| wpAny_BinOp <| callF (i := 14) (F.stat Sg) rfl (by decide) <| args_cons <| lname F ms <| args_cons <| wpAny_Constant_int <| args_cons <| wpAny_Constant_int <| args_nil ⟨F.stat Sg, ?_⟩
  dsimp only
  refine law_cell_ok (i := 4) (F.stat Sg) F.tab (by (first | lia | omega)) (hlF F) hi hn (by decide) fun h₂ tk2 t2 k2 => ?_
  have F₂ := F.grow k2
  refine wpAny_Constant_int <| mod_int' (by decide) <| add_int ?_
  dsimp only
  refine args_cons <| wpAny_BinOp <| wpAny_Constant_int <| wpAny_BinOp <| callF (i := 14) (F₂.stat Sg) rfl (by decide) <| args_cons <| lname F₂ ms <| args_cons <| wpAny_Constant_int <| args_cons <| wpAny_Constant_int <| args_nil ⟨F₂.stat Sg, ?_⟩
  dsimp only
  refine law_cell_ok (i := 5) (F₂.stat Sg) F₂.tab (by (first | lia | omega)) (hlF F₂) hi hn (by decide) fun h₃ tk3 t3 k3 => ?_
  have F₃ := F₂.grow k3
  refine wpAny_Constant_int <| mod_int' (by decide) <| add_int ?_
  dsimp only
  refine args_cons <| wpAny_BinOp <| wpAny_Constant_int <| wpAny_BinOp <| callF (i := 14) (F₃.stat Sg) rfl (by decide) <| args_cons <| lname F₃ ms <| args_cons <| wpAny_Constant_int <| args_cons <| wpAny_Constant_int <| args_nil ⟨F₃.stat Sg, ?_⟩
  dsimp only
  refine law_cell_ok (i := 6) (F₃.stat Sg) F₃.tab (by (first | lia | omega)) (hlF F₃) hi hn (by decide) fun h₄ tk4 t4 k4 => ?_
  have F₄ := F₃.grow k4
  refine wpAny_Constant_int <| mod_int' (by decide) <| add_int ?_
  dsimp only
  refine args_nil <| newLst F₄ (by exact Nat.le_of_ble_eq_true rfl) fun Z h₅ nZ F₅ => ?_
  dsimp only
  refine lstore F₅ fun h₆ F₆ => ?_
  dsimp only
  exact next h₆ _ Z _ _ _ _ (b3 _) (b3 _) (b3 _) F₆ (.cons _ _ (.cons _ _ (.cons _ _ .nil)))
end Mine

/-! M4 -/
set_option maxRecDepth 100000
set_option maxHeartbeats 2000000
namespace Mine

/-- a blanks ahead, b behind: by the figures -/
def Zs (fs : List Int) (a b : Nat) : Prop :=
  (a = 8 ∧ b = 0 ∧ ∀ k, k < 8 → fs[k]? = some 0) ∨
  (a + b < 8 ∧ (∀ k, k < a → fs[k]? = some 0) ∧ (∃ f, fs[a]? = some f ∧ f ≠ 0) ∧ (∀ k, k < b → fs[7 - k]? = some 0) ∧ ∃ f, fs[7 - b]? = some f ∧ f ≠ 0)

theorem Zs.pads {fs : List Int} {a b : Nat} (hfs : ∀ f ∈ fs, -4 ≤ f ∧ f ≤ 4) (h : Zs fs a b) : Pads (textOf fs) a b := by
  have z : ∀ k : Nat, fs[k]? = some 0 → (textOf fs).cps[k]? = some 32 := fun k e => by
    rw [text_get, e]; rfl
  have n : ∀ k : Nat, (∃ f, fs[k]? = some f ∧ f ≠ 0) → ∃ c, (textOf fs).cps[k]? = some c ∧ c ≠ 32 := fun k ⟨f, e, hf⟩ => by
    have := hfs f (List.mem_of_getElem? e)
    exact ⟨sgn f, by rw [text_get, e]; rfl, fun q => hf ((sgn_blank this.1 this.2).mp q)⟩
  rcases h with ⟨ha, hb, h⟩ | ⟨hab, h1, h2, h3, h4⟩
  · exact .inl ⟨ha, hb, fun k hk => z k (h k hk)⟩
  · exact .inr ⟨hab, fun k hk => z k (h1 k hk), n a h2, fun k hk => z _ (h3 k hk), n _ h4⟩

/-- the places of ink -/
def inkB (zs : List Bool) : List Nat := (List.range 8).filter fun k => zs.getD k false
def inkOf (fs : List Int) : List Nat := inkB (fs.map fun f => decide (f ≠ 0))

theorem ink_bool : ∀ z0 z1 z2 z3 z4 z5 z6 z7 : Bool, (inkB [z0, z1, z2, z3, z4, z5, z6, z7] = [] → ∀ k, k < 8 → [z0, z1, z2, z3, z4, z5, z6, z7].getD k false = false) ∧
    (inkB [z0, z1, z2, z3, z4, z5, z6, z7] ≠ [] → (inkB [z0, z1, z2, z3, z4, z5, z6, z7]).headD 0 + (7 - (inkB [z0, z1, z2, z3, z4, z5, z6, z7]).getLastD 0) < 8 ∧ (inkB [z0, z1, z2, z3, z4, z5, z6, z7]).headD 0 < 8 ∧ (inkB [z0, z1, z2, z3, z4, z5, z6, z7]).getLastD 0 < 8 ∧
      (∀ k, k < (inkB [z0, z1, z2, z3, z4, z5, z6, z7]).headD 0 → [z0, z1, z2, z3, z4, z5, z6, z7].getD k false = false) ∧ [z0, z1, z2, z3, z4, z5, z6, z7].getD ((inkB [z0, z1, z2, z3, z4, z5, z6, z7]).headD 0) false = true ∧
      (∀ k, k < 7 - (inkB [z0, z1, z2, z3, z4, z5, z6, z7]).getLastD 0 → [z0, z1, z2, z3, z4, z5, z6, z7].getD (7 - k) false = false) ∧ [z0, z1, z2, z3, z4, z5, z6, z7].getD ((inkB [z0, z1, z2, z3, z4, z5, z6, z7]).getLastD 0) false = true) := by
  decide +kernel

theorem list8 {α : Type} {l : List α} (h : l.length = 8) : ∃ a b c d e f g i, l = [a, b, c, d, e, f, g, i] := by
  match l, h with
  | [a, b, c, d, e, f, g, i], _ => exact ⟨a, b, c, d, e, f, g, i, rfl⟩

theorem ink_len (fs : List Int) : (inkOf fs).length ≤ 8 := by
  have := List.length_filter_le (fun k => (fs.map fun f => decide (f ≠ 0)).getD k false) (List.range 8)
  rw [List.length_range] at this
  exact this

theorem ink_facts {fs : List Int} (h8 : fs.length = 8) :
    (inkOf fs = [] → Zs fs 8 0) ∧ (inkOf fs ≠ [] → (inkOf fs).headD 0 < 8 ∧ (inkOf fs).getLastD 0 < 8 ∧ Zs fs ((inkOf fs).headD 0) (7 - (inkOf fs).getLastD 0)) := by
  have get : ∀ k : Nat, k < 8 → (fs.map fun f => decide (f ≠ 0)).getD k false = false → fs[k]? = some 0 := fun k hk e => by
    have hl : k < fs.length := by (first | lia | omega)
    rw [List.getD_eq_getElem?_getD, List.getElem?_map, List.getElem?_eq_getElem hl] at e
    simp at e
    rw [List.getElem?_eq_getElem hl, e]
  have get1 : ∀ k : Nat, k < 8 → (fs.map fun f => decide (f ≠ 0)).getD k false = true → ∃ f, fs[k]? = some f ∧ f ≠ 0 := fun k hk e => by
    have hl : k < fs.length := by (first | lia | omega)
    rw [List.getD_eq_getElem?_getD, List.getElem?_map, List.getElem?_eq_getElem hl] at e
    simp at e
    exact ⟨fs[k], List.getElem?_eq_getElem hl, e⟩
  unfold inkOf
  obtain ⟨z0, z1, z2, z3, z4, z5, z6, z7, e⟩ := list8 (l := fs.map fun f => decide (f ≠ 0)) (by rw [List.length_map, h8])
  rw [e] at get get1 ⊢
  obtain ⟨h1, h2⟩ := ink_bool z0 z1 z2 z3 z4 z5 z6 z7
  generalize inkB [z0, z1, z2, z3, z4, z5, z6, z7] = ink at h1 h2 ⊢
  refine ⟨fun he => .inl ⟨rfl, rfl, fun k hk => get k hk (h1 he k hk)⟩, fun hne => ?_⟩
  obtain ⟨q1, q2, q3, q4, q5, q6, q7⟩ := h2 hne
  refine ⟨q2, q3, .inr ⟨q1, fun k hk => get k (by (first | lia | omega)) (q4 k hk), get1 _ q2 q5, fun k hk => get _ (by (first | lia | omega)) (q6 k hk), ?_⟩⟩
  rw [show 7 - (7 - ink.getLastD 0) = ink.getLastD 0 by (first | lia | omega)]
  exact get1 _ q3 q7

theorem inkOf_eq {fs : List Int} (h8 : fs.length = 8) : inkOf fs = (List.range 8).filter fun k => decide (fs.getD k 0 ≠ 0) := by
  unfold inkOf inkB
  apply List.filter_congr
  intro k hk
  have hk8 : k < 8 := List.mem_range.mp hk
  have hl : k < fs.length := by (first | lia | omega)
  rw [List.getD_eq_getElem?_getD, List.getElem?_map, List.getElem?_eq_getElem hl, List.getD_eq_getElem?_getD, List.getElem?_eq_getElem hl]
  rfl

/-- the number, by what is bare -/
theorem Zs.bare {hf : Int} {fs : List Int} {a b : Nat} (h8 : fs.length = 8) (h : Zs fs a b) :
    hor (2 * hf + 1) fs = hor (2 * hf + 1) ((fs.drop a).take (8 - b - a)) * (2 * hf + 1) ^ b := by
  rcases h with ⟨rfl, rfl, h⟩ | ⟨hab, h1, h2, h3, h4⟩
  · have e : fs = List.replicate 8 0 := by
      apply List.ext_getElem?
      intro k
      by_cases hk : k < 8
      · rw [h k hk, List.getElem?_replicate, if_pos hk]
      · rw [List.getElem?_eq_none (by (first | lia | omega)), List.getElem?_eq_none (by simp; (first | lia | omega))]
    rw [e, hor_zeros]
    simp [hor]
  · have z : ∀ (l : List Int) (n : Nat), l.length = n → (∀ k, k < n → l[k]? = some 0) → l = List.replicate n 0 := by
      intro l n hl hk
      refine List.eq_replicate_iff.mpr ⟨hl, fun x hx => ?_⟩
      obtain ⟨k, hk1, rfl⟩ := List.mem_iff_getElem.mp hx
      have := hk k (hl ▸ hk1)
      rw [List.getElem?_eq_getElem hk1] at this
      exact Option.some.inj this
    have ha8 : a ≤ 8 := Nat.le_of_lt (Nat.lt_of_le_of_lt (Nat.le_add_right a b) hab)
    have hb8 : b ≤ 8 := Nat.le_of_lt (Nat.lt_of_le_of_lt (Nat.le_add_left b a) hab)
    have z1 : fs.take a = List.replicate a 0 := z _ _ (by rw [List.length_take, h8]; exact Nat.min_eq_left ha8) fun k hk => by rw [List.getElem?_take, if_pos hk]; exact h1 k hk
    have z2 : fs.drop (8 - b) = List.replicate b 0 := z _ _ (by rw [List.length_drop, h8]; exact Nat.sub_sub_self hb8) fun k hk => by
      rw [List.getElem?_drop]
      have := h3 (b - 1 - k) (by omega)
      rw [← this]; congr 1; omega
    have e : fs = List.replicate a 0 ++ ((fs.drop a).take (8 - b - a) ++ List.replicate b 0) := by
      rw [← z1, ← z2]
      have e1 := List.take_append_drop (8 - b - a) (fs.drop a)
      rw [List.drop_drop, show a + (8 - b - a) = 8 - b by omega] at e1
      rw [e1, List.take_append_drop]
    have := hor_front (2 * hf + 1) a ((fs.drop a).take (8 - b - a) ++ List.replicate b 0)
    rw [← e, hor_back] at this
    exact this

/-- once more leaves something, if there is ink -/
theorem Zs.more {hf : Int} (h0 : 0 ≤ hf) {fs : List Int} {a b : Nat} (h8 : fs.length = 8) (hfs : ∀ f ∈ fs, -hf ≤ f ∧ f ≤ hf) (h : Zs fs a b) :
    ((hor (2 * hf + 1) fs).fmod ((2 * hf + 1) ^ (b + 1)) = 0) ↔ a = 8 := by
  have hP := pow_pos' (show 0 < 2 * hf + 1 by (first | lia | omega)) b
  have hb := h.bare (hf := hf) h8
  rcases h with ⟨rfl, rfl, h⟩ | ⟨hab, h1, h2, h3, ⟨d, h4, hd⟩⟩
  · simp only [iff_true]
    rw [hb]
    have e : (fs.drop 8).take (8 - 0 - 8) = [] := by simp
    rw [e]
    simp [hor]
  · refine ⟨fun e => ?_, fun e => by (first | lia | omega)⟩
    exfalso
    have hl : (fs.drop a).take (8 - b - a) = (fs.drop a).take (7 - b - a) ++ [d] := by
      rw [show 8 - b - a = (7 - b - a) + 1 by (first | lia | omega), List.take_add_one, List.getElem?_drop, show a + (7 - b - a) = 7 - b by (first | lia | omega), h4]
      rfl
    have hdb := hfs d (List.mem_of_getElem? h4)
    rw [hb, hl, hor_append, Int.pow_succ] at e
    have z : hor (2 * hf + 1) [d] = d := by simp [hor]
    rw [z, List.length_singleton, Int.pow_one] at e
    exact once_more hP hd (by (first | lia | omega)) (by (first | lia | omega)) e
end Mine

/-! W1 -/
set_option maxRecDepth 100000
set_option maxHeartbeats 4000000
namespace Mine
variable {fa : Addr} {cd : Value} {prog : Program} {w : World} {A : Around} {E : Value → Shared → Prop} {s : Shared}

def noStmt : Stmt := .Pass ⟨0, 0, 0, 0⟩
/-- the body of the loop over the two rows -/
abbrev whB1 : List Stmt := forB (lawB.getD 9 noStmt)
def whNames : List Str := ["which", "number", "inked", "ahead", "behind", "amount", "gone", "bare", "end", "left", "known", "cuts", "at", "size", "piece", "power", "told", "more"]

/-- a row at hand -/
structure Rw (L : Addr) (m : Str → Option Value) (ot : Obj) (hf : Int) (fs : List Int) (i : Nat) : Prop where
  w : ∃ t, m "which" = some (.int i t)
  n : ∃ t, m "number" = some (.int (hor (2 * hf + 1) fs) t)
  t : ∃ t, ot.data = .cell (some (.str (textOf fs) t))

theorem wh1 {g : Heap} {L D W : Addr} {m : Str → Option Value} {own : List (Addr × Obj)} {ot : Obj} {v₀ : Option Value} {ys zs : List Value} {nD nW : Nat} {rs : List (List Int)} {hf : Int} {i : Nat} {ti : Tok} {fs : List Int} {Q : Flow → Shared → Prop} (hh : A.handled = none)
    (Sg : Stat g) (F : Fm g L s.heap m ((L + 2, ot) :: own)) (dt : ot.data = .cell v₀) (mi : m "which" = some (.int i ti)) (hfs : rs[i]? = some fs) (X : Wr m own hf D W ys zs nD nW rs)
    (next : ∀ h' tk m' ot', Fm g L h' m' ((L + 2, ot') :: own) → Same whNames m m' → Rw L m' ot' hf fs i → wpAny (model prog w) A (execs (whB1.drop 1) (lawE fa cd L)) Q E { s with heap := h', toks := tk }) :
    wpAny (model prog w) A (execs whB1 (lawE fa cd L)) Q E s := by
  obtain ⟨ta, ea⟩ := X.hys.get i (textOf fs) (by rw [List.getElem?_map, hfs]; rfl)
  obtain ⟨tc, ec⟩ := X.hzs.get i (hor (2 * hf + 1) fs) (by rw [List.getElem?_map, hfs]; rfl)
  have hi4 : i < 4 := by
    have := (List.getElem?_eq_some_iff.mp hfs).1
    rw [X.len] at this; exact this
  have oD : (D, listOf ys.toArray nD) ∈ (L + 2, ot) :: own := .tail _ X.oD
  have oW : (W, listOf zs.toArray nW) ∈ (L + 2, ot) :: own := .tail _ X.oW
  refine wpAny_execs_cons <| Assign_Tuple <| Tuple_ <| args_cons <| Subscript_ <| lname F X.mt <| lname F mi <| item_listL (F.isList oD) (by omega) (by omega) (by simpa using ea) <| args_cons <| Subscript_ <| lname F X.mw <| lname F mi <| item_listL (F.isList oW) (by omega) (by omega) (by simpa using ec) <| args_nil ?_
  dsimp only
  refine newTup F (by exact Nat.le_of_ble_eq_true rfl) fun a h₂ ha F₂ => ?_
  refine unpackM F₂ (F₂.isTup (.head _)) hh fun h₃ F₃ => ?_
  replace F₃ := F₃.tail
  refine aio_cons (wpAny_assign_Name (cstore F₃ 0 rfl dt fun h₄ ot' dt' F₄ => ?_))
  replace F₄ : Fm g L h₄ m ((L + 2, ot') :: own) := F₄
  refine aio_cons (wpAny_assign_Name (lstore F₄ fun h₅ F₅ => aio_nil ?_))
  dsimp only
  exact next h₅ _ _ ot' F₅ (Same.set (fun _ _ => rfl) (by decide)) ⟨⟨_, mi⟩, ⟨_, rfl⟩, ⟨_, dt'⟩⟩
end Mine

/-! W2 -/
set_option maxRecDepth 100000
set_option maxHeartbeats 4000000
namespace Mine
variable {fa : Addr} {cd : Value} {prog : Program} {w : World} {A : Around} {E : Value → Shared → Prop} {s : Shared}

theorem neBlank {c : Nat} {t u : Tok} {Q : Value → Shared → Prop} (h : Q (.bool (decide (c ≠ 32))) s) : wpAny (model prog w) A (compareOp .NotEq (.str ⟨#[c]⟩ t) (.str (Str.ofString " ") u)) Q E s := by
  refine PyProof.Rows.ne_str ?_
  have e : (((⟨#[c]⟩ : Str) != Str.ofString " ")) = decide (c ≠ 32) := by
    show (!((⟨#[c]⟩ : Str) == Str.ofString " ")) = _
    rw [blank_beq]; simp
  rw [e]; exact h

theorem Rw.same {L : Addr} {m m' : Str → Option Value} {ot : Obj} {hf : Int} {fs : List Int} {i : Nat} {xs : List Str} (R : Rw L m ot hf fs i) (h : Same xs m m') (h1 : (Str.ofString "which") ∉ xs := by decide) (h2 : (Str.ofString "number") ∉ xs := by decide) : Rw L m' ot hf fs i where
  w := by rw [h _ h1]; exact R.w
  n := by rw [h _ h2]; exact R.n
  t := R.t

theorem wh2 {g : Heap} {L : Addr} {m : Str → Option Value} {own : List (Addr × Obj)} {ot : Obj} {hf : Int} {i : Nat} {fs : List Int} {Q : Flow → Shared → Prop} (hh : A.handled = none) (hu : A.units + 64 < cLine)
    (Sg : Stat g) (F : Fm g L s.heap m own) (oT : (L + 2, ot) ∈ own) (R : Rw L m ot hf fs i) (h4 : hf ≤ 4) (row : Row hf fs)
    (next : ∀ h' tk m' K ks nK a b ta tb, Fm g L h' m' ((K, listOf ks.toArray nK) :: own) → Same ["inked", "ahead", "behind"] m m' → m' "inked" = some (.ref K) → IntsAre ks ((inkOf fs).map fun k : Nat => (k : Int)) →
      m' "ahead" = some (.int (a : Nat) ta) → m' "behind" = some (.int (b : Nat) tb) → Zs fs a b → (inkOf fs = [] ↔ a = 8) →
      wpAny (model prog w) A (execs (whB1.drop 3) (lawE fa cd L)) Q E { s with heap := h', toks := tk }) :
    wpAny (model prog w) A (execs (whB1.drop 1) (lawE fa cd L)) Q E s := by
  obtain ⟨tt, dt⟩ := R.t
  have b4 : ∀ f ∈ fs, -4 ≤ f ∧ f ≤ 4 := fun f hm => by have := row.2 f hm; omega
  refine wpAny_execs_cons <| compA (P' := fun v => ∃ (i : Nat) (u : Tok), (i : Int) < 8 ∧ v = .int i u) (Z := fun ws => IntsAre ws ((List.range (8 : Int).toNat).map (fun k : Nat => (k : Int))))
    (p := fun v => match v with | .int k _ => decide (fs.getD k.toNat 0 ≠ 0) | _ => false) (R := fun v y => y = v) (cl := [("text", L + 2)]) F rfl ?_ ⟨?_, ?_⟩ ?_
  · intro K hK
    refine callT (F.stat Sg) rfl rfl (args_cons (wpAny_Constant_int (args_nil ?_)))
    exact srcRange hh (by decide) (by decide) fun it s₂ x => hK it s₂ x.tok
  · rintro C v s₃ m₃ E' ⟨k, u, hk8, rfl⟩ hns hm hk
    have c3 : s₃.heap.IsCell (L + 2) (some (.str (textOf fs) tt)) := ⟨ot, hk _ _ (F.get oT), dt⟩
    have hkl : k < fs.length := by rw [row.1]; omega
    have hg : fs.getD k 0 = fs[k] := by rw [List.getD_eq_getElem?_getD, List.getElem?_eq_getElem hkl]; rfl
    have hb := b4 _ (List.getElem_mem hkl)
    refine wpAny_tests_one <| wpAny_isTrue_Compare1 <| Subscript_ <| wpAny_Name <| wpAny_loadName_cell rfl rfl rfl c3 <| wpAny_Name <| wpAny_loadName_local rfl rfl hns hm <| signAt (c := sgn fs[k]) (by omega) (by omega) (by rw [Int.toNat_natCast, text_get, List.getElem?_eq_getElem hkl]; rfl) <| Calls.Constant_str <| neBlank <| wpAny_truthy_bool ⟨?_, _, _, rfl, fun _ _ e => e⟩
    show decide (sgn fs[k] ≠ 32) = decide (fs.getD (k : Int).toNat 0 ≠ 0)
    rw [Int.toNat_natCast, hg]
    exact decide_eq_decide.mpr (not_congr (sgn_blank hb.1 hb.2))
  · rintro C v s₃ m₃ E' ⟨k, u, hk8, rfl⟩ hpv hns hm hk
    exact wpAny_Name <| wpAny_loadName_local rfl rfl hns hm ⟨rfl, _, _, rfl, fun _ _ e => e⟩
  rintro K h₂ tk2 ws ks nK hws hP F₂
  have same : ∀ {xs ys : List Value}, Paired (fun v y => y = v) xs ys → ys = xs := by
    intro xs ys h
    induction h with
    | nil => rfl
    | cons a _ ih => rw [a, ih]
  have hks := same hP
  subst hks
  have filt : ∀ {ws : List Value} {l : List Nat}, IntsAre ws (l.map fun k : Nat => (k : Int)) → IntsAre (ws.filter fun v => match v with | .int k _ => decide (fs.getD k.toNat 0 ≠ 0) | _ => false) ((l.filter fun k => decide (fs.getD k 0 ≠ 0)).map fun k : Nat => (k : Int)) := by
    intro ws l
    induction l generalizing ws with
    | nil => intro h; cases h; exact .nil
    | cons k r ih =>
      intro h
      cases h with
      | cons n t h' =>
        rw [List.filter_cons, List.filter_cons]
        show IntsAre (if decide (fs.getD (k : Int).toNat 0 ≠ 0) = true then _ else _) _
        rw [Int.toNat_natCast]
        by_cases q : decide (fs.getD k 0 ≠ 0) = true
        · rw [if_pos q, if_pos q]; exact .cons _ _ (ih h')
        · rw [if_neg q, if_neg q]; exact ih h'
  have hink := filt hws
  rw [show (8 : Int).toNat = 8 from rfl, ← inkOf_eq row.1] at hink
  generalize hks : (ws.filter fun v => match v with | .int k _ => decide (fs.getD k.toNat 0 ≠ 0) | _ => false) = ks at F₂ hink
  have facts := ink_facts row.1
  have ilen := ink_len fs
  have klen : ks.length = (inkOf fs).length := by rw [hink.length, List.length_map]
  refine wpAny_execs_cons (wpAny_mono (Q := fun f s' => f = .next ∧ ∃ (h' : Heap) (tk' : Nat) (a b : Nat) (ta tb : Tok), s' = { s with heap := h', toks := tk' } ∧ Zs fs a b ∧ (inkOf fs = [] ↔ a = 8) ∧
      Fm g L h' (fun y => if y = "behind" then some (.int b tb) else if y = "ahead" then some (.int a ta) else if y = "inked" then some (.ref K) else m y) ((K, listOf ks.toArray nK) :: own)) ?_ ?_ fun _ _ q => q)
  · refine Assign_Tuple <| wpAny_IfExp <| wpAny_isTrue_Compare1 <| lname F₂ rfl <| List_ <| args_nil <| newLst F₂ (by exact Nat.le_of_ble_eq_true rfl) fun e h₃ ne F₃ => ?_
    dsimp only
    refine ne_intsK (F₃.isList (.tail _ (.head _))) hink (F₃.isList (.head _)) .nil hu <| wpAny_truthy_bool ?_
    replace F₃ := F₃.tail
    by_cases hz : inkOf fs = []
    · refine ite_neg (by rw [hz]; simp) ?_
      refine Tuple_ <| args_cons <| wpAny_Constant_int <| args_cons <| wpAny_Constant_int <| args_nil <| newTup F₃ (by exact Nat.le_of_ble_eq_true rfl) fun c h₄ hc F₄ => ?_
      dsimp only
      refine unpackM F₄ (F₄.isTup (.head _)) hh fun h₅ F₅ => ?_
      replace F₅ := F₅.tail
      refine aio_cons (wpAny_assign_Name (lstore F₅ fun h₆ F₆ => ?_))
      refine aio_cons (wpAny_assign_Name (lstore F₆ fun h₇ F₇ => aio_nil ?_))
      dsimp only
      exact ⟨rfl, h₇, _, 8, 0, _, _, rfl, facts.1 hz, by simp [hz], F₇⟩
    · refine ite_pos (by simpa using hz) ?_
      obtain ⟨f1, f2, f3⟩ := facts.2 hz
      have hpos : 0 < (inkOf fs).length := List.length_pos_iff.mpr hz
      obtain ⟨t1, e1⟩ := hink.get 0 ((inkOf fs).headD 0 : Nat) (by cases h : inkOf fs with | nil => exact absurd h hz | cons a r => rfl)
      obtain ⟨t2, e2⟩ := hink.get ((inkOf fs).length - 1) ((inkOf fs).getLastD 0 : Nat) (by
        rw [List.getElem?_map, ← List.getLast?_eq_getElem?, List.getLastD_eq_getLast?]
        cases h : (inkOf fs).getLast? with
        | none => exact absurd (List.getLast?_eq_none_iff.mp h) hz
        | some a => rfl)
      refine Tuple_ <| args_cons <| Subscript_ <| lname F₃ rfl <| wpAny_Constant_int <| itemL (F₃.isList (.head _)) (by decide) (by decide) e1 <| args_cons <| wpAny_BinOp <| wpAny_Constant_int <| Subscript_ <| lname F₃ rfl <| UnaryOp_ <| wpAny_Constant_int <| neg_int <| itemNeg (F₃.isList (.head _)) (by decide) (by rw [klen]; omega) (by decide) (x := .int ((inkOf fs).getLastD 0 : Nat) t2) (by rw [← e2]; congr 1; rw [klen]; omega) <| sub_int' <| args_nil ?_
      dsimp only
      refine newTup F₃ (by exact Nat.le_of_ble_eq_true rfl) fun c h₄ hc F₄ => ?_
      dsimp only
      refine unpackM F₄ (F₄.isTup (.head _)) hh fun h₅ F₅ => ?_
      replace F₅ := F₅.tail
      refine aio_cons (wpAny_assign_Name (lstore F₅ fun h₆ F₆ => ?_))
      refine aio_cons (wpAny_assign_Name (lstore F₆ fun h₇ F₇ => aio_nil ?_))
      dsimp only
      have e7 : (7 : Int) - (((inkOf fs).getLastD 0 : Nat) : Int) = ((7 - (inkOf fs).getLastD 0 : Nat) : Int) := by omega
      rw [e7] at F₇
      exact ⟨rfl, h₇, _, _, _, _, _, rfl, f3, ⟨fun q => absurd q hz, fun q => by omega⟩, F₇⟩
  rintro f s' ⟨rfl, h₃, tk3, a, b, ta, tb, rfl, hZ, hza, F₃⟩
  exact next h₃ tk3 _ K ks nK a b ta tb F₃ (((Same.set (fun _ _ => rfl) (by decide)).set (by decide)).set (by decide)) rfl hink rfl rfl hZ hza
end Mine

/-! W3 -/
set_option maxRecDepth 100000
set_option maxHeartbeats 4000000
namespace Mine
variable {fa : Addr} {cd : Value} {prog : Program} {w : World} {A : Around} {E : Value → Shared → Prop} {s : Shared}

theorem wh3 {g : Heap} {L : Addr} {m : Str → Option Value} {own : List (Addr × Obj)} {ot : Obj} {hf : Int} {i : Nat} {fs : List Int} {a b : Nat} {ta tb : Tok} {Q : Flow → Shared → Prop} (hh : A.handled = none) (hroom : A.depth + 100 < recursionLimit)
    (Sg : Stat g) (F : Fm g L s.heap m own) (oT : (L + 2, ot) ∈ own) (R : Rw L m ot hf fs i) (h4 : hf ≤ 4) (row : Row hf fs) (ma : m "ahead" = some (.int a ta)) (mb : m "behind" = some (.int b tb)) (hZ : Zs fs a b)
    (next : ∀ h' tk m', Fm g L h' m' own → Same ["amount", "gone"] m m' → wpAny (model prog w) A (execs (whB1.drop 4) (lawE fa cd L)) Q E { s with heap := h', toks := tk }) :
    wpAny (model prog w) A (execs (whB1.drop 3) (lawE fa cd L)) Q E s := by
  obtain ⟨tt, dt⟩ := R.t
  have b4 : ∀ f ∈ fs, -4 ≤ f ∧ f ≤ 4 := fun f hm => by have := row.2 f hm; omega
  have hp := hZ.pads b4
  have h8 : (textOf fs).cps.size = 8 := by rw [text_size, row.1]
  have hb8 : b ≤ 8 := by
    rcases hZ with ⟨_, q, _⟩ | ⟨q, _⟩ <;> omega
  refine wpAny_execs_cons <| wpAny_For <| callT (F.stat Sg) rfl rfl <| args_cons <| callB (F.stat Sg) rfl rfl <| args_cons <| wpAny_BinOp <| wpAny_BinOp <| lname F ma <| lname F mb <| add_int <| wpAny_Constant_int <| add_int <| args_cons <| wpAny_Constant_int <| args_nil ?_
  dsimp only
  refine minM F hh fun h₂ tk2 t2 F₂ => ?_
  dsimp only
  refine args_nil <| rangeLoop hh (by omega) (by omega) F₂ (fun _ m' own' => own' = own ∧ Same ["amount", "gone"] m m') ⟨rfl, fun _ _ => rfl⟩ ?_ ?_
  · rintro k tk m₁ own₁ p h₃ tk3 hk ⟨rfl, hm₁⟩ F₃
    have hk9 : k < 9 := by omega
    have hm₁' := hm₁.set (x := "amount") (v := .int k tk) (by decide)
    have ma₁ : m₁ "ahead" = some (.int a ta) := (hm₁ _ (by decide)).trans ma
    have mb₁ : m₁ "behind" = some (.int b tb) := (hm₁ _ (by decide)).trans mb
    refine wpAny_execs_cons <| wpAny_Assign_Name <| callB (F₃.stat Sg) rfl rfl <| args_cons <| lname F₃ rfl <| args_cons <| lname F₃ ma₁ <| args_nil <| minM F₃ hh fun h₄ tk4 t4 F₄ => lstore F₄ fun h₅ F₅ => ?_
    dsimp only
    have e1 : min (k : Int) (a : Int) = ((min k a : Nat) : Int) := by omega
    rw [e1] at F₅
    have oT₅ : (L + 2, ot) ∈ p :: own₁ := .tail _ oT
    refine wpAny_execs_cons <| wpAny_If <| wpAny_isTrue_Compare1 <| callF (i := 4) (F₅.stat Sg) rfl (by decide) <| args_cons <| cname F₅ oT₅ dt <| args_cons <| lname F₅ rfl <| args_nil ⟨F₅.stat Sg, ?_⟩
    refine strip_ok (a := a) (b := b) (F₅.stat Sg) F₅.tab (by omega) h8 hp (fun _ => by omega) fun h₆ tk6 t6 k6 => ?_
    have F₆ := F₅.grow k6
    dsimp only
    refine Subscript_ <| cname F₆ oT₅ dt <| wpAny_Slice ?_
    refine lname F₆ rfl <| wpAny_BinOp <| wpAny_Constant_int <| callB (F₆.stat Sg) rfl rfl <| args_cons <| wpAny_BinOp <| lname F₆ rfl <| lname F₆ rfl <| sub_int' <| args_cons <| lname F₆ mb₁ <| args_nil <| minM F₆ hh fun h₇ tk7 t7 F₇ => sub_int' <| wpAny_pure ?_
    refine sliceS_ss F₇ (fun h₈ t8 k8 F₈ => ?_) (by rw [text_len, row.1]; decide)
    have e2 : (8 : Int) - min ((k : Int) - ((min k a : Nat) : Int)) (b : Int) = 8 - ((min (k - min k a) b : Nat) : Int) := by omega
    rw [e2]
    refine PyProof.Rows.ne_str <| wpAny_truthy_bool <| ite_neg (by simp) <| wpAny_execs_nil <| wpAny_execs_nil ?_
    exact ⟨h₈, _, _, own₁, rfl, F₈, rfl, hm₁'.set (by decide)⟩
  · rintro h₃ tk3 m₁ own₁ ⟨rfl, hm₁⟩ F₃
    exact next h₃ tk3 m₁ F₃ hm₁
end Mine

/-! U2 -/
set_option maxRecDepth 100000
set_option maxHeartbeats 4000000
namespace Mine
variable {prog : Program} {w : World} {A : Around} {E : Value → Shared → Prop} {s : Shared}

/-- what int_divmod is shown for -/
structure DivOk (a b : Int) : Prop where
  b0 : b ≠ 0
  bits : Builtin.Int.intBits b ≤ 7000
  num : a.natAbs < 2 ^ (Builtin.Int.intBits b * 64)

theorem lt_bits (b : Int) : b.natAbs < 2 ^ Builtin.Int.intBits b := by
  unfold Builtin.Int.intBits
  split
  · rename_i h
    have : b = 0 := by simpa using h
    subst this; decide
  · exact Nat.lt_log2_self
theorem bits_pos {b : Int} (h : b ≠ 0) : 1 ≤ Builtin.Int.intBits b := by
  unfold Builtin.Int.intBits
  rw [if_neg (by simpa using h)]
  (first | lia | omega)

theorem divOk {a P : Int} (hP : P ≠ 0) (h1 : P.natAbs < 2 ^ 7000) (ha : a.natAbs ≤ 2 ^ 32 + P.natAbs * P.natAbs) : DivOk a P := by
  refine ⟨hP, bits_lti h1, ?_⟩
  have hb := lt_bits P
  have hp := bits_pos hP
  generalize Builtin.Int.intBits P = n at hb hp
  have m1 : P.natAbs * P.natAbs ≤ 2 ^ n * 2 ^ n := Nat.mul_le_mul (Nat.le_of_lt hb) (Nat.le_of_lt hb)
  rw [← Nat.pow_add] at m1
  have m2 : 2 ^ (n + n) ≤ 2 ^ (n * 63) := Nat.pow_le_pow_right (by decide) (by (first | lia | omega))
  have m3 : 2 ^ 32 < 2 ^ (n * 63) := Nat.pow_lt_pow_right (by decide) (by (first | lia | omega))
  have m4 : 2 ^ (n * 63) * 2 ≤ 2 ^ (n * 64) := by
    rw [← Nat.pow_succ]
    exact Nat.pow_le_pow_right (by decide) (by (first | lia | omega))
  (first | lia | omega)

theorem pow_bound {b : Int} (h1 : 1 ≤ b) (h9 : b ≤ 9) {k n : Nat} (hk : 4 * k ≤ n) : (b ^ k).natAbs ≤ 2 ^ n := by
  rw [Int.natAbs_pow]
  have h : b.natAbs ^ k ≤ 16 ^ k := Nat.pow_le_pow_left (by (first | lia | omega)) k
  rw [show (16 : Nat) = 2 ^ 4 from rfl, ← Nat.pow_mul] at h
  exact Nat.le_trans h (Nat.pow_le_pow_right (by decide) hk)

theorem divOk_pow {a b : Int} (h1 : 1 ≤ b) (h9 : b ≤ 9) {k : Nat} (hk : k ≤ 1000) (ha : a.natAbs ≤ 2 ^ 32 + (b ^ k).natAbs) : DivOk a (b ^ k) := by
  have hp := pow_pos' (show 0 < b by (first | lia | omega)) k
  refine divOk (by (first | lia | omega)) (Nat.lt_of_le_of_lt (pow_bound h1 h9 (n := 4000) (by (first | lia | omega))) (Nat.pow_lt_pow_right (by decide) (by decide))) ?_
  have : (b ^ k).natAbs * 1 ≤ (b ^ k).natAbs * (b ^ k).natAbs := Nat.mul_le_mul_left _ (by (first | lia | omega))
  (first | lia | omega)

theorem hor_small {hf : Int} (h1 : 1 ≤ hf) (h4 : hf ≤ 4) {fs : List Int} (h8 : fs.length ≤ 8) (hfs : ∀ f ∈ fs, -hf ≤ f ∧ f ≤ hf) : (hor (2 * hf + 1) fs).natAbs ≤ 2 ^ 31 := by
  have hb := hor_bound (by (first | lia | omega)) fs hfs
  have hp := pow_small (b := 2 * hf + 1) (by (first | lia | omega)) (by (first | lia | omega)) (k := fs.length) (by (first | lia | omega))
  (first | lia | omega)

variable {Q : Value → Shared → Prop}
theorem idm {a b : Int} {t u : Tok} (S : Stat s.heap) (T : Tabs s.heap) (hroom : A.depth + 100 < recursionLimit) (hh : A.handled = none) (d : DivOk a b) (hQ : PairT s Q (a.fdiv b) (a.fmod b)) :
    wpAny (model prog w) A (call (.ref 77) [.int a t, .int b u]) Q E s := int_divmod_ok S T (by (first | lia | omega)) hh d.b0 d.bits d.num hQ

theorem sgns_mem {hf : Int} (h4 : hf ≤ 4) {fs : List Int} (hfs : ∀ f ∈ fs, -hf ≤ f ∧ f ≤ hf) : ∀ c ∈ (textOf fs).cps.toList, c ∈ signs := by
  intro c hc
  rw [text_list] at hc
  obtain ⟨f, hf', rfl⟩ := List.mem_map.mp hc
  have := hfs f hf'
  exact sgn_mem (by (first | lia | omega)) (by (first | lia | omega))
/-- a text's number -/
theorem worthF {hf : Int} {fs : List Int} {t u : Tok} (S : Stat s.heap) (T : Tabs s.heap) (hroom : A.depth + 100 < recursionLimit) (hh : A.handled = none) (h1 : 1 ≤ hf) (h4 : hf ≤ 4) (hfs : ∀ f ∈ fs, -hf ≤ f ∧ f ≤ hf)
    (hQ : ∀ h' tk tk', Kept s h' → Q (.int (hor (2 * hf + 1) fs) tk') { s with heap := h', toks := tk }) :
    wpAny (model prog w) A (call (.ref 101) [.str (textOf fs) t, .int (2 * hf + 1) u]) Q E s := by
  refine law_worth_ok S T (by (first | lia | omega)) hh (sgns_mem h4 hfs) (by (first | lia | omega)) (by (first | lia | omega)) fun h' tk tk' k => ?_
  rw [text_list, worth_hor _ _ fun f hm => by have := hfs f hm; (first | lia | omega)]
  exact hQ h' tk tk' k

/-- a place of a tuple -/
theorem itemT {value slice : Expr} {t : Addr} {l : List Value} {k : Int} {u : Tok} {x : Value} (ht : IsTup s.heap t l.toArray) (h0 : 0 ≤ k) (hk : k < 2 ^ 62) (hx : l[k.toNat]? = some x) (h : Q x s)
    (hs : subscripted slice false (.ref t) (.int k u) = operate [.ref t, .int k u] (getItem (.ref t) (.int k u)) := by with_unfolding_all rfl) :
    wpAny (model prog w) A (subscriptTail value slice (.ref t) (.int k u)) Q E s := by
  have hlt := (List.getElem?_eq_some_iff.mp hx).1
  refine item_tupleT (j := k.toNat) ht (by (first | lia | omega)) (by (first | lia | omega)) ?_ hx h hs
  unfold seqIndex?
  have hlt' : k < (l.length : Int) := by (first | lia | omega)
  simp [show ¬ (k < 0) by (first | lia | omega), h0, hlt']
end Mine

/-! W4 -/
set_option maxRecDepth 100000
set_option maxHeartbeats 1000000
namespace Mine
variable {fa : Addr} {cd : Value} {prog : Program} {w : World} {A : Around} {E : Value → Shared → Prop} {s : Shared}

theorem wh4 {g : Heap} {L K : Addr} {m : Str → Option Value} {own : List (Addr × Obj)} {ot ob : Obj} {hf : Int} {i : Nat} {fs : List Int} {a b : Nat} {ta tb tc : Tok} {ks : List Value} {nK : Nat} {Q : Flow → Shared → Prop} (hh : A.handled = none) (hroom : A.depth + 110 < recursionLimit) (hu : A.units + 64 < cLine)
    (Sg : Stat g) (Hg : Hid g) (F : Fm g L s.heap m own) (oT : (L + 2, ot) ∈ own) (oB : (L + 1, ob) ∈ own) (db : ob.data = .cell (some (.int (2 * hf + 1) tc))) (R : Rw L m ot hf fs i) (h1 : 1 ≤ hf) (h4 : hf ≤ 4) (row : Row hf fs)
    (ma : m "ahead" = some (.int a ta)) (mb : m "behind" = some (.int b tb)) (hZ : Zs fs a b) (hza : inkOf fs = [] ↔ a = 8) (oK : (K, listOf ks.toArray nK) ∈ own) (mk : m "inked" = some (.ref K)) (hink : IntsAre ks ((inkOf fs).map fun k : Nat => (k : Int)))
    (next : ∀ h' tk m', Fm g L h' m' own → Same ["bare"] m m' → wpAny (model prog w) A (execs (whB1.drop 7) (lawE fa cd L)) Q E { s with heap := h', toks := tk }) :
    wpAny (model prog w) A (execs (whB1.drop 4) (lawE fa cd L)) Q E s := by
  obtain ⟨tt, dt⟩ := R.t
  obtain ⟨tn, mn⟩ := R.n
  have b4 : ∀ f ∈ fs, -4 ≤ f ∧ f ≤ 4 := fun f hm => by have := row.2 f hm; (first | lia | omega)
  have hp := hZ.pads b4
  have h8 : (textOf fs).cps.size = 8 := by rw [text_size, row.1]
  have hab : a + b ≤ 8 := by
    rcases hZ with ⟨q, q', _⟩ | ⟨q, _⟩ <;> (first | lia | omega)
  have hnum := hZ.bare (hf := hf) row.1
  have hmore := hZ.more (hf := hf) (by (first | lia | omega)) row.1 row.2
  have hsm := hor_small h1 h4 (Nat.le_of_eq row.1) row.2
  have hP := pow_pos' (show 0 < 2 * hf + 1 by (first | lia | omega)) b
  have bare := bare_ok (q := hor (2 * hf + 1) ((fs.drop a).take (8 - b - a))) hP
  rw [← hnum] at bare
  -- bare =
  refine wpAny_execs_cons <| wpAny_Assign_Name <| callF (i := 17) (F.stat Sg) rfl (by decide) <| args_cons <| callF (i := 4) (F.stat Sg) rfl (by decide) <| args_cons <| cname F oT dt <| args_cons <| wpAny_BinOp <| lname F ma <| lname F mb <| add_int <| args_nil ⟨F.stat Sg, ?_⟩
  try dsimp only
  refine strip_ok (a := a) (b := b) (amt := a + b) (F.stat Sg) F.tab (by (first | lia | omega)) h8 hp (fun _ => by (first | lia | omega)) fun h₂ tk2 t2 k2 => ?_
  have F₂ := F.grow k2
  have e1 : min (a + b) a = a := by (first | lia | omega)
  have e2 : (8 : Int) - ((min (a + b - min (a + b) a) b : Nat) : Int) = ((8 - b : Nat) : Int) := by (first | lia | omega)
  rw [e2, e1, slice_mid fs (by (first | lia | omega)) (by rw [row.1]; (first | lia | omega))]
  try dsimp only
  refine args_cons <| cname F₂ oB db <| args_nil ⟨F₂.stat Sg, ?_⟩
  try dsimp only
  refine worthF (F₂.stat Sg) F₂.tab (by (first | lia | omega)) hh h1 h4 (fun f hm => row.2 f (List.mem_of_mem_drop (List.mem_of_mem_take hm))) fun h₃ tk3 t3 k3 => ?_
  have F₃ := F₂.grow k3
  refine lstore F₃ fun h₄ F₄ => ?_
  try dsimp only
  obtain ⟨q, eq⟩ : ∃ n, hor (2 * hf + 1) ((fs.drop a).take (8 - b - a)) = n := ⟨_, rfl⟩
  rw [eq] at F₄ hnum bare
  obtain ⟨num, enum⟩ : ∃ n, hor (2 * hf + 1) fs = n := ⟨_, rfl⟩
  rw [enum] at hnum bare hmore hsm mn
  -- first check
  refine wpAny_execs_cons <| wpAny_If <| wpAny_isTrue_Compare1 <| callF (i := 12) (F₄.stat Sg) rfl (by decide) <| args_cons <| lname F₄ mn <| args_cons <| wpAny_BinOp <| cname F₄ oB db <| lname F₄ mb <| pow_int_small (by (first | lia | omega)) (by (first | lia | omega)) (by (first | lia | omega)) <| args_nil ⟨F₄.stat Sg, ?_⟩
  try dsimp only
  rw [Int.toNat_natCast]
  refine idm (F₄.stat Sg) F₄.tab (by (first | lia | omega)) hh (divOk_pow (by (first | lia | omega)) (by (first | lia | omega)) (by (first | lia | omega)) (by (first | lia | omega))) ?_
  rw [bare.1, bare.2]
  intro h₅ tk5 c t4 t5 k5 T5 nc ec
  have F₅ := F₄.callAdd Hg k5 T5 nc ec
  try dsimp only
  refine Tuple_ <| args_cons <| lname F₅ rfl <| args_cons <| wpAny_Constant_int <| args_nil <| newTup F₅ (by exact Nat.le_of_ble_eq_true rfl) fun d h₆ hd F₆ => ?_
  try dsimp only
  refine neTup (F₆.get (.tail _ (.head _))) (.cons _ _ (.cons _ _ .nil)) (F₆.get (.head _)) (.cons _ _ (.cons _ _ .nil)) hu <| wpAny_truthy_bool <| ite_neg (by simp) <| wpAny_execs_nil ?_
  replace F₆ := F₆.tail.tail
  -- second check
  refine wpAny_execs_cons <| wpAny_If <| wpAny_isTrue_Compare1 <| wpAny_Compare1 <| Subscript_ <| callF (i := 12) (F₆.stat Sg) rfl (by decide) <| args_cons <| lname F₆ mn <| args_cons <| wpAny_BinOp <| cname F₆ oB db <| wpAny_BinOp <| lname F₆ mb <| wpAny_Constant_int <| add_int <| pow_int_small (by (first | lia | omega)) (by (first | lia | omega)) (by (first | lia | omega)) <| args_nil ⟨F₆.stat Sg, ?_⟩
  try dsimp only
  rw [show ((b : Int) + 1).toNat = b + 1 by (first | lia | omega)]
  refine idm (F₆.stat Sg) F₆.tab (by (first | lia | omega)) hh (divOk_pow (by (first | lia | omega)) (by (first | lia | omega)) (by (first | lia | omega)) (by (first | lia | omega))) ?_
  intro h₇ tk7 c2 t6 t7 k7 T7 nc2 ec2
  have F₇ := F₆.callAdd Hg k7 T7 nc2 ec2
  try dsimp only
  refine wpAny_Constant_int <| itemT (F₇.isTup (.head _)) (by decide) (by decide) rfl <| wpAny_Constant_int <| eq_int ?_
  try dsimp only
  replace F₇ := F₇.tail
  refine wpAny_Compare1 <| lname F₇ mk <| List_ <| args_nil <| newLst F₇ (by exact Nat.le_of_ble_eq_true rfl) fun e h₈ he F₈ => ?_
  try dsimp only
  refine eq_intsK (F₈.isList (.tail _ oK)) hink (F₈.isList (.head _)) .nil hu <| PyProof.Rows.ne_bool <| wpAny_truthy_bool <| ite_neg ?_ <| wpAny_execs_nil ?_
  · have e3 : (num.fmod ((2 * hf + 1) ^ (b + 1)) == 0) = decide ((inkOf fs).map (fun k : Nat => (k : Int)) = []) := by
      rw [Bool.eq_iff_iff]
      simp only [beq_iff_eq, decide_eq_true_eq, List.map_eq_nil_iff]
      rw [hmore, hza]
    rw [e3]; simp
  have S := Same.set (xs := ["bare"]) (m := m) (m' := m) (x := "bare") (v := .int q t3) (fun _ _ => rfl) (by decide)
  replace F₈ := F₈.tail
  show wpAny (model prog w) A (execs (whB1.drop 7) (lawE fa cd L)) Q E _
  with_reducible exact next h₈ _ _ F₈ S
end Mine

/-! W5 -/
set_option maxRecDepth 100000
set_option maxHeartbeats 1000000
namespace Mine
variable {fa : Addr} {cd : Value} {prog : Program} {w : World} {A : Around} {E : Value → Shared → Prop} {s : Shared}

theorem wh5 {g : Heap} {L sl : Addr} {m : Str → Option Value} {own : List (Addr × Obj)} {ot : Obj} {hf : Int} {i : Nat} {fs : List Int} {vs : List Value} {ns : List Int} {Q : Flow → Shared → Prop} (hh : A.handled = none) (hroom : A.depth + 110 < recursionLimit)
    (Sg : Stat g) (hl : g.IsList sl vs.toArray) (hi : IntsAre vs ns) (hn : ns.length ≤ 63) (F : Fm g L s.heap m own) (ms : m "script" = some (.ref sl)) (oT : (L + 2, ot) ∈ own) (R : Rw L m ot hf fs i)
    (next : ∀ h' tk m' X vals En C t1 t2 t3, Fm g L h' m' ((C, listOf ([] : List Value).toArray 0) :: (X, listOf vals.toArray 0) :: own) → Same ["end", "left", "known", "cuts", "at"] m m' → En ∈ ends → IntsAre vals En → m' "end" = some (.ref X) →
      m' "left" = some (.str (textOf fs) t1) → m' "known" = some (.int (hor (2 * hf + 1) fs) t2) → m' "cuts" = some (.ref C) → m' "at" = some (.int 0 t3) →
      wpAny (model prog w) A (execs (whB1.drop 9) (lawE fa cd L)) Q E { s with heap := h', toks := tk }) :
    wpAny (model prog w) A (execs (whB1.drop 7) (lawE fa cd L)) Q E s := by
  obtain ⟨tt, dt⟩ := R.t
  obtain ⟨tn, mn⟩ := R.n
  obtain ⟨tw, mw⟩ := R.w
  refine wpAny_execs_cons ?_
  refine wpAny_Assign_Name ?_
  refine Subscript_ ?_
  refine List_ ?_
  refine args_cons ?_
  refine List_ ?_
  refine args_cons ?_
  refine wpAny_Constant_int ?_
  refine args_nil ?_
  refine newLst F (by exact Nat.le_of_ble_eq_true rfl) fun a0 h₀ n0 F₀ => ?_
  try dsimp only
  refine args_cons ?_
  refine List_ ?_
  refine args_cons ?_
  refine wpAny_Constant_int ?_
  refine args_cons ?_
  refine wpAny_Constant_int ?_
  refine args_nil ?_
  refine newLst F₀ (by exact Nat.le_of_ble_eq_true rfl) fun a1 h₁ n1 F₁ => ?_
  try dsimp only
  refine args_cons ?_
  refine List_ ?_
  refine args_nil ?_
  refine newLst F₁ (by exact Nat.le_of_ble_eq_true rfl) fun a2 h₂ n2 F₂ => ?_
  try dsimp only
  refine args_cons ?_
  refine List_ ?_
  refine args_cons ?_
  refine wpAny_Constant_int ?_
  refine args_cons ?_
  refine wpAny_Constant_int ?_
  refine args_nil ?_
  refine newLst F₂ (by exact Nat.le_of_ble_eq_true rfl) fun a3 h₃ n3 F₃ => ?_
  try dsimp only
  refine args_cons ?_
  refine List_ ?_
  refine args_cons ?_
  refine wpAny_Constant_int ?_
  refine args_nil ?_
  refine newLst F₃ (by exact Nat.le_of_ble_eq_true rfl) fun a4 h₄ n4 F₄ => ?_
  try dsimp only
  refine args_nil ?_
  refine newLst F₄ (by exact Nat.le_of_ble_eq_true rfl) fun a5 h₅ n5 F₅ => ?_
  try dsimp only
  refine wpAny_BinOp ?_
  refine wpAny_BinOp ?_
  refine callF (i := 14) (F₅.stat Sg) rfl (by decide) ?_
  refine args_cons ?_
  refine lname F₅ ms ?_
  refine args_cons ?_
  refine wpAny_Constant_int ?_
  refine args_cons ?_
  refine wpAny_Constant_int ?_
  refine args_nil ⟨F₅.stat Sg, ?_⟩
  try dsimp only
  refine law_cell_ok (i := 7) (F₅.stat Sg) F₅.tab (by omega) (stays_list F₅.keep hl) hi hn (by decide) fun h₆ tk6 t6 k6 => ?_
  have F₆ := F₅.grow k6
  refine lname F₆ mw ?_
  refine add_int ?_
  refine wpAny_Constant_int ?_
  refine mod_int' (by decide) ?_
  try dsimp only
  have f0 := Int.fmod_nonneg_of_pos (cellV ns 7 0 + (i : Int)) (b := 5) (by decide)
  have f5 := Int.fmod_lt_of_pos (cellV ns 7 0 + (i : Int)) (b := 5) (by decide)
  generalize (cellV ns 7 0 + (i : Int)).fmod 5 = k at f0 f5 ⊢
  have key : ∃ X vals En, ([.ref a0, .ref a1, .ref a2, .ref a3, .ref a4] : List Value)[k.toNat]? = some (.ref X) ∧ Fm g L h₆ m ((X, listOf vals.toArray 0) :: own) ∧ IntsAre vals En ∧ En ∈ ends := by
    have S := List.Sublist.refl own
    obtain rfl | rfl | rfl | rfl | rfl : k = 0 ∨ k = 1 ∨ k = 2 ∨ k = 3 ∨ k = 4 := by omega
    · exact ⟨a0, _, [0], rfl, F₆.drop (.cons _ (.cons _ (.cons _ (.cons _ (.cons _ (.cons_cons _ S)))))), .cons _ _ .nil, by decide⟩
    · exact ⟨a1, _, [127, 1], rfl, F₆.drop (.cons _ (.cons _ (.cons _ (.cons _ (.cons_cons _ (.cons _ S)))))), .cons _ _ (.cons _ _ .nil), by decide⟩
    · exact ⟨a2, _, [], rfl, F₆.drop (.cons _ (.cons _ (.cons _ (.cons_cons _ (.cons _ (.cons _ S)))))), .nil, by decide⟩
    · exact ⟨a3, _, [0, 2], rfl, F₆.drop (.cons _ (.cons _ (.cons_cons _ (.cons _ (.cons _ (.cons _ S)))))), .cons _ _ (.cons _ _ .nil), by decide⟩
    · exact ⟨a4, _, [200], rfl, F₆.drop (.cons _ (.cons_cons _ (.cons _ (.cons _ (.cons _ (.cons _ S)))))), .cons _ _ .nil, by decide⟩
  obtain ⟨X, vals, En, hx, F₇, hEn, hE⟩ := key
  refine itemL (F₆.isList (.head _)) f0 (by omega) hx ?_
  refine lstore F₇ fun h₈ F₈ => ?_
  try dsimp only
  have oT₈ : (L + 2, ot) ∈ (X, listOf vals.toArray 0) :: own := .tail _ oT
  refine wpAny_execs_cons ?_
  refine Assign_Tuple ?_
  refine Tuple_ ?_
  refine args_cons ?_
  refine cname F₈ oT₈ dt ?_
  refine args_cons ?_
  refine lname F₈ mn ?_
  refine args_cons ?_
  refine List_ ?_
  refine args_nil ?_
  refine newLst F₈ (by exact Nat.le_of_ble_eq_true rfl) fun C h₉ nC F₉ => ?_
  try dsimp only
  refine args_cons ?_
  refine wpAny_Constant_int ?_
  refine args_nil ?_
  refine newTup F₉ (by exact Nat.le_of_ble_eq_true rfl) fun c h₁₀ hc F₁₀ => ?_
  try dsimp only
  refine unpackM F₁₀ (F₁₀.isTup (.head _)) hh fun h₁₁ F₁₁ => ?_
  replace F₁₁ := F₁₁.tail
  refine aio_cons (wpAny_assign_Name (lstore F₁₁ fun h₁₂ F₁₂ => ?_))
  refine aio_cons (wpAny_assign_Name (lstore F₁₂ fun h₁₃ F₁₃ => ?_))
  refine aio_cons (wpAny_assign_Name (lstore F₁₃ fun h₁₄ F₁₄ => ?_))
  refine aio_cons (wpAny_assign_Name (lstore F₁₄ fun h₁₅ F₁₅ => aio_nil ?_))
  try dsimp only
  have fin : ∀ t3 (M : Str → Option Value), M = (fun y => if y = "at" then some (.int 0 t3) else if y = "cuts" then some (.ref C) else if y = "known" then some (.int (hor (2 * hf + 1) fs) tn) else if y = "left" then some (.str (textOf fs) tt) else if y = "end" then some (.ref X) else m y : Str → Option Value) → Fm g L h₁₅ M ((C, listOf ([] : List Value).toArray 0) :: (X, listOf vals.toArray 0) :: own) → ∀ tk, wpAny (model prog w) A (execs (whB1.drop 9) (lawE fa cd L)) Q E { s with heap := h₁₅, toks := tk } := by
    intro t3 M eM FM tk
    have Sm : Same ["end", "left", "known", "cuts", "at"] m M := by
      rw [eM]
      exact (((((Same.set (fun _ _ => rfl) (by decide)).set (by decide)).set (by decide)).set (by decide)).set (by decide))
    have e1 : M "end" = some (.ref X) := by rw [eM]; rfl
    have e2 : M "left" = some (.str (textOf fs) tt) := by rw [eM]; rfl
    have e3 : M "known" = some (.int (hor (2 * hf + 1) fs) tn) := by rw [eM]; rfl
    have e4 : M "cuts" = some (.ref C) := by rw [eM]; rfl
    have e5 : M "at" = some (.int 0 t3) := by rw [eM]; rfl
    with_reducible exact next h₁₅ tk M X vals En C tt tn t3 FM Sm hE hEn e1 e2 e3 e4 e5
  show wpAny (model prog w) A (execs (whB1.drop 9) (lawE fa cd L)) Q E _
  with_reducible exact fin _ _ rfl F₁₅ _
end Mine

/-! W6 -/
set_option maxRecDepth 100000
set_option maxHeartbeats 1000000
namespace Mine
variable {fa : Addr} {cd : Value} {prog : Program} {w : World} {A : Around} {E : Value → Shared → Prop} {s : Shared}

theorem cnameH {M : Model} {env : Env} {x : Str} {pos : Pos} {c : Addr} {v : Value} {Q : Value → Shared → Prop} (hv : s.heap.IsCell c (some v)) (h : Q v s) (hc : env.cells.lookup x = some c := by rfl)
    (hk : env.scope.kind = .function := by rfl) (hl : env.kindOf x = some .cell := by rfl) (hdb : (x == ("__debug__" : Str)) = false := by decide) :
    wpAny M A (eval (.Name x pos) env) Q E s := wpAny_Name (wpAny_loadName_cell hk hl hc hv h) hdb

abbrev gB : List Stmt := forB (whB1.getD 9 noStmt)

/-- how the loop over the sizes stands, p figures cut off -/
structure Gi (m : Str → Option Value) (hf : Int) (fs : List Int) (C : Addr) (p : Nat) : Prop where
  left : ∃ t, m "left" = some (.str (textOf (fs.take (8 - p))) t)
  known : ∃ t, m "known" = some (.int (hor (2 * hf + 1) (fs.take (8 - p))) t)
  cuts : m "cuts" = some (.ref C)
  at' : ∃ t, m "at" = some (.int p t)
  num : ∃ t, m "number" = some (.int (hor (2 * hf + 1) fs) t)

/-- where the cells lie -/
structure Ce (g : Heap) (L : Addr) (hf : Int) (fs : List Int) : Prop where
  t : ∃ t, g.IsCell (L + 2) (some (.str (textOf fs) t))
  b : ∃ t, g.IsCell (L + 1) (some (.int (2 * hf + 1) t))
theorem IsCell.keeps {h h' : Heap} {c : Addr} {v : Option Value} (x : h.IsCell c v) (k : ∀ b o, h.get? b = some o → h'.get? b = some o) : h'.IsCell c v :=
  let ⟨o, e, d⟩ := x; ⟨o, k _ _ e, d⟩

theorem half_pos {P : Int} (h : 0 < P) : 0 ≤ P.fdiv 2 ∧ P.fdiv 2 ≤ P := by
  rw [Int.fdiv_eq_ediv_of_nonneg _ (by decide)]; (first | lia | omega)

theorem empty_beq (xs : List Int) : ((textOf xs == Str.ofString "")) = decide (xs = []) := by
  by_cases h : xs = []
  · subst h; rfl
  · rw [decide_eq_false h, beq_eq_false_iff_ne]
    intro e
    have e2 := congrArg (fun z : Str => z.cps.toList) e
    simp only [text_list] at e2
    exact h (List.map_eq_nil_iff.mp e2)

/-- nothing is left -/
theorem gb0 {g : Heap} {L C : Addr} {m : Str → Option Value} {own : List (Addr × Obj)} {hf : Int} {fs : List Int} {p : Nat} {Q : Flow → Shared → Prop}
    (F : Fm g L s.heap m own) (G : Gi m hf fs C p) (hp : 8 ≤ p) (hQ : ∀ tk, Q .brk { s with toks := tk }) :
    wpAny (model prog w) A (execs gB (lawE fa cd L)) Q E s := by
  obtain ⟨t1, m1⟩ := G.left
  refine wpAny_execs_cons ?_
  refine wpAny_If ?_
  refine wpAny_isTrue_Compare1 ?_
  refine lname F m1 ?_
  refine Calls.Constant_str ?_
  refine PyProof.Rows.eq_str ?_
  refine wpAny_truthy_bool ?_
  refine ite_pos ?_ ?_
  · rw [empty_beq, show 8 - p = 0 by (first | lia | omega)]; rfl
  refine wpAny_execs_cons ?_
  refine wpAny_Break ?_
  exact hQ _

theorem gb1 {g : Heap} {L C : Addr} {m : Str → Option Value} {own : List (Addr × Obj)} {hf : Int} {fs : List Int} {p : Nat} {z : Int} {tz : Tok} {Q : Flow → Shared → Prop} (hh : A.handled = none)
    (h1 : 1 ≤ hf) (h4 : hf ≤ 4) (row : Row hf fs) (ce : Ce g L hf fs) (F : Fm g L s.heap m own) (G : Gi m hf fs C p) (hp : p < 8) (mz : m "size" = some (.int z tz)) (z1 : 1 ≤ z) (z2 : z ≤ 200)
    (next : ∀ h' tk m' t1 t2 t3, Fm g L h' m' own → Same ["piece", "left", "power"] m m' → m' "piece" = some (.str (textOf ((fs.take (8 - p)).drop ((fs.take (8 - p)).length - z.toNat))) t1) →
      m' "left" = some (.str (textOf ((fs.take (8 - p)).take ((fs.take (8 - p)).length - z.toNat))) t2) → m' "power" = some (.int ((2 * hf + 1) ^ z.toNat) t3) →
      wpAny (model prog w) A (execs (gB.drop 2) (lawE fa cd L)) Q E { s with heap := h', toks := tk }) :
    wpAny (model prog w) A (execs gB (lawE fa cd L)) Q E s := by
  obtain ⟨t1, m1⟩ := G.left
  obtain ⟨tb, cb⟩ := ce.b
  have hlen : (fs.take (8 - p)).length = 8 - p := by rw [List.length_take, row.1]; (first | lia | omega)
  have hsz : (textOf (fs.take (8 - p))).length ≤ sizeLine := by rw [text_len, hlen]; exact szl (by (first | lia | omega))
  refine wpAny_execs_cons ?_
  refine wpAny_If ?_
  refine wpAny_isTrue_Compare1 ?_
  refine lname F m1 ?_
  refine Calls.Constant_str ?_
  refine PyProof.Rows.eq_str ?_
  refine wpAny_truthy_bool ?_
  refine ite_neg ?_ ?_
  · rw [empty_beq]
    simp only [decide_eq_true_eq]
    intro e
    rw [e] at hlen
    simp at hlen; (first | lia | omega)
  refine wpAny_execs_nil ?_
  try dsimp only
  refine wpAny_execs_cons ?_
  refine Assign_Tuple_swapped ?_
  refine Tuple_ ?_
  refine args_cons ?_
  refine Subscript_ ?_
  refine lname F m1 ?_
  refine wpAny_Slice ?_
  refine UnaryOp_ ?_
  refine lname F mz ?_
  refine neg_int ?_
  refine wpAny_pure ?_
  refine wpAny_pure ?_
  refine sliceS_sn F (fun h₂ t2 k2 F₂ => ?_) hsz
  rw [slice_last _ z1]
  refine args_cons ?_
  refine Subscript_ ?_
  refine lname F₂ m1 ?_
  refine wpAny_Slice ?_
  refine wpAny_pure ?_
  refine UnaryOp_ ?_
  refine lname F₂ mz ?_
  refine neg_int ?_
  refine wpAny_pure ?_
  refine sliceS_ns F₂ (fun h₃ t3 k3 F₃ => ?_) hsz
  rw [slice_front _ z1]
  refine args_cons ?_
  refine wpAny_BinOp ?_
  refine cnameH (IsCell.keeps cb F₃.keep) ?_
  refine lname F₃ mz ?_
  refine pow_int_small (by (first | lia | omega)) (by (first | lia | omega)) (by (first | lia | omega)) ?_
  refine args_nil ?_
  refine newTup F₃ (by exact Nat.le_of_ble_eq_true rfl) fun c h₄ hc F₄ => ?_
  try dsimp only
  refine unpackItemsM F₄ (F₄.isTup (.head _)) hh fun h₅ F₅ => ?_
  replace F₅ := F₅.tail
  refine aio_cons (wpAny_bindName (lstore F₅ fun h₆ F₆ => ?_))
  refine aio_cons (wpAny_bindName (lstore F₆ fun h₇ F₇ => ?_))
  refine aio_cons (wpAny_bindName (lstore F₇ fun h₈ F₈ => aio_nil ?_))
  try dsimp only
  have fin : ∀ t3' (M : Str → Option Value), M = (fun (y : Str) => if y = "piece" then some (.str (textOf ((fs.take (8 - p)).drop ((fs.take (8 - p)).length - z.toNat))) t2) else if y = "left" then some (.str (textOf ((fs.take (8 - p)).take ((fs.take (8 - p)).length - z.toNat))) t3) else if y = "power" then some (.int ((2 * hf + 1) ^ z.toNat) t3') else m y) →
      Fm g L h₈ M own → ∀ tk, wpAny (model prog w) A (execs (gB.drop 2) (lawE fa cd L)) Q E { s with heap := h₈, toks := tk } := by
    intro t3' M eM FM tk
    have Sm : Same ["piece", "left", "power"] m M := by
      rw [eM]
      exact ((Same.set (fun _ _ => rfl) (by decide)).set (by decide)).set (by decide)
    have e1 : M "piece" = some (.str (textOf ((fs.take (8 - p)).drop ((fs.take (8 - p)).length - z.toNat))) t2) := by rw [eM]; rfl
    have e2 : M "left" = some (.str (textOf ((fs.take (8 - p)).take ((fs.take (8 - p)).length - z.toNat))) t3) := by rw [eM]; rfl
    have e3 : M "power" = some (.int ((2 * hf + 1) ^ z.toNat) t3') := by rw [eM]; rfl
    with_reducible exact next h₈ tk M t2 t3 t3' FM Sm e1 e2 e3
  show wpAny (model prog w) A (execs (gB.drop 2) (lawE fa cd L)) Q E _
  with_reducible exact fin _ _ rfl F₈ _
end Mine

/-! W7 -/
set_option maxRecDepth 100000
set_option maxHeartbeats 1000000
namespace Mine
variable {fa : Addr} {cd : Value} {prog : Program} {w : World} {A : Around} {E : Value → Shared → Prop} {s : Shared}

theorem gb2 {g : Heap} {L C : Addr} {m : Str → Option Value} {pre : List (Addr × Obj)} {ws : List Value} {n : Nat} {hf : Int} {fs xs : List Int} {p : Int} {z : Int} {tz t1 t2 t3 t4 t5 : Tok} {Q : Flow → Shared → Prop} (hh : A.handled = none) (hroom : A.depth + 110 < recursionLimit) (hu : A.units + 64 < cLine)
    (Sg : Stat g) (Hg : Hid g) (h1 : 1 ≤ hf) (h4 : hf ≤ 4) (hx8 : xs.length ≤ 8) (hxs : ∀ f ∈ xs, -hf ≤ f ∧ f ≤ hf) (ce : Ce g L hf fs) (hws : ws.length ≤ 900) (F : Fm g L s.heap m ((C, listOf ws.toArray n) :: pre))
    (mz : m "size" = some (.int z tz)) (z1 : 1 ≤ z) (z2 : z ≤ 200)
    (mp : m "piece" = some (.str (textOf (xs.drop (xs.length - z.toNat))) t1)) (ml : m "left" = some (.str (textOf (xs.take (xs.length - z.toNat))) t2)) (mw : m "power" = some (.int ((2 * hf + 1) ^ z.toNat) t3))
    (mk : m "known" = some (.int (hor (2 * hf + 1) xs) t4)) (mc : m "cuts" = some (.ref C)) (ma : m "at" = some (.int p t5))
    (next : ∀ h' tk m' n' ta tb, Fm g L h' m' ((C, listOf (ws ++ [Value.int (p + z) ta]).toArray n') :: pre) → Same ["told", "known", "at"] m m' → m' "known" = some (.int (hor (2 * hf + 1) (xs.take (xs.length - z.toNat))) tb) →
      m' "at" = some (.int (p + z) ta) → wpAny (model prog w) A (execs (gB.drop 7) (lawE fa cd L)) Q E { s with heap := h', toks := tk }) :
    wpAny (model prog w) A (execs (gB.drop 2) (lawE fa cd L)) Q E s := by
  obtain ⟨tb, cb⟩ := ce.b
  have told := told_ok (by omega) hxs z.toNat
  have hP : 0 < (2 * hf + 1) ^ z.toNat := pow_pos' (by omega) _
  have hhalf := half_pos hP
  have hsm := hor_small h1 h4 hx8 hxs
  have hd : DivOk (hor (2 * hf + 1) xs + ((2 * hf + 1) ^ z.toNat).fdiv 2) ((2 * hf + 1) ^ z.toNat) := divOk_pow (by omega) (by omega) (by omega) (by omega)
  refine wpAny_execs_cons ?_
  refine wpAny_Assign_Name ?_
  refine callF (i := 12) (F.stat Sg) rfl (by decide) ?_
  refine args_cons ?_
  refine wpAny_BinOp ?_
  refine lname F mk ?_
  refine wpAny_BinOp ?_
  refine lname F mw ?_
  refine wpAny_Constant_int ?_
  refine floordiv_int (by decide) ?_
  refine add_int ?_
  refine args_cons ?_
  refine lname F mw ?_
  refine args_nil ⟨F.stat Sg, ?_⟩
  try dsimp only
  refine idm (F.stat Sg) F.tab (by omega) hh hd ?_
  rw [told.1, told.2]
  intro h₂ tk2 c t6 t7 k2 T2 nc ec
  have F₂ := F.callAdd Hg k2 T2 nc ec
  refine lstore F₂ fun h₃ F₃ => ?_
  try dsimp only
  -- the check
  refine wpAny_execs_cons ?_
  refine wpAny_If ?_
  refine wpAny_isTrue_Compare1 ?_
  refine lname F₃ rfl ?_
  refine Tuple_ ?_
  refine args_cons ?_
  refine callF (i := 17) (F₃.stat Sg) rfl (by decide) ?_
  refine args_cons ?_
  refine lname F₃ ml ?_
  refine args_cons ?_
  refine cnameH (IsCell.keeps cb F₃.keep) ?_
  refine args_nil ⟨F₃.stat Sg, ?_⟩
  try dsimp only
  refine worthF (F₃.stat Sg) F₃.tab (by omega) hh h1 h4 (fun f hm => hxs f (List.mem_of_mem_take hm)) fun h₄ tk4 t8 k4 => ?_
  have F₄ := F₃.grow k4
  try dsimp only
  refine args_cons ?_
  refine wpAny_BinOp ?_
  refine callF (i := 17) (F₄.stat Sg) rfl (by decide) ?_
  refine args_cons ?_
  refine lname F₄ mp ?_
  refine args_cons ?_
  refine cnameH (IsCell.keeps cb F₄.keep) ?_
  refine args_nil ⟨F₄.stat Sg, ?_⟩
  try dsimp only
  refine worthF (F₄.stat Sg) F₄.tab (by omega) hh h1 h4 (fun f hm => hxs f (List.mem_of_mem_drop hm)) fun h₅ tk5 t9 k5 => ?_
  have F₅ := F₄.grow k5
  try dsimp only
  refine wpAny_BinOp ?_
  refine lname F₅ mw ?_
  refine wpAny_Constant_int ?_
  refine floordiv_int (by decide) ?_
  refine add_int ?_
  refine args_nil ?_
  refine newTup F₅ (by exact Nat.le_of_ble_eq_true rfl) fun d h₆ hd' F₆ => ?_
  try dsimp only
  refine neTup (F₆.get (.tail _ (.head _))) (.cons _ _ (.cons _ _ .nil)) (F₆.get (.head _)) (.cons _ _ (.cons _ _ .nil)) hu ?_
  refine wpAny_truthy_bool ?_
  refine ite_neg (by simp) ?_
  refine wpAny_execs_nil ?_
  replace F₆ := F₆.tail
  try dsimp only
  -- known = told[0]
  refine wpAny_execs_cons ?_
  refine wpAny_Assign_Name ?_
  refine Subscript_ ?_
  refine lname F₆ rfl ?_
  refine wpAny_Constant_int ?_
  refine itemT (F₆.isTup (.head _)) (by decide) (by decide) rfl ?_
  refine lstore F₆ fun h₇ F₇ => ?_
  replace F₇ := F₇.tail
  try dsimp only
  refine wpAny_execs_cons ?_
  refine wpAny_AugAssign_Name ?_
  refine lload F₇ ma ?_
  refine lname F₇ mz ?_
  refine wpAny_iadd_int ?_
  refine lstore F₇ fun h₈ F₈ => ?_
  try dsimp only
  refine wpAny_execs_cons ?_
  refine wpAny_Expr ?_
  refine MethodCall_ ?_
  refine lname F₈ mc ?_
  refine Calls.getMethod_list_append (F₈.get (.head _)) rfl rfl ?_
  refine callWith_method1 ?_
  refine args_cons ?_
  refine lname F₈ rfl ?_
  refine args_nil ?_
  refine appendC F₈ 0 rfl (by omega) fun h₉ n' F₉ => ?_
  try dsimp only
  have fin : ∀ ta tb (M : Str → Option Value), M = (fun (y : Str) => if y = "at" then some (.int (p + z) ta) else if y = "known" then some (.int (hor (2 * hf + 1) (xs.take (xs.length - z.toNat))) tb) else if y = "told" then some (.ref c) else m y) →
      Fm g L h₉ M ((C, listOf (ws ++ [Value.int (p + z) ta]).toArray n') :: pre) → ∀ tk, wpAny (model prog w) A (execs (gB.drop 7) (lawE fa cd L)) Q E { s with heap := h₉, toks := tk } := by
    intro ta tb M eM FM tk
    have Sm : Same ["told", "known", "at"] m M := by
      rw [eM]
      exact ((Same.set (fun _ _ => rfl) (by decide)).set (by decide)).set (by decide)
    have e1 : M "known" = some (.int (hor (2 * hf + 1) (xs.take (xs.length - z.toNat))) tb) := by rw [eM]; rfl
    have e2 : M "at" = some (.int (p + z) ta) := by rw [eM]; rfl
    with_reducible exact next h₉ tk M n' ta tb FM Sm e1 e2
  show wpAny (model prog w) A (execs (gB.drop 7) (lawE fa cd L)) Q E _
  with_reducible exact fin _ _ _ rfl F₉ _
end Mine

/-! W8 -/
set_option maxRecDepth 100000
set_option maxHeartbeats 1000000
namespace Mine
variable {fa : Addr} {cd : Value} {prog : Program} {w : World} {A : Around} {E : Value → Shared → Prop} {s : Shared}

theorem gb3 {g : Heap} {L : Addr} {m : Str → Option Value} {own : List (Addr × Obj)} {hf : Int} {fs : List Int} {q : Int} {t1 t2 t3 : Tok} {Q : Flow → Shared → Prop} (hh : A.handled = none) (hroom : A.depth + 110 < recursionLimit) (hu : A.units + 64 < cLine)
    (Sg : Stat g) (Hg : Hid g) (h1 : 1 ≤ hf) (h4 : hf ≤ 4) (row : Row hf fs) (ce : Ce g L hf fs) (F : Fm g L s.heap m own) (q1 : 1 ≤ q) (q2 : q ≤ 300)
    (mn : m "number" = some (.int (hor (2 * hf + 1) fs) t1)) (ma : m "at" = some (.int q t2)) (mk : m "known" = some (.int (hor (2 * hf + 1) (fs.take (8 - q.toNat))) t3))
    (hQ : ∀ h' tk m', Fm g L h' m' own → Same ["power"] m m' → Q .next { s with heap := h', toks := tk }) :
    wpAny (model prog w) A (execs (gB.drop 7) (lawE fa cd L)) Q E s := by
  obtain ⟨tb, cb⟩ := ce.b
  obtain ⟨tt, ct⟩ := ce.t
  have told := told_ok (by omega) row.2 q.toNat
  rw [row.1] at told
  have hP : 0 < (2 * hf + 1) ^ q.toNat := pow_pos' (by omega) _
  have hhalf := half_pos hP
  have hsm := hor_small h1 h4 (Nat.le_of_eq row.1) row.2
  have hd : DivOk (hor (2 * hf + 1) fs + ((2 * hf + 1) ^ q.toNat).fdiv 2) ((2 * hf + 1) ^ q.toNat) := divOk_pow (by omega) (by omega) (by omega) (by omega)
  have hsz : (textOf fs).length ≤ sizeLine := by rw [text_len, row.1]; decide
  refine wpAny_execs_cons ?_
  refine wpAny_Assign_Name ?_
  refine wpAny_BinOp ?_
  refine cnameH (IsCell.keeps cb F.keep) ?_
  refine lname F ma ?_
  refine pow_int_small (by omega) (by omega) (by omega) ?_
  refine lstore F fun h₂ F₂ => ?_
  try dsimp only
  refine wpAny_execs_cons ?_
  refine wpAny_If ?_
  refine wpAny_isTrue_Compare1 ?_
  refine callF (i := 12) (F₂.stat Sg) rfl (by decide) ?_
  refine args_cons ?_
  refine wpAny_BinOp ?_
  refine lname F₂ mn ?_
  refine wpAny_BinOp ?_
  refine lname F₂ rfl ?_
  refine wpAny_Constant_int ?_
  refine floordiv_int (by decide) ?_
  refine add_int ?_
  refine args_cons ?_
  refine lname F₂ rfl ?_
  refine args_nil ⟨F₂.stat Sg, ?_⟩
  try dsimp only
  refine idm (F₂.stat Sg) F₂.tab (by omega) hh hd ?_
  rw [told.1, told.2]
  intro h₃ tk3 c t6 t7 k3 T3 nc ec
  have F₃ := F₂.callAdd Hg k3 T3 nc ec
  try dsimp only
  refine Tuple_ ?_
  refine args_cons ?_
  refine lname F₃ mk ?_
  refine args_cons ?_
  refine wpAny_BinOp ?_
  refine callF (i := 17) (F₃.stat Sg) rfl (by decide) ?_
  refine args_cons ?_
  refine Subscript_ ?_
  refine cnameH (IsCell.keeps ct F₃.keep) ?_
  refine wpAny_Slice ?_
  refine UnaryOp_ ?_
  refine lname F₃ ma ?_
  refine neg_int ?_
  refine wpAny_pure ?_
  refine wpAny_pure ?_
  refine sliceS_sn F₃ (fun h₄ t8 k4 F₄ => ?_) hsz
  rw [slice_last _ q1, row.1]
  refine args_cons ?_
  refine cnameH (IsCell.keeps cb F₄.keep) ?_
  refine args_nil ⟨F₄.stat Sg, ?_⟩
  try dsimp only
  refine worthF (F₄.stat Sg) F₄.tab (by omega) hh h1 h4 (fun f hm => row.2 f (List.mem_of_mem_drop hm)) fun h₅ tk5 t9 k5 => ?_
  have F₅ := F₄.grow k5
  try dsimp only
  refine wpAny_BinOp ?_
  refine lname F₅ rfl ?_
  refine wpAny_Constant_int ?_
  refine floordiv_int (by decide) ?_
  refine add_int ?_
  refine args_nil ?_
  refine newTup F₅ (by exact Nat.le_of_ble_eq_true rfl) fun d h₆ hd' F₆ => ?_
  try dsimp only
  refine neTup (F₆.get (.tail _ (.head _))) (.cons _ _ (.cons _ _ .nil)) (F₆.get (.head _)) (.cons _ _ (.cons _ _ .nil)) hu ?_
  refine wpAny_truthy_bool ?_
  refine ite_neg (by simp) ?_
  refine wpAny_execs_nil ?_
  replace F₆ := F₆.tail.tail
  try dsimp only
  refine wpAny_execs_nil ?_
  exact hQ h₆ _ _ F₆ (Same.set (fun _ _ => rfl) (by decide))
end Mine

/-! W9 -/
set_option maxRecDepth 100000
set_option maxHeartbeats 1000000
namespace Mine
variable {fa : Addr} {cd : Value} {prog : Program} {w : World} {A : Around} {E : Value → Shared → Prop} {s : Shared}

theorem Same.trans {xs ys zs : List Str} {a b c : Str → Option Value} (h1 : Same xs a b) (h2 : Same ys b c) (hx : ∀ x ∈ xs, x ∈ zs) (hy : ∀ x ∈ ys, x ∈ zs) : Same zs a c := fun y hn => by
  rw [h2 y fun h => hn (hy y h), h1 y fun h => hn (hx y h)]

theorem Gi.same {m m' : Str → Option Value} {hf : Int} {fs : List Int} {C : Addr} {p : Nat} {xs : List Str} (G : Gi m hf fs C p) (S : Same xs m m') (h1 : (Str.ofString "left") ∉ xs := by decide) (h2 : (Str.ofString "known") ∉ xs := by decide)
    (h3 : (Str.ofString "cuts") ∉ xs := by decide) (h4 : (Str.ofString "at") ∉ xs := by decide) (h5 : (Str.ofString "number") ∉ xs := by decide) : Gi m' hf fs C p where
  left := by rw [S _ h1]; exact G.left
  known := by rw [S _ h2]; exact G.known
  cuts := by rw [S _ h3]; exact G.cuts
  at' := by rw [S _ h4]; exact G.at'
  num := by rw [S _ h5]; exact G.num

theorem take_cut {fs : List Int} (h8 : fs.length = 8) (p z : Nat) : (fs.take (8 - p)).take ((fs.take (8 - p)).length - z) = fs.take (8 - (p + z)) := by
  rw [List.take_take, List.length_take, h8, Nat.min_eq_left (Nat.sub_le 8 p), Nat.min_eq_left (Nat.sub_le _ _), Nat.sub_sub]

def gNames : List Str := ["size", "piece", "left", "power", "told", "known", "at"]

/-- one turn of the loop over the sizes -/
theorem gturn {g : Heap} {L C : Addr} {m : Str → Option Value} {pre : List (Addr × Obj)} {ws : List Value} {n : Nat} {hf : Int} {fs : List Int} {p : Nat} {z : Int} {tz : Tok} {Q : Flow → Shared → Prop} (hh : A.handled = none) (hroom : A.depth + 110 < recursionLimit) (hu : A.units + 64 < cLine)
    (Sg : Stat g) (Hg : Hid g) (h1 : 1 ≤ hf) (h4 : hf ≤ 4) (row : Row hf fs) (ce : Ce g L hf fs) (hws : ws.length ≤ 900) (F : Fm g L s.heap m ((C, listOf ws.toArray n) :: pre))
    (G : Gi m hf fs C p) (hp : p < 8) (mz : m "size" = some (.int z tz)) (z1 : 1 ≤ z) (z2 : z ≤ 200)
    (hQ : ∀ h' tk m' n' ta, Fm g L h' m' ((C, listOf (ws ++ [Value.int (p + z) ta]).toArray n') :: pre) → Same gNames m m' → Gi m' hf fs C (p + z.toNat) → Q .next { s with heap := h', toks := tk }) :
    wpAny (model prog w) A (execs gB (lawE fa cd L)) Q E s := by
  have hx8 : (fs.take (8 - p)).length ≤ 8 := by rw [List.length_take]; (first | lia | omega)
  have hxs : ∀ f ∈ fs.take (8 - p), -hf ≤ f ∧ f ≤ hf := fun f hm => row.2 f (List.mem_of_mem_take hm)
  have hcut := take_cut row.1 p z.toNat
  obtain ⟨tk0, mk0⟩ := G.known
  obtain ⟨ta0, ma0⟩ := G.at'
  obtain ⟨tn0, mn0⟩ := G.num
  have G1 : ∀ {a b : Str → Option Value} {x : Str} {v : Option Value} {xs : List Str}, Same xs a b → a x = v → x ∉ xs → b x = v := fun S e h => by rw [S _ h, e]
  refine gb1 hh h1 h4 row ce F G hp mz z1 z2 (fun h₂ tk2 m₂ t1 t2 t3 F₂ S₂ e1 e2 e3 => ?_)
  refine gb2 hh hroom hu Sg Hg h1 h4 hx8 hxs ce hws F₂ (G1 S₂ mz (by decide)) z1 z2 e1 e2 e3 (G1 S₂ mk0 (by decide)) (G1 S₂ G.cuts (by decide)) (G1 S₂ ma0 (by decide)) (fun h₃ tk3 m₃ n' ta tb F₃ S₃ e4 e5 => ?_)
  have ep : (p : Int) + z = ((p + z.toNat : Nat) : Int) := by (first | lia | omega)
  rw [hcut] at e2 e4
  refine gb3 hh hroom hu Sg Hg h1 h4 row ce F₃ (by (first | lia | omega)) (by (first | lia | omega)) (G1 S₃ (G1 S₂ mn0 (by decide)) (by decide)) e5 (by rw [ep, Int.toNat_natCast]; exact e4) (fun h₄ tk4 m₄ F₄ S₄ => ?_)
  refine hQ h₄ tk4 m₄ n' ta F₄ ?_ ⟨⟨_, G1 S₄ (G1 S₃ e2 (by decide)) (by decide)⟩, ⟨_, G1 S₄ e4 (by decide)⟩, G1 S₄ (G1 S₃ (G1 S₂ G.cuts (by decide)) (by decide)) (by decide), ⟨_, by rw [← ep]; exact G1 S₄ e5 (by decide)⟩, ⟨_, G1 S₄ (G1 S₃ (G1 S₂ mn0 (by decide)) (by decide)) (by decide)⟩⟩
  exact (S₂.trans S₃ (zs := gNames) (by decide) (by decide)).trans S₄ (fun _ h => h) (by decide)
end Mine

/-! W10 -/
set_option maxRecDepth 100000
set_option maxHeartbeats 1000000
namespace Mine
variable {fa : Addr} {cd : Value} {prog : Program} {w : World} {A : Around} {E : Value → Shared → Prop} {s : Shared}

theorem Fm.headNe {g h : Heap} {L D : Addr} {m : Str → Option Value} {o : Obj} {rest : List (Addr × Obj)} (F : Fm g L h m ((D, o) :: rest)) {p : Addr × Obj} (hp : p ∈ rest) : p.1 ≠ D := fun e => by
  have nd := F.nd
  rw [List.map_cons, List.nodup_cons] at nd
  exact nd.1 (by show D ∈ _; rw [← e]; exact List.mem_map_of_mem hp)

theorem GStand.succ {ys : Nat → Option Int} {N : Nat} {g : Heap} {C l : Addr} {j : Nat} {h h' : Heap} {gs : GenState} {xs : List (Addr × Obj)} (G : GStand prog w A ys N g C l (j + 1) h gs xs) : GStand prog w A ys N g C l (j + 1) h' gs xs := by
  rcases G with ⟨q, _⟩ | q
  · (first | lia | omega)
  · exact .inr q

theorem perm_gen (xs : List (Addr × Obj)) (x y : Addr × Obj) : (xs ++ [x, y]).Perm (y :: (xs ++ [x])) := by
  have := List.perm_append_comm (l₁ := xs ++ [x]) (l₂ := [y])
  simpa using this

theorem wh9 {g : Heap} {L C X Z : Addr} {m : Str → Option Value} {own : List (Addr × Obj)} {ot ob : Obj} {tt tb : Tok} {hf : Int} {fs : List Int} {vals zs : List Value} {nX nZ nC : Nat} {a b c : Int} {En : List Int} {Q : Flow → Shared → Prop} (hh : A.handled = none) (hroom : A.depth + 110 < recursionLimit) (hu : A.units + 64 < cLine)
    (Sg : Stat g) (Hg : Hid g) (h1 : 1 ≤ hf) (h4 : hf ≤ 4) (row : Row hf fs) (F : Fm g L s.heap m ((C, listOf ([] : List Value).toArray nC) :: own))
    (oT : (L + 2, ot) ∈ own) (dt : ot.data = .cell (some (.str (textOf fs) tt))) (oB : (L + 1, ob) ∈ own) (db : ob.data = .cell (some (.int (2 * hf + 1) tb)))
    (oX : (X, listOf vals.toArray nX) ∈ own) (oZ : (Z, listOf zs.toArray nZ) ∈ own) (iX : IntsAre vals En) (iZ : IntsAre zs [a, b, c]) (ha : 1 ≤ a ∧ a ≤ 3) (hb : 1 ≤ b ∧ b ≤ 3) (hc : 1 ≤ c ∧ c ≤ 3) (hE : En ∈ ends)
    (mX : m "end" = some (.ref X)) (mZ : m "sizes" = some (.ref Z)) (G : Gi m hf fs C 0) (hB : Bares s.gens)
    (next : ∀ h' tk gens m' ws n, Fm g L h' m' ((C, listOf ws.toArray n) :: own) → Same gNames m m' → IntsAre ws (cutsF ([a, b, c] ++ moreOf En) (onOf En) 8 0 0) → Bares gens →
      wpAny (model prog w) A (execs (whB1.drop 10) (lawE fa cd L)) Q E { s with heap := h', toks := tk, gens := gens }) :
    wpAny (model prog w) A (execs (whB1.drop 9) (lawE fa cd L)) Q E s := by
  have hlen : zs.length + vals.length ≤ 1000 := by
    have e1 := iZ.length
    have e2 := iX.length
    have : ∀ e ∈ ends, e.length ≤ 2 := by decide
    have := this En hE
    simp at e1
    (first | lia | omega)
  refine wpAny_execs_cons ?_
  refine wpAny_For ?_
  refine callF (i := 3) (F.stat Sg) rfl (by decide) ?_
  refine args_cons ?_
  refine wpAny_BinOp ?_
  refine lname F mZ ?_
  refine lname F mX ?_
  refine addLst F (F.isList (.tail _ oZ)) (F.isList (.tail _ oX)) hlen fun l h₂ nl F₂ => ?_
  refine args_nil ⟨F₂.stat Sg, ?_⟩
  try dsimp only
  obtain ⟨g', F', Hg', hk, hr⟩ := F₂.rebase Hg [(C, listOf ([] : List Value).toArray nC)] (.cons _ (.cons_cons _ (List.nil_sublist _)))
  have Sg' := Sg.keeps hk
  have inG : ∀ q ∈ own, g'.get? q.1 = some q.2 := fun q hq => hr q (.tail _ (.tail _ hq)) (fun hm => F.headNe hq (List.mem_singleton.mp hm))
  have hl' : g'.IsList l (zs ++ vals).toArray := by
    have hne : l ≠ C := fun e => F₂.headNe (p := (C, _)) (.head _) e.symm
    exact ⟨_, hr _ (.head _) (fun hm => hne (List.mem_singleton.mp hm)), rfl, 0, rfl⟩
  have ce : Ce g' L hf fs := ⟨⟨tt, ot, inG _ oT, dt⟩, ⟨tb, ob, inG _ oB, db⟩⟩
  have iL : IntsAre (zs ++ vals) ([a, b, c] ++ En) := iZ.append iX
  have hok := ends_ok ha hb hc hE
  have Td := told_ends ha hb hc hE
  refine gen_make (ys := strm none ([a, b, c] ++ En)) (N := 100) A Sg' F' (by (first | lia | omega)) hB fun Ca ag oC h₃ tk3 gens₃ nm qn F₃ hfr hB₃ G₃ => ?_
  have hgi : ∀ {h : Heap} {m' : Str → Option Value} {xs : List (Addr × Obj)} {o : Addr × Obj}, Fm g' L h m' (xs ++ [(ag, genObj s.gens.size nm qn), o]) → h.IsGen ag s.gens.size := fun F => F.isGen (List.mem_append_right _ (.head _))
  refine wpAny_pyIter_gen (hgi F₃) ?_
  -- the end
  have fin : ∀ h' tk gens m' ws n j (p : Nat) acc, Fm g' L h' m' [(C, listOf ws.toArray n)] → Same gNames m m' → Bares gens → IntsAre ws acc → acc ++ cutsF ([a, b, c] ++ moreOf En) (onOf En) (8 - j) j p = cutsF ([a, b, c] ++ moreOf En) (onOf En) 8 0 0 →
      cutsF ([a, b, c] ++ moreOf En) (onOf En) (8 - j) j p = [] → wpAny (model prog w) A (execs (whB1.drop 10) (lawE fa cd L)) Q E { s with heap := h', toks := tk, gens := gens } := by
    intro h' tk gens m' ws n j p acc Ff Sf Bf iw he hz
    have Fb := F₂.tail.back hk (fun q hq hn => hr q (.tail _ hq) hn) Ff
    rw [hz, List.append_nil] at he
    rw [he] at iw
    with_reducible exact next h' tk gens m' ws n Fb Sf iw Bf
  refine codeAny_forLoop (fun k s' => ∃ (j : Nat) (p : Nat) (h : Heap) (tk : Nat) (m₁ : Str → Option Value) (xs : List (Addr × Obj)) (gens : Array GenState) (gs : GenState) (ws : List Value) (n : Nat) (acc : List Int),
      k = 100 - j ∧ j ≤ p ∧ j ≤ 8 ∧ s' = { s with heap := h, toks := tk, gens := gens } ∧ Fm g' L h m₁ (xs ++ [(ag, genObj s.gens.size nm qn), (C, listOf ws.toArray n)]) ∧ gens[s.gens.size]? = some gs ∧ Bares gens ∧
      GStand prog w A (strm none ([a, b, c] ++ En)) 100 g' Ca l j h gs xs ∧ Same gNames m m₁ ∧ Gi m₁ hf fs C p ∧ IntsAre ws acc ∧ acc.length = j ∧ acc ++ cutsF ([a, b, c] ++ moreOf En) (onOf En) (8 - j) j p = cutsF ([a, b, c] ++ moreOf En) (onOf En) 8 0 0) ?_ 100
    ⟨0, 0, h₃, tk3, m, [(Ca, oC)], gens₃, _, [], nC, [], rfl, Nat.le_refl _, by decide, rfl, F₃, hfr, hB₃, G₃, fun _ _ => rfl, G, .nil, rfl, rfl⟩
  rintro k s' ⟨j, p, h, tk, m₁, xs, gens, gs, ws, n, acc, rfl, hjp, hj8, rfl, F₄, hgs, hB₄, G₄, S₄, Gi₄, iw, hacc, heq⟩
  refine gen_next (own := [(ag, genObj s.gens.size nm qn), (C, listOf ws.toArray n)]) hh (by (first | lia | omega)) Sg' hl' iL hok (fun _ => rfl) F₄ (hgi F₄) hgs hB₄ G₄ (by (first | lia | omega)) ?_ ?_
  · intro z tz h₅ tk5 gens₅ gs₅ xs₅ hy F₅ hgs₅ hB₅ G₅
    have zb := told_size ha hb hc Td hy
    try dsimp only
    refine wpAny_assign_Name ?_
    refine lstoreK F₅ fun h₆ F₆ k₆ _ => ?_
    try dsimp only
    have Ss : Same gNames m₁ (fun y => if y = "size" then some (.int z tz) else m₁ y) := Same.set (fun _ _ => rfl) (by decide)
    have S₆ := S₄.trans Ss (fun _ h => h) (fun _ h => h)
    have Gi₆ : Gi (fun y => if y = "size" then some (.int z tz) else m₁ y) hf fs C p := Gi₄.same (xs := ["size"]) (Same.set (fun _ _ => rfl) (by decide))
    by_cases hp : 8 ≤ p
    · refine gb0 F₆ Gi₆ hp (fun tk => ?_)
      show wpAny (model prog w) A (execs (whB1.drop 10) (lawE fa cd L)) Q E _
      with_reducible exact fin _ _ _ _ ws n j p acc (F₆.drop (List.sublist_append_of_sublist_right (.cons _ (List.Sublist.refl _)))) S₆ hB₅ iw heq (cuts_full (by (first | lia | omega)) _ _)
    · have hp' : p < 8 := by (first | lia | omega)
      refine gturn hh hroom hu Sg' Hg' h1 h4 row ce (by rw [iw.length, hacc]; (first | lia | omega)) (F₆.perm (perm_gen _ _ _)) Gi₆ hp' rfl zb.1 zb.2 (fun h' tk m' n' ta F' S' Gi' => ?_)
      have ep : ((p + z.toNat : Nat) : Int) = (p : Int) + z := by (first | lia | omega)
      refine ⟨100 - (j + 1), by (first | lia | omega), j + 1, p + z.toNat, h', tk, m', xs₅, gens₅, gs₅, _, n', acc ++ [(p : Int) + z], rfl, by (first | lia | omega), by (first | lia | omega), rfl, F'.perm (perm_gen _ _ _).symm, hgs₅, hB₅, G₅.succ, S₆.trans S' (fun _ h => h) (fun _ h => h), Gi', snocInts iw _ _, by simp [hacc], ?_⟩
      rw [ep, ← heq, List.append_assoc]
      obtain ⟨k, hk8⟩ : ∃ k, 8 - j = k + 1 := ⟨7 - j, by (first | lia | omega)⟩
      rw [hk8, show 8 - (j + 1) = k by (first | lia | omega), Td.go hy (by (first | lia | omega)) k]
      rfl
  · intro h' tk gens₅ hy F₅ hB₅
    refine wpAny_execs_nil ?_
    show wpAny (model prog w) A (execs (whB1.drop 10) (lawE fa cd L)) Q E _
    with_reducible exact fin _ _ _ _ ws n j p acc (F₅.drop (.cons _ (List.Sublist.refl _))) S₄ hB₅ iw heq (Td.stop hy _ _)
end Mine

/-! W11 -/
set_option maxRecDepth 100000
set_option maxHeartbeats 1000000
namespace Mine
variable {fa : Addr} {cd : Value} {prog : Program} {w : World} {A : Around} {E : Value → Shared → Prop} {s : Shared}

theorem on_eq (e : List Int) : decide (e.take 1 = [0]) = onOf e := by
  rw [Bool.eq_iff_iff]
  simp [onOf]
theorem more_pos {e : List Int} (h : e = [200]) : moreOf e = e := by rw [moreOf, if_pos h, h]
theorem more_neg {e : List Int} (h : e ≠ [200]) : moreOf e = [] := by rw [moreOf, if_neg h]

theorem wh10 {g : Heap} {L C X Z : Addr} {m : Str → Option Value} {own : List (Addr × Obj)} {vals zs ws : List Value} {nX nZ nC : Nat} {a b c : Int} {En : List Int} {Q : Flow → Shared → Prop} (hh : A.handled = none) (hroom : A.depth + 110 < recursionLimit) (hu : A.units + 64 < cLine)
    (Sg : Stat g) (F : Fm g L s.heap m own) (oC : (C, listOf ws.toArray nC) ∈ own)
    (oX : (X, listOf vals.toArray nX) ∈ own) (oZ : (Z, listOf zs.toArray nZ) ∈ own) (iX : IntsAre vals En) (iZ : IntsAre zs [a, b, c]) (hE : En ∈ ends) (iC : IntsAre ws (cutsF ([a, b, c] ++ moreOf En) (onOf En) 8 0 0))
    (mX : m "end" = some (.ref X)) (mZ : m "sizes" = some (.ref Z)) (mC : m "cuts" = some (.ref C))
    (hQ : ∀ h' tk m', Fm g L h' m' own → Same ["more"] m m' → Q .next { s with heap := h', toks := tk }) :
    wpAny (model prog w) A (execs (whB1.drop 10) (lawE fa cd L)) Q E s := by
  have hE2 : En.length ≤ 2 := (by decide : ∀ e ∈ ends, e.length ≤ 2) En hE
  have hlenX := iX.length
  have hlenZ := iZ.length
  refine wpAny_execs_cons ?_
  refine wpAny_mono (Q := fun f s' => f = .next ∧ ∃ (h' : Heap) (tk' : Nat) (Y : Addr) (vals' : List Value) (n' : Nat) (own' : List (Addr × Obj)), s' = { s with heap := h', toks := tk' } ∧ Fm g L h' (fun y => if y = "more" then some (.ref Y) else m y) own' ∧
      (Y, listOf vals'.toArray n') ∈ own' ∧ IntsAre vals' (moreOf En) ∧ own.Sublist own') ?_ ?_ fun _ _ q => q
  · refine wpAny_Assign_Name ?_
    refine wpAny_IfExp ?_
    refine wpAny_isTrue_Compare1 ?_
    refine lname F mX ?_
    refine List_ ?_
    refine args_cons ?_
    refine wpAny_Constant_int ?_
    refine args_nil ?_
    refine newLst F (by exact Nat.le_of_ble_eq_true rfl) fun e h₂ ne F₂ => ?_
    try dsimp only
    refine eq_intsK (F₂.isList (.tail _ oX)) iX (F₂.isList (.head _)) (.cons _ _ .nil) hu ?_
    refine wpAny_truthy_bool ?_
    replace F₂ := F₂.tail
    by_cases h200 : En = [200]
    · refine ite_pos (by rw [h200]; rfl) ?_
      refine lname F₂ mX ?_
      refine lstore F₂ fun h₃ F₃ => ?_
      exact ⟨rfl, h₃, _, X, vals, nX, own, rfl, F₃, oX, by rw [more_pos h200]; exact iX, List.Sublist.refl _⟩
    · refine ite_neg (by simpa using h200) ?_
      refine List_ ?_
      refine args_nil ?_
      refine newLst F₂ (by exact Nat.le_of_ble_eq_true rfl) fun Y h₃ nY F₃ => ?_
      try dsimp only
      refine lstore F₃ fun h₄ F₄ => ?_
      exact ⟨rfl, h₄, _, Y, [], 0, _, rfl, F₄, .head _, by rw [more_neg h200]; exact .nil, List.sublist_cons_self _ _⟩
  rintro f s' ⟨rfl, h₂, tk2, Y, vals', n', own', rfl, F₂, oY, iY, hsub⟩
  try dsimp only
  have hm2 : (moreOf En).length ≤ 2 := by
    by_cases h : En = [200]
    · rw [more_pos h]; exact hE2
    · rw [more_neg h]; decide
  have hlenY := iY.length
  have oC₂ := hsub.subset oC
  have oX₂ := hsub.subset oX
  have oZ₂ := hsub.subset oZ
  refine wpAny_execs_cons ?_
  refine wpAny_If ?_
  refine wpAny_isTrue_Compare1 ?_
  refine lname F₂ mC ?_
  refine callF (i := 18) (F₂.stat Sg) rfl (by decide) ?_
  refine args_cons ?_
  refine wpAny_BinOp ?_
  refine lname F₂ mZ ?_
  refine lname F₂ rfl ?_
  refine addLst F₂ (F₂.isList oZ₂) (F₂.isList oY) (by simp at hlenZ; omega) fun l h₃ nl F₃ => ?_
  try dsimp only
  refine args_cons ?_
  refine wpAny_Compare1 ?_
  refine Subscript_ ?_
  refine lname F₃ mX ?_
  refine wpAny_Slice ?_
  refine evalPart_none_step ?_
  refine evalPart_some_step ?_
  refine wpAny_Constant_int ?_
  refine evalPart_none_step ?_
  refine sliceL (items := vals.toArray) (lo := none) (hi := some 1) F₃ (F₃.isList (.tail _ oX₂)) .none (.int _ _) (by rw [List.size_toArray]; omega) (fun a1 h₄ na1 F₄ => ?_)
  try dsimp only
  have i1 := slice_ints_uptoW (y := 1) iX (by decide)
  obtain ⟨z1, e1⟩ : ∃ z : List Value, slicePick vals.toArray none (some 1) none = z.toArray := ⟨_, (Array.toArray_toList ..).symm⟩
  rw [e1] at F₄ i1
  simp only at i1
  refine List_ ?_
  refine args_cons ?_
  refine wpAny_Constant_int ?_
  refine args_nil ?_
  refine newLst F₄ (by exact Nat.le_of_ble_eq_true rfl) fun a2 h₅ na2 F₅ => ?_
  try dsimp only
  refine eq_intsK (F₅.isList (.tail _ (.head _))) i1 (F₅.isList (.head _)) (.cons _ _ .nil) hu ?_
  rw [show (1 : Int).toNat = 1 from rfl, on_eq]
  refine args_cons ?_
  refine wpAny_Constant_int ?_
  refine args_nil ⟨F₅.stat Sg, ?_⟩
  try dsimp only
  refine law_cuts_ok (F₅.stat Sg) F₅.tab (by omega) hh (F₅.isList (.tail _ (.tail _ (.head _)))) (iZ.append iY) (by simp) (by simp; omega) fun h₆ tk6 c6 ws6 n6 k6 nc6 ec6 ic6 => ?_
  have F₆ := F₅.add k6 nc6 ec6
  try dsimp only
  refine ne_intsK (F₆.isList (.tail _ (.tail _ (.tail _ (.tail _ oC₂))))) iC (F₆.isList (.head _)) ic6 hu ?_
  refine wpAny_truthy_bool ?_
  refine ite_neg (by simp) ?_
  refine wpAny_execs_nil ?_
  refine wpAny_execs_nil ?_
  exact hQ h₆ _ _ ((F₆.drop (.cons _ (.cons _ (.cons _ (.cons _ hsub)))))) (Same.set (fun _ _ => rfl) (by decide))
end Mine

/-! W12 -/
set_option maxRecDepth 100000
set_option maxHeartbeats 1000000
namespace Mine
variable {fa : Addr} {cd : Value} {prog : Program} {w : World} {A : Around} {E : Value → Shared → Prop} {s : Shared}

theorem Same.get {a b : Str → Option Value} {x : Str} {v : Option Value} {xs : List Str} (S : Same xs a b) (e : a x = v) (h : x ∉ xs) : b x = v := by rw [S _ h, e]
theorem Wr.at' {m m' : Str → Option Value} {own own' : List (Addr × Obj)} {hf : Int} {D W : Addr} {ys zs : List Value} {nD nW : Nat} {rs : List (List Int)} {xs : List Str} (X : Wr m own hf D W ys zs nD nW rs) (S : Same xs m m') (h1 : (Str.ofString "texts") ∉ xs) (h2 : (Str.ofString "worths") ∉ xs) (hs : ∀ p ∈ own, p ∈ own') : Wr m' own' hf D W ys zs nD nW rs :=
  ⟨S.get X.mt h1, S.get X.mw h2, hs _ X.oD, hs _ X.oW, X.len, X.row, X.hys, X.hzs⟩

theorem wbody {g : Heap} {L sl D W Z : Addr} {m : Str → Option Value} {own : List (Addr × Obj)} {ot ob : Obj} {v₀ : Option Value} {ys ws zs : List Value} {nD nW nZ : Nat} {rs : List (List Int)} {hf a b c : Int} {vs : List Value} {ns : List Int} {tb : Tok} {i : Nat} {ti : Tok} {fs : List Int} {Q : Flow → Shared → Prop}
    (hh : A.handled = none) (hroom : A.depth + 110 < recursionLimit) (hu : A.units + 64 < cLine) (Sg : Stat g) (Hg : Hid g) (hl : g.IsList sl vs.toArray) (hi : IntsAre vs ns) (hn : ns.length ≤ 63) (h1 : 1 ≤ hf) (h4 : hf ≤ 4)
    (F : Fm g L s.heap m ((L + 2, ot) :: own)) (dt : ot.data = .cell v₀) (X : Wr m own hf D W ys ws nD nW rs) (ms : m "script" = some (.ref sl)) (oB : (L + 1, ob) ∈ own) (db : ob.data = .cell (some (.int (2 * hf + 1) tb)))
    (oZ : (Z, listOf zs.toArray nZ) ∈ own) (iZ : IntsAre zs [a, b, c]) (mZ : m "sizes" = some (.ref Z)) (ha : 1 ≤ a ∧ a ≤ 3) (hb : 1 ≤ b ∧ b ≤ 3) (hc : 1 ≤ c ∧ c ≤ 3) (hB : Bares s.gens) (mi : m "which" = some (.int i ti)) (hfs : rs[i]? = some fs)
    (hQ : ∀ h' tk gens m' ot', Fm g L h' m' ((L + 2, ot') :: own) → (∃ v, ot'.data = .cell v) → Same whNames m m' → Bares gens → Q .next { s with heap := h', toks := tk, gens := gens }) :
    wpAny (model prog w) A (execs whB1 (lawE fa cd L)) Q E s := by
  have row : Row hf fs := X.row _ (List.mem_of_getElem? hfs)
  with_reducible refine wh1 hh Sg F dt mi hfs X (fun h₁ tk1 m₁ ot₁ F₁ S₁ R₁ => ?_)
  have oT₁ : (L + 2, ot₁) ∈ (L + 2, ot₁) :: own := .head _
  with_reducible refine wh2 hh hu Sg F₁ oT₁ R₁ h4 row (fun h₂ tk2 m₂ K ks nK a' b' ta tb' F₂ S₂ mK iK ma mb hZ hza => ?_)
  obtain ⟨tt, dt₁⟩ := R₁.t
  have R₂ := R₁.same S₂
  have oT₂ : (L + 2, ot₁) ∈ (K, listOf ks.toArray nK) :: (L + 2, ot₁) :: own := .tail _ (.head _)
  have oK₂ : (K, listOf ks.toArray nK) ∈ (K, listOf ks.toArray nK) :: (L + 2, ot₁) :: own := .head _
  with_reducible refine wh3 hh (by omega) Sg F₂ oT₂ R₂ h4 row ma mb hZ (fun h₃ tk3 m₃ F₃ S₃ => ?_)
  have R₃ := R₂.same S₃
  have ma₃ := S₃.get ma (by decide)
  have mb₃ := S₃.get mb (by decide)
  have mK₃ := S₃.get mK (by decide)
  have oB₃ : (L + 1, ob) ∈ (K, listOf ks.toArray nK) :: (L + 2, ot₁) :: own := .tail _ (.tail _ oB)
  with_reducible refine wh4 hh hroom hu Sg Hg F₃ oT₂ oB₃ db R₃ h1 h4 row ma₃ mb₃ hZ hza oK₂ mK₃ iK (fun h₄ tk4 m₄ F₄ S₄ => ?_)
  have R₄ := R₃.same S₄
  have ms₄ : m₄ "script" = some (.ref sl) := S₄.get (S₃.get (S₂.get (S₁.get ms (by decide)) (by decide)) (by decide)) (by decide)
  have mZ₄ : m₄ "sizes" = some (.ref Z) := S₄.get (S₃.get (S₂.get (S₁.get mZ (by decide)) (by decide)) (by decide)) (by decide)
  with_reducible refine wh5 hh hroom Sg hl hi hn F₄ ms₄ oT₂ R₄ (fun h₅ tk5 m₅ X₅ vals En C t1 t2 t3 F₅ S₅ hE iX mX ml mk mC mat => ?_)
  have mZ₅ := S₅.get mZ₄ (by decide)
  have G₅ : Gi m₅ hf fs C 0 := by
    obtain ⟨tn, mn⟩ := R₄.n
    have e8 : fs.take (8 - 0) = fs := List.take_of_length_le (by rw [row.1]; decide)
    exact ⟨⟨t1, by rw [e8]; exact ml⟩, ⟨t2, by rw [e8]; exact mk⟩, mC, ⟨t3, mat⟩, ⟨tn, S₅.get mn (by decide)⟩⟩
  have oT₅ : (L + 2, ot₁) ∈ (X₅, listOf vals.toArray 0) :: (K, listOf ks.toArray nK) :: (L + 2, ot₁) :: own := .tail _ oT₂
  have oB₅ : (L + 1, ob) ∈ (X₅, listOf vals.toArray 0) :: (K, listOf ks.toArray nK) :: (L + 2, ot₁) :: own := .tail _ oB₃
  have oX₅ : (X₅, listOf vals.toArray 0) ∈ (X₅, listOf vals.toArray 0) :: (K, listOf ks.toArray nK) :: (L + 2, ot₁) :: own := .head _
  have oZ₅ : (Z, listOf zs.toArray nZ) ∈ (X₅, listOf vals.toArray 0) :: (K, listOf ks.toArray nK) :: (L + 2, ot₁) :: own := .tail _ (.tail _ (.tail _ oZ))
  with_reducible refine wh9 hh hroom hu Sg Hg h1 h4 row F₅ oT₅ dt₁ oB₅ db oX₅ oZ₅ iX iZ ha hb hc hE mX mZ₅ G₅ hB (fun h₆ tk6 gens m₆ ws₆ n₆ F₆ S₆ iC hB₆ => ?_)
  have mX₆ := S₆.get mX (by decide)
  have mZ₆ := S₆.get mZ₅ (by decide)
  have mC₆ := S₆.get mC (by decide)
  have oC₆ : (C, listOf ws₆.toArray n₆) ∈ (C, listOf ws₆.toArray n₆) :: (X₅, listOf vals.toArray 0) :: (K, listOf ks.toArray nK) :: (L + 2, ot₁) :: own := .head _
  have oX₆ : (X₅, listOf vals.toArray 0) ∈ (C, listOf ws₆.toArray n₆) :: (X₅, listOf vals.toArray 0) :: (K, listOf ks.toArray nK) :: (L + 2, ot₁) :: own := .tail _ oX₅
  have oZ₆ : (Z, listOf zs.toArray nZ) ∈ (C, listOf ws₆.toArray n₆) :: (X₅, listOf vals.toArray 0) :: (K, listOf ks.toArray nK) :: (L + 2, ot₁) :: own := .tail _ oZ₅
  with_reducible refine wh10 hh hroom hu Sg F₆ oC₆ oX₆ oZ₆ iX iZ hE iC mX₆ mZ₆ mC₆ (fun h₇ tk7 m₇ F₇ S₇ => ?_)
  have sub : ∀ {xs : List Str}, (∀ x ∈ xs, x ∈ whNames) → ∀ x ∈ xs, x ∈ whNames := fun h => h
  have T : Same whNames m m₇ := by
    have T₂ := S₁.trans S₂ (fun _ h => h) (by decide)
    have T₃ := T₂.trans S₃ (fun _ h => h) (by decide)
    have T₄ := T₃.trans S₄ (fun _ h => h) (by decide)
    have T₅ := T₄.trans S₅ (fun _ h => h) (by decide)
    have T₆ := T₅.trans S₆ (fun _ h => h) (by decide)
    exact T₆.trans S₇ (fun _ h => h) (by decide)
  exact hQ h₇ tk7 gens m₇ ot₁ F₇.tail.tail.tail ⟨_, dt₁⟩ T hB₆

theorem law_p6 {g : Heap} {L sl D W Z : Addr} {m : Str → Option Value} {own : List (Addr × Obj)} {ot ob : Obj} {v₀ : Option Value} {ys ws zs : List Value} {nD nW nZ : Nat} {rs : List (List Int)} {hf a b c : Int} {vs : List Value} {ns : List Int} {tb : Tok} {Q : Flow → Shared → Prop}
    (hh : A.handled = none) (hroom : A.depth + 110 < recursionLimit) (hu : A.units + 64 < cLine) (Sg : Stat g) (Hg : Hid g) (hl : g.IsList sl vs.toArray) (hi : IntsAre vs ns) (hn : ns.length ≤ 63) (h1 : 1 ≤ hf) (h4 : hf ≤ 4)
    (F : Fm g L s.heap m ((L + 2, ot) :: own)) (dt : ot.data = .cell v₀) (X : Wr m own hf D W ys ws nD nW rs) (ms : m "script" = some (.ref sl)) (oB : (L + 1, ob) ∈ own) (db : ob.data = .cell (some (.int (2 * hf + 1) tb)))
    (oZ : (Z, listOf zs.toArray nZ) ∈ own) (iZ : IntsAre zs [a, b, c]) (mZ : m "sizes" = some (.ref Z)) (ha : 1 ≤ a ∧ a ≤ 3) (hb : 1 ≤ b ∧ b ≤ 3) (hc : 1 ≤ c ∧ c ≤ 3) (hB : Bares s.gens)
    (next : ∀ h' tk gens m' ot', Fm g L h' m' ((L + 2, ot') :: own) → Same whNames m m' → Bares gens → wpAny (model prog w) A (execs (lawB.drop 10) (lawE fa cd L)) Q E { s with heap := h', toks := tk, gens := gens }) :
    wpAny (model prog w) A (execs (lawB.drop 9) (lawE fa cd L)) Q E s := by
  refine wpAny_execs_cons ?_
  refine wpAny_For ?_
  refine callT (F.stat Sg) rfl rfl ?_
  refine args_cons ?_
  refine wpAny_Constant_int ?_
  refine args_nil ?_
  refine rangeLoopG hh (by decide) (by decide) F (fun _ m' own' gs => ∃ ot', own' = (L + 2, ot') :: own ∧ (∃ v, ot'.data = .cell v) ∧ Same whNames m m' ∧ Bares gs) ⟨ot, rfl, ⟨_, dt⟩, fun _ _ => rfl, hB⟩ ?_ ?_
  · rintro i ti m₁ own₁ p h₁ tk1 gs hi2 ⟨ot', rfl, ⟨v, dt'⟩, S₁, hB₁⟩ F₁
    have hi2' : i < 2 := hi2
    have Sw : Same whNames m (fun y => if y = "which" then some (.int i ti) else m₁ y) := S₁.set (by decide)
    have F₂ := F₁.perm (own' := (L + 2, ot') :: p :: own) (List.Perm.swap _ _ _)
    have hfs : ∃ fs, rs[i]? = some fs := ⟨rs[i]'(by rw [X.len]; omega), List.getElem?_eq_getElem _⟩
    obtain ⟨fs, hfs⟩ := hfs
    have X₂ : Wr (fun y => if y = "which" then some (.int i ti) else m₁ y) (p :: own) hf D W ys ws nD nW rs := X.at' Sw (by decide) (by decide) (fun _ h => .tail _ h)
    show wpAny (model prog w) A (execs whB1 (lawE fa cd L)) _ _ _
    refine wbody hh hroom hu Sg Hg hl hi hn h1 h4 F₂ dt' X₂ (Sw.get ms (by decide)) (.tail _ oB) db (.tail _ oZ) iZ (Sw.get mZ (by decide)) ha hb hc hB₁ rfl hfs (fun h' tk gens m' ot'' F' d' S' hB' => ?_)
    exact ⟨h', tk, m', (L + 2, ot'') :: own, gens, rfl, F'.perm (List.Perm.swap _ _ _), ot'', rfl, d', Sw.trans S' (fun _ h => h) (fun _ h => h), hB'⟩
  · rintro h' tk m' own' gs ⟨ot', rfl, d', S', hB'⟩ F'
    show wpAny (model prog w) A (execs (lawB.drop 10) (lawE fa cd L)) Q E _
    with_reducible exact next h' tk gs m' ot' F' S' hB'
end Mine

/-! M5 -/
set_option maxRecDepth 100000
set_option maxHeartbeats 1000000
namespace Mine

/-- how often a row is said -/
def timesOf (e : Int) : Int := 1 + (4200 : Int).fdiv ((Builtin.Int.intBits e : Int) - 1)

theorem eight_facts {hf : Int} (h1 : 1 ≤ hf) (h4 : hf ≤ 4) : 6561 ≤ (2 * hf + 1) ^ 8 ∧ (2 * hf + 1) ^ 8 ≤ 43046721 ∧ (Builtin.Int.intBits ((2 * hf + 1) ^ 8) : Int) - 1 ≠ 0 ∧
    1 ≤ timesOf ((2 * hf + 1) ^ 8) ∧ timesOf ((2 * hf + 1) ^ 8) ≤ 1000 ∧ Builtin.Int.intBits ((2 * hf + 1) ^ 8) * (timesOf ((2 * hf + 1) ^ 8)).toNat ≤ 6000 := by
  obtain rfl | rfl | rfl | rfl : hf = 1 ∨ hf = 2 ∨ hf = 3 ∨ hf = 4 := by (first | lia | omega)
  · decide +kernel
  · decide +kernel
  · decide +kernel
  · decide +kernel

theorem power_facts {e : Int} (h : 1 < e) {k : Nat} (hk : Builtin.Int.intBits e * k ≤ 6000) : 0 < e ^ k ∧ (e ^ k).natAbs < 2 ^ 7000 := by
  refine ⟨pow_pos' (by (first | lia | omega)) k, ?_⟩
  rw [Int.natAbs_pow]
  have m1 : e.natAbs ^ k ≤ (2 ^ Builtin.Int.intBits e) ^ k := Nat.pow_le_pow_left (Nat.le_of_lt (lt_bits e)) k
  rw [← Nat.pow_mul] at m1
  have m2 : 2 ^ (Builtin.Int.intBits e * k) < 2 ^ 7000 := Nat.pow_lt_pow_right (by decide) (by (first | lia | omega))
  exact Nat.lt_of_le_of_lt m1 m2

theorem share_facts {e P : Int} (he : 1 < e) (hP : 0 < P) : 0 ≤ (P - 1).fdiv (e - 1) ∧ (P - 1).fdiv (e - 1) * (e - 1) ≤ P - 1 := by
  rw [Int.fdiv_eq_ediv_of_nonneg _ (by (first | lia | omega))]
  exact ⟨Int.ediv_nonneg (by (first | lia | omega)) (by (first | lia | omega)), Int.ediv_mul_le _ (by (first | lia | omega))⟩

theorem part_bound {e P S w : Int} (h1 : 2 * w + 1 ≤ e) (h2 : -e + 1 ≤ 2 * w) (hS0 : 0 ≤ S) (hS : S * (e - 1) ≤ P - 1) : 2 * (w * S) + 1 ≤ P ∧ -P + 1 ≤ 2 * (w * S) := by
  have m1 := Int.mul_le_mul_of_nonneg_right (show 2 * w ≤ e - 1 by (first | lia | omega)) hS0
  have m2 := Int.mul_le_mul_of_nonneg_right (show -(e - 1) ≤ 2 * w by (first | lia | omega)) hS0
  rw [Int.mul_comm (e - 1) S, Int.mul_assoc] at m1
  rw [Int.neg_mul, Int.mul_comm (e - 1) S, Int.mul_assoc] at m2
  (first | lia | omega)

theorem big_div {P hi lo x : Int} (hP : 0 < P) (h1 : 2 * hi + 1 ≤ P) (h2 : -P + 1 ≤ 2 * hi) (h3 : 2 * lo + 1 ≤ P) (h4 : -P + 1 ≤ 2 * lo) (hx : x = hi * P + lo + P.fdiv 2 ∨ x = hi * P + lo - P.fdiv 2) :
    x.natAbs ≤ 2 ^ 32 + P.natAbs * P.natAbs := by
  have hf : 0 ≤ P.fdiv 2 ∧ 2 * P.fdiv 2 ≤ P := by
    rw [Int.fdiv_eq_ediv_of_nonneg _ (by decide)]; (first | lia | omega)
  have m1 := Int.mul_le_mul_of_nonneg_right (show 2 * hi ≤ P - 1 by (first | lia | omega)) (Int.le_of_lt hP)
  have m2 := Int.mul_le_mul_of_nonneg_right (show -(P - 1) ≤ 2 * hi by (first | lia | omega)) (Int.le_of_lt hP)
  rw [Int.sub_mul, Int.one_mul, Int.mul_assoc] at m1
  rw [Int.neg_mul, Int.sub_mul, Int.one_mul, Int.mul_assoc] at m2
  have e : ((P.natAbs * P.natAbs : Nat) : Int) = P * P := by
    rw [Int.natCast_mul, Int.natAbs_of_nonneg (Int.le_of_lt hP)]
  have hPP : P ≤ P * P := by
    have := Int.mul_le_mul_of_nonneg_right (show 1 ≤ P by (first | lia | omega)) (Int.le_of_lt hP)
    (first | lia | omega)
  rcases hx with rfl | rfl <;> (first | lia | omega)
end Mine

/-! L7 -/
set_option maxRecDepth 100000
set_option maxHeartbeats 1000000
namespace Mine
variable {fa : Addr} {cd : Value} {prog : Program} {w : World} {A : Around} {E : Value → Shared → Prop} {s : Shared}

/-- the big numbers at hand -/
structure Bg (m : Str → Option Value) (e P : Int) : Prop where
  me : ∃ t, m "eight" = some (.int e t)
  mP : ∃ t, m "power" = some (.int P t)
  e1 : 1 < e
  e2 : e ≤ 43046721
  P0 : 0 < P
  Pb : P.natAbs < 2 ^ 7000

theorem law_p7 {g : Heap} {L : Addr} {m : Str → Option Value} {own : List (Addr × Obj)} {ob : Obj} {hf : Int} {tb : Tok} {Q : Flow → Shared → Prop} (Sg : Stat g) (h1 : 1 ≤ hf) (h4 : hf ≤ 4)
    (F : Fm g L s.heap m own) (oB : (L + 1, ob) ∈ own) (db : ob.data = .cell (some (.int (2 * hf + 1) tb)))
    (next : ∀ h' tk m' P, Fm g L h' m' own → Same ["eight", "power"] m m' → Bg m' ((2 * hf + 1) ^ 8) P → wpAny (model prog w) A (execs (lawB.drop 12) (lawE fa cd L)) Q E { s with heap := h', toks := tk }) :
    wpAny (model prog w) A (execs (lawB.drop 10) (lawE fa cd L)) Q E s := by
  obtain ⟨e1, e2, e3, e4, e5, e6⟩ := eight_facts h1 h4
  obtain ⟨p1, p2⟩ := power_facts (by omega) e6
  refine wpAny_execs_cons ?_
  refine wpAny_Assign_Name ?_
  refine wpAny_BinOp ?_
  refine cname F oB db ?_
  refine wpAny_Constant_int ?_
  refine pow_int_small (by decide) (by decide) (by omega) ?_
  rw [show (8 : Int).toNat = 8 from rfl]
  unfold timesOf at e4 e5 e6 p1 p2
  obtain ⟨e, he⟩ : ∃ e, (2 * hf + 1) ^ 8 = e := ⟨_, rfl⟩
  rw [he] at e1 e2 e3 e4 e5 e6 p1 p2 ⊢
  rw [he] at next
  refine lstore F fun h₂ F₂ => ?_
  try dsimp only
  refine wpAny_execs_cons ?_
  refine wpAny_Assign_Name ?_
  refine wpAny_BinOp ?_
  refine lname F₂ rfl ?_
  refine wpAny_BinOp ?_
  refine wpAny_Constant_int ?_
  refine wpAny_BinOp ?_
  refine wpAny_Constant_int ?_
  refine wpAny_BinOp ?_
  refine MethodCall_ ?_
  refine lname F₂ rfl ?_
  refine getMethod_int_bit_length ?_
  refine callWith_method0 ?_
  refine call_int_bit_length ?_
  refine wpAny_Constant_int ?_
  refine sub_int' ?_
  refine floordiv_int e3 ?_ (.inl (PyProof.noPylong_small ?_))
  · refine add_int ?_
    refine pow_int_small (by omega) (by omega) (by omega) ?_
    refine lstore F₂ fun h₃ F₃ => ?_
    try dsimp only
    have fin : ∀ t1 t2 (M : Str → Option Value), M = (fun (y : Str) => if y = "power" then some (.int (e ^ (1 + (4200 : Int).fdiv ((Builtin.Int.intBits e : Int) - 1)).toNat) t1) else if y = "eight" then some (.int e t2) else m y) →
        Fm g L h₃ M own → ∀ tk, wpAny (model prog w) A (execs (lawB.drop 12) (lawE fa cd L)) Q E { s with heap := h₃, toks := tk } := by
      intro t1 t2 M eM FM tk
      have Sm : Same ["eight", "power"] m M := by
        rw [eM]
        exact (Same.set (fun _ _ => rfl) (by decide)).set (by decide)
      have b : Bg M e (e ^ (1 + (4200 : Int).fdiv ((Builtin.Int.intBits e : Int) - 1)).toNat) := ⟨⟨t2, by rw [eM]; rfl⟩, ⟨t1, by rw [eM]; rfl⟩, by omega, e2, p1, p2⟩
      with_reducible exact next h₃ tk M _ FM Sm b
    show wpAny (model prog w) A (execs (lawB.drop 12) (lawE fa cd L)) Q E _
    with_reducible exact fin _ _ _ rfl F₃ _
  · have : Builtin.Int.intBits e ≤ 64 := bits_lti (by omega)
    omega
end Mine

/-! L8 -/
set_option maxRecDepth 100000
set_option maxHeartbeats 1000000
namespace Mine
variable {fa : Addr} {cd : Value} {prog : Program} {w : World} {A : Around} {E : Value → Shared → Prop} {s : Shared}

abbrev bB : List Stmt := forB (lawB.getD 12 noStmt)

/-- high and low -/
theorem big1 {g : Heap} {L W : Addr} {m : Str → Option Value} {own : List (Addr × Obj)} {zs : List Value} {nW : Nat} {u v e P : Int} {i : Nat} {ti tu tv : Tok} {Q : Flow → Shared → Prop}
    (F : Fm g L s.heap m own) (b : Bg m e P) (oW : (W, listOf zs.toArray nW) ∈ own) (mW : m "worths" = some (.ref W)) (mi : m "which" = some (.int i ti)) (hi : i < 2) (hu : zs[i]? = some (.int u tu)) (hv : zs[i + 1]? = some (.int v tv)) (bu : u.natAbs ≤ 2 ^ 40) (bv : v.natAbs ≤ 2 ^ 40)
    (next : ∀ h' tk m' t1 t2, Fm g L h' m' own → Same ["high", "low"] m m' → m' "high" = some (.int (u * (P - 1).fdiv (e - 1)) t1) → m' "low" = some (.int (v * (P - 1).fdiv (e - 1)) t2) → wpAny (model prog w) A (execs (bB.drop 2) (lawE fa cd L)) Q E { s with heap := h', toks := tk }) :
    wpAny (model prog w) A (execs bB (lawE fa cd L)) Q E s := by
  obtain ⟨te, me⟩ := b.me
  obtain ⟨tP, mP⟩ := b.mP
  have e1 := b.e1
  have e2 := b.e2
  have P0 := b.P0
  have mul : ∀ {x : Int}, x.natAbs ≤ 2 ^ 40 → IntMulOk x ((P - 1).fdiv (e - 1)) := fun h => .of_left (bits_lti (by (first | lia | omega)))
  refine wpAny_execs_cons ?_
  refine wpAny_Assign_Name ?_
  refine wpAny_BinOp ?_
  refine Subscript_ ?_
  refine lname F mW ?_
  refine lname F mi ?_
  refine item_listL (F.isList oW) (by (first | lia | omega)) (by (first | lia | omega)) (by simpa using hu) ?_
  refine wpAny_BinOp ?_
  refine wpAny_BinOp ?_
  refine lname F mP ?_
  refine wpAny_Constant_int ?_
  refine sub_int' ?_
  refine wpAny_BinOp ?_
  refine lname F me ?_
  refine wpAny_Constant_int ?_
  refine sub_int' ?_
  refine floordiv_int (by (first | lia | omega)) ?_ (.inl (PyProof.noPylong_small (by (first | lia | omega))))
  refine mul_int ?_ (mul bu)
  refine lstore F fun h₂ F₂ => ?_
  try dsimp only
  refine wpAny_execs_cons ?_
  refine wpAny_Assign_Name ?_
  refine wpAny_BinOp ?_
  refine Subscript_ ?_
  refine lname F₂ mW ?_
  refine wpAny_BinOp ?_
  refine lname F₂ mi ?_
  refine wpAny_Constant_int ?_
  refine add_int ?_
  refine item_listL (F₂.isList oW) (by (first | lia | omega)) (by (first | lia | omega)) (by rw [← hv]; congr 1) ?_
  refine wpAny_BinOp ?_
  refine wpAny_BinOp ?_
  refine lname F₂ mP ?_
  refine wpAny_Constant_int ?_
  refine sub_int' ?_
  refine wpAny_BinOp ?_
  refine lname F₂ me ?_
  refine wpAny_Constant_int ?_
  refine sub_int' ?_
  refine floordiv_int (by (first | lia | omega)) ?_ (.inl (PyProof.noPylong_small (by (first | lia | omega))))
  refine mul_int ?_ (mul bv)
  refine lstore F₂ fun h₃ F₃ => ?_
  try dsimp only
  have fin : ∀ t1 t2 (M : Str → Option Value), M = (fun (y : Str) => if y = "low" then some (.int (v * (P - 1).fdiv (e - 1)) t2) else if y = "high" then some (.int (u * (P - 1).fdiv (e - 1)) t1) else m y) →
      Fm g L h₃ M own → ∀ tk, wpAny (model prog w) A (execs (bB.drop 2) (lawE fa cd L)) Q E { s with heap := h₃, toks := tk } := by
    intro t1 t2 M eM FM tk
    have Sm : Same ["high", "low"] m M := by
      rw [eM]
      exact (Same.set (fun _ _ => rfl) (by decide)).set (by decide)
    have e1 : M "high" = some (.int (u * (P - 1).fdiv (e - 1)) t1) := by rw [eM]; rfl
    have e2 : M "low" = some (.int (v * (P - 1).fdiv (e - 1)) t2) := by rw [eM]; rfl
    with_reducible exact next h₃ tk M t1 t2 FM Sm e1 e2
  show wpAny (model prog w) A (execs (bB.drop 2) (lawE fa cd L)) Q E _
  with_reducible exact fin _ _ _ rfl F₃ _

/-- the two checks -/
theorem big2 {g : Heap} {L : Addr} {m : Str → Option Value} {own : List (Addr × Obj)} {hi lo e P : Int} {t1 t2 : Tok} {Q : Flow → Shared → Prop} (hh : A.handled = none) (hroom : A.depth + 110 < recursionLimit) (hu : A.units + 64 < cLine) (Sg : Stat g) (Hg : Hid g)
    (F : Fm g L s.heap m own) (b : Bg m e P) (mh : m "high" = some (.int hi t1)) (ml : m "low" = some (.int lo t2)) (b1 : 2 * hi + 1 ≤ P) (b2 : -P + 1 ≤ 2 * hi) (b3 : 2 * lo + 1 ≤ P) (b4 : -P + 1 ≤ 2 * lo)
    (hQ : ∀ h' tk, Fm g L h' m own → Q .next { s with heap := h', toks := tk }) :
    wpAny (model prog w) A (execs (bB.drop 2) (lawE fa cd L)) Q E s := by
  obtain ⟨tP, mP⟩ := b.mP
  have P0 := b.P0
  have Pb := b.Pb
  have d1 : DivOk (hi * P + lo + P.fdiv 2) P := divOk (by (first | lia | omega)) Pb (big_div P0 b1 b2 b3 b4 (.inl rfl))
  have d2 : DivOk (hi * P + lo - P.fdiv 2) (-P) := divOk (by (first | lia | omega)) (by rw [Int.natAbs_neg]; exact Pb) (by rw [Int.natAbs_neg]; exact big_div P0 b1 b2 b3 b4 (.inr rfl))
  have r1 := round_up (hi := hi) b3 b4
  have r2 := round_dn (hi := hi) b3 b4
  have hiP : hi.natAbs ≤ P.natAbs := by clear Pb d1 d2 r1 r2; (first | lia | omega)
  have k20 : ∀ {x : Int}, x.natAbs < 2 ^ 7000 → Builtin.Int.intBits x ≤ 2 ^ 20 := fun h => Nat.le_trans (bits_lti h) (by decide)
  have mul : IntMulOk hi P := .of_bits (k20 (Nat.lt_of_le_of_lt hiP Pb)) (k20 Pb)
  clear Pb
  refine wpAny_execs_cons ?_
  refine wpAny_If ?_
  refine wpAny_isTrue_Compare1 ?_
  refine callF (i := 12) (F.stat Sg) rfl (by decide) ?_
  refine args_cons ?_
  refine wpAny_BinOp ?_
  refine wpAny_BinOp ?_
  refine wpAny_BinOp ?_
  refine lname F mh ?_
  refine lname F mP ?_
  refine mul_int ?_ mul
  refine lname F ml ?_
  refine add_int ?_
  refine wpAny_BinOp ?_
  refine lname F mP ?_
  refine wpAny_Constant_int ?_
  refine floordiv_int (by decide) ?_
  refine add_int ?_
  refine args_cons ?_
  refine lname F mP ?_
  refine args_nil ⟨F.stat Sg, ?_⟩
  try dsimp only
  refine idm (F.stat Sg) F.tab (by (first | lia | omega)) hh d1 ?_
  rw [r1.1, r1.2]
  intro h₂ tk2 c t6 t7 k2 T2 nc ec
  have F₂ := F.callAdd Hg k2 T2 nc ec
  try dsimp only
  refine Tuple_ ?_
  refine args_cons ?_
  refine lname F₂ mh ?_
  refine args_cons ?_
  refine wpAny_BinOp ?_
  refine lname F₂ ml ?_
  refine wpAny_BinOp ?_
  refine lname F₂ mP ?_
  refine wpAny_Constant_int ?_
  refine floordiv_int (by decide) ?_
  refine add_int ?_
  refine args_nil ?_
  refine newTup F₂ (by exact Nat.le_of_ble_eq_true rfl) fun d h₃ hd F₃ => ?_
  try dsimp only
  refine neTup (F₃.get (.tail _ (.head _))) (.cons _ _ (.cons _ _ .nil)) (F₃.get (.head _)) (.cons _ _ (.cons _ _ .nil)) hu ?_
  refine wpAny_truthy_bool ?_
  refine ite_neg (by simp) ?_
  refine wpAny_execs_nil ?_
  replace F₃ := F₃.tail.tail
  try dsimp only
  refine wpAny_execs_cons ?_
  refine wpAny_If ?_
  refine wpAny_isTrue_Compare1 ?_
  refine callF (i := 12) (F₃.stat Sg) rfl (by decide) ?_
  refine args_cons ?_
  refine wpAny_BinOp ?_
  refine wpAny_BinOp ?_
  refine wpAny_BinOp ?_
  refine lname F₃ mh ?_
  refine lname F₃ mP ?_
  refine mul_int ?_ mul
  refine lname F₃ ml ?_
  refine add_int ?_
  refine wpAny_BinOp ?_
  refine lname F₃ mP ?_
  refine wpAny_Constant_int ?_
  refine floordiv_int (by decide) ?_
  refine sub_int' ?_
  refine args_cons ?_
  refine UnaryOp_ ?_
  refine lname F₃ mP ?_
  refine neg_int ?_
  refine args_nil ⟨F₃.stat Sg, ?_⟩
  try dsimp only
  refine idm (F₃.stat Sg) F₃.tab (by (first | lia | omega)) hh d2 ?_
  rw [r2.1, r2.2]
  intro h₄ tk4 c2 t8 t9 k4 T4 nc2 ec2
  have F₄ := F₃.callAdd Hg k4 T4 nc2 ec2
  try dsimp only
  refine Tuple_ ?_
  refine args_cons ?_
  refine UnaryOp_ ?_
  refine lname F₄ mh ?_
  refine neg_int ?_
  refine args_cons ?_
  refine wpAny_BinOp ?_
  refine lname F₄ ml ?_
  refine wpAny_BinOp ?_
  refine lname F₄ mP ?_
  refine wpAny_Constant_int ?_
  refine floordiv_int (by decide) ?_
  refine sub_int' ?_
  refine args_nil ?_
  refine newTup F₄ (by exact Nat.le_of_ble_eq_true rfl) fun d2 h₅ hd2 F₅ => ?_
  try dsimp only
  refine neTup (F₅.get (.tail _ (.head _))) (.cons _ _ (.cons _ _ .nil)) (F₅.get (.head _)) (.cons _ _ (.cons _ _ .nil)) hu ?_
  refine wpAny_truthy_bool ?_
  refine ite_neg (by simp) ?_
  refine wpAny_execs_nil ?_
  refine wpAny_execs_nil ?_
  exact hQ h₅ _ F₅.tail.tail
end Mine

/-! L9 -/
set_option maxRecDepth 100000
set_option maxHeartbeats 1000000
namespace Mine
variable {fa : Addr} {cd : Value} {prog : Program} {w : World} {A : Around} {E : Value → Shared → Prop} {s : Shared}

theorem Bg.same {m m' : Str → Option Value} {e P : Int} {xs : List Str} (b : Bg m e P) (S : Same xs m m') (h1 : (Str.ofString "eight") ∉ xs := by decide) (h2 : (Str.ofString "power") ∉ xs := by decide) : Bg m' e P :=
  ⟨let ⟨t, q⟩ := b.me; ⟨t, S.get q h1⟩, let ⟨t, q⟩ := b.mP; ⟨t, S.get q h2⟩, b.e1, b.e2, b.P0, b.Pb⟩

theorem law_p8 {g : Heap} {L D W : Addr} {m : Str → Option Value} {own : List (Addr × Obj)} {ys ws : List Value} {nD nW : Nat} {rs : List (List Int)} {hf P : Int} {Q : Flow → Shared → Prop} (hh : A.handled = none) (hroom : A.depth + 110 < recursionLimit) (hu : A.units + 64 < cLine) (Sg : Stat g) (Hg : Hid g)
    (h1 : 1 ≤ hf) (h4 : hf ≤ 4) (F : Fm g L s.heap m own) (b : Bg m ((2 * hf + 1) ^ 8) P) (X : Wr m own hf D W ys ws nD nW rs)
    (hQ : ∀ h' tk m', Fm g L h' m' own → Q (.ret (.bool true)) { s with heap := h', toks := tk }) :
    wpAny (model prog w) A (execs (lawB.drop 12) (lawE fa cd L)) Q E s := by
  refine wpAny_execs_cons ?_
  refine wpAny_For ?_
  refine callT (F.stat Sg) rfl rfl ?_
  refine args_cons ?_
  refine wpAny_Constant_int ?_
  refine args_nil ?_
  refine rangeLoop hh (by decide) (by decide) F (fun _ m' own' => own' = own ∧ Same ["which", "high", "low"] m m') ⟨rfl, fun _ _ => rfl⟩ ?_ ?_
  · rintro i ti m₁ own₁ p h₁ tk1 hi2 ⟨rfl, S₁⟩ F₁
    have hi2' : i < 2 := hi2
    have Sw : Same ["which", "high", "low"] m (fun y => if y = "which" then some (.int i ti) else m₁ y) := S₁.set (by decide)
    have hil : i < rs.length := by rw [X.len]; (first | lia | omega)
    have hil1 : i + 1 < rs.length := by rw [X.len]; (first | lia | omega)
    obtain ⟨tu, eu⟩ := X.hzs.get i (hor (2 * hf + 1) rs[i]) (by simp [hil])
    obtain ⟨tv, ev⟩ := X.hzs.get (i + 1) (hor (2 * hf + 1) rs[i + 1]) (by simp [hil1])
    have r1 := X.row _ (List.getElem_mem hil)
    have r2 := X.row _ (List.getElem_mem hil1)
    have s1 := hor_small h1 h4 (Nat.le_of_eq r1.1) r1.2
    have s2 := hor_small h1 h4 (Nat.le_of_eq r2.1) r2.2
    have b1 := hor_bound (by (first | lia | omega)) _ r1.2
    have b2 := hor_bound (by (first | lia | omega)) _ r2.2
    rw [r1.1] at b1
    rw [r2.1] at b2
    have hs := share_facts b.e1 b.P0
    have p1 := part_bound b1.1 b1.2 hs.1 hs.2
    have p2 := part_bound b2.1 b2.2 hs.1 hs.2
    have bw : Bg (fun y => if y = "which" then some (.int i ti) else m₁ y) ((2 * hf + 1) ^ 8) P := b.same Sw
    have mW : (fun (y : Str) => if y = "which" then some (Value.int i ti) else m₁ y) "worths" = some (.ref W) := Sw.get X.mw (by decide)
    have mi : (fun (y : Str) => if y = "which" then some (Value.int i ti) else m₁ y) "which" = some (.int i ti) := rfl
    have oW : (W, listOf ws.toArray nW) ∈ p :: own₁ := .tail _ X.oW
    have u1 : (hor (2 * hf + 1) rs[i]).natAbs ≤ 2 ^ 40 := Nat.le_trans s1 (by decide)
    have u2 : (hor (2 * hf + 1) rs[i + 1]).natAbs ≤ 2 ^ 40 := Nat.le_trans s2 (by decide)
    show wpAny (model prog w) A (execs bB (lawE fa cd L)) _ _ _
    with_reducible refine big1 F₁ bw oW mW mi hi2' eu ev u1 u2 (fun h₂ tk2 m₂ t1 t2 F₂ S₂ mh ml => ?_)
    have bw₂ := bw.same S₂
    with_reducible refine big2 hh hroom hu Sg Hg F₂ bw₂ mh ml p1.1 p1.2 p2.1 p2.2 (fun h₃ tk3 F₃ => ?_)
    exact ⟨h₃, tk3, m₂, own₁, rfl, F₃, rfl, Sw.trans S₂ (fun _ h => h) (by decide)⟩
  · rintro h' tk m' own' ⟨rfl, S'⟩ F'
    refine wpAny_execs_cons ?_
    refine wpAny_Return_some ?_
    refine wpAny_Constant_bool ?_
    exact hQ h' tk m' F'

theorem worths_eq {hf : Int} (h4 : hf ≤ 4) {rs : List (List Int)} (h : ∀ fs ∈ rs, Row hf fs) : ((rs.map textOf).map fun x => worthC (2 * hf + 1) x.cps.toList) = rs.map (hor (2 * hf + 1)) := by
  rw [List.map_map]
  apply List.map_congr_left
  intro fs hm
  show worthC (2 * hf + 1) (textOf fs).cps.toList = _
  rw [text_list]
  exact worth_hor _ _ fun f hf' => by have := (h fs hm).2 f hf'; (first | lia | omega)

theorem Row.neg {hf : Int} {fs : List Int} (r : Row hf fs) : Row hf (fs.map fun f => -f) :=
  ⟨by rw [List.length_map]; exact r.1, fun f hm => by
    obtain ⟨f', h', rfl⟩ := List.mem_map.mp hm
    have := r.2 f' h'; (first | lia | omega)⟩

theorem law_all {g : Heap} {L sl : Addr} {m : Str → Option Value} {ot ob : Obj} {vs : List Value} {ns : List Int} {Q : Flow → Shared → Prop} (hh : A.handled = none) (hroom : A.depth + 110 < recursionLimit) (hu : A.units + 64 < cLine) (Sg : Stat g) (Hg : Hid g)
    (hl : g.IsList sl vs.toArray) (hi : IntsAre vs ns) (hn : ns.length ≤ 63) (F : Fm g L s.heap m [(L + 2, ot), (L + 1, ob)]) (dt : ot.data = .cell none) (db : ob.data = .cell none) (ms : m "script" = some (.ref sl)) (hB : Bares s.gens)
    (hQ : ∀ h' tk gens m', Fm g L h' m' [] → Bares gens → Q (.ret (.bool true)) { s with heap := h', toks := tk, gens := gens }) :
    wpAny (model prog w) A (execs lawB (lawE fa cd L)) Q E s := by
  have hr : A.depth + 100 < recursionLimit := by (first | lia | omega)
  with_reducible refine law_p1 hh hr Sg hl hi hn F dt db ms (fun h₁ tk1 hf tb m₁ ob' R r1 r2 ws1 ws2 n1 n2 n3 fs1 fs2 own h1 h4 db' ms₁ mR i1 i2 R1 R2 F₁ oR o1 o2 => ?_)
  have oR' : (R, listOf #[.ref r1, .ref r2] n3) ∈ (L + 2, ot) :: (L + 1, ob') :: own := .tail _ (.tail _ oR)
  have o1' : (r1, listOf ws1.toArray n1) ∈ (L + 2, ot) :: (L + 1, ob') :: own := .tail _ (.tail _ o1)
  have o2' : (r2, listOf ws2.toArray n2) ∈ (L + 2, ot) :: (L + 1, ob') :: own := .tail _ (.tail _ o2)
  with_reducible refine law_p2 hh hr Sg h1 h4 F₁ mR i1 i2 R1 R2 oR' o1' o2' (fun h₂ tk2 D ys nD F₂ iD => ?_)
  have hrs : ∀ fs ∈ [fs1, fs2, fs1.map fun f => -f, fs2.map fun f => -f], Row hf fs := by
    intro fs hm
    simp only [List.mem_cons, List.not_mem_nil, or_false] at hm
    rcases hm with rfl | rfl | rfl | rfl
    · exact R1
    · exact R2
    · exact R1.neg
    · exact R2.neg
  obtain ⟨rs, ers⟩ : ∃ rs, [fs1, fs2, fs1.map fun f => -f, fs2.map fun f => -f] = rs := ⟨_, rfl⟩
  have iD' : StrsAre ys (rs.map textOf) := by rw [← ers]; exact iD
  have lrs : rs.length = 4 := by rw [← ers]; rfl
  rw [ers] at hrs
  have mt₂ : (fun (y : Str) => if y = "texts" then some (Value.ref D) else m₁ y) "texts" = some (.ref D) := rfl
  have oB₂ : (L + 1, ob') ∈ (D, listOf ys.toArray nD) :: (L + 2, ot) :: (L + 1, ob') :: own := .tail _ (.tail _ (.head _))
  have oD₂ : (D, listOf ys.toArray nD) ∈ (D, listOf ys.toArray nD) :: (L + 2, ot) :: (L + 1, ob') :: own := .head _
  have lD : (rs.map textOf).length ≤ 8 := by rw [List.length_map, lrs]; decide
  have sD : ∀ x ∈ rs.map textOf, ∀ c ∈ x.cps.toList, c ∈ signs := by
    intro x hx
    obtain ⟨fs, hm, rfl⟩ := List.mem_map.mp hx
    exact sgns_mem h4 (hrs fs hm).2
  with_reducible refine law_p3 hh hr Sg h1 h4 F₂ mt₂ oB₂ db' oD₂ iD' lD sD (fun h₃ tk3 W zs nW F₃ iW => ?_)
  rw [worths_eq h4 hrs] at iW
  have ms₃ : (fun (y : Str) => if y = "worths" then some (Value.ref W) else if y = "texts" then some (Value.ref D) else m₁ y) "script" = some (.ref sl) := ms₁
  have X₃ : Wr (fun (y : Str) => if y = "worths" then some (Value.ref W) else if y = "texts" then some (Value.ref D) else m₁ y) ((W, listOf zs.toArray nW) :: (D, listOf ys.toArray nD) :: (L + 2, ot) :: (L + 1, ob') :: own) hf D W ys zs nD nW rs :=
    ⟨rfl, rfl, .tail _ (.head _), .head _, lrs, hrs, iD', iW⟩
  with_reducible refine law_p4 hh hr Sg h1 h4 F₃ X₃ (fun h₄ tk4 m₄ F₄ S₄ => ?_)
  have ms₄ : m₄ "script" = some (.ref sl) := S₄.get ms₃ (by decide)
  have X₄ : Wr m₄ ((W, listOf zs.toArray nW) :: (D, listOf ys.toArray nD) :: (L + 2, ot) :: (L + 1, ob') :: own) hf D W ys zs nD nW rs := X₃.at' S₄ (by decide) (by decide) fun _ h => h
  with_reducible refine law_p5 hr Sg hl hi hn F₄ ms₄ (fun h₅ tk5 Z a b c vz ha hb hc F₅ iZ => ?_)
  have S₅ : Same ["sizes"] m₄ (fun y => if y = "sizes" then some (.ref Z) else m₄ y) := Same.set (fun _ _ => rfl) (by decide)
  have F₅' := F₅.perm (own' := (L + 2, ot) :: (Z, listOf vz.toArray 0) :: (W, listOf zs.toArray nW) :: (D, listOf ys.toArray nD) :: (L + 1, ob') :: own)
    (List.perm_middle (l₁ := [(Z, listOf vz.toArray 0), (W, listOf zs.toArray nW), (D, listOf ys.toArray nD)]))
  have X₅ : Wr (fun y => if y = "sizes" then some (.ref Z) else m₄ y) ((Z, listOf vz.toArray 0) :: (W, listOf zs.toArray nW) :: (D, listOf ys.toArray nD) :: (L + 1, ob') :: own) hf D W ys zs nD nW rs :=
    ⟨S₅.get X₄.mt (by decide), S₅.get X₄.mw (by decide), .tail _ (.tail _ (.head _)), .tail _ (.head _), lrs, hrs, iD', iW⟩
  have ms₅ : (fun (y : Str) => if y = "sizes" then some (.ref Z) else m₄ y) "script" = some (.ref sl) := S₅.get ms₄ (by decide)
  have mZ₅ : (fun (y : Str) => if y = "sizes" then some (Value.ref Z) else m₄ y) "sizes" = some (.ref Z) := rfl
  have oB₅ : (L + 1, ob') ∈ (Z, listOf vz.toArray 0) :: (W, listOf zs.toArray nW) :: (D, listOf ys.toArray nD) :: (L + 1, ob') :: own := .tail _ (.tail _ (.tail _ (.head _)))
  have oZ₅ : (Z, listOf vz.toArray 0) ∈ (Z, listOf vz.toArray 0) :: (W, listOf zs.toArray nW) :: (D, listOf ys.toArray nD) :: (L + 1, ob') :: own := .head _
  with_reducible refine law_p6 hh hroom hu Sg Hg hl hi hn h1 h4 F₅' dt X₅ ms₅ oB₅ db' oZ₅ iZ mZ₅ ha hb hc hB (fun h₆ tk6 gens m₆ ot' F₆ S₆ hB₆ => ?_)
  have oB₆ : (L + 1, ob') ∈ (L + 2, ot') :: (Z, listOf vz.toArray 0) :: (W, listOf zs.toArray nW) :: (D, listOf ys.toArray nD) :: (L + 1, ob') :: own := .tail _ oB₅
  with_reducible refine law_p7 Sg h1 h4 F₆ oB₆ db' (fun h₇ tk7 m₇ P F₇ S₇ B₇ => ?_)
  have X₆ : Wr m₆ ((L + 2, ot') :: (Z, listOf vz.toArray 0) :: (W, listOf zs.toArray nW) :: (D, listOf ys.toArray nD) :: (L + 1, ob') :: own) hf D W ys zs nD nW rs := X₅.at' S₆ (by decide) (by decide) fun _ h => .tail _ h
  have X₇ : Wr m₇ ((L + 2, ot') :: (Z, listOf vz.toArray 0) :: (W, listOf zs.toArray nW) :: (D, listOf ys.toArray nD) :: (L + 1, ob') :: own) hf D W ys zs nD nW rs := X₆.at' S₇ (by decide) (by decide) fun _ h => h
  with_reducible refine law_p8 hh hroom hu Sg Hg h1 h4 F₇ B₇ X₇ (fun h₈ tk8 m₈ F₈ => ?_)
  exact hQ h₈ tk8 gens m₈ F₈.nil hB₆
end Mine

/-! Lk -/
set_option maxRecDepth 100000
set_option maxHeartbeats 1000000
namespace Mine

/-- a def of the text stands in the written part -/
def FnOk (K : Frag) (f : Addr) (i : Nat) : Prop := ∃ o doc pm oc vs t, K.lookup f = some o ∧ o.data = .func (fdAt i f doc pm) ∧ K.lookup (f - 1) = some oc ∧ oc.data = .fields vs ∧ vs[1]? = some (.str (stName (topAt i)) t)

theorem lookup_mem {α : Type} {x : Str} {v : α} : ∀ {l : List (Str × α)}, l.lookup x = some v → ∃ p ∈ l, p.1 = x ∧ p.2 = v
  | [], e => by cases e
  | p :: r, e => by
    rw [List.lookup_cons] at e
    cases hb : x == p.1 with
    | true =>
      rw [hb] at e
      cases e
      exact ⟨p, .head _, (eq_of_beq hb).symm, rfl⟩
    | false =>
      rw [hb] at e
      obtain ⟨q, hq, h⟩ := lookup_mem e
      exact ⟨q, .tail _ hq, h⟩

theorem stat0_of {K : Frag} {h : Heap} {p : Program} {loose : List Str} {mean : ExcName → Option Value} {mg mb : Str → Option Value} (X : K.In h) (T : Top p loose mean mg mb h) (c1 : CodeHd h 55 51) (c2 : CodeHd h 62 58)
    (ng : ∀ q ∈ gl, nsIn K mainGlobals q.1 = some q.2) (nb : ∀ q ∈ bl, bootBuiltins q.1 = some q.2 ∧ q.1 ≠ "__name__") (nf : ∀ q ∈ fl, FnOk K q.1 q.2) : Stat0 h where
  nolimit := T.nolimit
  glob := ⟨mg, T.g, fun x v e => by
    obtain ⟨q, hq, rfl, rfl⟩ := lookup_mem e
    have n := ng q hq
    cases hv : q.2 with
    | none => exact mg_none_of X T.g (by rw [n, hv])
    | some v => exact mg_of X T.g (by rw [n, hv])⟩
  bi := ⟨mb, T.b, fun x v e => by
    obtain ⟨q, hq, rfl, rfl⟩ := lookup_mem e
    obtain ⟨n1, n2⟩ := nb q hq
    exact (T.builtins _ n2).trans n1⟩
  fns := fun q hq => by
    obtain ⟨o, doc, pm, oc, vs, t, e1, e2, e3, e4, e5⟩ := nf q hq
    exact ⟨o, doc, pm, X _ _ e1, e2, q.1 - 1, oc, vs, t, rfl, X _ _ e3, e4, e5⟩
  hd1 := c1
  hd2 := c2
  b4 := by
    obtain ⟨bm, ob, e1, _, e3, e4, e5, e6⟩ := T.bmain
    have n := mg_of X T.g (ng ("__builtins__", some (.ref 4)) (by decide))
    rw [n] at e1
    cases e1
    exact ⟨ob, e3, e4, e5, e6⟩

theorem Fm.hide {g h : Heap} {L : Addr} {m : Str → Option Value} {own : List (Addr × Obj)} (F : Fm g L h m own) : Fm (hideAll g [58, 51]) L h m own where
  ns := F.ns
  keep := fun b o e => F.keep b o (of_hideAll _ e)
  new := by
    cases q : (hideAll g [58, 51]).get? L with
    | none => rfl
    | some o => have := of_hideAll _ q; rw [F.new] at this; cases this
  has := fun p hp => by
    refine ⟨(F.has p hp).1, ?_, (F.has p hp).2.2⟩
    cases q : (hideAll g [58, 51]).get? p.1 with
    | none => rfl
    | some o => have := of_hideAll _ q; rw [(F.has p hp).2.1] at this; cases this
  nd := F.nd
  tab := F.tab
  t58 := F.t58
  t51 := F.t51

theorem law_top {prog : Program} {w : World} {s₁ : Shared} {fa l : Addr} {cd doc pm : Value} {o : Obj} {vs : List Value} {ns : List Int} {cw : ClaimW} {cl : Str → Option Addr} {mean : ExcName → Option Value} {args : List WData}
    (ho : s₁.heap.get? fa = some o) (hd : o.data = .func (PySem.Calls.docDef (stName (topAt 19)) (stParams (topAt 19)) (stBody (topAt 19)) (stScope (topAt 19)) pm cd doc)) (hcd : s₁.heap.CodeRec cd (stName (topAt 19))) (nolim : s₁.heap.NoLimit)
    (t51 : s₁.heap.get? 51 = some (tabObj #[])) (t58 : s₁.heap.get? 58 = some (tabObj #[])) (c1 : CodeHd s₁.heap 55 51) (c2 : CodeHd s₁.heap 62 58) (S : Stat0 (hideAll s₁.heap [58, 51]))
    (hl : (hideAll s₁.heap [58, 51]).IsList l vs.toArray) (hi : IntsAre vs ns) (hn : ns.length ≤ 63) (hg : s₁.gens = #[]) (hr : ∀ cls, cw.raises args cls = false) (hp : cw.post args (.bool true) args = true) :
    codeAny (model prog w) callerA (.call (.ref fa) ⟨[.ref l], []⟩) (GoodWG cw cl mean args s₁) s₁ := by
  have T : Tabs s₁.heap := ⟨⟨#[], t51, .inl rfl⟩, ⟨#[], t58, .inl rfl⟩⟩
  have n58 : (hideAll s₁.heap [58, 51]).get? 58 = none := hideAll_none _ (by simp)
  have n51 : (hideAll s₁.heap [58, 51]).get? 51 = none := hideAll_none _ (by simp)
  refine codeAny_call_cells (fd := PySem.Calls.docDef (stName (topAt 19)) (stParams (topAt 19)) (stBody (topAt 19)) (stScope (topAt 19)) pm cd doc) (body := lawB) (binds := [("script", .ref l)]) (by decide) ho hd nolim hcd rfl rfl rfl (kindsX (by rfl) _) (fun s₂ x => ?_)
  obtain ⟨h₁, tk, rfl⟩ := x.toInCall.same
  obtain ⟨F, hcells⟩ := cells_own T (get_size_none _) (by show ([Str.ofString "text", Str.ofString "base"] : List Str).Nodup; decide) x
  have F' := F.hide
  generalize hL : s₁.heap.objs.size = L at F' x hcells
  have dt : ((h₁.get? (L + 2)).getD default).data = .cell none := hcells "text" (L + 2) (.head _)
  have db : ((h₁.get? (L + 1)).getD default).data = .cell none := hcells "base" (L + 1) (.tail _ (.head _))
  replace F' : Fm (hideAll s₁.heap [58, 51]) L h₁ _ [(L + 2, (h₁.get? (L + 2)).getD default), (L + 1, (h₁.get? (L + 1)).getD default)] := F'
  have Sg : Stat (hideAll s₁.heap [58, 51]) := ⟨_, S, n58, n51, fun _ _ e => e⟩
  have hB : Bares s₁.gens := by rw [hg]; exact fun _ h => by simp at h
  have env : ∀ e, (callerA.deeper e).handled = none ∧ (callerA.deeper e).depth + 110 < recursionLimit ∧ (callerA.deeper e).units + 64 < cLine := fun e => by
    refine ⟨rfl, ?_, ?_⟩
    · show callerA.depth + 1 + 110 < recursionLimit
      decide
    · rw [units_deeper, units_caller]; decide
  refine law_all (fa := fa) (cd := cd) (sl := l) (env _).1 (env _).2.1 (env _).2.2 Sg ⟨n58, n51⟩ hl hi hn F' dt db rfl hB (fun h' tk' gens m' F'' hB' => ?_)
  refine ⟨.inl ⟨_, .bool true, [], rfl, hr, .bool true, hp, fun _ => ⟨List.nodup_nil, fun _ h => (nomatch h)⟩⟩, ⟨fun b o e => ?_, fun b o e => ?_⟩, rfl, hB'⟩
  · by_cases h58 : b = 58
    · subst h58
      rw [t58] at e
      cases e
      obtain ⟨ps, ep, _⟩ := F''.tab.2
      exact .inr (.inl ⟨(c2.tab t58).isCodeTable, rfl, #[], ps, rfl, by rw [Array.empty_append]; exact ep⟩)
    · by_cases h51 : b = 51
      · subst h51
        rw [t51] at e
        cases e
        obtain ⟨ps, ep, _⟩ := F''.tab.1
        exact .inr (.inl ⟨(c1.tab t51).isCodeTable, rfl, #[], ps, rfl, by rw [Array.empty_append]; exact ep⟩)
      · exact .inl (F''.keep b o (hideAll_get _ e (by simp [h58, h51])))
  · by_cases h58 : b = 58
    · subst h58
      obtain ⟨ps, ep, _⟩ := F''.tab.2
      exact ⟨_, ep⟩
    · by_cases h51 : b = 51
      · subst h51
        obtain ⟨ps, ep, _⟩ := F''.tab.1
        exact ⟨_, ep⟩
      · exact ⟨o, F''.keep b o (hideAll_get _ e (by simp [h58, h51]))⟩
end Mine

/-! Kf -/
set_option maxRecDepth 100000
namespace Mine
/-- the objects of the top that the proof looks at: the names, the defs, their code -/
noncomputable def Kf (P : Params) : Frag :=
  [(3, { cls := Value.type "dict", data := Data.dict #[{ hash := PyData.keyHash P (Str.ofString "__name__"), key := Value.str (Str.ofString "__name__") 165, val := Value.str (Str.ofString "law_ph0110_01") 300 }, { hash := PyData.keyHash P (Str.ofString "__doc__"), key := Value.str (Str.ofString "__doc__") 166, val := Value.none }, { hash := PyData.keyHash P (Str.ofString "__package__"), key := Value.str (Str.ofString "__package__") 167, val := Value.none }, { hash := PyData.keyHash P (Str.ofString "__loader__"), key := Value.str (Str.ofString "__loader__") 168, val := Value.builtin "__main__.__loader__#opaque" }, { hash := PyData.keyHash P (Str.ofString "__spec__"), key := Value.str (Str.ofString "__spec__") 169, val := Value.none }, { hash := PyData.keyHash P (Str.ofString "__annotations__"), key := Value.str (Str.ofString "__annotations__") 170, val := Value.ref 6 }, { hash := PyData.keyHash P (Str.ofString "__builtins__"), key := Value.str (Str.ofString "__builtins__") 171, val := Value.ref 4 }, { hash := PyData.keyHash P (Str.ofString "__file__"), key := Value.str (Str.ofString "__file__") 173, val := Value.str (Str.ofString "/claim/cut.py") 172 }, { hash := PyData.keyHash P (Str.ofString "__cached__"), key := Value.str (Str.ofString "__cached__") 174, val := Value.none }, { hash := PyData.keyHash P (Str.ofString "_strcoll"), key := Value.str (Str.ofString "_strcoll") 196, val := Value.ref 21 }, { hash := PyData.keyHash P (Str.ofString "CHAR_MAX"), key := Value.str (Str.ofString "CHAR_MAX") 198, val := Value.int 127 197 }, { hash := PyData.keyHash P (Str.ofString "_grouping_intervals"), key := Value.str (Str.ofString "_grouping_intervals") 207, val := Value.ref 28 }, { hash := PyData.keyHash P (Str.ofString "_strip_padding"), key := Value.str (Str.ofString "_strip_padding") 217, val := Value.ref 35 }, { hash := PyData.keyHash P (Str.ofString "_DIV_LIMIT"), key := Value.str (Str.ofString "_DIV_LIMIT") 221, val := Value.int 4000 220 }, { hash := PyData.keyHash P (Str.ofString "_div2n1n"), key := Value.str (Str.ofString "_div2n1n") 238, val := Value.ref 42 }, { hash := PyData.keyHash P (Str.ofString "_div3n2n"), key := Value.str (Str.ofString "_div3n2n") 252, val := Value.ref 49 }, { hash := PyData.keyHash P (Str.ofString "_int2digits"), key := Value.str (Str.ofString "_int2digits") 263, val := Value.ref 56 }, { hash := PyData.keyHash P (Str.ofString "_digits2int"), key := Value.str (Str.ofString "_digits2int") 274, val := Value.ref 63 }, { hash := PyData.keyHash P (Str.ofString "_divmod_pos"), key := Value.str (Str.ofString "_divmod_pos") 289, val := Value.ref 70 }, { hash := PyData.keyHash P (Str.ofString "int_divmod"), key := Value.str (Str.ofString "int_divmod") 299, val := Value.ref 77 }, { hash := PyData.keyHash P (Str.ofString "_law_cell"), key := Value.str (Str.ofString "_law_cell") 310, val := Value.ref 84 }, { hash := PyData.keyHash P (Str.ofString "_law_row"), key := Value.str (Str.ofString "_law_row") 316, val := Value.ref 89 }, { hash := PyData.keyHash P (Str.ofString "_law_text"), key := Value.str (Str.ofString "_law_text") 322, val := Value.ref 94 }, { hash := PyData.keyHash P (Str.ofString "_law_worth"), key := Value.str (Str.ofString "_law_worth") 332, val := Value.ref 101 }, { hash := PyData.keyHash P (Str.ofString "_law_cuts"), key := Value.str (Str.ofString "_law_cuts") 344, val := Value.ref 108 }, { hash := PyData.keyHash P (Str.ofString "law"), key := Value.str (Str.ofString "law") 350, val := Value.ref 113 }] 26 }),
    (20, { cls := Value.type "code", data := Data.fields #[Value.str (Str.ofString "_strcoll") 189, Value.str (Str.ofString "_strcoll") 190, Value.str (Str.ofString "/claim/cut.py") 191, Value.int 2 0, Value.int 2 0, Value.int 0 0, Value.int 0 0, Value.int 3 0, Value.ref 15, Value.bool true, Value.int 181 0, Value.ref 16, Value.none, Value.ref 17, Value.ref 18, Value.ref 19, Value.int 194 0, Value.int 2 0, Value.str (Str.ofString "/claim/cut.py") 195] }),
    (21, { cls := Value.type "function", data := Data.func (fdAt 1 21 Value.none (Value.str (Str.ofString "cpy313.locale") 187)) }),
    (27, { cls := Value.type "code", data := Data.fields #[Value.str (Str.ofString "_grouping_intervals") 199, Value.str (Str.ofString "_grouping_intervals") 200, Value.str (Str.ofString "/claim/cut.py") 201, Value.int 5 0, Value.int 1 0, Value.int 0 0, Value.int 0 0, Value.int 35 0, Value.ref 22, Value.bool true, Value.int 181 0, Value.ref 23, Value.none, Value.ref 24, Value.ref 25, Value.ref 26, Value.int 205 0, Value.int 5 0, Value.str (Str.ofString "/claim/cut.py") 206] }),
    (28, { cls := Value.type "function", data := Data.func (fdAt 3 28 Value.none (Value.str (Str.ofString "cpy313.locale") 187)) }),
    (34, { cls := Value.type "code", data := Data.fields #[Value.str (Str.ofString "_strip_padding") 208, Value.str (Str.ofString "_strip_padding") 209, Value.str (Str.ofString "/claim/cut.py") 210, Value.int 17 0, Value.int 2 0, Value.int 0 0, Value.int 0 0, Value.int 3 0, Value.ref 29, Value.bool true, Value.int 181 0, Value.ref 30, Value.none, Value.ref 31, Value.ref 32, Value.ref 33, Value.int 215 0, Value.int 17 0, Value.str (Str.ofString "/claim/cut.py") 216] }),
    (35, { cls := Value.type "function", data := Data.func (fdAt 4 35 Value.none (Value.str (Str.ofString "cpy313.locale") 187)) }),
    (41, { cls := Value.type "code", data := Data.fields #[Value.str (Str.ofString "_div2n1n") 222, Value.str (Str.ofString "_div2n1n") 223, Value.str (Str.ofString "/claim/cut.py") 224, Value.int 29 0, Value.int 3 0, Value.int 0 0, Value.int 0 0, Value.int 3 0, Value.ref 36, Value.bool true, Value.int 181 0, Value.ref 37, Value.none, Value.ref 38, Value.ref 39, Value.ref 40, Value.int 236 0, Value.int 29 0, Value.str (Str.ofString "/claim/cut.py") 237] }),
    (42, { cls := Value.type "function", data := Data.func (fdAt 7 42 Value.none (Value.str (Str.ofString "cpy313._pylong") 218)) }),
    (48, { cls := Value.type "code", data := Data.fields #[Value.str (Str.ofString "_div3n2n") 239, Value.str (Str.ofString "_div3n2n") 240, Value.str (Str.ofString "/claim/cut.py") 241, Value.int 45 0, Value.int 6 0, Value.int 0 0, Value.int 0 0, Value.int 3 0, Value.ref 43, Value.bool true, Value.int 181 0, Value.ref 44, Value.none, Value.ref 45, Value.ref 46, Value.ref 47, Value.int 250 0, Value.int 45 0, Value.str (Str.ofString "/claim/cut.py") 251] }),
    (49, { cls := Value.type "function", data := Data.func (fdAt 8 49 Value.none (Value.str (Str.ofString "cpy313._pylong") 218)) }),
    (55, { cls := Value.type "code", data := Data.fields #[Value.str (Str.ofString "_int2digits") 253, Value.str (Str.ofString "_int2digits") 254, Value.str (Str.ofString "/claim/cut.py") 255, Value.int 55 0, Value.int 2 0, Value.int 0 0, Value.int 0 0, Value.int 3 0, Value.ref 50, Value.bool true, Value.int 181 0, Value.ref 51, Value.none, Value.ref 52, Value.ref 53, Value.ref 54, Value.int 261 0, Value.int 55 0, Value.str (Str.ofString "/claim/cut.py") 262] }),
    (56, { cls := Value.type "function", data := Data.func (fdAt 9 56 Value.none (Value.str (Str.ofString "cpy313._pylong") 218)) }),
    (62, { cls := Value.type "code", data := Data.fields #[Value.str (Str.ofString "_digits2int") 264, Value.str (Str.ofString "_digits2int") 265, Value.str (Str.ofString "/claim/cut.py") 266, Value.int 71 0, Value.int 2 0, Value.int 0 0, Value.int 0 0, Value.int 3 0, Value.ref 57, Value.bool true, Value.int 181 0, Value.ref 58, Value.none, Value.ref 59, Value.ref 60, Value.ref 61, Value.int 272 0, Value.int 71 0, Value.str (Str.ofString "/claim/cut.py") 273] }),
    (63, { cls := Value.type "function", data := Data.func (fdAt 10 63 Value.none (Value.str (Str.ofString "cpy313._pylong") 218)) }),
    (69, { cls := Value.type "code", data := Data.fields #[Value.str (Str.ofString "_divmod_pos") 275, Value.str (Str.ofString "_divmod_pos") 276, Value.str (Str.ofString "/claim/cut.py") 277, Value.int 80 0, Value.int 2 0, Value.int 0 0, Value.int 0 0, Value.int 3 0, Value.ref 64, Value.bool true, Value.int 181 0, Value.ref 65, Value.none, Value.ref 66, Value.ref 67, Value.ref 68, Value.int 287 0, Value.int 80 0, Value.str (Str.ofString "/claim/cut.py") 288] }),
    (70, { cls := Value.type "function", data := Data.func (fdAt 11 70 Value.none (Value.str (Str.ofString "cpy313._pylong") 218)) }),
    (76, { cls := Value.type "code", data := Data.fields #[Value.str (Str.ofString "int_divmod") 290, Value.str (Str.ofString "int_divmod") 291, Value.str (Str.ofString "/claim/cut.py") 292, Value.int 91 0, Value.int 2 0, Value.int 0 0, Value.int 0 0, Value.int 3 0, Value.ref 71, Value.bool true, Value.int 181 0, Value.ref 72, Value.none, Value.ref 73, Value.ref 74, Value.ref 75, Value.int 297 0, Value.int 91 0, Value.str (Str.ofString "/claim/cut.py") 298] }),
    (77, { cls := Value.type "function", data := Data.func (fdAt 12 77 Value.none (Value.str (Str.ofString "cpy313._pylong") 218)) }),
    (83, { cls := Value.type "code", data := Data.fields #[Value.str (Str.ofString "_law_cell") 302, Value.str (Str.ofString "_law_cell") 303, Value.str (Str.ofString "/claim/cut.py") 304, Value.int 103 0, Value.int 3 0, Value.int 0 0, Value.int 0 0, Value.int 3 0, Value.ref 78, Value.bool true, Value.int 181 0, Value.ref 79, Value.none, Value.ref 80, Value.ref 81, Value.ref 82, Value.int 308 0, Value.int 103 0, Value.str (Str.ofString "/claim/cut.py") 309] }),
    (84, { cls := Value.type "function", data := Data.func (fdAt 14 84 Value.none (Value.str (Str.ofString "law_ph0110_01") 300)) }),
    (88, { cls := Value.type "code", data := Data.fields #[Value.str (Str.ofString "_law_row") 311, Value.str (Str.ofString "_law_row") 312, Value.str (Str.ofString "/claim/cut.py") 313, Value.int 107 0, Value.int 2 0, Value.int 0 0, Value.int 0 0, Value.int 3 0, Value.ref 85, Value.bool true, Value.int 181 0, Value.ref 86, Value.none, Value.none, Value.none, Value.ref 87, Value.int 314 0, Value.int 107 0, Value.str (Str.ofString "/claim/cut.py") 315] }),
    (89, { cls := Value.type "function", data := Data.func (fdAt 15 89 Value.none (Value.str (Str.ofString "law_ph0110_01") 300)) }),
    (93, { cls := Value.type "code", data := Data.fields #[Value.str (Str.ofString "_law_text") 317, Value.str (Str.ofString "_law_text") 318, Value.str (Str.ofString "/claim/cut.py") 319, Value.int 111 0, Value.int 1 0, Value.int 0 0, Value.int 0 0, Value.int 3 0, Value.ref 90, Value.bool true, Value.int 181 0, Value.ref 91, Value.none, Value.none, Value.none, Value.ref 92, Value.int 320 0, Value.int 111 0, Value.str (Str.ofString "/claim/cut.py") 321] }),
    (94, { cls := Value.type "function", data := Data.func (fdAt 16 94 Value.none (Value.str (Str.ofString "law_ph0110_01") 300)) }),
    (100, { cls := Value.type "code", data := Data.fields #[Value.str (Str.ofString "_law_worth") 323, Value.str (Str.ofString "_law_worth") 324, Value.str (Str.ofString "/claim/cut.py") 325, Value.int 113 0, Value.int 2 0, Value.int 0 0, Value.int 0 0, Value.int 3 0, Value.ref 95, Value.bool true, Value.int 181 0, Value.ref 96, Value.none, Value.ref 97, Value.ref 98, Value.ref 99, Value.int 330 0, Value.int 113 0, Value.str (Str.ofString "/claim/cut.py") 331] }),
    (101, { cls := Value.type "function", data := Data.func (fdAt 17 101 Value.none (Value.str (Str.ofString "law_ph0110_01") 300)) }),
    (107, { cls := Value.type "code", data := Data.fields #[Value.str (Str.ofString "_law_cuts") 333, Value.str (Str.ofString "_law_cuts") 334, Value.str (Str.ofString "/claim/cut.py") 335, Value.int 118 0, Value.int 3 0, Value.int 0 0, Value.int 0 0, Value.int 3 0, Value.ref 102, Value.bool true, Value.int 181 0, Value.ref 103, Value.none, Value.ref 104, Value.ref 105, Value.ref 106, Value.int 342 0, Value.int 118 0, Value.str (Str.ofString "/claim/cut.py") 343] }),
    (108, { cls := Value.type "function", data := Data.func (fdAt 18 108 Value.none (Value.str (Str.ofString "law_ph0110_01") 300)) })]
def KfAt : List Addr := [3, 20, 21, 27, 28, 34, 35, 41, 42, 48, 49, 55, 56, 62, 63, 69, 70, 76, 77, 83, 84, 88, 89, 93, 94, 100, 101, 107, 108]
end Mine

/-! K2 -/
set_option maxRecDepth 100000 in
set_option maxHeartbeats 8000000 in
theorem PySem.Challenge.cw_ph0110_01_holds : PySem.Challenge.rw_ph0110_01.Holds := by
  w_on
  o_law
  o_head (kmHook Mine.Kf Mine.KfAt (fun _ => by kernel_rfl) [58, 51])
  (case hw => w_witness2)
  intro w s₀ s₁ mg mb G Y fa o pm cd doc dV kV ho hd hcd hD hmg hg args vals as hpre hlay hrd hwl hlo
  have KX := km_in_of Y
  have hT8 := km_tabs_of Y
  have hT : TabsAt [(62, 58), (55, 51)] s₁.heap := List.forall_mem_cons.mpr ⟨⟨codeHd_of_K (c := 62) (P := 58) KX (by kernel_rfl), hT8 58 (by decide)⟩, List.forall_mem_cons.mpr ⟨⟨codeHd_of_K (c := 55) (P := 51) KX (by kernel_rfl), hT8 51 (by decide)⟩, fun _ h => nomatch h⟩⟩
  refine Ground.open G ?_
  intro T B D TE TW
  clear D TE TW B hmg
  have he := Dflts.none hD rfl
  subst he
  have he := Dflts.noKw hD
  subst he
  have hd' := fd_plain hd
  wrow_args hpre hlay hrd hwl hlo
  refine enter_call ?_
  have KG := ghost_K hT KX (by kernel_rfl)
  have TG := ghost_top hT T
  have CG := ghost_code hT
  have S : Mine.Stat0 (hideAll s₁.heap [58, 51]) := by
    refine Mine.stat0_of KG TG CG.2.1 CG.1 ?_ ?_ ?_
    · repeat (refine List.forall_mem_cons.mpr ⟨by kernel_rfl, ?_⟩)
      exact fun _ h => nomatch h
    · repeat (refine List.forall_mem_cons.mpr ⟨⟨by kernel_rfl, by decide⟩, ?_⟩)
      exact fun _ h => nomatch h
    · repeat (refine List.forall_mem_cons.mpr ⟨⟨_, _, _, _, _, _, rfl, rfl, rfl, rfl, rfl⟩, ?_⟩)
      exact fun _ h => nomatch h
  refine Mine.law_top ho hd' hcd (Top.nolimit T) (hT8 51 (by decide)) (hT8 58 (by decide)) (hT (55, 51) (by decide)).1 (hT (62, 58) (by decide)).1 S (ghost_list hT (by assumption)) (by assumption) (by omega) hg (fun _ => rfl) ?_
  wrow_post
