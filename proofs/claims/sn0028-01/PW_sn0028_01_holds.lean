import PyProof.Rows.All
import Wide.All
import OpenK.AllK
import Wide.FinOn
import PySem.Challenge.RW_sn0028_01
set_option Elab.async false
set_option linter.unusedVariables false
set_option compiler.extract_closed false
set_option genInjectivity false
set_option genSizeOfSpec false
open PySem PySem.W PyProof.Rows PySem.Calls
namespace Mine
local macro_rules | `(tactic| walk_at "u") => `(tactic| (with_unfolding_all ((repeat intro _); rfl)))
local macro_rules | `(tactic| walk_at "k") => `(tactic| decide +kernel)
local macro_rules | `(tactic| walk_at "q") => `(tactic| (intros; first | exact .inl ⟨_, _, by with_unfolding_all rfl⟩ | exact .inr (by with_unfolding_all rfl)))
section
/-- abstract values -/
inductive V where
  | none | bool (b : Bool) | int (i : Int) | str (s : List Nat) | tup (vs : List V) | ref (a : Addr) | val (v : Value)

mutual
inductive VR (h : Heap) : V → Value → Prop
  | none : VR h .none .none
  | bool (b : Bool) : VR h (.bool b) (.bool b)
  | int (i : Int) (t : Tok) : VR h (.int i) (.int i t)
  | str (s : List Nat) (t : Tok) : VR h (.str s) (.str ⟨s.toArray⟩ t)
  | ref (a : Addr) : VR h (.ref a) (.ref a)
  | val (v : Value) : VR h (.val v) v
  | tup {a : Addr} {n : Nat} {vs : List V} {items : List Value} : h.get? a = some { cls := .type "tuple", data := .seq items.toArray n } → VRs h vs items → VR h (.tup vs) (.ref a)
inductive VRs (h : Heap) : List V → List Value → Prop
  | nil : VRs h [] []
  | cons {v : V} {x : Value} {vs : List V} {xs : List Value} : VR h v x → VRs h vs xs → VRs h (v :: vs) (x :: xs)
end

/-- an object that may be changed by a run without harm to tuples and code objects -/
noncomputable def Soft (o : Obj) : Prop := (∀ items n, o.data = .seq items n → o.cls ≠ .type "tuple") ∧ ∀ vs, o.data = .fields vs → ∀ q t, vs[1]? ≠ some (.str q t)

mutual
theorem VR.mono {h h' : Heap} (k : ∀ a o, h.get? a = some o → ¬ Soft o → h'.get? a = some o) : ∀ {v : V} {x : Value}, VR h v x → VR h' v x
  | _, _, .none => .none
  | _, _, .bool b => .bool b
  | _, _, .int i t => .int i t
  | _, _, .str s t => .str s t
  | _, _, .ref a => .ref a
  | _, _, .val v => .val v
  | _, _, .tup e r => .tup (k _ _ e (fun s => s.1 _ _ rfl rfl)) (VRs.mono k r)
theorem VRs.mono {h h' : Heap} (k : ∀ a o, h.get? a = some o → ¬ Soft o → h'.get? a = some o) : ∀ {vs : List V} {xs : List Value}, VRs h vs xs → VRs h' vs xs
  | _, _, .nil => .nil
  | _, _, .cons a b => .cons (VR.mono k a) (VRs.mono k b)
end

theorem VRs.length {h : Heap} : ∀ {vs : List V} {xs : List Value}, VRs h vs xs → vs.length = xs.length
  | _, _, .nil => rfl
  | _, _, .cons _ r => by simp [r.length]
theorem VRs.append {h : Heap} : ∀ {vs ws : List V} {xs ys : List Value}, VRs h vs xs → VRs h ws ys → VRs h (vs ++ ws) (xs ++ ys)
  | _, _, _, _, .nil, b => b
  | _, _, _, _, .cons a r, b => .cons a (r.append b)
theorem VRs.get {h : Heap} : ∀ {vs : List V} {xs : List Value}, VRs h vs xs → ∀ {i : Nat} {v : V}, vs[i]? = some v → ∃ x, xs[i]? = some x ∧ VR h v x
  | _, _, .nil, _, _, e => by simp at e
  | _, _, .cons a r, 0, _, e => by simp at e; subst e; exact ⟨_, rfl, a⟩
  | _, _, .cons a r, i + 1, _, e => by simp at e; simpa using r.get e
theorem VRs.set {h : Heap} {v : V} {x : Value} (e : VR h v x) : ∀ {vs : List V} {xs : List Value}, VRs h vs xs → ∀ (i : Nat), VRs h (vs.set i v) (xs.set i x)
  | _, _, .nil, _ => .nil
  | _, _, .cons a r, 0 => .cons e r
  | _, _, .cons a r, i + 1 => .cons a (r.set e i)
theorem VRs.take {h : Heap} : ∀ {vs : List V} {xs : List Value}, VRs h vs xs → ∀ (i : Nat), VRs h (vs.take i) (xs.take i)
  | _, _, .nil, _ => by simp; exact .nil
  | _, _, .cons a r, 0 => .nil
  | _, _, .cons a r, i + 1 => .cons a (r.take i)
theorem VRs.drop {h : Heap} : ∀ {vs : List V} {xs : List Value}, VRs h vs xs → ∀ (i : Nat), VRs h (vs.drop i) (xs.drop i)
  | _, _, .nil, _ => by simp; exact .nil
  | _, _, .cons a r, 0 => .cons a r
  | _, _, .cons a r, i + 1 => r.drop i

/-- sets of small numbers, with their tables; dicts of numbers -/
abbrev TS := SetTable × Array Nat
noncomputable def keyE (e : Int × Value) : Nat := match e.2 with
  | .int k _ => k.toNat
  | _ => 0
noncomputable def OkE (e : Int × Value) : Prop := ∃ (k : Nat) (t : Tok), e = (hashInt k, .int (k : Int) t)
structure SetI (o : Obj) (x : TS) : Prop where
  exact_ : o.ExactSet
  data : ∃ es ep, o.data = .set es ep x.1 ∧ es.map keyE = x.2 ∧ ∀ e ∈ es.toList, OkE e
inductive PairsN : List (Int × Value) → List (Nat × Nat) → Prop
  | nil : PairsN [] []
  | cons {k v : Nat} {t : Tok} {kvs : List (Int × Value)} {m : List (Nat × Nat)} : PairsN kvs m → PairsN (((k : Int), .int (v : Int) t) :: kvs) ((k, v) :: m)
noncomputable def DictI (o : Obj) (m : List (Nat × Nat)) : Prop := ∃ kvs, PairsN kvs m ∧ ∀ (prog : Program) (w : World), o.IsDictOf (PySem.intKind prog w) kvs
/-- arena objects -/
inductive O where
  | list (vs : List V)
  | cell (v : Option V)
  | raw (o : Obj)
  | fn (o : Obj)
  | set (x : TS)
  | dict (m : List (Nat × Nat))

inductive OR (h : Heap) : O → Obj → Prop
  | list {n : Nat} {vs : List V} {items : List Value} : VRs h vs items → OR h (.list vs) { cls := .type "list", data := .seq items.toArray n }
  | cell0 {o : Obj} : o.data = .cell .none → OR h (.cell .none) o
  | cell1 {o : Obj} {v : V} {x : Value} : o.data = .cell (some x) → VR h v x → OR h (.cell (some v)) o
  | raw {o : Obj} : Soft o → OR h (.raw o) o
  | fn {o : Obj} {fd : FuncData} : o.data = .func fd → h.CodeRec fd.code fd.qualname → OR h (.fn o) o
  | set {o : Obj} {x : TS} : SetI o x → OR h (.set x) o
  | dict {o : Obj} {m : List (Nat × Nat)} : DictI o m → OR h (.dict m) o

theorem OR.mono {h h' : Heap} (k : ∀ a o, h.get? a = some o → ¬ Soft o → h'.get? a = some o) {x : O} {o : Obj} (r : OR h x o) : OR h' x o := by
  cases r with
  | list r => exact .list (r.mono k)
  | cell0 e => exact .cell0 e
  | cell1 e r => exact .cell1 e (r.mono k)
  | raw s => exact .raw s
  | set s => exact .set s
  | dict s => exact .dict s
  | fn e c => exact .fn e (by
    obtain ⟨c, o, vs, t, e1, e2, e3, e4⟩ := c
    exact ⟨c, o, vs, t, e1, k _ _ e2 (fun s => s.2 vs e3 _ _ e4), e3, e4⟩)

abbrev Ar := List (Addr × O)
noncomputable abbrev adr (ar : Ar) : List Addr := ar.map (·.1)

/-- what stays fixed through the run -/
structure Cx where
  prog : Program
  w : World
  base : Heap
  tabs : List (Addr × Addr)
  qual : Pos → Str
  gens : Array GenState
  os : OsState

noncomputable abbrev Cx.M (cx : Cx) : Model := model cx.prog cx.w
noncomputable abbrev Cx.tb (cx : Cx) : List Addr := cx.tabs.map (·.2)

noncomputable def TabOk (cx : Cx) (P : Addr) (h : Heap) : Prop :=
  ∃ ps, h.get? P = some (tabObj ps) ∧ TriplesOk ps.toList ∧ ∀ pos cv, codeAmong pos ps.toList = some cv → h.CodeRec cv (cx.qual pos)

structure HRel (cx : Cx) (ar : Ar) (s : Shared) : Prop where
  gens : s.gens = cx.gens
  os : s.os = cx.os
  keep : ∀ b o, cx.base.get? b = some o → s.heap.get? b = some o
  objs : ∀ p ∈ ar, ∃ o, s.heap.get? p.1 = some o ∧ OR s.heap p.2 o
  off : ∀ p ∈ ar, cx.base.get? p.1 = none ∧ p.1 ∉ cx.tb
  nodup : (adr ar).Nodup
  tabs : ∀ P ∈ cx.tb, TabOk cx P s.heap ∧ cx.base.get? P = none

structure Ext (mt : List Addr) (ar : Ar) (h : Heap) (ar' : Ar) (h' : Heap) : Prop where
  keep : ∀ b o, h.get? b = some o → b ∉ mt → b ∉ adr ar → h'.get? b = some o
  hard : ∀ b o, h.get? b = some o → ¬ Soft o → h'.get? b = some o
  new : ∀ a ∈ adr ar', a ∈ adr ar ∨ (h.get? a = none ∧ a ∉ mt)
  live : ∀ b, h.get? b ≠ none → b ∉ mt → h'.get? b ≠ none

theorem Ext.refl (mt : List Addr) (ar : Ar) (h : Heap) : Ext mt ar h ar h := ⟨fun _ _ e _ _ => e, fun _ _ e _ => e, fun _ m => .inl m, fun _ e _ => e⟩
theorem Ext.trans {mt : List Addr} {a b c : Ar} {h h' h'' : Heap} (x : Ext mt a h b h') (y : Ext mt b h' c h'') : Ext mt a h c h'' where
  keep := fun p o e hm ha => y.keep p o (x.keep p o e hm ha) hm fun hb => (x.new p hb).elim ha fun l => by rw [l.1] at e; cases e
  hard := fun p o e s => y.hard p o (x.hard p o e s) s
  new := fun p hp => (y.new p hp).elim (fun q => x.new p q) fun l => by
    by_cases ha : p ∈ adr a
    · exact .inl ha
    · refine .inr ⟨?_, l.2⟩
      cases q : h.get? p with
      | none => rfl
      | some o => have := x.keep p o q l.2 ha; rw [l.1] at this; cases this
  live := fun p e hm => y.live p (x.live p e hm) hm
theorem Ext.weaken {mt mt' : List Addr} {a b : Ar} {h h' : Heap} (x : Ext mt a h b h') (hm : ∀ p ∈ mt, p ∈ mt' ∨ h.get? p = none) (hm' : ∀ p ∈ mt', p ∈ mt ∨ (h.get? p).isSome = true) : Ext mt' a h b h' where
  keep := fun p o e h1 h2 => x.keep p o e (fun q => (hm p q).elim h1 fun l => by rw [l] at e; cases e) h2
  hard := x.hard
  new := fun p hp => (x.new p hp).imp id fun l => ⟨l.1, fun q => (hm' p q).elim l.2 fun z => by rw [l.1] at z; cases z⟩
  live := fun p e h1 => x.live p e fun q => (hm p q).elim h1 e
/-- fewer objects behind -/
theorem Ext.sub {mt : List Addr} {a b c : Ar} {h h' : Heap} (x : Ext mt a h b h') (hs : ∀ p ∈ adr c, p ∈ adr b) : Ext mt a h c h' := ⟨x.keep, x.hard, fun p hp => x.new p (hs p hp), x.live⟩

theorem HRel.sub {cx : Cx} {ar ar' : Ar} {s : Shared} (r : HRel cx ar s) (h : ar'.Sublist ar) : HRel cx ar' s where
  gens := r.gens
  os := r.os
  keep := r.keep
  objs := fun p hp => r.objs p (h.subset hp)
  off := fun p hp => r.off p (h.subset hp)
  nodup := r.nodup.sublist (h.map _)
  tabs := r.tabs

/-- one changed place, or none -/
structure Step (x : Addr) (h h' : Heap) : Prop where
  keep : ∀ b o, b ≠ x → h.get? b = some o → h'.get? b = some o
  soft : ∀ o, h.get? x = some o → Soft o
theorem Step.hard {x : Addr} {h h' : Heap} (st : Step x h h') : ∀ b o, h.get? b = some o → ¬ Soft o → h'.get? b = some o := fun b o e s =>
  st.keep b o (fun q => by subst q; exact s (st.soft o e)) e
theorem Step.push (h : Heap) (o : Obj) : Step h.objs.size h (h.push o) where
  keep := fun b o' _ e => Heap.get?_push_of_some _ e
  soft := fun o e => absurd (Heap.lt_size e) (Nat.lt_irrefl _)
theorem Step.sameBut {x : Addr} {h h' : Heap} (hs : Heap.SameBut x h h') (soft : ∀ o, h.get? x = some o → Soft o) : Step x h h' where
  keep := fun b o hb e => (hs.2 b hb).trans e
  soft := soft

theorem TabOk.step {cx : Cx} {P x : Addr} {h h' : Heap} (t : TabOk cx P h) (st : Step x h h') (hx : P ≠ x) : TabOk cx P h' := by
  obtain ⟨ps, e, ht, hc⟩ := t
  refine ⟨ps, st.keep _ _ hx e, ht, fun pos cv q => ?_⟩
  obtain ⟨c, o, vs, tk, e1, e2, e3, e4⟩ := hc pos cv q
  exact ⟨c, o, vs, tk, e1, st.hard _ _ e2 (fun s => s.2 vs e3 _ _ e4), e3, e4⟩

theorem HRel.step_off {cx : Cx} {ar : Ar} {s : Shared} {x : Addr} {h' : Heap} {tk : Nat} {dr : Drawn} (r : HRel cx ar s) (st : Step x s.heap h') (h1 : x ∉ adr ar) (h2 : x ∉ cx.tb) (h3 : cx.base.get? x = none) :
    HRel cx ar { s with heap := h', toks := tk, drawn := dr } where
  gens := r.gens
  os := r.os
  keep := fun b o e => st.keep b o (fun q => by rw [q, h3] at e; cases e) (r.keep b o e)
  objs := fun p hp => by
    obtain ⟨o, e, q⟩ := r.objs p hp
    exact ⟨o, st.keep _ _ (fun z => h1 (List.mem_map.mpr ⟨p, hp, z⟩)) e, q.mono st.hard⟩
  off := r.off
  nodup := r.nodup
  tabs := fun P hP => ⟨(r.tabs P hP).1.step st (fun q => h2 (q ▸ hP)), (r.tabs P hP).2⟩

theorem HRel.fresh {cx : Cx} {ar : Ar} {s : Shared} (r : HRel cx ar s) : s.heap.objs.size ∉ adr ar ∧ s.heap.objs.size ∉ cx.tb ∧ cx.base.get? s.heap.objs.size = none := by
  refine ⟨fun hm => ?_, fun hm => ?_, ?_⟩
  · obtain ⟨p, hp, e⟩ := List.mem_map.mp hm
    obtain ⟨o, q, _⟩ := r.objs p hp
    exact absurd (Heap.lt_size q) (by rw [e]; exact Nat.lt_irrefl _)
  · obtain ⟨⟨ps, q, _⟩, _⟩ := r.tabs _ hm
    exact absurd (Heap.lt_size q) (Nat.lt_irrefl _)
  · cases q : cx.base.get? s.heap.objs.size with
    | none => rfl
    | some o => exact absurd (Heap.lt_size (r.keep _ _ q)) (Nat.lt_irrefl _)

theorem HRel.mem_lt {cx : Cx} {ar : Ar} {s : Shared} (r : HRel cx ar s) {a : Addr} (h : a ∈ adr ar) : a < s.heap.objs.size := by
  obtain ⟨p, hp, rfl⟩ := List.mem_map.mp h
  obtain ⟨o, e, _⟩ := r.objs p hp
  exact Heap.lt_size e

/-- garbage: an object that the arena does not name -/
theorem HRel.push {cx : Cx} {ar : Ar} {s : Shared} (r : HRel cx ar s) (o : Obj) (tk : Nat) : HRel cx ar { s with heap := s.heap.push o, toks := tk } :=
  r.step_off (Step.push _ o) r.fresh.1 r.fresh.2.1 r.fresh.2.2

theorem HRel.toks {cx : Cx} {ar : Ar} {s : Shared} (r : HRel cx ar s) (tk : Nat) : HRel cx ar { s with toks := tk } := ⟨r.gens, r.os, r.keep, r.objs, r.off, r.nodup, r.tabs⟩

/-- an object joins the arena -/
theorem HRel.join {cx : Cx} {ar : Ar} {s : Shared} {a : Addr} {x : O} {o : Obj} (r : HRel cx ar s) (e : s.heap.get? a = some o) (q : OR s.heap x o) (h1 : a ∉ adr ar) (h2 : a ∉ cx.tb) (h3 : cx.base.get? a = none) : HRel cx ((a, x) :: ar) s where
  gens := r.gens
  os := r.os
  keep := r.keep
  objs := fun p hp => by
    rcases List.mem_cons.mp hp with rfl | hp
    · exact ⟨o, e, q⟩
    · exact r.objs p hp
  off := fun p hp => by
    rcases List.mem_cons.mp hp with rfl | hp
    · exact ⟨h3, h2⟩
    · exact r.off p hp
  nodup := List.nodup_cons.mpr ⟨h1, r.nodup⟩
  tabs := r.tabs

theorem HRel.alloc {cx : Cx} {ar : Ar} {s : Shared} {x : O} {o : Obj} (r : HRel cx ar s) (tk : Nat) (q : OR (s.heap.push o) x o) (hf : o.isFreed = false) :
    HRel cx ((s.heap.objs.size, x) :: ar) { s with heap := s.heap.push o, toks := tk } :=
  (r.push o tk).join (Heap.get?_push_size _ hf) q r.fresh.1 r.fresh.2.1 r.fresh.2.2

/-- an arena place, by position -/
inductive At (a : Addr) (x : O) : Ar → Prop
  | head {r : Ar} : At a x ((a, x) :: r)
  | tail {p : Addr × O} {r : Ar} : At a x r → At a x (p :: r)
theorem At.mem {a : Addr} {x : O} {ar : Ar} (h : At a x ar) : (a, x) ∈ ar := by
  induction h with
  | head => exact .head _
  | tail _ ih => exact .tail _ ih
inductive Put (a : Addr) (x y : O) : Ar → Ar → Prop
  | head {r : Ar} : Put a x y ((a, x) :: r) ((a, y) :: r)
  | tail {p : Addr × O} {r r' : Ar} : Put a x y r r' → Put a x y (p :: r) (p :: r')
theorem Put.adr {a : Addr} {x y : O} {l l' : Ar} (h : Put a x y l l') : adr l' = adr l := by
  induction h with
  | head => rfl
  | tail _ ih => simp only [List.map_cons, ih]
theorem Put.mem {a : Addr} {x y : O} {l l' : Ar} (h : Put a x y l l') : (a, x) ∈ l := by
  induction h with
  | head => exact .head _
  | tail _ ih => exact .tail _ ih
theorem Put.split {a : Addr} {x y : O} {l l' : Ar} (h : Put a x y l l') (nd : (Mine.adr l).Nodup) : ∀ p ∈ l', p = (a, y) ∨ (p ∈ l ∧ p.1 ≠ a) := by
  induction h with
  | head =>
    intro p hp
    rcases List.mem_cons.mp hp with rfl | hp
    · exact .inl rfl
    · exact .inr ⟨.tail _ hp, fun e => (List.nodup_cons.mp nd).1 (List.mem_map.mpr ⟨p, hp, e⟩)⟩
  | tail hr ih =>
    intro p hp
    rcases List.mem_cons.mp hp with rfl | hp
    · exact .inr ⟨.head _, fun e => (List.nodup_cons.mp nd).1 (List.mem_map.mpr ⟨_, hr.mem, e.symm⟩)⟩
    · rcases ih (List.nodup_cons.mp nd).2 p hp with h | h
      · exact .inl h
      · exact .inr ⟨.tail _ h.1, h.2⟩

/-- an arena object changes -/
theorem HRel.put {cx : Cx} {ar ar' : Ar} {s : Shared} {a : Addr} {x y : O} {h' : Heap} {tk : Nat} {dr : Drawn} {o' : Obj} (r : HRel cx ar s) (p : Put a x y ar ar') (st : Step a s.heap h') (e : h'.get? a = some o') (q : OR h' y o') :
    HRel cx ar' { s with heap := h', toks := tk, drawn := dr } where
  gens := r.gens
  os := r.os
  keep := fun b o e => st.keep b o (fun q => by rw [q, (r.off _ p.mem).1] at e; cases e) (r.keep b o e)
  objs := fun z hz => by
    rcases p.split r.nodup z hz with rfl | ⟨h1, h2⟩
    · exact ⟨o', e, q⟩
    · obtain ⟨o, e, q⟩ := r.objs z h1
      exact ⟨o, st.keep _ _ h2 e, q.mono st.hard⟩
  off := fun z hz => by
    rcases p.split r.nodup z hz with rfl | ⟨h1, h2⟩
    · exact (r.off (a, x) p.mem)
    · exact r.off z h1
  nodup := by rw [p.adr]; exact r.nodup
  tabs := fun P hP => ⟨(r.tabs P hP).1.step st (fun z => (r.off _ p.mem).2 (z ▸ hP)), (r.tabs P hP).2⟩

theorem Ext.step_off {mt : List Addr} {ar : Ar} {x : Addr} {h h' : Heap} (st : Step x h h') (hm : x ∈ mt ∨ h.get? x = none) : Ext mt ar h ar h' where
  keep := fun b o e h1 _ => st.keep b o (fun q => hm.elim (fun z => h1 (q ▸ z)) fun l => by rw [q, l] at e; cases e) e
  hard := st.hard
  new := fun _ m => .inl m
  live := fun b e h1 => by
    cases q : h.get? b with
    | none => exact absurd q e
    | some o => rw [st.keep b o (fun z => hm.elim (fun w => h1 (z ▸ w)) fun l => by rw [z, l] at q; cases q) q]; nofun
theorem Ext.put {mt : List Addr} {ar ar' : Ar} {a : Addr} {x y : O} {h h' : Heap} {o' : Obj} (st : Step a h h') (p : Put a x y ar ar') (ea : h'.get? a = some o') : Ext mt ar h ar' h' where
  keep := fun b o e _ h2 => st.keep b o (fun q => h2 (q ▸ List.mem_map.mpr ⟨_, p.mem, rfl⟩)) e
  hard := st.hard
  new := fun z m => .inl (p.adr ▸ m)
  live := fun b e _ => by
    by_cases hb : b = a
    · rw [hb, ea]; nofun
    · cases q : h.get? b with
      | none => exact absurd q e
      | some o => rw [st.keep b o hb q]; nofun
theorem size_none (h : Heap) : h.get? h.objs.size = none := by
  cases q : h.get? h.objs.size with
  | none => rfl
  | some o => exact absurd (Heap.lt_size q) (Nat.lt_irrefl _)
theorem Ext.alloc {mt : List Addr} {ar : Ar} {x : O} (h : Heap) (o : Obj) (hm : ∀ p ∈ mt, p < h.objs.size) : Ext mt ar h ((h.objs.size, x) :: ar) (h.push o) where
  keep := fun b o' e _ _ => Heap.get?_push_of_some _ e
  hard := fun b o' e _ => Heap.get?_push_of_some _ e
  new := fun z m => by
    rcases List.mem_cons.mp m with rfl | m
    · exact .inr ⟨size_none h, fun q => Nat.lt_irrefl _ (hm _ q)⟩
    · exact .inl m
  live := fun b e _ => by
    cases q : h.get? b with
    | none => exact absurd q e
    | some o => rw [Heap.get?_push_of_some _ q]; nofun
theorem Ext.push {mt : List Addr} {ar : Ar} (h : Heap) (o : Obj) : Ext mt ar h ar (h.push o) := .step_off (Step.push h o) (.inr (size_none h))

/-! ### frames -/
abbrev Loc := List (Str × Option V)
structure St where
  loc : Loc
  ar : Ar

/-- static facts of a frame -/
structure Fm where
  env : Env
  gl : List (Str × V)
  cl : List (Str × Addr)

structure LocR (env : Env) (loc : Loc) (h : Heap) : Prop where
  nodup : (loc.map (·.1)).Nodup
  kinds : ∀ p ∈ loc, env.kindOf p.1 = some .local
  ns : ∃ m, h.Ns env.locals m ∧ ∀ p ∈ loc, match p.2 with
    | some v => ∃ x, m p.1 = some x ∧ VR h v x
    | none => True

structure Rel (cx : Cx) (fm : Fm) (st : St) (s : Shared) : Prop where
  h : HRel cx st.ar s
  loc : LocR fm.env st.loc s.heap
  off : fm.env.locals ∉ adr st.ar ∧ fm.env.locals ∉ cx.tb ∧ cx.base.get? fm.env.locals = none
  fn : fm.env.scope.kind = .function
  cells : ∀ p ∈ fm.cl, fm.env.cells.lookup p.1 = some p.2 ∧ (fm.env.kindOf p.1 = some .cell ∨ fm.env.kindOf p.1 = some .free)
  globs : ∀ p ∈ fm.gl, ∀ (A : Around) (s : Shared) (Q : Value → Shared → Prop) (E : Value → Shared → Prop), (∀ b o, cx.base.get? b = some o → s.heap.get? b = some o) → (∀ x, VR s.heap p.2 x → Q x s) → wpAny cx.M A (loadName fm.env p.1) Q E s

noncomputable abbrev Fm.mt (cx : Cx) (fm : Fm) : List Addr := fm.env.locals :: cx.tb

theorem LocR.soft {env : Env} {loc : Loc} {h : Heap} (r : LocR env loc h) : ∀ o, h.get? env.locals = some o → Soft o := fun o e => by
  obtain ⟨m, ⟨o', es, ep, e', hd, _⟩, _⟩ := r.ns
  rw [e] at e'
  cases e'
  refine ⟨fun items n (q : o.data = .seq items n) => ?_, fun vs (q : o.data = .fields vs) => ?_⟩ <;> rw [hd] at q <;> cases q
end
section
noncomputable def Tr {α β : Type} (cx : Cx) (fm : Fm) (A : Around) (t : Sem α) (R : Heap → β → α → Prop) (st : St) (Q : β → St → Prop) : Prop :=
  ∀ (s : Shared) (Qr : α → Shared → Prop) (Er : Value → Shared → Prop), Rel cx fm st s →
    (∀ b st' s' a, Q b st' → Rel cx fm st' s' → R s'.heap b a → Ext (fm.mt cx) st.ar s.heap st'.ar s'.heap → Qr a s') → wpAny cx.M A t Qr Er s

inductive Fl where
  | next | brk | cont | ret (v : V)
inductive FlR (h : Heap) : Fl → Flow → Prop
  | next : FlR h .next .next
  | brk : FlR h .brk .brk
  | cont : FlR h .cont .cont
  | ret {v : V} {x : Value} : VR h v x → FlR h (.ret v) (.ret x)
noncomputable def BR (_ : Heap) (b b' : Bool) : Prop := b = b'
noncomputable def UR (_ : Heap) (_ _ : Unit) : Prop := True

section
variable (cx : Cx) (fm : Fm) (A : Around)
noncomputable def EV (e : PySem.Expr) (st : St) (Q : V → St → Prop) : Prop := Tr cx fm A (eval e fm.env) VR st Q
noncomputable def ET (e : PySem.Expr) (st : St) (Q : Bool → St → Prop) : Prop := Tr cx fm A (isTrue e fm.env (eval e fm.env)) BR st Q
noncomputable def EX (s : Stmt) (st : St) (Q : Fl → St → Prop) : Prop := Tr cx fm A (exec s fm.env) FlR st Q
noncomputable def EB (b : List Stmt) (st : St) (Q : Fl → St → Prop) : Prop := Tr cx fm A (execs b fm.env) FlR st Q
end

/-- an operation on values: for all that bear them -/
noncomputable def Op1 {α β : Type} (cx : Cx) (fm : Fm) (A : Around) (t : Value → Sem α) (R : Heap → β → α → Prop) (a : V) (st : St) (Q : β → St → Prop) : Prop :=
  ∀ (s : Shared) (x : Value) (Qr : α → Shared → Prop) (Er : Value → Shared → Prop), Rel cx fm st s → VR s.heap a x →
    (∀ b st' s' r, Q b st' → Rel cx fm st' s' → R s'.heap b r → Ext (fm.mt cx) st.ar s.heap st'.ar s'.heap → Qr r s') → wpAny cx.M A (t x) Qr Er s
noncomputable def Op2 {α β : Type} (cx : Cx) (fm : Fm) (A : Around) (t : Value → Value → Sem α) (R : Heap → β → α → Prop) (a b : V) (st : St) (Q : β → St → Prop) : Prop :=
  ∀ (s : Shared) (x y : Value) (Qr : α → Shared → Prop) (Er : Value → Shared → Prop), Rel cx fm st s → VR s.heap a x → VR s.heap b y →
    (∀ b st' s' r, Q b st' → Rel cx fm st' s' → R s'.heap b r → Ext (fm.mt cx) st.ar s.heap st'.ar s'.heap → Qr r s') → wpAny cx.M A (t x y) Qr Er s
noncomputable def Op3 {α β : Type} (cx : Cx) (fm : Fm) (A : Around) (t : Value → Value → Value → Sem α) (R : Heap → β → α → Prop) (a b c : V) (st : St) (Q : β → St → Prop) : Prop :=
  ∀ (s : Shared) (x y z : Value) (Qr : α → Shared → Prop) (Er : Value → Shared → Prop), Rel cx fm st s → VR s.heap a x → VR s.heap b y → VR s.heap c z →
    (∀ b st' s' r, Q b st' → Rel cx fm st' s' → R s'.heap b r → Ext (fm.mt cx) st.ar s.heap st'.ar s'.heap → Qr r s') → wpAny cx.M A (t x y z) Qr Er s

section
variable {cx : Cx} {fm : Fm} {A : Around} {st : St} {s : Shared}

theorem LocR.step {env : Env} {loc : Loc} {h h' : Heap} {x : Addr} (r : LocR env loc h) (st : Step x h h') (hx : env.locals ≠ x) : LocR env loc h' := by
  obtain ⟨m, ⟨o, es, ep, e, q⟩, hm⟩ := r.ns
  refine ⟨r.nodup, r.kinds, m, ⟨o, es, ep, st.keep _ _ hx e, q⟩, fun p hp => ?_⟩
  have := hm p hp
  revert this
  cases p.2 with
  | none => exact id
  | some v => exact fun ⟨x, e1, e2⟩ => ⟨x, e1, e2.mono st.hard⟩
theorem LocR.keep {env : Env} {loc : Loc} {h h' : Heap} (r : LocR env loc h) (k : ∀ o, h.get? env.locals = some o → h'.get? env.locals = some o) (hd : ∀ b o, h.get? b = some o → ¬ Soft o → h'.get? b = some o) : LocR env loc h' := by
  obtain ⟨m, ⟨o, es, ep, e, q⟩, hm⟩ := r.ns
  refine ⟨r.nodup, r.kinds, m, ⟨o, es, ep, k _ e, q⟩, fun p hp => ?_⟩
  have := hm p hp
  revert this
  cases p.2 with
  | none => exact id
  | some v => exact fun ⟨x, e1, e2⟩ => ⟨x, e1, e2.mono hd⟩

theorem Rel.toks (r : Rel cx fm st s) (tk : Nat) : Rel cx fm st { s with toks := tk } := ⟨r.h.toks tk, r.loc, r.off, r.fn, r.cells, r.globs⟩
theorem Rel.env_lt (r : Rel cx fm st s) : fm.env.locals < s.heap.objs.size := by
  obtain ⟨m, hn, _⟩ := r.loc.ns
  exact hn.lt
theorem Rel.base_env (r : Rel cx fm st s) : cx.base.get? fm.env.locals = none := r.off.2.2
theorem HRel.tb_lt {ar : Ar} (r : HRel cx ar s) : ∀ p ∈ cx.tb, p < s.heap.objs.size := fun p hp => by
  obtain ⟨⟨ps, e, _⟩, _⟩ := r.tabs p hp
  exact Heap.lt_size e
theorem Rel.mt_lt (r : Rel cx fm st s) : ∀ p ∈ fm.mt cx, p < s.heap.objs.size := fun p hp => by
  rcases List.mem_cons.mp hp with rfl | hp
  · exact r.env_lt
  · exact r.h.tb_lt p hp
theorem Rel.env_some (r : Rel cx fm st s) : (s.heap.get? fm.env.locals).isSome = true := by
  obtain ⟨m, ⟨o, es, ep, e, _⟩, _⟩ := r.loc.ns
  rw [e]; rfl
theorem Rel.push (r : Rel cx fm st s) (o : Obj) (tk : Nat) : Rel cx fm st { s with heap := s.heap.push o, toks := tk } :=
  ⟨r.h.push o tk, r.loc.step (Step.push _ o) (Nat.ne_of_lt r.env_lt), r.off, r.fn, r.cells, r.globs⟩
theorem Rel.alloc {x : O} {o : Obj} (r : Rel cx fm st s) (tk : Nat) (q : OR (s.heap.push o) x o) (hf : o.isFreed = false) :
    Rel cx fm { st with ar := (s.heap.objs.size, x) :: st.ar } { s with heap := s.heap.push o, toks := tk } :=
  ⟨r.h.alloc tk q hf, r.loc.step (Step.push _ o) (Nat.ne_of_lt r.env_lt), ⟨fun hm => (List.mem_cons.mp hm).elim (Nat.ne_of_lt r.env_lt) r.off.1, r.off.2⟩, r.fn, r.cells, r.globs⟩
theorem Rel.put {a : Addr} {x y : O} {ar' : Ar} {h' : Heap} {tk : Nat} {dr : Drawn} {o' : Obj} (r : Rel cx fm st s) (p : Put a x y st.ar ar') (stp : Step a s.heap h') (e : h'.get? a = some o') (q : OR h' y o') :
    Rel cx fm { st with ar := ar' } { s with heap := h', toks := tk, drawn := dr } :=
  ⟨r.h.put p stp e q, r.loc.step stp (fun z => r.off.1 (z ▸ List.mem_map.mpr ⟨_, p.mem, rfl⟩)), ⟨p.adr ▸ r.off.1, r.off.2⟩, r.fn, r.cells, r.globs⟩

theorem Rel.step_off {x : Addr} {h' : Heap} {tk : Nat} {dr : Drawn} (r : Rel cx fm st s) (stp : Step x s.heap h') (h1 : x ∉ adr st.ar) (h2 : x ∉ cx.tb) (h3 : cx.base.get? x = none) (h4 : fm.env.locals ≠ x) :
    Rel cx fm st { s with heap := h', toks := tk, drawn := dr } := ⟨r.h.step_off stp h1 h2 h3, r.loc.step stp h4, r.off, r.fn, r.cells, r.globs⟩

/-- dropping arena objects -/
theorem Rel.sub {ar' : Ar} (r : Rel cx fm st s) (h : ar'.Sublist st.ar) : Rel cx fm { st with ar := ar' } s :=
  ⟨r.h.sub h, r.loc, ⟨fun m => r.off.1 ((h.map _).subset m), r.off.2⟩, r.fn, r.cells, r.globs⟩

theorem Tr.mono {α β : Type} {t : Sem α} {R : Heap → β → α → Prop} {Q Q' : β → St → Prop} (h : Tr cx fm A t R st Q) (k : ∀ b st', Q b st' → Q' b st') : Tr cx fm A t R st Q' :=
  fun s Qr Er r kk => h s Qr Er r fun b st' s' a q => kk b st' s' a (k b st' q)

/-! names -/
theorem EV_loc {x : Str} {pos : Pos} {v : V} {Q : V → St → Prop} (hm : (x, some v) ∈ st.loc) (h : Q v st) (hd : (x == ("__debug__" : Str)) = false := by walk_at "k") : EV cx fm A (.Name x pos) st Q := fun s Qr Er r k => by
  obtain ⟨m, hn, hl⟩ := r.loc.ns
  obtain ⟨y, e, ry⟩ := hl _ hm
  exact wpAny_Name (wpAny_loadName_local r.fn (r.loc.kinds _ hm) hn e (k _ _ _ _ h r ry (.refl ..))) hd

theorem LN_cell {x : Str} {a : Addr} {v : V} {Q : V → St → Prop} (hc : (x, a) ∈ fm.cl) (hm : At a (.cell (some v)) st.ar) (h : Q v st) (hn : (x == ("__classdict__" : Str)) = false := by walk_at "k") : Tr cx fm A (loadName fm.env x) VR st Q := fun s Qr Er r k => by
  obtain ⟨e1, e2⟩ := r.cells _ hc
  obtain ⟨o, e, q⟩ := r.h.objs _ hm.mem
  cases q with
  | cell1 hd ry =>
    rcases e2 with e2 | e2
    · exact wpAny_loadName_cell r.fn e2 e1 ⟨o, e, hd⟩ (k _ _ _ _ h r ry (.refl ..))
    · exact wpAny_loadName_free r.fn e2 e1 ⟨o, e, hd⟩ (k _ _ _ _ h r ry (.refl ..)) hn
theorem EV_cell {x : Str} {pos : Pos} {a : Addr} {v : V} {Q : V → St → Prop} (hc : (x, a) ∈ fm.cl) (hm : At a (.cell (some v)) st.ar) (h : Q v st)
    (hn : (x == ("__classdict__" : Str)) = false := by walk_at "k") (hd : (x == ("__debug__" : Str)) = false := by walk_at "k") : EV cx fm A (.Name x pos) st Q := fun s Qr Er r k =>
  wpAny_Name (LN_cell hc hm h hn s Qr Er r k) hd

theorem EV_glob {x : Str} {pos : Pos} {v : V} {Q : V → St → Prop} (hm : (x, v) ∈ fm.gl) (h : Q v st) (hd : (x == ("__debug__" : Str)) = false := by walk_at "k") : EV cx fm A (.Name x pos) st Q := fun s Qr Er r k =>
  wpAny_Name (r.globs _ hm A s _ _ r.h.keep fun y ry => k _ _ _ _ h r ry (.refl ..)) hd

/-! constants -/
theorem EV_int {i : Int} {k : Nat} {pos : Pos} {Q : V → St → Prop} (h : Q (.int i) st) : EV cx fm A (.Constant (.int i) k pos) st Q := fun s Qr Er r kk =>
  wpAny_Constant_int (kk _ _ _ _ h (r.toks _) (.int _ _) (.refl ..))
theorem EV_str {x : Str} {l : List Nat} {k : Nat} {pos : Pos} {Q : V → St → Prop} (hs : x = ⟨l.toArray⟩) (h : Q (.str l) st) : EV cx fm A (.Constant (.str x) k pos) st Q := fun s Qr Er r kk =>
  wpAny_Constant_str (kk _ _ _ _ h (r.toks _) (hs ▸ .str _ _) (.refl ..))
theorem EV_none {k : Nat} {pos : Pos} {Q : V → St → Prop} (h : Q .none st) : EV cx fm A (.Constant .none k pos) st Q := fun s Qr Er r kk =>
  wpAny_Constant_none (kk _ _ _ _ h r .none (.refl ..))
theorem EV_bool {b : Bool} {k : Nat} {pos : Pos} {Q : V → St → Prop} (h : Q (.bool b) st) : EV cx fm A (.Constant (.bool b) k pos) st Q := fun s Qr Er r kk =>
  wpAny_Constant_bool (kk _ _ _ _ h r (.bool b) (.refl ..))

/-! operations -/
theorem EV_bin {l r : PySem.Expr} {op : Operator} {pos : Pos} {Q : V → St → Prop}
    (h : EV cx fm A l st fun a st1 => EV cx fm A r st1 fun b st2 => Op2 cx fm A (binaryOp op) VR a b st2 Q) : EV cx fm A (.BinOp l op r pos) st Q := fun s Qr Er rr k =>
  wpAny_BinOp (h s _ _ rr fun a st1 s1 x h1 r1 ra e1 => h1 s1 _ _ r1 fun b st2 s2 y h2 r2 rb e2 =>
    h2 s2 x y _ _ r2 (ra.mono e2.hard) rb fun v st3 s3 z h3 r3 rz e3 => k v st3 s3 z h3 r3 rz (e1.trans (e2.trans e3)))
theorem EV_cmp {l r : PySem.Expr} {op : CmpOp} {pos : Pos} {Q : V → St → Prop} (h : EV cx fm A l st fun a st1 => EV cx fm A r st1 fun b st2 => Op2 cx fm A (compareOp op) VR a b st2 Q)
    (hm : behindInMarks op r = false := by walk_at "u") : EV cx fm A (.Compare l [op] [r] pos) st Q := fun s Qr Er rr k =>
  wpAny_Compare1 (h s _ _ rr fun a st1 s1 x h1 r1 ra e1 => h1 s1 _ _ r1 fun b st2 s2 y h2 r2 rb e2 =>
    h2 s2 x y _ _ r2 (ra.mono e2.hard) rb fun v st3 s3 z h3 r3 rz e3 => k v st3 s3 z h3 r3 rz (e1.trans (e2.trans e3))) hm
theorem ET_cmp {l r : PySem.Expr} {op : CmpOp} {pos : Pos} {Q : Bool → St → Prop} (h : EV cx fm A l st fun a st1 => EV cx fm A r st1 fun b st2 => Op2 cx fm A (compareOp op) VR a b st2 fun c st3 => ∃ t, c = .bool t ∧ Q t st3)
    (hm : behindInMarks op r = false := by walk_at "u") : ET cx fm A (.Compare l [op] [r] pos) st Q := fun s Qr Er rr k =>
  wpAny_isTrue_Compare1 (h s _ _ rr fun a st1 s1 x h1 r1 ra e1 => h1 s1 _ _ r1 fun b st2 s2 y h2 r2 rb e2 =>
    h2 s2 x y _ _ r2 (ra.mono e2.hard) rb fun v st3 s3 z h3 r3 rz e3 => by
      obtain ⟨t, rfl, h3⟩ := h3
      cases rz
      exact wpAny_truthy_bool (k t st3 s3 t h3 r3 rfl (e1.trans (e2.trans e3)))) hm
theorem ET_plain {e : PySem.Expr} {Q : Bool → St → Prop} (h : EV cx fm A e st fun v st1 => Op1 cx fm A truthy BR v st1 Q)
    (he : ∀ env whole, isTrue e env whole = (do let v ← whole; standAt e.pos; holding [v] (truthy v)) := by walk_at "u") : ET cx fm A e st Q := fun s Qr Er r k =>
  isTrue_plain (h s _ _ r fun v st1 s1 x h1 r1 rv e1 => h1 s1 x _ _ r1 rv fun b st2 s2 c h2 r2 rb e2 => k b st2 s2 c h2 r2 rb (e1.trans e2)) (he _ _)
theorem ET_not {x : PySem.Expr} {pos : Pos} {Q : Bool → St → Prop} (h : ET cx fm A x st fun b st1 => Q (!b) st1) : ET cx fm A (.UnaryOp .Not x pos) st Q := fun s Qr Er r k =>
  isTrue_not (h s _ _ r fun b st1 s1 c h1 r1 rb e1 => by cases rb; exact k _ _ _ _ h1 r1 rfl e1)
theorem ET_or2 {x y : PySem.Expr} {pos : Pos} {Q : Bool → St → Prop} (h : ET cx fm A x st fun b st1 => if b = true then Q true st1 else ET cx fm A y st1 Q) : ET cx fm A (.BoolOp .Or [x, y] pos) st Q := fun s Qr Er r k => by
  show wpAny cx.M A (allTrue .Or [x, y] fm.env) Qr Er s
  rw [arm_allTrue_cons]
  refine wpAny_bind (h s _ _ r fun b st1 s1 c h1 r1 rb e1 => ?_)
  cases rb
  cases b with
  | true => exact wpAny_pure (k _ _ _ _ h1 r1 rfl e1)
  | false =>
    show wpAny cx.M A (allTrue .Or [y] fm.env) Qr Er s1
    rw [arm_allTrue_cons]
    refine wpAny_bind (h1 s1 _ _ r1 fun b st2 s2 c h2 r2 rb e2 => ?_)
    cases rb
    cases b with
    | true => exact wpAny_pure (k _ _ _ _ h2 r2 rfl (e1.trans e2))
    | false => exact wpAny_pure (k _ _ _ _ h2 r2 rfl (e1.trans e2))
theorem EV_ifexp {t b o : PySem.Expr} {pos : Pos} {Q : V → St → Prop} (h : ET cx fm A t st fun c st1 => if c = true then EV cx fm A b st1 Q else EV cx fm A o st1 Q) : EV cx fm A (.IfExp t b o pos) st Q := fun s Qr Er r k =>
  wpAny_IfExp (h s _ _ r fun c st1 s1 d h1 r1 rc e1 => by
    cases rc
    cases c with
    | true => exact h1 s1 _ _ r1 fun v st2 s2 x h2 r2 rv e2 => k v st2 s2 x h2 r2 rv (e1.trans e2)
    | false => exact h1 s1 _ _ r1 fun v st2 s2 x h2 r2 rv e2 => k v st2 s2 x h2 r2 rv (e1.trans e2))
theorem EV_un {x : PySem.Expr} {op : UnaryOp} {pos : Pos} {Q : V → St → Prop} (h : EV cx fm A x st fun a st1 => Op1 cx fm A (unaryOp op) VR a st1 Q) : EV cx fm A (.UnaryOp op x pos) st Q := fun s Qr Er r k =>
  wpAny_UnaryOp (h s _ _ r fun a st1 s1 y h1 r1 ra e1 => h1 s1 y _ _ r1 ra fun b st2 s2 c h2 r2 rb e2 => k b st2 s2 c h2 r2 rb (e1.trans e2))

/-! statements -/
noncomputable def thenB (cx : Cx) (fm : Fm) (A : Around) (rest : List Stmt) (Q : Fl → St → Prop) : Fl → St → Prop
  | .next, st => EB cx fm A rest st Q
  | f, st => Q f st
theorem thenB_next {rest : List Stmt} {Q : Fl → St → Prop} (h : EB cx fm A rest st Q) : thenB cx fm A rest Q .next st := h
theorem thenB_ret {rest : List Stmt} {Q : Fl → St → Prop} {v : V} (h : Q (.ret v) st) : thenB cx fm A rest Q (.ret v) st := h
theorem thenB_cont {rest : List Stmt} {Q : Fl → St → Prop} (h : Q .cont st) : thenB cx fm A rest Q .cont st := h
theorem ite_ndec {p : Prop} [Decidable p] {P R : Prop} (h1 : ¬ p → P) (h2 : p → R) : if (!decide p) = true then P else R := by
  by_cases h : p
  · simp only [h, decide_true, Bool.not_true, Bool.false_eq_true, if_false]; exact h2 h
  · simp only [h, decide_false, Bool.not_false, if_true]; exact h1 h
theorem ite_tt {P R : Prop} (h : P) : if true = true then P else R := by simpa using h
theorem ite_ff {P R : Prop} (h : R) : if false = true then P else R := by simpa using h
theorem EB_nil {Q : Fl → St → Prop} (h : Q .next st) : EB cx fm A [] st Q := fun s Qr Er r k => wpAny_execs_nil (k _ _ _ _ h r .next (.refl ..))
theorem EB_cons {x : Stmt} {rest : List Stmt} {Q : Fl → St → Prop} (h : EX cx fm A x st (thenB cx fm A rest Q)) : EB cx fm A (x :: rest) st Q := fun s Qr Er r k =>
  wpAny_execs_cons (h s _ _ r fun f st1 s1 g h1 r1 rf e1 => by
    cases rf with
    | next => exact h1 s1 _ _ r1 fun f st2 s2 g h2 r2 rf e2 => k f st2 s2 g h2 r2 rf (e1.trans e2)
    | brk => exact k _ _ _ _ h1 r1 .brk e1
    | cont => exact k _ _ _ _ h1 r1 .cont e1
    | ret q => exact k _ _ _ _ h1 r1 (.ret q) e1)
theorem EX_if {t : PySem.Expr} {b o : List Stmt} {pos : Pos} {Q : Fl → St → Prop} (h : ET cx fm A t st fun c st1 => if c = true then EB cx fm A b st1 Q else EB cx fm A o st1 Q) : EX cx fm A (.If t b o pos) st Q := fun s Qr Er r k =>
  wpAny_If (h s _ _ r fun c st1 s1 d h1 r1 rc e1 => by
    cases rc
    cases c with
    | true => exact h1 s1 _ _ r1 fun v st2 s2 x h2 r2 rv e2 => k v st2 s2 x h2 r2 rv (e1.trans e2)
    | false => exact h1 s1 _ _ r1 fun v st2 s2 x h2 r2 rv e2 => k v st2 s2 x h2 r2 rv (e1.trans e2))
theorem EX_ret {e : PySem.Expr} {pos : Pos} {Q : Fl → St → Prop} (h : EV cx fm A e st fun v st1 => Q (.ret v) st1) : EX cx fm A (.Return (some e) pos) st Q := fun s Qr Er r k =>
  wpAny_Return_some (h s _ _ r fun v st1 s1 x h1 r1 rv e1 => k _ _ _ _ h1 r1 (.ret rv) e1)
theorem EX_ret0 {pos : Pos} {Q : Fl → St → Prop} (h : Q (.ret .none) st) : EX cx fm A (.Return none pos) st Q := fun s Qr Er r k =>
  wpAny_Return_none (k _ _ _ _ h r (.ret .none) (.refl ..))
theorem EX_cont {pos : Pos} {Q : Fl → St → Prop} (h : Q .cont st) : EX cx fm A (.Continue pos) st Q := fun s Qr Er r k => wpAny_Continue (k _ _ _ _ h r .cont (.refl ..))
theorem EX_assert {t : PySem.Expr} {pos : Pos} {Q : Fl → St → Prop} (hA : A.handled = none) (h : ET cx fm A t st fun b st1 => b = true ∧ Q .next st1) : EX cx fm A (.Assert t none pos) st Q := fun s Qr Er r k =>
  wpAny_Assert_new hA (h s _ _ r fun c st1 s1 d h1 r1 rc e1 => by
    obtain ⟨rfl, h1⟩ := h1
    cases rc
    exact k _ _ _ _ h1 r1 .next e1)

/-! stores of names -/
inductive PutL (x : Str) (v : V) : Loc → Loc → Prop
  | head {u : Option V} {r : Loc} : PutL x v ((x, u) :: r) ((x, some v) :: r)
  | tail {p : Str × Option V} {r r' : Loc} : PutL x v r r' → PutL x v (p :: r) (p :: r')
theorem PutL.names {x : Str} {v : V} {l l' : Loc} (h : PutL x v l l') : l'.map (·.1) = l.map (·.1) := by
  induction h with
  | head => rfl
  | tail _ ih => simp only [List.map_cons, ih]
theorem PutL.mem {x : Str} {v : V} {l l' : Loc} (h : PutL x v l l') : ∃ u, (x, u) ∈ l := by
  induction h with
  | head => exact ⟨_, .head _⟩
  | tail _ ih => exact ih.imp fun _ q => .tail _ q
theorem PutL.split {x : Str} {v : V} {l l' : Loc} (h : PutL x v l l') (nd : (l.map (·.1)).Nodup) : ∀ p ∈ l', p = (x, some v) ∨ (p ∈ l ∧ p.1 ≠ x) := by
  induction h with
  | head =>
    intro p hp
    rcases List.mem_cons.mp hp with rfl | hp
    · exact .inl rfl
    · exact .inr ⟨.tail _ hp, fun e => (List.nodup_cons.mp nd).1 (List.mem_map.mpr ⟨p, hp, e⟩)⟩
  | tail hr ih =>
    intro p hp
    rcases List.mem_cons.mp hp with rfl | hp
    · refine .inr ⟨.head _, fun e => ?_⟩
      obtain ⟨u, hu⟩ := hr.mem
      exact (List.nodup_cons.mp nd).1 (List.mem_map.mpr ⟨_, hu, e.symm⟩)
    · rcases ih (List.nodup_cons.mp nd).2 p hp with h | h
      · exact .inl h
      · exact .inr ⟨.tail _ h.1, h.2⟩

/-- storing a name -/
abbrev SNm (cx : Cx) (fm : Fm) (A : Around) (x : Str) (v : V) (st : St) (Q : St → Prop) : Prop := Op1 cx fm A (storeName fm.env x) UR v st (fun _ => Q)

theorem SN_loc {x : Str} {v : V} {loc' : Loc} {Q : St → Prop} (p : PutL x v st.loc loc') (h : Q { st with loc := loc' }) : SNm cx fm A x v st Q := fun s y Qr Er r ry k => by
  obtain ⟨m, hn, hl⟩ := r.loc.ns
  obtain ⟨u, hu⟩ := p.mem
  refine wpAny_storeName_local (r.loc.kinds _ hu) hn (fun h' hn' hs => ?_) (by rw [r.fn]; rfl)
  have stp : Step fm.env.locals s.heap h' := Step.sameBut hs r.loc.soft
  refine k () { st with loc := loc' } _ () h ⟨r.h.step_off (dr := s.drawn) stp r.off.1 r.off.2.1 r.base_env, ⟨?_, fun p' hp => ?_, _, hn', fun p' hp => ?_⟩, r.off, r.fn, r.cells, r.globs⟩ trivial (Ext.step_off stp (.inl (.head _)))
  · rw [p.names]; exact r.loc.nodup
  · rcases p.split r.loc.nodup p' hp with rfl | ⟨h1, _⟩
    · exact (r.loc.kinds (x, u) hu)
    · exact r.loc.kinds _ h1
  · rcases p.split r.loc.nodup p' hp with rfl | ⟨h1, h2⟩
    · exact ⟨y, if_pos rfl, ry.mono stp.hard⟩
    · have := hl p' h1
      revert this
      cases p'.2 with
      | none => exact id
      | some v => exact fun ⟨z, e1, e2⟩ => ⟨z, by rw [if_neg h2]; exact e1, e2.mono stp.hard⟩
theorem SN_cell {x : Str} {a : Addr} {u : Option V} {v : V} {ar' : Ar} {Q : St → Prop} (hc : (x, a) ∈ fm.cl) (p : Put a (.cell u) (.cell (some v)) st.ar ar') (h : Q { st with ar := ar' }) (hk : fm.env.kindOf x = some .cell) : SNm cx fm A x v st Q := fun s y Qr Er r ry k => by
  obtain ⟨e1, _⟩ := r.cells _ hc
  obtain ⟨o, e, q⟩ := r.h.objs _ p.mem
  obtain ⟨w, hd⟩ : ∃ w, o.data = .cell w := by
    cases q with
    | cell0 hd => exact ⟨_, hd⟩
    | cell1 hd _ => exact ⟨_, hd⟩
  refine wpAny_storeName_cell r.fn hk e1 ⟨o, e, hd⟩ fun h' hcell hs => ?_
  have stp : Step a s.heap h' := Step.sameBut hs fun o' e' => by
    rw [e] at e'
    cases e'
    refine ⟨fun items n (q : o.data = .seq items n) => ?_, fun vs (q : o.data = .fields vs) => ?_⟩ <;> rw [hd] at q <;> cases q
  obtain ⟨o', e', hd'⟩ := hcell
  exact k () { st with ar := ar' } _ () h (r.put (dr := s.drawn) p stp e' (.cell1 hd' (ry.mono stp.hard))) trivial (Ext.put stp p e')

theorem EX_assign {x : Str} {px : Pos} {e : PySem.Expr} {pos : Pos} {Q : Fl → St → Prop} (h : EV cx fm A e st fun v st1 => SNm cx fm A x v st1 (Q .next))
    (hs : ∀ env, swapsWith e (some (.Name x px)) pos.line env = pure false := by walk_at "u") : EX cx fm A (.Assign [.Name x px] e pos) st Q := fun s Qr Er r k =>
  wpAny_Assign_Name (h s _ _ r fun v st1 s1 y h1 r1 rv e1 => h1 s1 y _ _ r1 rv fun _ st2 s2 _ h2 r2 _ e2 => k _ _ _ _ h2 r2 .next (e1.trans e2)) (hs _)
theorem EX_aug {x : Str} {px : Pos} {op : Operator} {e : PySem.Expr} {pos : Pos} {old : V} {Q : Fl → St → Prop} (hm : (x, some old) ∈ st.loc)
    (h : EV cx fm A e st fun v st1 => Op2 cx fm A (inplaceOp op) VR old v st1 fun n st2 => SNm cx fm A x n st2 (Q .next)) : EX cx fm A (.AugAssign (.Name x px) op e pos) st Q := fun s Qr Er r k => by
  obtain ⟨m, hn, hl⟩ := r.loc.ns
  obtain ⟨y, ey, ry⟩ := hl _ hm
  refine wpAny_AugAssign_Name (wpAny_loadName_local r.fn (r.loc.kinds _ hm) hn ey (h s _ _ r fun v st1 s1 x1 h1 r1 rv e1 => ?_))
  exact h1 s1 y x1 _ _ r1 (ry.mono e1.hard) rv fun n st2 s2 x2 h2 r2 rn e2 => h2 s2 x2 _ _ r2 rn fun _ st3 s3 _ h3 r3 _ e3 => k _ _ _ _ h3 r3 .next (e1.trans (e2.trans e3))
end
end
section
noncomputable abbrev nt (n : Nat) : V := .int (n : Int)

theorem xor_and_nat : ∀ x y : Nat, (x ^^^ y) + 2 * (x &&& y) = x + y := by
  intro x
  induction x using Nat.strongRecOn with
  | ind x ih =>
    intro y
    by_cases hx : x = 0
    · subst hx; simp
    · have h1 := ih (x / 2) (by omega) (y / 2)
      have e1 : (x ^^^ y) / 2 = (x / 2) ^^^ (y / 2) := Nat.xor_div_two
      have e2 : (x &&& y) / 2 = (x / 2) &&& (y / 2) := Nat.and_div_two
      have e3 : (x ^^^ y) % 2 = (x % 2) ^^^ (y % 2) := Nat.xor_mod_two_pow (n := 1)
      have e4 : (x &&& y) % 2 = (x % 2) &&& (y % 2) := Nat.and_mod_two_pow (n := 1)
      have hx2 : x % 2 = 0 ∨ x % 2 = 1 := by omega
      have hy2 : y % 2 = 0 ∨ y % 2 = 1 := by omega
      have e5 : ((x % 2) ^^^ (y % 2)) + 2 * ((x % 2) &&& (y % 2)) = x % 2 + y % 2 := by
        rcases hx2 with a | a <;> rcases hy2 with b | b <;> rw [a, b] <;> rfl
      omega
theorem bitAnd_nat (x y : Nat) : Builtin.bitAnd (x : Int) (y : Int) = ((x &&& y : Nat) : Int) := by
  unfold Builtin.bitAnd
  simp
theorem bitXor_nat (x y : Nat) : Builtin.bitXor (x : Int) (y : Int) = ((x ^^^ y : Nat) : Int) := by
  rw [bitXor_and, bitAnd_nat]
  have := xor_and_nat x y
  omega
noncomputable def bits (n : Nat) : Nat := if n = 0 then 0 else n.log2 + 1
theorem intBits_nat (x : Nat) : Builtin.Int.intBits (x : Int) = bits x := by
  unfold Builtin.Int.intBits bits
  by_cases h : x = 0
  · subst h; rfl
  · rw [if_neg h, if_neg (by simpa using h)]; simp
theorem bits_lt {x k : Nat} (h : x < 2 ^ k) : bits x ≤ k := by
  unfold bits
  split
  · omega
  · have := Nat.log2_lt (n := x) (k := k) (by omega)
    have := this.mpr h
    omega

section
variable {cx : Cx} {fm : Fm} {A : Around} {st : St}

theorem Op2.pure_int {t : Value → Value → Sem Value} {a b v : Int} {Q : V → St → Prop}
    (h : ∀ (s : Shared) (u w : Tok) (Qr : Value → Shared → Prop) (Er : Value → Shared → Prop), Qr (.int v s.toks) { s with toks := s.toks + 1 } → wpAny cx.M A (t (.int a u) (.int b w)) Qr Er s) (k : Q (.int v) st) : Op2 cx fm A t VR (.int a) (.int b) st Q := fun s x y Qr Er r rx ry kk => by
  cases rx
  cases ry
  exact h s _ _ _ _ (kk _ _ _ _ k (r.toks _) (.int _ _) (.refl ..))
theorem Op2.pure_bool {t : Value → Value → Sem Value} {a b : Int} {v : Bool} {Q : V → St → Prop}
    (h : ∀ (s : Shared) (u w : Tok) (Qr : Value → Shared → Prop) (Er : Value → Shared → Prop), Qr (.bool v) s → wpAny cx.M A (t (.int a u) (.int b w)) Qr Er s) (k : Q (.bool v) st) : Op2 cx fm A t VR (.int a) (.int b) st Q := fun s x y Qr Er r rx ry kk => by
  cases rx
  cases ry
  exact h s _ _ _ _ (kk _ _ _ _ k r (.bool _) (.refl ..))

variable {Q : V → St → Prop} {a b : Nat}
theorem O_add (h : Q (nt (a + b)) st) : Op2 cx fm A (binaryOp .Add) VR (nt a) (nt b) st Q := .pure_int (v := (a : Int) + b) (fun s u w Qr Er k => by with_reducible exact P.add_int k) (by simpa [nt] using h)
theorem O_iadd (h : Q (nt (a + b)) st) : Op2 cx fm A (inplaceOp .Add) VR (nt a) (nt b) st Q := .pure_int (v := (a : Int) + b) (fun s u w Qr Er k => by with_reducible exact P.iadd_int k) (by simpa [nt] using h)
theorem O_sub (hb : b ≤ a) (h : Q (nt (a - b)) st) : Op2 cx fm A (binaryOp .Sub) VR (nt a) (nt b) st Q := .pure_int (v := (a : Int) - b) (fun s u w Qr Er k => by with_reducible exact P.sub_int k) (by
  have : ((a : Int) - (b : Int)) = ((a - b : Nat) : Int) := by omega
  rw [this]; exact h)
theorem O_isub (hb : b ≤ a) (h : Q (nt (a - b)) st) : Op2 cx fm A (inplaceOp .Sub) VR (nt a) (nt b) st Q := .pure_int (v := (a : Int) - b) (fun s u w Qr Er k => by with_reducible exact P.isub_int k) (by
  have : ((a : Int) - (b : Int)) = ((a - b : Nat) : Int) := by omega
  rw [this]; exact h)
theorem mul_ok (hb : b < 2 ^ 64 ∨ a < 2 ^ 64) : IntMulOk (a : Int) (b : Int) :=
  hb.elim (fun h => .of_right (by rw [intBits_nat]; exact bits_lt h)) fun h => .of_left (by rw [intBits_nat]; exact bits_lt h)
theorem O_mul (hb : b < 2 ^ 64 ∨ a < 2 ^ 64) (h : Q (nt (a * b)) st) : Op2 cx fm A (binaryOp .Mult) VR (nt a) (nt b) st Q := .pure_int (v := (a : Int) * b) (fun s u w Qr Er k => by with_reducible exact P.mul_int k (mul_ok hb)) (by simpa [nt] using h)
theorem O_imul (hb : b < 2 ^ 64 ∨ a < 2 ^ 64) (h : Q (nt (a * b)) st) : Op2 cx fm A (inplaceOp .Mult) VR (nt a) (nt b) st Q := .pure_int (v := (a : Int) * b) (fun s u w Qr Er k => by with_reducible exact P.imul_int k (mul_ok hb)) (by simpa [nt] using h)
theorem O_fdiv (hb : b ≠ 0) (hb2 : b < 1073741824) (h : Q (nt (a / b)) st) : Op2 cx fm A (binaryOp .FloorDiv) VR (nt a) (nt b) st Q :=
  .pure_int (v := (a : Int).fdiv b) (fun s u w Qr Er k => by with_reducible exact floordiv_int (by omega) k (.inl (PyProof.noPylong_small (by omega)))) (by
    rw [Int.fdiv_eq_ediv_of_nonneg _ (by omega)]; exact h)
theorem O_mod (hb : b ≠ 0) (h : Q (nt (a % b)) st) : Op2 cx fm A (binaryOp .Mod) VR (nt a) (nt b) st Q :=
  .pure_int (v := (a : Int).fmod b) (fun s u w Qr Er k => by with_reducible exact mod_int (by omega) k) (by rw [Int.fmod_eq_emod_of_nonneg _ (by omega)]; exact h)
theorem O_modI {i : Int} (hb : b ≠ 0) (h : Q (nt (i % (b : Int)).toNat) st) : Op2 cx fm A (binaryOp .Mod) VR (.int i) (nt b) st Q :=
  .pure_int (v := i.fmod b) (fun s u w Qr Er k => by with_reducible exact mod_int (by omega) k) (by
    rw [Int.fmod_eq_emod_of_nonneg _ (by omega)]
    have : ((i % (b : Int)).toNat : Int) = i % (b : Int) := Int.toNat_of_nonneg (Int.emod_nonneg _ (by omega))
    rw [← this]; exact h)
theorem O_pow (ha : a < 2 ^ 64) (hb : b ≤ 1000000) (h : Q (nt (a ^ b)) st) : Op2 cx fm A (binaryOp .Pow) VR (nt a) (nt b) st Q :=
  .pure_int (v := (a : Int) ^ (b : Int).toNat) (fun s u w Qr Er k => by with_reducible exact pow_int_small (by omega) (by omega) (by simpa using ha) k) (by simpa [nt] using h)
theorem O_shl (ha : a < 2 ^ 64) (hb : b ≤ 1000000) (h : Q (nt (a <<< b)) st) : Op2 cx fm A (binaryOp .LShift) VR (nt a) (nt b) st Q :=
  .pure_int (v := (a : Int) * 2 ^ (b : Int).toNat) (fun s u w Qr Er k => by with_reducible exact lshift_int_small (by omega) (by omega) (by simpa using ha) k) (by
    rw [Nat.shiftLeft_eq] at h
    simpa [nt] using h)
theorem O_shr (h : Q (nt (a >>> b)) st) : Op2 cx fm A (binaryOp .RShift) VR (nt a) (nt b) st Q :=
  .pure_int (v := (a : Int).fdiv (2 ^ (b : Int).toNat)) (fun s u w Qr Er k => by with_reducible exact rshift_int (by omega) k) (by
    rw [Nat.shiftRight_eq_div_pow] at h
    rw [Int.fdiv_eq_ediv_of_nonneg _ (by exact Int.le_of_lt (Int.pow_pos (by decide)))]
    simpa [nt] using h)
theorem O_and (h : Q (nt (a &&& b)) st) : Op2 cx fm A (binaryOp .BitAnd) VR (nt a) (nt b) st Q := .pure_int (v := Builtin.bitAnd a b) (fun s u w Qr Er k => by with_reducible exact and_int k) (by rw [bitAnd_nat]; exact h)
theorem O_xor (h : Q (nt (a ^^^ b)) st) : Op2 cx fm A (binaryOp .BitXor) VR (nt a) (nt b) st Q := .pure_int (v := Builtin.bitXor a b) (fun s u w Qr Er k => by with_reducible exact xor_int k) (by rw [bitXor_nat]; exact h)

theorem O_eq (h : Q (.bool (decide (a = b))) st) : Op2 cx fm A (compareOp .Eq) VR (nt a) (nt b) st Q := .pure_bool (v := (a : Int) == b) (fun s u w Qr Er k => by with_reducible exact P.eq_int k) (by
  have : ((a : Int) == (b : Int)) = decide (a = b) := by rw [Bool.eq_iff_iff]; simp; omega
  rw [this]; exact h)
theorem O_ne (h : Q (.bool (!decide (a = b))) st) : Op2 cx fm A (compareOp .NotEq) VR (nt a) (nt b) st Q := .pure_bool (v := (a : Int) != b) (fun s u w Qr Er k => by with_reducible exact P.ne_int k) (by
  have : ((a : Int) != (b : Int)) = !decide (a = b) := by rw [Bool.eq_iff_iff]; simp; omega
  rw [this]; exact h)
theorem O_lt (h : Q (.bool (decide (a < b))) st) : Op2 cx fm A (compareOp .Lt) VR (nt a) (nt b) st Q := .pure_bool (v := decide ((a : Int) < b)) (fun s u w Qr Er k => by with_reducible exact P.lt_int k) (by simpa using h)
theorem O_le (h : Q (.bool (decide (a ≤ b))) st) : Op2 cx fm A (compareOp .LtE) VR (nt a) (nt b) st Q := .pure_bool (v := decide ((a : Int) ≤ b)) (fun s u w Qr Er k => by with_reducible exact P.le_int k) (by simpa using h)
theorem O_gt (h : Q (.bool (decide (b < a))) st) : Op2 cx fm A (compareOp .Gt) VR (nt a) (nt b) st Q := .pure_bool (v := decide ((a : Int) > b)) (fun s u w Qr Er k => by with_reducible exact P.gt_int k) (by simpa using h)
theorem O_ge (h : Q (.bool (decide (b ≤ a))) st) : Op2 cx fm A (compareOp .GtE) VR (nt a) (nt b) st Q := .pure_bool (v := decide ((a : Int) ≥ b)) (fun s u w Qr Er k => by with_reducible exact P.ge_int k) (by simpa using h)
theorem O_neg (h : Q (.int (-(a : Int))) st) : Op1 cx fm A (unaryOp .USub) VR (nt a) st Q := fun s x Qr Er r rx k => by
  cases rx
  exact P.neg_int (k _ _ _ _ h (r.toks _) (.int _ _) (.refl ..))
theorem T_int {Q : Bool → St → Prop} (h : Q (!decide (a = 0)) st) : Op1 cx fm A truthy BR (nt a) st Q := fun s x Qr Er r rx k => by
  cases rx
  refine P.truthy_int (k _ _ _ _ h r ?_ (.refl ..))
  show (!decide (a = 0)) = ((a : Int) != 0)
  rw [Bool.eq_iff_iff]; simp
theorem T_bool {Q : Bool → St → Prop} {c : Bool} (h : Q c st) : Op1 cx fm A truthy BR (.bool c) st Q := fun s x Qr Er r rx k => by
  cases rx
  exact wpAny_truthy_bool (k _ _ _ _ h r rfl (.refl ..))

theorem EV_nat {n k : Nat} {pos : Pos} {Q : V → St → Prop} (h : Q (nt (@OfNat.ofNat Nat n (instOfNatNat n))) st) : EV cx fm A (.Constant (.int (@OfNat.ofNat Int n (@instOfNat n))) k pos) st Q := EV_int h

/-! texts -/
variable {x y : List Nat}
theorem O_eqS (h : Q (.bool (decide (x = y))) st) : Op2 cx fm A (compareOp .Eq) VR (.str x) (.str y) st Q := fun s a b Qr Er r rx ry k => by
  cases rx
  cases ry
  refine P.eq_str (k _ _ _ _ h r ?_ (.refl ..))
  have : ((⟨x.toArray⟩ : Str).cps.toList == (⟨y.toArray⟩ : Str).cps.toList) = decide (x = y) := by rw [Bool.eq_iff_iff]; simp
  rw [this]; exact .bool _
theorem O_neS (h : Q (.bool (!decide (x = y))) st) : Op2 cx fm A (compareOp .NotEq) VR (.str x) (.str y) st Q := fun s a b Qr Er r rx ry k => by
  cases rx
  cases ry
  refine P.ne_str (k _ _ _ _ h r ?_ (.refl ..))
  have : ((⟨x.toArray⟩ : Str).cps.toList != (⟨y.toArray⟩ : Str).cps.toList) = !decide (x = y) := by rw [Bool.eq_iff_iff]; simp
  rw [this]; exact .bool _
end
end
section
section
variable {cx : Cx} {fm : Fm} {A : Around} {st : St}

/-! arguments -/
noncomputable def EVs (cx : Cx) (fm : Fm) (A : Around) (es : List PySem.Expr) (pos : Pos) (st : St) (Q : List V → St → Prop) : Prop := Tr cx fm A (spliced (backTo pos (starEach es fm.env))) VRs st Q
noncomputable def NoStar (es : List PySem.Expr) : Prop := ∀ env pos, (backTo pos (starEach es env)).any (·.1) = false
theorem EVs_nil {pos : Pos} {Q : List V → St → Prop} (h : Q [] st) : EVs cx fm A [] pos st Q := fun s Qr Er r k => args_nil (k _ _ _ _ h r .nil (.refl ..))
theorem EVs_cons {e : PySem.Expr} {rest : List PySem.Expr} {pos : Pos} {Q : List V → St → Prop} (h : EV cx fm A e st fun v st1 => EVs cx fm A rest pos st1 fun vs st2 => Q (v :: vs) st2)
    (he : ∀ env, starEach (e :: rest) env = (false, eval e env) :: starEach rest env := by walk_at "u") : EVs cx fm A (e :: rest) pos st Q := fun s Qr Er r k =>
  args_cons (h s _ _ r fun v st1 s1 x h1 r1 rv e1 => h1 s1 _ _ r1 fun vs st2 s2 xs h2 r2 rvs e2 => k _ _ _ _ h2 r2 (.cons (rv.mono e2.hard) rvs) (e1.trans e2)) (he _)

/-- an operation on a value and a list of values -/
noncomputable def OpN {α β : Type} (cx : Cx) (fm : Fm) (A : Around) (t : List Value → Sem α) (R : Heap → β → α → Prop) (vs : List V) (st : St) (Q : β → St → Prop) : Prop :=
  ∀ (s : Shared) (xs : List Value) (Qr : α → Shared → Prop) (Er : Value → Shared → Prop), Rel cx fm st s → VRs s.heap vs xs →
    (∀ b st' s' r, Q b st' → Rel cx fm st' s' → R s'.heap b r → Ext (fm.mt cx) st.ar s.heap st'.ar s'.heap → Qr r s') → wpAny cx.M A (t xs) Qr Er s

/-! displays -/
theorem EV_list {es : List PySem.Expr} {pos : Pos} {Q : V → St → Prop} (h : EVs cx fm A es pos st fun vs st1 => vs.length ≤ sizeLine ∧ ∀ l, Q (.ref l) { st1 with ar := (l, .list vs) :: st1.ar }) : EV cx fm A (.List es pos) st Q := fun s Qr Er r k =>
  List_ (h s _ _ r fun vs st1 s1 xs h1 r1 rv e1 => wpAny_newObj_type (k _ _ _ _ (h1.2 _) (r1.alloc s1.toks (.list (rv.mono (Step.push s1.heap _).hard)) rfl) (.ref _) (e1.trans (.alloc _ _ r1.mt_lt)))
    (by show xs.toArray.size ≤ sizeLine; rw [List.size_toArray, ← rv.length]; exact h1.1))
theorem EV_tuple {es : List PySem.Expr} {n : Nat} {pos : Pos} {Q : V → St → Prop} (h : EVs cx fm A es pos st fun vs st1 => vs.length ≤ sizeLine ∧ Q (.tup vs) st1) : EV cx fm A (.Tuple es n pos) st Q := fun s Qr Er r k =>
  Tuple_ (h s _ _ r fun vs st1 s1 xs h1 r1 rv e1 => wpAny_newObj_type (k _ _ _ _ h1.2 (r1.push _ s1.toks) (.tup (n := 0) (Heap.get?_push_size _ rfl) (rv.mono (Step.push s1.heap _).hard)) (e1.trans (.push ..)))
    (by show xs.toArray.size ≤ sizeLine; rw [List.size_toArray, ← rv.length]; exact h1.1))

/-! items -/
theorem EV_sub {v i : PySem.Expr} {pos : Pos} {Q : V → St → Prop} (h : EV cx fm A v st fun a st1 => EV cx fm A i st1 fun b st2 => Op2 cx fm A (subscriptTail v i) VR a b st2 Q) : EV cx fm A (.Subscript v i pos) st Q := fun s Qr Er r k =>
  Subscript_ (h s _ _ r fun a st1 s1 x h1 r1 ra e1 => h1 s1 _ _ r1 fun b st2 s2 y h2 r2 rb e2 =>
    h2 s2 x y _ _ r2 (ra.mono e2.hard) rb fun v st3 s3 z h3 r3 rz e3 => k v st3 s3 z h3 r3 rz (e1.trans (e2.trans e3)))

theorem HRel.list {ar : Ar} {s : Shared} {l : Addr} {vs : List V} (r : HRel cx ar s) (h : At l (.list vs) ar) : ∃ items n, s.heap.get? l = some { cls := .type "list", data := .seq items.toArray n } ∧ VRs s.heap vs items := by
  obtain ⟨o, e, q⟩ := r.objs _ h.mem
  cases q with
  | list q => exact ⟨_, _, e, q⟩
theorem isList_of {h : Heap} {l : Addr} {items : Array Value} {n : Nat} (e : h.get? l = some { cls := .type "list", data := .seq items n }) : h.IsList l items := ⟨_, e, rfl, n, rfl⟩

abbrev PlainIdx (i : PySem.Expr) : Prop := ∀ o k u, subscripted i false o (.int k u) = operate [o, .int k u] (getItem o (.int k u))
abbrev PlainLet (v : PySem.Expr) : Prop := ∀ o r, letTemporaryGo v o r = pure ()

theorem S_list {v i : PySem.Expr} {l : Addr} {vs : List V} {k : Nat} {x : V} {Q : V → St → Prop} (hl : At l (.list vs) st.ar) (hx : vs[k]? = some x) (hk : k < 2 ^ 63) (h : Q x st) (hi : PlainIdx i := by walk_at "u") :
    Op2 cx fm A (subscriptTail v i) VR (.ref l) (nt k) st Q := fun s a b Qr Er r ra rb kk => by
  cases ra
  cases rb
  obtain ⟨items, n, e, q⟩ := r.h.list hl
  obtain ⟨y, ey, ry⟩ := q.get hx
  have hL := isList_of e
  exact tail_any hL.typeIs slot_list_getitem.lookup (wpAny_getItem_list hL (by omega) (by omega) (by simpa using ey) (kk _ _ _ _ h r ry (.refl ..))) (hi _ _ _)
theorem S_listN {v i : PySem.Expr} {l : Addr} {vs : List V} {k : Nat} {x : V} {Q : V → St → Prop} (hl : At l (.list vs) st.ar) (hk : 0 < k) (hk2 : k ≤ vs.length) (hx : vs[vs.length - k]? = some x) (hs : vs.length < 2 ^ 62) (h : Q x st) (hi : PlainIdx i := by walk_at "u") :
    Op2 cx fm A (subscriptTail v i) VR (.ref l) (.int (-(k : Int))) st Q := fun s a b Qr Er r ra rb kk => by
  cases ra
  cases rb
  obtain ⟨items, n, e, q⟩ := r.h.list hl
  obtain ⟨y, ey, ry⟩ := q.get hx
  have hL := isList_of e
  have hlen := q.length
  refine tail_any hL.typeIs slot_list_getitem.lookup (wpAny_getItem_list_neg hL (by omega) (by rw [List.size_toArray, ← hlen]; omega) (by omega) ?_ (kk _ _ _ _ h r ry (.refl ..))) (hi _ _ _)
  rw [List.size_toArray, ← hlen]
  have : (-(k : Int) + (vs.length : Int)).toNat = vs.length - k := by omega
  rw [this]
  simpa using ey
theorem S_tup {v i : PySem.Expr} {vs : List V} {k : Nat} {x : V} {Q : V → St → Prop} (hx : vs[k]? = some x) (hk : k < 2 ^ 63) (h : Q x st) (hi : PlainIdx i := by walk_at "u") :
    Op2 cx fm A (subscriptTail v i) VR (.tup vs) (nt k) st Q := fun s a b Qr Er r ra rb kk => by
  cases ra with
  | tup e q =>
    cases rb
    obtain ⟨y, ey, ry⟩ := q.get hx
    have hkl : k < List.length _ := (List.getElem?_eq_some_iff.mp ey).1
    refine item_tupleT (j := k) ⟨_, e, rfl, _, rfl⟩ (by omega) (by omega) ?_ ey (kk _ _ _ _ h r ry (.refl ..)) (hi _ _ _)
    unfold seqIndex?
    simp
    omega
theorem S_str {v i : PySem.Expr} {x : List Nat} {k c : Nat} {Q : V → St → Prop} (hx : x[k]? = some c) (hk : k < 2 ^ 63) (h : Q (.str [c]) st) (hi : PlainIdx i := by walk_at "u") :
    Op2 cx fm A (subscriptTail v i) VR (.str x) (nt k) st Q := fun s a b Qr Er r ra rb kk => by
  cases ra
  cases rb
  have hkl : k < List.length _ := (List.getElem?_eq_some_iff.mp hx).1
  refine tail_any (typeIs_str _ _ _) PySem.F.slot_str_getitem.lookup (PySem.P.getItem_str (c := c) ?_ ?_ (kk _ _ _ _ h (r.toks _) (.str [c] _) (.refl ..))) (hi _ _ _)
  · simp; omega
  · have e : seqIndex? (k : Int) (Str.length ⟨x.toArray⟩) = some k := by
      unfold seqIndex? Str.length
      simp
      omega
    rw [e]
    simpa using hx

/-! stores into lists -/
theorem setItem_exact {prog : Program} {w : World} {E : Value → Shared → Prop} {s : Shared} {l : Addr} {items : List Value} {n k : Nat} {i : Int} {t : Tok} {v : Value} {Q : Unit → Shared → Prop}
    (e : s.heap.get? l = some { cls := .type "list", data := .seq items.toArray n }) (hi : i = (k : Int)) (hfit : i < 2 ^ 63) (hn : k < items.length)
    (hQ : ∀ h', h'.get? l = some { cls := .type "list", data := .seq (items.set k v).toArray n } → Heap.SameBut l s.heap h' → Q () { s with heap := h' }) :
    wpAny (model prog w) A (setItem (.ref l) (.int i t) v) Q E s := by
  subst hi
  exact ki_setAt e (by omega) hfit (by simpa using hn) (hQ _ (by simpa using get?_update_seq e fun xs => xs.setIfInBounds k v) (Heap.SameBut.update ..))

theorem soft_list {items : Array Value} {n : Nat} {h : Heap} {l : Addr} (e : h.get? l = some { cls := .type "list", data := .seq items n }) : ∀ o, h.get? l = some o → Soft o := fun o e' => by
  rw [e] at e'
  cases e'
  refine ⟨fun its m _ (q : Value.type "list" = .type "tuple") => ?_, fun vs (q : Data.seq items n = .fields vs) => ?_⟩
  · simp at q
  · cases q

theorem SI_list {l : Addr} {vs : List V} {k : Nat} {v : V} {ar' : Ar} {Q : St → Prop} (hp : Put l (.list vs) (.list (vs.set k v)) st.ar ar') (hk : k < vs.length) (hk2 : k < 2 ^ 63) (h : Q { st with ar := ar' }) :
    Op3 cx fm A setItem UR (.ref l) (nt k) v st (fun _ => Q) := fun s x y z Qr Er r rx ry rz kk => by
  cases rx
  cases ry
  obtain ⟨o, e, q⟩ := r.h.objs _ hp.mem
  cases q with
  | list q =>
    refine setItem_exact e rfl (by omega) (by rw [← q.length]; exact hk) fun h' e' hs => ?_
    have stp := Step.sameBut hs (soft_list e)
    exact kk () _ _ () h (r.put (dr := s.drawn) hp stp e' (.list ((q.mono stp.hard).set (rz.mono stp.hard) k))) trivial (.put stp hp e')

theorem EX_setitem {o i e : PySem.Expr} {p pos : Pos} {Q : Fl → St → Prop} (h : EV cx fm A e st fun v st1 => EV cx fm A o st1 fun ov st2 => EV cx fm A i st2 fun iv st3 => Op3 cx fm A setItem UR ov iv v st3 fun _ => Q .next)
    (hs : ∀ env, swapsWith e (some (.Subscript o i p)) pos.line env = pure false := by walk_at "u") : EX cx fm A (.Assign [.Subscript o i p] e pos) st Q := fun s Qr Er r k =>
  wpAny_Assign_Subscript (h s _ _ r fun v st1 s1 x h1 r1 rv e1 => h1 s1 _ _ r1 fun ov st2 s2 y h2 r2 ro e2 => h2 s2 _ _ r2 fun iv st3 s3 z h3 r3 ri e3 =>
    h3 s3 y z x _ _ r3 (ro.mono e3.hard) ri ((rv.mono e2.hard).mono e3.hard) fun _ st4 s4 _ h4 r4 _ e4 => k _ _ _ _ h4 r4 .next (e1.trans (e2.trans (e3.trans e4)))) (hs _)
theorem EX_augitem {o i e : PySem.Expr} {op : Operator} {p pos : Pos} {Q : Fl → St → Prop}
    (h : EV cx fm A o st fun ov st1 => EV cx fm A i st1 fun iv st2 => Op2 cx fm A getItem VR ov iv st2 fun old st3 => EV cx fm A e st3 fun v st4 => Op2 cx fm A (inplaceOp op) VR old v st4 fun new st5 => Op3 cx fm A setItem UR ov iv new st5 fun _ => Q .next)
    (hi : ∀ ov iv new, augStore i ov iv new = (do holding [new, ov, iv] (setItem ov iv new); release [new, ov, iv] []; pure .next) := by walk_at "u") : EX cx fm A (.AugAssign (.Subscript o i p) op e pos) st Q := fun s Qr Er r k =>
  wpAny_AugAssign_SubscriptAny (h s _ _ r fun ov st1 s1 x h1 r1 ro e1 => h1 s1 _ _ r1 fun iv st2 s2 y h2 r2 ri e2 => h2 s2 x y _ _ r2 (ro.mono e2.hard) ri fun old st3 s3 z h3 r3 rz e3 =>
    h3 s3 _ _ r3 fun v st4 s4 u h4 r4 rv e4 => h4 s4 z u _ _ r4 (rz.mono e4.hard) rv fun new st5 s5 nw h5 r5 rn e5 =>
      h5 s5 x y nw _ _ r5 ((((ro.mono e2.hard).mono e3.hard).mono e4.hard).mono e5.hard) (((ri.mono e3.hard).mono e4.hard).mono e5.hard) rn fun _ st6 s6 _ h6 r6 _ e6 =>
        k _ _ _ _ h6 r6 .next (e1.trans (e2.trans (e3.trans (e4.trans (e5.trans e6)))))) hi
theorem G_list {l : Addr} {vs : List V} {k : Nat} {x : V} {Q : V → St → Prop} (hl : At l (.list vs) st.ar) (hx : vs[k]? = some x) (hk : k < 2 ^ 63) (h : Q x st) :
    Op2 cx fm A getItem VR (.ref l) (nt k) st Q := fun s a b Qr Er r ra rb kk => by
  cases ra
  cases rb
  obtain ⟨items, n, e, q⟩ := r.h.list hl
  obtain ⟨y, ey, ry⟩ := q.get hx
  exact wpAny_getItem_list (isList_of e) (by omega) (by omega) (by simpa using ey) (kk _ _ _ _ h r ry (.refl ..))

/-! calls of built-ins -/
theorem EV_callB {f : Str} {id : String} {e : PySem.Expr} {rest : List PySem.Expr} {fp pos : Pos} {Q : V → St → Prop} (hf : (f, .val (.builtin id)) ∈ fm.gl)
    (h : EVs cx fm A (e :: rest) pos st fun vs st1 => OpN cx fm A (fun xs => call (.builtin id) xs) VR vs st1 Q)
    (he : ∀ env, starEach (e :: rest) env = (false, eval e env) :: starEach rest env := by walk_at "u")
    (hn : NoStar (e :: rest) := by walk_at "u") (hd : (f == ("__debug__" : Str)) = false := by walk_at "k") : EV cx fm A (.Call (.Name f fp) (e :: rest) [] pos) st Q := fun s Qr Er r k =>
  Call_ (EV_glob hf (Q := fun v st' => v = .val (.builtin id) ∧ st' = st) ⟨rfl, rfl⟩ hd s _ _ r fun v st1 s1 x h1 r1 rv e1 => by
    obtain ⟨rfl, rfl⟩ := h1
    cases rv
    have h2 := h s1 _ Er r1 fun vs st2 s2 xs h2 r2 rvs e2 => h2 s2 xs Qr Er r2 rvs fun v st3 s3 y h3 r3 rv e3 => k _ _ _ _ h3 r3 rv (e1.trans (e2.trans e3))
    refine Calls.callWith_builtin (hn _ _) ?_
    show wpAny cx.M A (evalArgs _ true (backTo pos (starEach (e :: rest) fm.env)) []) _ _ _
    unfold EVs at h2
    rw [he] at h2 ⊢
    exact Calls.evalArgs_plain h2)
theorem EV_callT0 {f : Str} {T : String} {fp pos : Pos} {Q : V → St → Prop} (hf : (f, .val (.type T)) ∈ fm.gl)
    (h : OpN cx fm A (fun xs => call (.type T) xs) VR [] st Q) (hd : (f == ("__debug__" : Str)) = false := by walk_at "k") : EV cx fm A (.Call (.Name f fp) [] [] pos) st Q := fun s Qr Er r k =>
  Call_ (EV_glob hf (Q := fun v st' => v = .val (.type T) ∧ st' = st) ⟨rfl, rfl⟩ hd s _ _ r fun v st1 s1 x h1 r1 rv e1 => by
    obtain ⟨rfl, rfl⟩ := h1
    cases rv
    refine PySem.callWith_type rfl ?_
    show wpAny cx.M A (evalArgs _ true [] []) _ _ _
    exact evalArgs_nil3 (h s1 [] Qr Er r1 .nil fun v st3 s3 y h3 r3 rv e3 => k _ _ _ _ h3 r3 rv (e1.trans e3)))

/-! methods of built-in types -/
inductive TyV (st : St) : V → String → Prop
  | int (i : Int) : TyV st (.int i) "int"
  | str (x : List Nat) : TyV st (.str x) "str"
  | list {l : Addr} {vs : List V} : At l (.list vs) st.ar → TyV st (.ref l) "list"
  | raw {l : Addr} {o : Obj} {T : String} : At l (.raw o) st.ar → o.cls = .type T → o.dict = none → TyV st (.ref l) T
  | set {l : Addr} {x : TS} : At l (.set x) st.ar → TyV st (.ref l) "set"
theorem TyV.is {v : V} {T : String} (h : TyV st v T) {s : Shared} {x : Value} (r : Rel cx fm st s) (rv : VR s.heap v x) : s.TypeIs x T ∧ ∀ a, x = .ref a → ∃ ob, s.heap.get? a = some ob ∧ ob.dict = none := by
  cases h with
  | int i => cases rv; exact ⟨typeIs_int _ _ _, fun _ q => by cases q⟩
  | str i => cases rv; exact ⟨typeIs_str _ _ _, fun _ q => by cases q⟩
  | list h =>
    cases rv
    obtain ⟨items, n, e, q⟩ := r.h.list h
    exact ⟨(isList_of e).typeIs, fun a q => by cases q; exact ⟨_, e, rfl⟩⟩
  | raw h hc hd =>
    cases rv
    obtain ⟨o, e, q⟩ := r.h.objs _ h.mem
    cases q
    exact ⟨⟨_, e, hc⟩, fun a q => by cases q; exact ⟨_, e, hd⟩⟩
  | set h =>
    cases rv
    obtain ⟨o, e, q⟩ := r.h.objs _ h.mem
    cases q with
    | set q => exact ⟨⟨_, e, q.exact_.1⟩, fun a q2 => by cases q2; exact ⟨_, e, q.exact_.2.1⟩⟩

theorem evalArgs_none0 {M : Model} {E : Value → Shared → Prop} {s : Shared} {f : Value} {Q : Args → Shared → Prop} (h : wpAny M A (spliced []) (fun vs s' => Q ⟨vs, []⟩ s') E s) : wpAny M A (evalArgs f true [] []) Q E s := by
  unfold evalArgs
  show wpAny M A (spliced [] >>= _) Q E s
  refine wpAny_bind (wpAny_mono h (fun vs s' h' => ?_) fun _ _ x => x)
  refine wpAny_bind (wpAny_pure ?_)
  refine wpAny_holding ?_
  exact wpAny_bind (wpAny_pure (wpAny_bind (wpAny_pure (wpAny_pure h'))))

theorem EV_meth {o : PySem.Expr} {name : Str} {T id : String} {es : List PySem.Expr} {apos pos : Pos} {Q : V → St → Prop} (pa : PlainAttrs T) (sl : Slot T name id) (ty : typeOf (.builtin id) = pure (.type "method_descriptor"))
    (h : EV cx fm A o st fun ov st1 => TyV st1 ov T ∧ EVs cx fm A es pos st1 fun vs st2 => OpN cx fm A (fun xs => call (.builtin id) xs) VR (ov :: vs) st2 Q)
    (hbase : ∀ env, attributeBase o name env (eval o env) = eval o env := by walk_at "u")
    (hfew : ∀ env, ((backTo pos (starEach es env)).all (fun x => !x.1) && (backToKw pos (keywordEach [] env)).all (fun x => x.1.isSome)
      && decide (es.length + ([] : List Keyword).length + (if ([] : List Keyword).isEmpty then 0 else 1) < 30)) = true := by walk_at "u")
    (hline : (apos.endLine == pos.line) = true := by walk_at "u") (hn : NoStar es := by walk_at "u")
    (hes : ∀ env pos, (∃ e rest, backTo pos (starEach es env) = (false, eval e env) :: rest) ∨ backTo pos (starEach es env) = [] := by walk_at "q") :
    EV cx fm A (.Call (.Attribute o name apos) es [] pos) st Q := fun s Qr Er r k =>
  wpAny_Call_method_lateS (hbase _) (hfew _) hline (h s _ _ r fun ov st1 s1 x h1 r1 ro e1 => by
    obtain ⟨t1, t2⟩ := h1.1.is r1 ro
    refine ⟨T, id, pa, sl, ty, t1, t2, ?_⟩
    have h2 := h1.2 s1 _ Er r1 fun vs st2 s2 xs h2 r2 rvs e2 => h2 s2 (x :: xs) Qr Er r2 (.cons (ro.mono e2.hard) rvs) fun v st3 s3 y h3 r3 rv e3 => k _ _ _ _ h3 r3 rv (e1.trans (e2.trans e3))
    refine Calls.callWith_builtin (hn _ _) ?_
    unfold EVs at h2
    rcases hes fm.env pos with ⟨e, rest, q⟩ | q
    · rw [q] at h2 ⊢
      exact Calls.evalArgs_plain h2
    · rw [q] at h2 ⊢
      exact evalArgs_none0 h2)

theorem M_append {l : Addr} {vs : List V} {v : V} {ar' : Ar} {Q : V → St → Prop} (hp : Put l (.list vs) (.list (vs ++ [v])) st.ar ar') (hs : vs.length ≤ sizeLine) (h : Q .none { st with ar := ar' }) :
    OpN cx fm A (fun xs => call (.builtin "list.append") xs) VR [.ref l, v] st Q := fun s xs Qr Er r rx kk => by
  cases rx with
  | cons ra rx =>
    cases ra
    cases rx with
    | cons rv rx =>
      cases rx
      obtain ⟨o, e, q⟩ := r.h.objs _ hp.mem
      cases q with
      | @list n _ items q =>
        refine append_at e (fun h' hb e' => ?_) (by rw [List.size_toArray, ← q.length]; exact hs)
        have stp := Step.sameBut hb (soft_list e)
        exact kk _ _ _ _ h (r.put (dr := s.drawn) hp stp (o' := { cls := .type "list", data := .seq (items ++ [_]).toArray (n + 1) }) (by rw [e']; simp) (.list ((q.mono stp.hard).append (.cons (rv.mono stp.hard) .nil)))) .none (.put stp hp e')
theorem M_bits {a : Nat} {Q : V → St → Prop} (h : Q (nt (bits a)) st) : OpN cx fm A (fun xs => call (.builtin "int.bit_length") xs) VR [nt a] st Q := fun s xs Qr Er r rx kk => by
  cases rx with
  | cons ra rx =>
    cases ra
    cases rx
    refine call_int_bit_length (kk _ _ _ _ h (r.toks _) ?_ (.refl ..))
    rw [intBits_nat]
    exact .int _ _
theorem B_lenL {l : Addr} {vs : List V} {Q : V → St → Prop} (hl : At l (.list vs) st.ar) (hs : vs.length < 2 ^ 62) (h : Q (nt vs.length) st) : OpN cx fm A (fun xs => call (.builtin "len") xs) VR [.ref l] st Q := fun s xs Qr Er r rx kk => by
  cases rx with
  | cons ra rx =>
    cases ra
    cases rx
    obtain ⟨items, n, e, q⟩ := r.h.list hl
    refine call_len_list (isList_of e) (by rw [List.size_toArray, ← q.length]; omega) (kk _ _ _ _ h (r.toks _) ?_ (.refl ..))
    rw [List.size_toArray, ← q.length]
    exact .int _ _
theorem B_lenS {x : List Nat} {Q : V → St → Prop} (hs : x.length < 2 ^ 62) (h : Q (nt x.length) st) : OpN cx fm A (fun xs => call (.builtin "len") xs) VR [.str x] st Q := fun s xs Qr Er r rx kk => by
  cases rx with
  | cons ra rx =>
    cases ra
    cases rx
    have e : (⟨x.toArray⟩ : Str).length = x.length := by simp [Str.length]
    refine PySem.P.len_str (by rw [e]; omega) (kk _ _ _ _ h (r.toks _) ?_ (.refl ..))
    rw [e]
    exact .int _ _
theorem EX_expr {e : PySem.Expr} {pos : Pos} {Q : Fl → St → Prop} (h : EV cx fm A e st fun v st1 => v = .none ∧ Q .next st1)
    (hi : ∀ env : Env, env.scope.kind = .function → interactive env = false := by intro env he; unfold interactive; rw [he]; rfl) (hs : ∀ env, swapsWith e none pos.line env = pure false := by walk_at "u") : EX cx fm A (.Expr e pos) st Q := fun s Qr Er r k =>
  wpAny_Expr (h s _ _ r fun v st1 s1 x h1 r1 rv e1 => by
    obtain ⟨rfl, h1⟩ := h1
    cases rv
    exact k _ _ _ _ h1 r1 .next e1) (hi _ r.fn) (hs _)
end
end
section
/-! global names -/
noncomputable def GlobV (cx : Cx) (x : Str) (v : V) : Prop := ∀ (env : Env) (A : Around) (s : Shared) (Q : Value → Shared → Prop) (E : Value → Shared → Prop), env.scope.kind = .function → env.kindOf x = some .globalImplicit →
  env.globals = mainGlobals → env.builtins = builtinsNs → (∀ b o, cx.base.get? b = some o → s.heap.get? b = some o) → (∀ y, VR s.heap v y → Q y s) → wpAny cx.M A (loadName env x) Q E s
theorem GlobV.glob {cx : Cx} {x : Str} {v : V} {mg : Str → Option Value} {y : Value} (hg : cx.base.Ns mainGlobals mg) (e : mg x = some y) (r : ∀ h, VR h v y) : GlobV cx x v := fun env A s Q E hk hx g b kp k =>
  ks_loadName_global hk hx (Calls.loadGlobal_global (g ▸ hg.keeps kp) e (k _ (r _)))
theorem GlobV.builtin {cx : Cx} {x : Str} {mg mb : Str → Option Value} {y : Value} (hg : cx.base.Ns mainGlobals mg) (hm : mg x = none) (hb : cx.base.Ns builtinsNs mb) (e : mb x = some y) : GlobV cx x (.val y) := fun env A s Q E hk hx g b kp k =>
  ks_loadName_global hk hx (Calls.loadGlobal_builtin (g ▸ hg.keeps kp) hm (b ▸ hb.keeps kp) e (k _ (.val _)))

/-! calls -/
noncomputable def CallT (cx : Cx) (A : Around) (f : Value) (vs : List V) (ar : Ar) (Q : V → Ar → Prop) : Prop :=
  ∀ (s : Shared) (xs : List Value) (Qr : Value → Shared → Prop) (Er : Value → Shared → Prop), HRel cx ar s → VRs s.heap vs xs →
    (∀ v ar' s' x, Q v ar' → HRel cx ar' s' → VR s'.heap v x → Ext cx.tb ar s.heap ar' s'.heap → Qr x s') → wpAny cx.M A (call f xs) Qr Er s
theorem CallT.mono {cx : Cx} {A : Around} {f : Value} {vs : List V} {ar : Ar} {Q Q' : V → Ar → Prop} (h : CallT cx A f vs ar Q) (k : ∀ v ar', Q v ar' → Q' v ar') : CallT cx A f vs ar Q' :=
  fun s xs Qr Er r rx kk => h s xs Qr Er r rx fun v ar' s' x q => kk v ar' s' x (k v ar' q)

theorem Rel.after_call {cx : Cx} {fm : Fm} {st : St} {s s' : Shared} {ar' : Ar} (r : Rel cx fm st s) (h : HRel cx ar' s') (e : Ext cx.tb st.ar s.heap ar' s'.heap) : Rel cx fm { st with ar := ar' } s' where
  h := h
  loc := r.loc.keep (fun o q => e.keep _ o q r.off.2.1 r.off.1) e.hard
  off := ⟨fun m => (e.new _ m).elim r.off.1 fun (l : s.heap.get? fm.env.locals = none ∧ _) => (by have q := r.env_some; rw [l.1] at q; cases q), r.off.2⟩
  fn := r.fn
  cells := r.cells
  globs := r.globs
theorem Rel.frame {cx : Cx} {fm : Fm} {st : St} {s : Shared} {ar' : Ar} {h' : Heap} (r : Rel cx fm st s) (e : Ext cx.tb st.ar s.heap ar' h') : Ext (fm.mt cx) st.ar s.heap ar' h' :=
  e.weaken (fun p hp => .inl (.tail _ hp)) fun p hp => by
    rcases List.mem_cons.mp hp with rfl | hp
    · exact .inr r.env_some
    · exact .inl hp

/-- a function object of the top -/
structure FnB (cx : Cx) (a : Addr) (fd : FuncData) : Prop where
  obj : ∃ o, cx.base.get? a = some o ∧ o.data = .func fd
  code : cx.base.CodeRec fd.code fd.qualname

section
variable {cx : Cx} {fm : Fm} {A : Around} {st : St}

theorem EV_callF {f : Str} {a : Addr} {fd : FuncData} {e : PySem.Expr} {rest : List PySem.Expr} {fp pos : Pos} {Q : V → St → Prop} (hf : (f, .val (.ref a)) ∈ fm.gl) (hfn : FnB cx a fd)
    (h : EVs cx fm A (e :: rest) pos st fun vs st1 => CallT cx A (.ref a) vs st1.ar fun v ar' => Q v { st1 with ar := ar' })
    (he : ∀ env, starEach (e :: rest) env = (false, eval e env) :: starEach rest env := by walk_at "u")
    (hd : (f == ("__debug__" : Str)) = false := by walk_at "k") : EV cx fm A (.Call (.Name f fp) (e :: rest) [] pos) st Q := fun s Qr Er r k =>
  Call_ (EV_glob hf (Q := fun v st' => v = .val (.ref a) ∧ st' = st) ⟨rfl, rfl⟩ hd s _ _ r fun v st1 s1 x h1 r1 rv e1 => by
    obtain ⟨rfl, rfl⟩ := h1
    cases rv
    obtain ⟨o, ho, hdat⟩ := hfn.obj
    refine callWith_def (o := o) hdat (h s1 _ Er r1 fun vs st2 s2 xs h2 r2 rvs e2 => ⟨r2.h.keep _ _ ho, ?_⟩) (he _)
    exact h2 s2 xs Qr Er r2.h rvs fun v ar' s3 y h3 r3 rv e3 => k _ _ _ _ h3 (r2.after_call r3 e3) rv (e1.trans (e2.trans (r2.frame e3))))

/-- a call of what an expression gives -/
theorem EV_callV {f : PySem.Expr} {e : PySem.Expr} {rest : List PySem.Expr} {pos : Pos} {Q : V → St → Prop}
    (h : EV cx fm A f st fun v st1 => ∃ a o fd, v = .ref a ∧ o.data = .func fd ∧ EVs cx fm A (e :: rest) pos st1 fun vs st2 => At a (.fn o) st2.ar ∧ CallT cx A (.ref a) vs st2.ar fun v ar' => Q v { st2 with ar := ar' })
    (he : ∀ env, starEach (e :: rest) env = (false, eval e env) :: starEach rest env := by walk_at "u")
    (hc : ∀ env, eval (.Call f (e :: rest) [] pos) env = (do callWith pos (← eval f env) [] (backTo pos (starEach (e :: rest) env)) (backToKw pos (keywordEach [] env))) := by walk_at "u") : EV cx fm A (.Call f (e :: rest) [] pos) st Q := fun s Qr Er r k =>
  Call_ (h s _ _ r fun v st1 s1 x h1 r1 rv e1 => by
    obtain ⟨a, o, fd, rfl, hdat, h1⟩ := h1
    cases rv
    refine callWith_def (o := o) hdat (h1 s1 _ Er r1 fun vs st2 s2 xs h2 r2 rvs e2 => ?_) (he _)
    obtain ⟨o', eo, q⟩ := r2.h.objs _ h2.1.mem
    cases q
    exact ⟨eo, h2.2 s2 xs Qr Er r2.h rvs fun v ar' s3 y h3 r3 rv e3 => k _ _ _ _ h3 (r2.after_call r3 e3) rv (e1.trans (e2.trans (r2.frame e3)))⟩) (hc _)

/-! bodies -/
structure Room (A : Around) (n : Nat) : Prop where
  depth : A.depth + n ≤ 800
  units : A.units + 20 * n ≤ 9000
  handled : A.handled = none
theorem Room.deeper {A : Around} {n : Nat} (r : Room A (n + 1)) (env : Env) : Room (A.deeper env) n := ⟨by have := r.depth; show A.depth + 1 + n ≤ 800; omega, by have := r.units; show A.units + 3 + 20 * n ≤ 9000; omega, r.handled⟩
theorem Room.le {A : Around} {n m : Nat} (r : Room A n) (h : m ≤ n) : Room A m := ⟨by have := r.depth; omega, by have := r.units; omega, r.handled⟩
theorem Room.lt {A : Around} {n : Nat} (r : Room A n) : A.depth < recursionLimit := by have := r.depth; unfold recursionLimit; omega

inductive PB (h : Heap) : List (Str × V) → List (Str × Value) → Prop
  | nil : PB h [] []
  | cons {x : Str} {v : V} {y : Value} {pv : List (Str × V)} {binds : List (Str × Value)} : VR h v y → PB h pv binds → PB h ((x, v) :: pv) ((x, y) :: binds)
theorem PB.names {h : Heap} {pv : List (Str × V)} {binds : List (Str × Value)} (p : PB h pv binds) : binds.map (·.1) = pv.map (·.1) := by
  induction p with
  | nil => rfl
  | cons _ _ ih => simp only [List.map_cons, ih]
theorem PB.lookup {h : Heap} {pv : List (Str × V)} {binds : List (Str × Value)} (p : PB h pv binds) {x : Str} {v : V} (hm : (x, v) ∈ pv) : ∃ y, (x, y) ∈ binds ∧ VR h v y := by
  induction p with
  | nil => cases hm
  | cons r _ ih =>
    rcases List.mem_cons.mp hm with e | hm
    · cases e; exact ⟨_, .head _, r⟩
    · obtain ⟨y, h1, h2⟩ := ih hm; exact ⟨y, .tail _ h1, h2⟩
theorem lookup_mem {l : List (Str × Value)} (nd : (l.map (·.1)).Nodup) {x : Str} {y : Value} (hm : (x, y) ∈ l) : l.lookup x = some y := by
  induction l with
  | nil => cases hm
  | cons p r ih =>
    rw [List.lookup_cons]
    rcases List.mem_cons.mp hm with e | hm
    · subst e; simp
    · have hne : x ≠ p.1 := fun e => (List.nodup_cons.mp nd).1 (List.mem_map.mpr ⟨_, hm, e⟩)
      rw [beq_eq_false_iff_ne.mpr hne]
      exact ih (List.nodup_cons.mp nd).2 hm
theorem lookup_rev {l : List (Str × Value)} (nd : (l.map (·.1)).Nodup) {x : Str} {y : Value} (hm : (x, y) ∈ l) : l.reverse.lookup x = some y :=
  lookup_mem (by rw [List.map_reverse]; unfold List.Nodup; rw [List.pairwise_reverse]; exact nd.imp Ne.symm) (List.mem_reverse.mpr hm)

noncomputable def loc0 (pv : List (Str × V)) (rest : List Str) : Loc := pv.map (fun p => (p.1, some p.2)) ++ rest.map (·, Option.none)
theorem loc0_names (pv : List (Str × V)) (rest : List Str) : (loc0 pv rest).map (·.1) = pv.map (·.1) ++ rest := by
  simp [loc0, Function.comp_def]

/-- what a body must show: it gives v back; the arena is ar' and, it may be, more -/
noncomputable def Back (Q : V → Ar → Prop) (f : Fl) (st : St) : Prop := ∃ v ar', (f = .ret v ∨ (f = .next ∧ v = .none)) ∧ ar'.Sublist st.ar ∧ Q v ar'

/-- what a body may know of its frame -/
structure EnvOf (fd : FuncData) (env : Env) : Prop where
  scope : env.scope = fd.scope
  code : env.code = fd.code
  globals : env.globals = fd.globals
  builtins : env.builtins = fd.builtins
  qual : env.qual = fd.qualname ++ ".<locals>."

theorem CallT_def {a : Addr} {fd : FuncData} {body : List Stmt} {vs : List V} {pv : List (Str × V)} {rest : List Str} {gl : List (Str × V)} {ar : Ar} {Q : V → Ar → Prop} {n : Nat}
    (hfn : FnB cx a fd) (hbody : fd.body = .stmts body) (hlim : cx.base.NoLimit) (room : Room A (n + 1))
    (hbind : ∀ s xs, (∀ b o, cx.base.get? b = some o → s.heap.get? b = some o) → VRs s.heap vs xs → ∃ binds, BindsTo s fd ⟨xs, []⟩ binds ∧ PB s.heap pv binds)
    (hnd : (pv.map (·.1) ++ rest).Nodup) (hkind : ∀ x ∈ pv.map (·.1) ++ rest, fd.scope.names.lookup x = some .local)
    (hgl : ∀ p ∈ gl, GlobV cx p.1 p.2 ∧ fd.scope.names.lookup p.1 = some .globalImplicit) (hg : fd.globals = mainGlobals) (hb : fd.builtins = builtinsNs)
    (hcell : ∀ x ∈ fd.scope.names, x.2 ≠ .cell) (hco : fd.scope.isCoroutine = false) (hgen : fd.scope.isGenerator = false) (hk : fd.scope.kind = .function)
    (h : ∀ env A', Room A' n → EnvOf fd env → EB cx ⟨env, gl, []⟩ A' body ⟨loc0 pv rest, ar⟩ (Back Q)) : CallT cx A (.ref a) vs ar Q := fun s xs Qr Er r rx kk => by
  obtain ⟨o, ho, hdat⟩ := hfn.obj
  obtain ⟨binds, hbd, hpb⟩ := hbind s xs r.keep rx
  have hn : (binds.map (·.1)).Nodup := by rw [hpb.names]; exact (List.nodup_append.mp hnd).1
  refine wpAny_call (codeAny_call_def (fd := fd) (body := body) (binds := binds) room.lt (r.keep _ _ ho) hdat (hlim.keeps r.keep) (hfn.code.keeps r.keep) hbody hbd hcell (fun x hx => ?_) (fun h₀ hns hkeep => ?_) hco hgen hk)
  · refine hkind x.1 (List.mem_append_left _ ?_)
    rw [← hpb.names]
    exact List.mem_map.mpr ⟨x, hx, rfl⟩
  · have hr : HRel cx ar { s with heap := h₀, toks := s.toks + binds.length } := by
      refine r.step_off (x := s.heap.objs.size) (dr := s.drawn) ⟨fun b o _ e => hkeep b o e, fun o e => absurd (Heap.lt_size e) (Nat.lt_irrefl _)⟩ r.fresh.1 r.fresh.2.1 r.fresh.2.2
    have hrel : Rel cx ⟨callEnv fd s.heap.objs.size a, gl, []⟩ ⟨loc0 pv rest, ar⟩ { s with heap := h₀, toks := s.toks + binds.length } := by
      refine ⟨hr, ⟨?_, fun p hp => ?_, _, hns, fun p hp => ?_⟩, ⟨r.fresh.1, r.fresh.2.1, r.fresh.2.2⟩, hk, fun p hp => (nomatch hp), fun p hp A s' Q E kp k => (hgl p hp).1 _ A s' Q E hk (hgl p hp).2 hg hb kp k⟩
      · rw [loc0_names]; exact hnd
      · exact hkind p.1 (by rw [← loc0_names]; exact List.mem_map.mpr ⟨p, hp, rfl⟩)
      · rcases List.mem_append.mp hp with hp | hp
        · obtain ⟨q, hq, rfl⟩ := List.mem_map.mp hp
          obtain ⟨y, h1, h2⟩ := hpb.lookup (x := q.1) (v := q.2) hq
          exact ⟨y, lookup_rev hn h1, h2.mono fun a o e _ => hkeep a o e⟩
        · obtain ⟨q, hq, rfl⟩ := List.mem_map.mp hp
          trivial
    refine h (callEnv fd s.heap.objs.size a) _ (room.deeper _) ⟨rfl, rfl, rfl, rfl, rfl⟩ _ _ _ hrel fun f st' s' g hq r' rf e' => ?_
    obtain ⟨v, ar', hf, hs, hq⟩ := hq
    have hE : Ext cx.tb ar s.heap ar' s'.heap := by
      have e0 : Ext (Fm.mt cx ⟨callEnv fd s.heap.objs.size a, gl, []⟩) ar s.heap ar h₀ := ⟨fun b o e _ _ => hkeep b o e, fun b o e _ => hkeep b o e, fun _ m => .inl m, fun b e _ => by
        cases q : s.heap.get? b with
        | none => exact absurd q e
        | some o => rw [hkeep b o q]; nofun⟩
      refine ((e0.trans e').sub fun p hp => (hs.map _).subset hp).weaken (fun p hp => ?_) fun p hp => .inl (.tail _ hp)
      rcases List.mem_cons.mp hp with rfl | hp
      · exact .inr (size_none _)
      · exact .inl hp
    rcases hf with rfl | ⟨rfl, rfl⟩
    · cases rf with
      | ret rv => exact kk _ _ _ _ hq (r'.h.sub hs) rv hE
    · cases rf
      exact kk _ _ _ _ hq (r'.h.sub hs) .none hE
end
end
section
section
variable {cx : Cx} {fm : Fm} {A : Around} {st : St}

noncomputable def Fl.turn (Q : Fl → St → Prop) (J : St → Prop) : Fl → St → Prop
  | .next, st => J st
  | .cont, st => J st
  | .brk, st => Q .next st
  | .ret v, st => Q (.ret v) st

theorem EX_while {test : PySem.Expr} {body : List Stmt} {pos : Pos} {Q : Fl → St → Prop} (I : Nat → St → Prop) (n : Nat) (h : I n st)
    (turn : ∀ n st, I n st → ET cx fm A test st fun b st1 => if b = true then EB cx fm A body st1 (Fl.turn Q fun st2 => ∃ m, m < n ∧ I m st2) else Q .next st1) : EX cx fm A (.While test body [] pos) st Q := fun s Qr Er r k => by
  refine wpAny_While (codeAny_whileLoop (R := fun r s' => match r with | .ok f => Qr f s' | .error e => cameBackBy cx.M A fm.env Er e s')
    (fun n s' => ∃ st', I n st' ∧ Rel cx fm st' s' ∧ Ext (fm.mt cx) st.ar s.heap st'.ar s'.heap) ?_ n ⟨st, h, r, .refl ..⟩)
  rintro n s' ⟨st', hI, r', e'⟩
  refine turn n st' hI s' _ _ r' fun b st1 s1 c h1 r1 rc e1 => ?_
  cases rc
  cases b with
  | false => exact wpAny_execs_nil (k _ _ _ _ h1 r1 .next (e'.trans e1))
  | true =>
    refine h1 s1 _ _ r1 fun f st2 s2 g h2 r2 rf e2 => ?_
    cases rf with
    | next => obtain ⟨m, hm, hI⟩ := h2; exact ⟨m, hm, st2, hI, r2, e'.trans (e1.trans e2)⟩
    | cont => obtain ⟨m, hm, hI⟩ := h2; exact ⟨m, hm, st2, hI, r2, e'.trans (e1.trans e2)⟩
    | brk => exact k _ _ _ _ h2 r2 .next (e'.trans (e1.trans e2))
    | ret q => exact k _ _ _ _ h2 r2 (.ret q) (e'.trans (e1.trans e2))

/-- an iterator -/
structure ItR (cx : Cx) (fm : Fm) (A : Around) (I : Addr) (n : Nat) (item : Nat → V) (C : St → Prop) (W : Nat → Heap → Prop) : Prop where
  next : ∀ i st s (Q : Option Value → Shared → Prop) (E : Value → Shared → Prop), i < n → C st → Rel cx fm st s → W i s.heap →
    (∀ v h' tk, VR h' (item i) v → W (i + 1) h' → Step I s.heap h' → Q (some v) { s with heap := h', toks := tk }) → wpAny cx.M A (pyNext (.ref I)) Q E s
  done : ∀ st s (Q : Option Value → Shared → Prop) (E : Value → Shared → Prop), C st → Rel cx fm st s → W n s.heap →
    (∀ h' tk, Step I s.heap h' → Q none { s with heap := h', toks := tk }) → wpAny cx.M A (pyNext (.ref I)) Q E s
  frame : ∀ i h h', W i h → (∀ o, h.get? I = some o → h'.get? I = some o) → W i h'
  live : ∀ i h, W i h → ∃ o, h.get? I = some o ∧ ∃ n, o.cls = .type n ∧ (["enumerate", "zip", "dict_itemiterator", "dict_reverseitemiterator", "odict_iterator", "itertools.zip_longest", "itertools.pairwise"] : List String).contains n = false
  self : ∀ i (s : Shared) (Q : Value → Shared → Prop) (E : Value → Shared → Prop), W i s.heap → Q (.ref I) s → wpAny cx.M A (pyIter (.ref I)) Q E s

theorem go_harmless {M : Model} {E : Value → Shared → Prop} {s : Shared} {I : Addr} {o : Obj} {n : String} {target : PySem.Expr} {v : Value} {Q : Unit → Shared → Prop} (e : s.heap.get? I = some o) (hc : o.cls = .type n)
    (hn : (["enumerate", "zip", "dict_itemiterator", "dict_reverseitemiterator", "odict_iterator", "itertools.zip_longest", "itertools.pairwise"] : List String).contains n = false) (h : Q () s) : wpAny M A (letOwnedTupleGo target (.ref I) v) Q E s := by
  unfold letOwnedTupleGo
  split
  all_goals (try exact wpAny_pure h)
  all_goals
    split
    · rename_i x y h1
      cases h1
      refine wpAny_bind (wpAny_load e ?_)
      split
      · rename_i n' vs h2 h3
        rw [hc] at h2
        cases h2
        rw [hn]
        exact wpAny_pure h
      · exact wpAny_pure h
    · exact wpAny_pure h

theorem soft_of {o : Obj} {vs : Array Value} (hd : o.data = .fields vs) (h1 : ∀ q t, vs[1]? ≠ some (.str q t)) : Soft o := by
  refine ⟨fun items n (q : o.data = .seq items n) => ?_, fun ws (q : o.data = .fields ws) => ?_⟩ <;> rw [hd] at q <;> cases q
  exact h1
theorem ItR.list {l : Addr} {vs : List V} (hA : A.handled = none) (I : Addr) (hI : I ≠ l) : ItR cx fm A I vs.length (fun i => vs.getD i .none) (fun st => At l (.list vs) st.ar) (fun i h => h.IsListIter I l i) where
  next := fun i st s Q E hi hC r hW k => by
    obtain ⟨items, n, e, q⟩ := r.h.list hC
    have hv : vs[i]? = some vs[i] := by simp [hi]
    obtain ⟨y, ey, ry⟩ := q.get hv
    refine wpAny_pyNext_list_item hW (isList_of e) (x := y) (by simpa using ey) fun h' hit hs => ?_
    have stp : Step I s.heap h' := Step.sameBut hs fun o eo => by
      obtain ⟨o', e1, e2, e3⟩ := hW
      rw [eo] at e1; cases e1
      exact soft_of e3 (by simp)
    exact k y h' s.toks (by simpa [List.getD_eq_getElem?_getD, hi] using ry.mono stp.hard) hit stp
  done := fun st s Q E hC r hW k => by
    obtain ⟨items, n, e, q⟩ := r.h.list hC
    refine wpAny_pyNext_list_end hA hW (isList_of e) (by simp [q.length]) fun h' he => k h' s.toks ⟨fun b o hb eo => he b o hb eo, fun o eo => ?_⟩
    obtain ⟨o', e1, e2, e3⟩ := hW
    rw [eo] at e1; cases e1
    exact soft_of e3 (by simp)
  frame := fun i h h' ⟨o, e, q⟩ kp => ⟨o, kp _ e, q⟩
  live := fun i h ⟨o, e, q, _⟩ => ⟨o, e, _, q, by decide⟩
  self := fun _ _ _ _ hW hQ => wpAny_pyIter_listiter hW hQ
theorem ItR.range (a n : Nat) (hA : A.handled = none) (I : Addr) : ItR cx fm A I n (fun i => nt (a + i)) (fun _ => True) (fun i h => IsRangeIter h I ((a + i : Nat) : Int) ((n : Int) - (i : Int)) 1) where
  next := fun i st s Q E hi hC r hW k => by
    refine wpAny_pyNext_range_item hW (by omega) fun h' hit hs => ?_
    have stp : Step I s.heap h' := Step.sameBut hs fun o eo => by
      rw [hW] at eo; cases eo
      exact soft_of rfl (by simp [rawInt])
    refine k _ h' (s.toks + 1) (.int _ _) ?_ stp
    have e1 : ((a + i : Nat) : Int) + 1 = ((a + (i + 1) : Nat) : Int) := by omega
    have e2 : (n : Int) - (i : Int) - 1 = (n : Int) - ((i + 1 : Nat) : Int) := by omega
    rw [e1, e2] at hit
    exact hit
  done := fun st s Q E hC r hW k => by
    refine wpAny_pyNext_range_end hA hW (by omega) fun h' he => k h' s.toks ⟨fun b o hb eo => he b o hb eo, fun o eo => ?_⟩
    rw [hW] at eo; cases eo
    exact soft_of rfl (by simp [rawInt])
  frame := fun i h h' e kp => kp _ e
  live := fun i h e => ⟨_, e, _, rfl, by decide⟩
  self := fun _ _ _ _ hW hQ => wpAny_pyIter_rangeiter hW hQ
theorem ItR.str {x : List Nat} {t : Tok} (hA : A.handled = none) (I : Addr) : ItR cx fm A I x.length (fun i => .str [x.getD i 0]) (fun _ => True) (fun i h => h.IsStrIter I "str_ascii_iterator" ⟨x.toArray⟩ t i) where
  next := fun i st s Q E hi hC r hW k => by
    have hv : x[i]? = some x[i] := by simp [hi]
    refine wpAny_pyNext_ascii_item hW (c := x[i]) (by simpa using hv) fun h' hit hs => ?_
    have stp : Step I s.heap h' := Step.sameBut hs fun o eo => by
      obtain ⟨o', e1, e2, e3⟩ := hW
      rw [eo] at e1; cases e1
      exact soft_of e3 (by simp)
    have e : x.getD i 0 = x[i] := by simp [List.getD_eq_getElem?_getD, hi]
    exact k _ h' (s.toks + 1) (by rw [e]; exact .str [x[i]] _) hit stp
  done := fun st s Q E hC r hW k => by
    refine wpAny_pyNext_ascii_end hA hW (by simp) fun h' he => k h' s.toks ⟨fun b o hb eo => he b o hb eo, fun o eo => ?_⟩
    obtain ⟨o', e1, e2, e3⟩ := hW
    rw [eo] at e1; cases e1
    exact soft_of e3 (by simp)
  frame := fun i h h' ⟨o, e, q⟩ kp => ⟨o, kp _ e, q⟩
  live := fun i h ⟨o, e, q, _⟩ => ⟨o, e, _, q, by decide⟩
  self := fun _ _ _ _ hW hQ => wpAny_pyIter_striter_ascii hW hQ

/-- what stands before a loop -/
structure Off (cx : Cx) (fm : Fm) (I : Addr) (st : St) : Prop where
  ar : I ∉ adr st.ar
  mt : I ∉ fm.mt cx
  base : cx.base.get? I = none

noncomputable def EI (cx : Cx) (fm : Fm) (A : Around) (iter : PySem.Expr) (st : St) (Q : Nat → (Nat → V) → (St → Prop) → St → Prop) : Prop :=
  ∀ (s : Shared) (Qr : Value → Shared → Prop) (Er : Value → Shared → Prop), Rel cx fm st s →
    (∀ n item C st1 s1 I W, Q n item C st1 → Rel cx fm st1 s1 → ItR cx fm A I n item C W → W 0 s1.heap → Off cx fm I st1 → s.heap.get? I = none → Ext (fm.mt cx) st.ar s.heap st1.ar s1.heap → Qr (.ref I) s1) →
    wpAny cx.M A (eval iter fm.env) (fun x s' => wpAny cx.M A (pyIter x) Qr Er s') Er s

theorem Rel.off_new {s : Shared} (r : Rel cx fm st s) (o : Obj) (tk : Nat) : Off cx fm s.heap.objs.size st :=
  ⟨r.h.fresh.1, fun q => Nat.lt_irrefl _ (r.mt_lt _ q), r.h.fresh.2.2⟩

theorem Ext.old_none {mt : List Addr} {a b : Ar} {h h' : Heap} (x : Ext mt a h b h') {p : Addr} (hp : h'.get? p = none) (hm : p ∉ mt) : h.get? p = none := by
  cases q : h.get? p with
  | none => rfl
  | some o => exact absurd hp (x.live p (by rw [q]; nofun) hm)

theorem EI_list {iter : PySem.Expr} {Q : Nat → (Nat → V) → (St → Prop) → St → Prop} (hA : A.handled = none)
    (h : EV cx fm A iter st fun x st1 => ∃ l vs, x = .ref l ∧ At l (.list vs) st1.ar ∧ Q vs.length (fun i => vs.getD i .none) (fun st' => At l (.list vs) st'.ar) st1) : EI cx fm A iter st Q := fun s Qr Er r k =>
  h s _ _ r fun x st1 s1 y h1 r1 rx e1 => by
    obtain ⟨l, vs, rfl, hl, h1⟩ := h1
    cases rx
    obtain ⟨items, n, e, q⟩ := r1.h.list hl
    have hlt := Heap.lt_size e
    have off := r1.off_new default 0
    refine wpAny_pyIter_list (isList_of e) (k _ _ _ st1 { s1 with heap := _, toks := s1.toks } s1.heap.objs.size _ h1 (r1.push _ s1.toks) (ItR.list hA _ (Nat.ne_of_gt hlt)) ⟨_, Heap.get?_push_size _ rfl, rfl, rfl⟩ off (e1.old_none (size_none _) off.mt) (e1.trans (.push ..)))
end
end
section
section
variable {cx : Cx} {fm : Fm} {A : Around} {st : St}

theorem EI_str {iter : PySem.Expr} {Q : Nat → (Nat → V) → (St → Prop) → St → Prop} (hA : A.handled = none)
    (h : EV cx fm A iter st fun x st1 => ∃ l, x = .str l ∧ l.all (· < 128) = true ∧ Q l.length (fun i => .str [l.getD i 0]) (fun _ => True) st1) : EI cx fm A iter st Q := fun s Qr Er r k =>
  h s _ _ r fun x st1 s1 y h1 r1 rx e1 => by
    obtain ⟨l, rfl, hl, h1⟩ := h1
    cases rx
    have off := r1.off_new default 0
    exact wpAny_pyIter_ascii (by simpa using hl) (k _ _ _ st1 { s1 with heap := _, toks := s1.toks } s1.heap.objs.size _ h1 (r1.push _ s1.toks) (ItR.str hA _) ⟨_, Heap.get?_push_size _ rfl, rfl, rfl⟩ off (e1.old_none (size_none _) off.mt) (e1.trans (.push ..)))

/-- a call of a type, at the level of the machine -/
theorem callT_real {f : Str} {T : String} {e : PySem.Expr} {rest : List PySem.Expr} {fp pos : Pos} {P : List V → St → Prop} {s : Shared} {Qr : Value → Shared → Prop} {Er : Value → Shared → Prop} (hf : (f, .val (.type T)) ∈ fm.gl)
    (h : EVs cx fm A (e :: rest) pos st P) (r : Rel cx fm st s)
    (k : ∀ vs st2 s2 xs, P vs st2 → Rel cx fm st2 s2 → VRs s2.heap vs xs → Ext (fm.mt cx) st.ar s.heap st2.ar s2.heap → wpAny cx.M A (call (.type T) xs) Qr Er s2)
    (he : ∀ env, starEach (e :: rest) env = (false, eval e env) :: starEach rest env := by walk_at "u")
    (hn : NoStar (e :: rest) := by walk_at "u") (hd : (f == ("__debug__" : Str)) = false := by walk_at "k") : wpAny cx.M A (eval (.Call (.Name f fp) (e :: rest) [] pos) fm.env) Qr Er s :=
  Call_ (EV_glob hf (Q := fun v st' => v = .val (.type T) ∧ st' = st) ⟨rfl, rfl⟩ hd s _ _ r fun v st1 s1 x h1 r1 rv e1 => by
    obtain ⟨rfl, rfl⟩ := h1
    cases rv
    have h2 := h s1 _ Er r1 fun vs st2 s2 xs h2 r2 rvs e2 => k vs st2 s2 xs h2 r2 rvs (e1.trans e2)
    refine PySem.callWith_type (hn _ _) ?_
    show wpAny cx.M A (evalArgs _ true (backTo pos (starEach (e :: rest) fm.env)) []) _ _ _
    unfold EVs at h2
    rw [he] at h2 ⊢
    exact Calls.evalArgs_plain h2)

theorem range_tail {a n : Nat} {s : Shared} {Q : Nat → (Nat → V) → (St → Prop) → St → Prop} {Qr : Value → Shared → Prop} {Er : Value → Shared → Prop} {st1 : St} {s0 : Shared} {b : Int} {t u v : Tok} (hA : A.handled = none) (hb : b = ((a + n : Nat) : Int)) (hs : a + n < 2 ^ 62)
    (h : Q n (fun i => nt (a + i)) (fun _ => True) st1) (r : Rel cx fm st1 s) (e : Ext (fm.mt cx) st.ar s0.heap st1.ar s.heap) {ro : Addr} (hr : IsRange s.heap ro (a : Int) b 1 t u v)
    (k : ∀ n item C st1 s1 I W, Q n item C st1 → Rel cx fm st1 s1 → ItR cx fm A I n item C W → W 0 s1.heap → Off cx fm I st1 → s0.heap.get? I = none → Ext (fm.mt cx) st.ar s0.heap st1.ar s1.heap → Qr (.ref I) s1) :
    wpAny cx.M A (pyIter (.ref ro)) Qr Er s := by
  have off := r.off_new default 0
  subst hb
  refine wpAny_pyIter_range hr (small_one (by omega) (by omega) (by omega) (by omega)) (k _ _ _ st1 { s with heap := _, toks := s.toks } s.heap.objs.size _ h (r.push _ s.toks) (ItR.range a n hA _) ?_ off (e.old_none (size_none _) off.mt) (e.trans (.push ..)))
  have e1 : Builtin.Range.rangeSize (a : Int) ((a + n : Nat) : Int) 1 = (n : Int) := by
    rw [rangeSize_one]; split <;> omega
  rw [e1]
  exact Heap.get?_push_size _ rfl

theorem EI_range1 {f : Str} {e : PySem.Expr} {fp pos : Pos} {Q : Nat → (Nat → V) → (St → Prop) → St → Prop} (hA : A.handled = none) (hf : (f, .val (.type "range")) ∈ fm.gl)
    (h : EV cx fm A e st fun x st1 => ∃ n, x = nt n ∧ n < 2 ^ 62 ∧ Q n (fun i => nt i) (fun _ => True) st1)
    (he : ∀ env, starEach [e] env = (false, eval e env) :: starEach [] env := by walk_at "u") (hn : NoStar [e] := by walk_at "u") (hd : (f == ("__debug__" : Str)) = false := by walk_at "k") : EI cx fm A (.Call (.Name f fp) [e] [] pos) st Q := fun s Qr Er r k =>
  callT_real hf (EVs_cons (Q := fun vs st1 => ∃ n, vs = [nt n] ∧ n < 2 ^ 62 ∧ Q n (fun i => nt i) (fun _ => True) st1) (h.mono fun v st' q => EVs_nil (by obtain ⟨n, rfl, q⟩ := q; exact ⟨n, rfl, q⟩)) he) r (fun vs st2 s2 xs h2 r2 rvs e2 => by
    obtain ⟨n, rfl, hs, h2⟩ := h2
    cases rvs with
    | cons ra rx =>
      cases ra
      cases rx
      refine call_range_1 (range_tail (a := 0) (n := n) hA (by simp) (by omega) (by simpa using h2) (r2.push _ _) (e2.trans (.push ..)) (IsRange.new ..) k)) he hn hd
theorem EI_range2 {f : Str} {e1 e2 : PySem.Expr} {fp pos : Pos} {Q : Nat → (Nat → V) → (St → Prop) → St → Prop} (hA : A.handled = none) (hf : (f, .val (.type "range")) ∈ fm.gl)
    (h : EVs cx fm A [e1, e2] pos st fun vs st1 => ∃ a n, vs = [nt a, nt (a + n)] ∧ a + n < 2 ^ 62 ∧ Q n (fun i => nt (a + i)) (fun _ => True) st1)
    (he : ∀ env, starEach [e1, e2] env = (false, eval e1 env) :: starEach [e2] env := by walk_at "u") (hn : NoStar [e1, e2] := by walk_at "u") (hd : (f == ("__debug__" : Str)) = false := by walk_at "k") : EI cx fm A (.Call (.Name f fp) [e1, e2] [] pos) st Q := fun s Qr Er r k =>
  callT_real hf h r (fun vs st2 s2 xs h2 r2 rvs e2 => by
    obtain ⟨a, n, rfl, hs, h2⟩ := h2
    cases rvs with
    | cons ra rx =>
      cases ra
      cases rx with
      | cons rb rx =>
        cases rb
        cases rx
        exact call_range_2 (range_tail (a := a) hA rfl hs h2 (r2.push _ _) (e2.trans (.push ..)) (IsRange.new ..) k)) he hn hd

/-! targets -/
abbrev AS (cx : Cx) (fm : Fm) (A : Around) (t : PySem.Expr) (v : V) (st : St) (Q : St → Prop) : Prop := Op1 cx fm A (assign t fm.env) UR v st (fun _ => Q)
theorem AS_name {x : Str} {px : Pos} {v : V} {Q : St → Prop} (h : SNm cx fm A x v st Q) : AS cx fm A (.Name x px) v st Q := fun s y Qr Er r ry k => wpAny_assign_Name (h s y Qr Er r ry k)

/-- the iterator's own turn, seen from the loop's start -/
theorem Ext.past {mt : List Addr} {a b : Ar} {h h1 h2 : Heap} {I : Addr} (x : Ext mt a h b h1) (y : Step I h1 h2) (hI : h.get? I = none) : Ext mt a h b h2 where
  keep := fun p o e hm ha => y.keep p o (fun q => by rw [q, hI] at e; cases e) (x.keep p o e hm ha)
  hard := fun p o e s => y.keep p o (fun q => by rw [q, hI] at e; cases e) (x.hard p o e s)
  new := x.new
  live := fun p e hm => by
    cases q : h1.get? p with
    | none => exact absurd q (x.live p e hm)
    | some o => rw [y.keep p o (fun z => e (z ▸ hI)) q]; nofun

theorem Off.ext {I : Addr} {st' : St} {h h' : Heap} (o : Off cx fm I st) (e : Ext (fm.mt cx) st.ar h st'.ar h') (hl : h.get? I ≠ none) : Off cx fm I st' :=
  ⟨fun q => (e.new _ q).elim o.ar fun z => hl z.1, o.mt, o.base⟩
theorem Rel.turn {I : Addr} {s : Shared} {h' : Heap} {tk : Nat} (r : Rel cx fm st s) (o : Off cx fm I st) (y : Step I s.heap h') : Rel cx fm st { s with heap := h', toks := tk } :=
  r.step_off (dr := s.drawn) y o.ar (fun q => o.mt (.tail _ q)) o.base (fun q => o.mt (q ▸ .head _))

theorem EX_for {target iter : PySem.Expr} {body : List Stmt} {pos : Pos} {Q : Fl → St → Prop}
    (h : EI cx fm A iter st fun n item C st1 => ∃ J : Nat → St → Prop, J 0 st1 ∧ (∀ i st2, J i st2 → C st2) ∧
      (∀ i st2, i < n → J i st2 → AS cx fm A target (item i) st2 fun st3 => EB cx fm A body st3 (Fl.turn Q (J (i + 1)))) ∧ ∀ st2, J n st2 → Q .next st2)
    (hs : ∀ env x, foldedSetIterable iter env x = pure x := by walk_at "u") : EX cx fm A (.For target iter body [] pos) st Q := fun s Qr Er r k => by
  refine wpAny_For (h s _ _ r fun n item C st1 s1 I W hh r1 it w0 off hI e1 => ?_) (hs _)
  obtain ⟨J, j0, jc, turn, fin⟩ := hh
  refine codeAny_forLoop_any (R := fun r s' => match r with | .ok f => Qr f s' | .error e => cameBackBy cx.M A fm.env Er e s')
    (fun m s' => ∃ i st', i ≤ n ∧ m = n + 1 - i ∧ J i st' ∧ Rel cx fm st' s' ∧ W i s'.heap ∧ Off cx fm I st' ∧ Ext (fm.mt cx) st.ar s.heap st'.ar s'.heap) ?_ (n + 1) ⟨0, st1, Nat.zero_le _, rfl, j0, r1, w0, off, e1⟩
  rintro m s' ⟨i, st', hi, rfl, hJ, r', w', off', e'⟩
  by_cases hlt : i < n
  · refine it.next i st' s' _ _ hlt (jc _ _ hJ) r' w' fun v h' tk rv w2 stp => ?_
    have r2 := r'.turn (tk := tk) off' stp
    have e2 := e'.past stp hI
    obtain ⟨o, ho, nm, hc, hnm⟩ := it.live _ _ w2
    refine go_harmless (s := { s' with heap := h', toks := tk }) ho hc hnm ?_
    refine turn i st' hlt hJ _ v _ _ r2 rv fun _ st3 s3 _ h3 r3 _ e3 => ?_
    refine h3 s3 _ _ r3 fun f st4 s4 g h4 r4 rf e4 => ?_
    have hl2 : h'.get? I ≠ none := by rw [ho]; nofun
    have off3 := off'.ext e3 hl2
    have k3 : s3.heap.get? I = some o := e3.keep _ _ ho off'.mt off'.ar
    have hl3 : s3.heap.get? I ≠ none := by rw [k3]; nofun
    have w4 : W (i + 1) s4.heap := it.frame _ _ _ w2 fun o' q => e4.keep _ _ (e3.keep _ _ q off'.mt off'.ar) off3.mt off3.ar
    have e5 := e2.trans (e3.trans e4)
    cases rf with
    | next => exact ⟨n + 1 - (i + 1), by omega, i + 1, st4, hlt, rfl, h4, r4, w4, off3.ext e4 hl3, e5⟩
    | cont => exact ⟨n + 1 - (i + 1), by omega, i + 1, st4, hlt, rfl, h4, r4, w4, off3.ext e4 hl3, e5⟩
    | brk => exact k _ _ _ _ h4 r4 .next e5
    | ret q => exact k _ _ _ _ h4 r4 (.ret q) e5
  · have : i = n := by omega
    subst this
    refine it.done st' s' _ _ (jc _ _ hJ) r' w' fun h' tk stp => wpAny_execs_nil ?_
    exact k _ _ _ _ (fin _ hJ) (r'.turn (tk := tk) off' stp) .next (e'.past stp hI)
end
end
section
section
variable {prog : Program} {w : World} {A : Around} {R : Result → Shared → Prop} {s : Shared}
/-- the tests of a comprehension, of which there is one at most -/
noncomputable def testsW (M : Model) (A : Around) (env : Env) (Q : Bool → Shared → Prop) (E : Value → Shared → Prop) (s : Shared) : List PySem.Expr → Prop
  | [] => Q true s
  | c :: _ => wpAny M A (isTrue c env (eval c env)) Q E s
/-- one turn of a comprehension: it ends with the list, or leads to `back` -/
noncomputable def turnW (M : Model) (A : Around) (env : Env) (target elt : PySem.Expr) (ifs : List PySem.Expr) (it acc : Value) (R : Result → Shared → Prop) (back : Shared → Prop) (s : Shared) : Prop :=
  let N := notedBy M A env fun e s' => R (.error e) s'
  wpAny M A (pyNext it) (fun r s₁ => r.elim (R (.ok .next) s₁) fun v => wpAny M A (letOwnedTupleGo target it v) (fun _ s₂ => wpAny M A (assign target env v) (fun _ s₃ =>
    testsW M A env (fun ok s₄ => cond ok (wpAny M A (eval elt env) (fun x => wpAny M A (call (.builtin "list.append") [acc, x]) (fun _ => back) N) N s₄) (back s₄)) N s₃ ifs) N s₂) N s₁) N s

theorem compLoop_any {elt target iter : PySem.Expr} {ifs : List PySem.Expr} {scope : Scope} {pos : Pos} {it acc : Value} {env : Env} (one : Nat.ble ifs.length 1 = true) (I : Nat → Shared → Prop)
    (turn : ∀ n s, I n s → turnW (model prog w) A env target elt ifs it acc R (fun s' => ∃ m, m < n ∧ I m s') s) (n : Nat) (h : I n s) :
    codeAny (model prog w) A (.compLoop (.ListComp elt [⟨target, iter, ifs, 0⟩] scope pos) 0 it acc env) R s := by
  match ifs, one, turn with
  | [], _, t =>
    refine kcp_loop I (fun n s hI => wpAny_mono (t n s hI) (fun r s₁ q => ?_) fun _ _ e => e) n h
    cases r <;> exact q
  | [c], _, t =>
    refine kct_loop I (fun n s hI => wpAny_mono (t n s hI) (fun r s₁ q => ?_) fun _ _ e => e) n h
    cases r with
    | none => exact q
    | some v => exact wpAny_mono q (fun _ _ q => wpAny_mono q (fun _ _ q => wpAny_mono q (fun b _ q => by cases b <;> exact q) fun _ _ e => e) fun _ _ e => e) fun _ _ e => e
end

section
variable {cx : Cx} {fm : Fm} {A : Around} {st : St}
/-- the tests, told of states -/
noncomputable def CI (cx : Cx) (fm : Fm) (A : Around) (ifs : List PySem.Expr) (st : St) (Q : Bool → St → Prop) : Prop :=
  ∀ (s : Shared) (Qr : Bool → Shared → Prop) (Er : Value → Shared → Prop), Rel cx fm st s → (∀ b st' s', Q b st' → Rel cx fm st' s' → Ext (fm.mt cx) st.ar s.heap st'.ar s'.heap → Qr b s') → testsW cx.M A fm.env Qr Er s ifs
theorem CI_nil {Q : Bool → St → Prop} (h : Q true st) : CI cx fm A [] st Q := fun s Qr Er r k => k _ _ _ h r (.refl ..)
theorem CI_one {c : PySem.Expr} {Q : Bool → St → Prop} (h : ET cx fm A c st Q) : CI cx fm A [c] st Q := fun s Qr Er r k => h s Qr Er r fun b st' s' c q r' rb e => (show b = c from rb) ▸ k b st' s' q r' e

noncomputable def CompTurn (cx : Cx) (A : Around) (fmc : Fm) (target : PySem.Expr) (ifs : List PySem.Expr) (elt : PySem.Expr) (names : List Str) (ar : Ar) (v : V) (out : Option V) : Prop :=
  ∀ us : List (Option V), us.length = names.length → AS cx fmc A target v ⟨names.zip us, ar⟩ fun st3 => CI cx fmc A ifs st3 fun ok st4 =>
    if ok = true then EV cx fmc A elt st4 fun y st5 => st5.ar = ar ∧ st5.loc.map (·.1) = names ∧ out = some y else st4.ar = ar ∧ st4.loc.map (·.1) = names ∧ out = none

theorem zip_back {names : List Str} {loc : Loc} (h : loc.map (·.1) = names) : loc = names.zip (loc.map (·.2)) := by
  subst h
  induction loc with
  | nil => rfl
  | cons p r ih => simp only [List.map_cons, List.zip_cons_cons]; rw [← ih]

theorem Rel.other {s s' : Shared} {C : Addr} (r : Rel cx fm st s) (h : HRel cx st.ar s') (e : Ext (C :: cx.tb) st.ar s.heap st.ar s'.heap) (hC : fm.env.locals ≠ C) : Rel cx fm st s' where
  h := h
  loc := r.loc.keep (fun o q => e.keep _ o q (fun m => (List.mem_cons.mp m).elim hC r.off.2.1) r.off.1) e.hard
  off := r.off
  fn := r.fn
  cells := r.cells
  globs := r.globs

structure CompOk (cx : Cx) (fm : Fm) (scope : Scope) (cl : List (Str × Addr)) (names : List Str) (glc : List (Str × V)) (clc : List (Str × Addr)) : Prop where
  cell : ∀ y ∈ scope.names, y.2 ≠ .cell
  kind : scope.kind = .function
  nd : names.Nodup
  lk : ∀ x ∈ names, scope.names.lookup x = some .local
  gl : ∀ p ∈ glc, GlobV cx p.1 p.2 ∧ (relabel scope fm.env).names.lookup p.1 = some .globalImplicit
  genv : fm.env.globals = mainGlobals
  benv : fm.env.builtins = builtinsNs
  fre : ∀ p ∈ clc, cl.lookup p.1 = some p.2 ∧ ((relabel scope fm.env).names.lookup p.1 = some .cell ∨ (relabel scope fm.env).names.lookup p.1 = some .free)
  clos : closureFor scope fm.env = pure cl
  names : ∀ x ∈ scope.names, x.2 = .local → scope.names.lookup x.1 = some .local

noncomputable abbrev outsOf (outs : Nat → Option V) (n : Nat) : List V := (List.range n).filterMap outs
theorem outs_succ (outs : Nat → Option V) (n : Nat) : outsOf outs (n + 1) = outsOf outs n ++ (outs n).toList := by
  unfold outsOf
  rw [List.range_succ, List.filterMap_append]
  cases h : outs n <;> simp [h]
theorem outs_len (outs : Nat → Option V) (n : Nat) : (outsOf outs n).length ≤ n := by
  have := List.length_filterMap_le outs (List.range n)
  simpa [outsOf] using this

theorem Ext.inner {mt : List Addr} {a b : Ar} {h h1 h2 : Heap} {tb : List Addr} {Ca : Addr} (x : Ext mt a h b h1) (y : Ext (Ca :: tb) b h1 b h2) (hC : h.get? Ca = none) (ht : ∀ p ∈ tb, p ∈ mt) : Ext mt a h b h2 where
  keep := fun p o e hm ha => y.keep p o (x.keep p o e hm ha) (fun q => (List.mem_cons.mp q).elim (fun z => by rw [z, hC] at e; cases e) fun z => hm (ht p z)) fun q => (x.new p q).elim ha fun l => by rw [l.1] at e; cases e
  hard := fun p o e s => y.hard p o (x.hard p o e s) s
  new := x.new
  live := fun p e hm => y.live p (x.live p e hm) fun q => (List.mem_cons.mp q).elim (fun z => e (z ▸ hC)) fun z => hm (ht p z)

theorem comp_core {target elt iter : PySem.Expr} {ifs : List PySem.Expr} {scope : Scope} {cl : List (Str × Addr)} {pos : Pos} {names : List Str} {glc : List (Str × V)} {clc : List (Str × Addr)} {s1 : Shared} {I : Addr} {n : Nat} {item : Nat → V}
    {C : St → Prop} {W : Nat → Heap → Prop} {outs : Nat → Option V} {RR : Value → Addr → Result → Shared → Prop} {E : Value → Shared → Prop} {ar0 : Ar} {h0 : Heap} (ok : CompOk cx fm scope cl names glc clc) (one : Nat.ble ifs.length 1 = true)
    (r1 : Rel cx fm st s1) (it : ItR cx fm A I n item C W) (hC : C st) (w0 : W 0 s1.heap) (off : Off cx fm I st) (e0 : Ext (fm.mt cx) ar0 h0 st.ar s1.heap) (hI0 : h0.get? I = none)
    (turn : ∀ i env', i < n → env'.scope = relabel scope fm.env → CompTurn cx A ⟨env', glc, clc⟩ target ifs elt names st.ar (item i) (outs i)) (hsz : n ≤ sizeLine)
    (hRR : ∀ D Ca s', Rel cx fm ⟨st.loc, (D, .list (outsOf outs n)) :: st.ar⟩ s' → Ext (fm.mt cx) ar0 h0 ((D, .list (outsOf outs n)) :: st.ar) s'.heap → (∃ m, s'.heap.Ns Ca m) → h0.get? Ca = none →
      Ca ∉ adr st.ar → Ca ∉ fm.mt cx → cx.base.get? Ca = none → Ca ≠ D → RR (.ref D) Ca (.ok .next) s') :
    wpAny cx.M A (newList []) (fun acc s₃ => wpAny cx.M A (newFunctionEnv scope fm.env.globals cl [] fm.env.qual none .none (some fm.env)) (fun cenv s₄ =>
      codeAny cx.M A (.compStart (.ListComp elt [⟨target, iter, ifs, 0⟩] scope pos) 0 (.ref I) acc { cenv with scope := relabel scope fm.env }) (RR acc cenv.locals) s₄) E s₃) E s1 := by
  obtain ⟨oI, hoI, _⟩ := it.live _ _ w0
  refine wpAny_newObj_type (wpAny_newFunctionEnv ok.cell (by intro y hy; simp at hy) (fun h₁ hns₁ hsb₁ => ?_) ok.kind) (by size_fits)
  dsimp only at hns₁ hsb₁ ⊢
  have hD0 := size_none s1.heap
  generalize hD : s1.heap.objs.size = D at hns₁ hsb₁ hD0 ⊢
  generalize hH2 : s1.heap.push { cls := .type "list", dict := none, data := .seq ([] : List Value).toArray } = H2 at hns₁ hsb₁ ⊢
  have k2 : ∀ b o, s1.heap.get? b = some o → H2.get? b = some o := fun b o e => hH2 ▸ Heap.get?_push_of_some _ e
  have hDo : H2.get? D = some { cls := .type "list", data := .seq ([] : List Value).toArray } := by rw [← hH2, ← hD]; exact Heap.get?_push_size _ rfl
  have hCa0 := size_none H2
  have hCaD : H2.objs.size ≠ D := fun e => by rw [← e, hCa0] at hDo; cases hDo
  generalize hCa : H2.objs.size = Ca at hns₁ hsb₁ hCa0 hCaD ⊢
  have hDC : D ≠ Ca := Ne.symm hCaD
  have hCa1 : s1.heap.get? Ca = none := by
    cases q : s1.heap.get? Ca with
    | none => rfl
    | some o => have := k2 _ _ q; rw [hCa0] at this; cases this
  have k1 : ∀ b o, s1.heap.get? b = some o → h₁.get? b = some o := fun b o e =>
    hsb₁.extBut b o (fun q => by rw [q, hCa1] at e; cases e) (Heap.get?_push_of_some _ (k2 b o e))
  have hDo1 : h₁.get? D = some { cls := .type "list", data := .seq ([] : List Value).toArray } := hsb₁.extBut _ _ hDC (Heap.get?_push_of_some _ hDo)
  have live_ne : ∀ {b o}, s1.heap.get? b = some o → b ≠ D ∧ b ≠ Ca := fun e => ⟨fun q => (by rw [q, hD0] at e; cases e), fun q => (by rw [q, hCa1] at e; cases e)⟩
  have ar_ne : ∀ b ∈ adr st.ar, b ≠ D ∧ b ≠ Ca := fun b hb => by
    obtain ⟨p, hp, rfl⟩ := List.mem_map.mp hb
    obtain ⟨o, e, _⟩ := r1.h.objs p hp
    exact live_ne e
  have mt_ne : ∀ b ∈ fm.mt cx, b ≠ D ∧ b ≠ Ca := fun b hb => by
    rcases List.mem_cons.mp hb with rfl | hb
    · have := r1.env_some
      cases q : s1.heap.get? fm.env.locals with
      | none => rw [q] at this; cases this
      | some o => exact live_ne q
    · obtain ⟨⟨ps, e, _⟩, _⟩ := r1.h.tabs b hb
      exact live_ne e
  have base_no : ∀ b, s1.heap.get? b = none → cx.base.get? b = none := fun b e => by
    cases q : cx.base.get? b with
    | none => rfl
    | some o => have := r1.h.keep _ _ q; rw [e] at this; cases this
  have hLD := (mt_ne _ (.head _)).1
  have hLC := (mt_ne _ (.head _)).2
  have offD : D ∉ adr st.ar ∧ D ∉ fm.mt cx := ⟨fun m => (ar_ne _ m).1 rfl, fun m => (mt_ne _ m).1 rfl⟩
  have offC : Ca ∉ adr st.ar ∧ Ca ∉ fm.mt cx := ⟨fun m => (ar_ne _ m).2 rfl, fun m => (mt_ne _ m).2 rfl⟩
  have hD00 := e0.old_none hD0 offD.2
  have hCa00 := e0.old_none hCa1 offC.2
  have tbm : ∀ p ∈ cx.tb, p ∈ fm.mt cx := fun p hp => .tail _ hp
  have hI : I ≠ D ∧ I ≠ Ca := live_ne hoI
  have stp1 : Step D s1.heap h₁ := ⟨fun b o _ e => k1 b o e, fun o e => by rw [hD0] at e; cases e⟩
  have loop : codeAny cx.M A (.compLoop (.ListComp elt [⟨target, iter, ifs, 0⟩] scope pos) 0 (.ref I) (.ref D) (compEnvC scope cl Ca fm.env)) (RR (.ref D) Ca) { s1 with heap := h₁, toks := s1.toks + ([] : List (Str × Value)).length } := by
    refine compLoop_any one (fun k s' => ∃ i loc ys m', i ≤ n ∧ k = n + 1 - i ∧ Rel cx fm st s' ∧ Rel cx ⟨compEnvC scope cl Ca fm.env, glc, clc⟩ ⟨loc, st.ar⟩ s' ∧ loc.map (·.1) = names ∧
      s'.heap.get? D = some { cls := .type "list", data := .seq (ys : List Value).toArray m' } ∧ VRs s'.heap (outsOf outs i) ys ∧ W i s'.heap ∧ Ext (fm.mt cx) ar0 h0 st.ar s'.heap) ?_ (n + 1) ?_
    · rintro k s' ⟨i, loc, ys, m', hi, rfl, rf, rc, hl, eD, vD, w', e'⟩
      have offc : Off cx ⟨compEnvC scope cl Ca fm.env, glc, clc⟩ I ⟨loc, st.ar⟩ := ⟨off.ar, fun q => (List.mem_cons.mp q).elim hI.2 fun z => off.mt (.tail _ z), off.base⟩
      by_cases hlt : i < n
      · refine it.next i st s' _ _ hlt hC rf w' fun v h' tk rv w2 stp => ?_
        show wpAny _ _ (letOwnedTupleGo target _ v) _ _ _
        have rf2 := rf.turn (tk := tk) off stp
        have rc2 := rc.turn (tk := tk) offc stp
        have eD2 := stp.keep _ _ (Ne.symm hI.1) eD
        have vD2 := vD.mono stp.hard
        obtain ⟨o2, ho2, nm, hc2, hnm⟩ := it.live _ _ w2
        have e2 := e'.past stp hI0
        refine go_harmless (s := { s' with heap := h', toks := tk }) ho2 hc2 hnm ?_
        have key : ∀ st5 s5, st5.ar = st.ar → st5.loc.map (·.1) = names → Rel cx ⟨compEnvC scope cl Ca fm.env, glc, clc⟩ st5 s5 → Ext (Ca :: cx.tb) st.ar h' st5.ar s5.heap →
            Rel cx fm st s5 ∧ Rel cx ⟨compEnvC scope cl Ca fm.env, glc, clc⟩ ⟨st5.loc, st.ar⟩ s5 ∧ s5.heap.get? D = some { cls := .type "list", data := .seq (ys : List Value).toArray m' } ∧ VRs s5.heap (outsOf outs i) ys ∧ W (i + 1) s5.heap ∧ Ext (fm.mt cx) ar0 h0 st.ar s5.heap := by
          rintro ⟨loc5, ar5⟩ s5 rfl hl5 r5 e5
          refine ⟨rf2.other r5.h e5 hLC, r5, e5.keep _ _ eD2 (fun q => (List.mem_cons.mp q).elim hDC fun z => offD.2 (.tail _ z)) offD.1, vD2.mono e5.hard, it.frame _ _ _ w2 fun o q => e5.keep _ _ q (fun q => (List.mem_cons.mp q).elim hI.2 fun z => off.mt (.tail _ z)) off.ar, e2.inner e5 hCa00 tbm⟩
        have t0 := turn i (compEnvC scope cl Ca fm.env) hlt rfl (loc.map (·.2)) (by rw [← hl]; simp)
        rw [← zip_back hl] at t0
        refine t0 _ v _ _ rc2 rv fun _ st3 s3 _ h3 r3 _ e3 => h3 s3 _ _ r3 fun b st4 s4 h4 r4 e4 => ?_
        cases b with
        | false =>
          simp only [Bool.false_eq_true, if_false, cond_false] at h4 ⊢
          obtain ⟨ha, hn, ho⟩ := h4
          obtain ⟨q1, q2, q3, q4, q5, q6⟩ := key st4 s4 ha hn r4 (e3.trans e4)
          refine ⟨n + 1 - (i + 1), by omega, i + 1, st4.loc, ys, m', hlt, rfl, q1, q2, hn, q3, ?_, q5, q6⟩
          rw [outs_succ, ho]; simpa using q4
        | true =>
          simp only [if_true, cond_true] at h4 ⊢
          refine h4 s4 _ _ r4 fun y st5 s5 z h5 r5 rz e5 => ?_
          obtain ⟨ha, hn, ho⟩ := h5
          obtain ⟨q1, q2, q3, q4, q5, q6⟩ := key st5 s5 ha hn r5 (e3.trans (e4.trans e5))
          refine append_at q3 (fun h6 hb e6 => ?_) (by rw [List.size_toArray, ← q4.length]; exact Nat.le_trans (outs_len outs i) (by omega))
          have stpD := Step.sameBut hb (soft_list q3)
          refine ⟨n + 1 - (i + 1), by omega, i + 1, st5.loc, ys ++ [z], m' + 1, hlt, rfl, ?_, ?_, hn, by rw [e6]; simp, ?_, ?_, q6.past stpD hD00⟩
          · exact q1.step_off (dr := s5.drawn) stpD offD.1 (fun q => offD.2 (.tail _ q)) (base_no _ hD0) (fun q => hLD q)
          · exact q2.step_off (dr := s5.drawn) stpD offD.1 (fun q => offD.2 (.tail _ q)) (base_no _ hD0) (fun q => hDC q.symm)
          · rw [outs_succ, ho]; exact (q4.mono stpD.hard).append (.cons (rz.mono stpD.hard) .nil)
          · exact it.frame _ _ _ q5 fun o q => stpD.keep _ _ hI.1 q
      · have : i = n := by omega
        subst this
        refine it.done st s' _ _ hC rf w' fun h' tk stp => ?_
        have rf2 := rf.turn (tk := tk) off stp
        have eD2 := stp.keep _ _ (Ne.symm hI.1) eD
        have vD2 := vD.mono stp.hard
        have e2 := e'.past stp hI0
        obtain ⟨mC, hnC, _⟩ := (rc.turn (tk := tk) offc stp).loc.ns
        refine hRR D Ca _ ⟨rf2.h.join eD2 (.list vD2) offD.1 (fun q => offD.2 (.tail _ q)) (base_no _ hD0), rf2.loc, ⟨fun q => (List.mem_cons.mp q).elim hLD rf2.off.1, rf2.off.2⟩, rf2.fn, rf2.cells, rf2.globs⟩ ⟨e2.keep, e2.hard, fun p hp => ?_, e2.live⟩ ⟨mC, hnC⟩ hCa00 offC.1 offC.2 (base_no _ hCa1) hCaD
        rcases List.mem_cons.mp hp with rfl | hp
        · exact .inr ⟨hD00, offD.2⟩
        · exact e2.new p hp
    · have rel1 := r1.step_off (tk := s1.toks + ([] : List (Str × Value)).length) (dr := s1.drawn) stp1 offD.1 (fun q => offD.2 (.tail _ q)) (base_no _ hD0) (fun q => hLD q)
      refine ⟨0, names.map (·, Option.none), [], 0, Nat.zero_le _, rfl, rel1, ?_, by simp [Function.comp_def], hDo1, .nil, it.frame _ _ _ w0 fun o q => k1 _ _ q, e0.past stp1 hD00⟩
      refine ⟨rel1.h, ⟨by simpa [Function.comp_def] using ok.nd, fun p hp => ?_, _, hns₁, fun p hp => ?_⟩, ⟨offC.1, fun q => offC.2 (.tail _ q), base_no _ hCa1⟩, ok.kind, fun p hp => ok.fre p hp, fun p hp A s' Q E kp k => (ok.gl p hp).1 _ A s' Q E ok.kind (ok.gl p hp).2 ok.genv ok.benv kp k⟩
      · obtain ⟨x, hx, rfl⟩ := List.mem_map.mp hp
        exact lookup_relabel_local (ok.lk x hx)
      · obtain ⟨x, hx, rfl⟩ := List.mem_map.mp hp
        trivial
  exact codeAny_compStart_list loop (it.self 0 _ _ _ (it.frame _ _ _ w0 fun o q => k1 _ _ q) loop)

/-- a comprehension whose list is a value -/
theorem EV_comp {target elt iter : PySem.Expr} {ifs : List PySem.Expr} {scope : Scope} {cl : List (Str × Addr)} {pos : Pos} (names : List Str) (glc : List (Str × V)) (clc : List (Str × Addr)) {Q : V → St → Prop} (ok : CompOk cx fm scope cl names glc clc)
    (h : EI cx fm A iter st fun n item C st1 => ∃ outs : Nat → Option V, C st1 ∧ n ≤ sizeLine ∧ (∀ i env', i < n → env'.scope = relabel scope fm.env → CompTurn cx A ⟨env', glc, clc⟩ target ifs elt names st1.ar (item i) (outs i)) ∧
      ∀ l, Q (.ref l) ⟨st1.loc, (l, .list (outsOf outs n)) :: st1.ar⟩)
    (hs : ∀ env x, foldedSetIterable iter env x = pure x := by walk_at "u") (one : Nat.ble ifs.length 1 = true := by walk_at "u") : EV cx fm A (.ListComp elt [⟨target, iter, ifs, 0⟩] scope pos) st Q := fun s Qr Er r k => by
  rw [eval_ListComp]
  refine wpAny_comprehension_free (use := none) rfl (hs _) ok.clos ok.kind ok.names (h s _ Er r fun n item C st1 s1 I W hh r1 it w0 off hI e1 => ?_)
  obtain ⟨outs, hC, hsz, turn, fin⟩ := hh
  refine comp_core (RR := compPost cx.M A Er none Qr) ok one r1 it hC w0 off e1 hI turn hsz fun D Ca s' r' e' hn hCa c1 c2 c3 c4 => ?_
  obtain ⟨m, hn⟩ := hn
  refine ⟨m, hn, fun h' hb => ?_⟩
  have stp : Step Ca s'.heap h' := Step.sameBut hb fun o eo => by
    obtain ⟨o', es, ep, e2, hd, _⟩ := hn
    rw [eo] at e2; cases e2
    refine ⟨fun items n (q : o.data = .seq items n) => ?_, fun vs (q : o.data = .fields vs) => ?_⟩ <;> rw [hd] at q <;> cases q
  exact k _ _ _ _ (fin D) (r'.step_off (tk := s'.toks) (dr := s'.drawn) stp (fun q => (List.mem_cons.mp q).elim c4 c1) (fun q => c2 (.tail _ q)) c3 (fun q => c2 (q ▸ .head _))) (.ref D) (e'.past stp hCa)
end
end
section
structure Def where
  name : Str
  params : Arguments
  body : List Stmt
  scope : Scope
noncomputable def defOf? : Stmt → Option Def
  | .FunctionDef n a b _ _ _ s _ _ _ => some ⟨n, a, b, s⟩
  | _ => none
noncomputable def defAt (k : Nat) : Def := ((PySem.Challenge.pw_sn0028_01.main.body[k]?).bind defOf?).getD ⟨⟨#[]⟩, ⟨[], [], none, [], [], none, []⟩, [], { kind := .function, names := [], isGenerator := false, isCoroutine := false }⟩

structure FdIs (fd : FuncData) (d : Def) : Prop where
  params : fd.params = d.params
  body : fd.body = .stmts d.body
  scope : fd.scope = d.scope
  globals : fd.globals = mainGlobals
  builtins : fd.builtins = builtinsNs
  closure : fd.closure = []
  qual : fd.qualname = d.name

noncomputable def IsFn (cx : Cx) (a : Addr) (k : Nat) : Prop := ∃ fd, FnB cx a fd ∧ FdIs fd (defAt k) ∧ fd.defaults = .none ∧ fd.kwdefaults = .none

noncomputable def namesAre (sc : Scope) (k : NameKind) (ns : List Str) : Bool := ns.all fun x => sc.names.lookup x == some k
theorem namesAre.get {sc : Scope} {k : NameKind} {ns : List Str} (h : namesAre sc k ns = true) : ∀ x ∈ ns, sc.names.lookup x = some k := fun x hx => by
  have := List.all_eq_true.mp h x hx
  simpa using this

/-- what a def's scope must show (no cells) -/
noncomputable def defOk (d : Def) (ps rest gn : List Str) : Bool :=
  decide (ps ++ rest).Nodup && namesAre d.scope .local (ps ++ rest) && namesAre d.scope .globalImplicit gn && d.scope.names.all (fun x => x.2 != .cell) && !d.scope.isCoroutine && !d.scope.isGenerator && (d.scope.kind == .function)

theorem CallT_fn {cx : Cx} {A : Around} {a : Addr} {k : Nat} {vs : List V} {ps rest gn : List Str} {gl : List (Str × V)} {ar : Ar} {Q : V → Ar → Prop} {n : Nat}
    (hfn : IsFn cx a k) (hlim : cx.base.NoLimit) (room : Room A (n + 1)) (hok : defOk (defAt k) ps rest gn = true) (hgn : gl.map (·.1) = gn) (hlen : vs.length = ps.length)
    (hbind : ∀ fd : FuncData, fd.params = (defAt k).params → fd.defaults = .none → fd.kwdefaults = .none → ∀ xs : List Value, xs.length = ps.length → bindArgs fd ⟨xs, []⟩ = pure (ps.zip xs))
    (hgl : ∀ p ∈ gl, GlobV cx p.1 p.2)
    (h : ∀ env A' fd, Room A' n → FdIs fd (defAt k) → EnvOf fd env → EB cx ⟨env, gl, []⟩ A' (defAt k).body ⟨loc0 (ps.zip vs) rest, ar⟩ (Back Q)) : CallT cx A (.ref a) vs ar Q := by
  obtain ⟨fd, f1, f2, f3, f4⟩ := hfn
  simp only [defOk, Bool.and_eq_true, decide_eq_true_eq, Bool.not_eq_true', beq_iff_eq] at hok
  obtain ⟨⟨⟨⟨⟨⟨o1, o2⟩, o3⟩, o4⟩, o5⟩, o6⟩, o7⟩ := hok
  have hz : (ps.zip vs).map (·.1) = ps := by
    rw [List.map_fst_zip (by omega)]
  have pb : ∀ (h : Heap) (ps : List Str) (vs : List V) (xs : List Value), VRs h vs xs → PB h (ps.zip vs) (ps.zip xs) := by
    intro h ps
    induction ps with
    | nil => intro vs xs _; exact .nil
    | cons p ps ih =>
      intro vs xs r
      cases r with
      | nil => exact .nil
      | cons a r => exact .cons a (ih _ _ r)
  refine CallT_def f1 f2.body hlim room (fun s xs _ rx => ⟨ps.zip xs, .of_eq (hbind fd f2.params f3 f4 xs (by rw [← rx.length, hlen])), pb _ _ _ _ rx⟩) (by rw [hz]; exact o1) (by rw [hz, f2.scope]; exact namesAre.get o2) (fun p hp => ⟨hgl p hp, ?_⟩) f2.globals f2.builtins ?_
    (by rw [f2.scope]; exact o5) (by rw [f2.scope]; exact o6) (by rw [f2.scope]; exact o7) (fun env A' ra he => h env A' fd ra f2 he)
  · rw [f2.scope]; exact namesAre.get o3 _ (hgn ▸ List.mem_map.mpr ⟨p, hp, rfl⟩)
  · rw [f2.scope]
    exact fun x hx => by have := List.all_eq_true.mp o4 x hx; simpa using this

/-- by position -/
inductive Has {α : Type} (a : α) : List α → Prop
  | head {r : List α} : Has a (a :: r)
  | tail {b : α} {r : List α} : Has a r → Has a (b :: r)
theorem Has.mem {α : Type} {a : α} {l : List α} (h : Has a l) : a ∈ l := by
  induction h with
  | head => exact .head _
  | tail _ ih => exact .tail _ ih

section
variable {cx : Cx} {fm : Fm} {A : Around} {loc loc' : Loc} {ar ar' : Ar} {env : Env} {gl : List (Str × V)} {cl : List (Str × Addr)}
theorem r_loc {x : Str} {pos : Pos} {v : V} {Q : V → St → Prop} (hm : Has (x, some v) loc) (h : Q v ⟨loc, ar⟩) (hd : (x == ("__debug__" : Str)) = false := by walk_at "k") : EV cx fm A (.Name x pos) ⟨loc, ar⟩ Q := EV_loc hm.mem h hd
theorem r_glob {x : Str} {pos : Pos} {v : V} {st : St} {Q : V → St → Prop} (hm : Has (x, v) gl) (h : Q v st) (hd : (x == ("__debug__" : Str)) = false := by walk_at "k") : EV cx ⟨env, gl, cl⟩ A (.Name x pos) st Q := EV_glob hm.mem h hd
theorem r_cell {x : Str} {pos : Pos} {a : Addr} {v : V} {Q : V → St → Prop} (hc : Has (x, a) cl) (hm : At a (.cell (some v)) ar) (h : Q v ⟨loc, ar⟩) (hn : (x == ("__classdict__" : Str)) = false := by walk_at "k") (hd : (x == ("__debug__" : Str)) = false := by walk_at "k") :
    EV cx ⟨env, gl, cl⟩ A (.Name x pos) ⟨loc, ar⟩ Q := EV_cell hc.mem hm h hn hd
theorem r_aug {x : Str} {px : Pos} {op : Operator} {e : PySem.Expr} {pos : Pos} {old : V} {Q : Fl → St → Prop} (hm : Has (x, some old) loc)
    (h : EV cx fm A e ⟨loc, ar⟩ fun v st1 => Op2 cx fm A (inplaceOp op) VR old v st1 fun n st2 => SNm cx fm A x n st2 (Q .next)) : EX cx fm A (.AugAssign (.Name x px) op e pos) ⟨loc, ar⟩ Q := EX_aug hm.mem h
theorem r_callB {f : Str} {id : String} {e : PySem.Expr} {rest : List PySem.Expr} {fp pos : Pos} {st : St} {Q : V → St → Prop} (hf : Has (f, .val (.builtin id)) gl)
    (h : EVs cx ⟨env, gl, cl⟩ A (e :: rest) pos st fun vs st1 => OpN cx ⟨env, gl, cl⟩ A (fun xs => call (.builtin id) xs) VR vs st1 Q)
    (he : ∀ env, starEach (e :: rest) env = (false, eval e env) :: starEach rest env := by walk_at "u")
    (hn : NoStar (e :: rest) := by walk_at "u") (hd : (f == ("__debug__" : Str)) = false := by walk_at "k") : EV cx ⟨env, gl, cl⟩ A (.Call (.Name f fp) (e :: rest) [] pos) st Q := EV_callB hf.mem h he hn hd
/-! the rules on a written state -/
theorem r_store {x : Str} {v : V} {Q : St → Prop} (p : PutL x v loc loc') (h : Q ⟨loc', ar⟩) : SNm cx fm A x v ⟨loc, ar⟩ Q := SN_loc p h
theorem r_assign {x : Str} {px : Pos} {e : PySem.Expr} {pos : Pos} {Q : Fl → St → Prop} (h : EV cx fm A e ⟨loc, ar⟩ fun v st1 => SNm cx fm A x v st1 (Q .next))
    (hs : ∀ env, swapsWith e (some (.Name x px)) pos.line env = pure false := by walk_at "u") : EX cx fm A (.Assign [.Name x px] e pos) ⟨loc, ar⟩ Q := EX_assign h hs
theorem r_list {es : List PySem.Expr} {pos : Pos} {Q : V → St → Prop} (h : EVs cx fm A es pos ⟨loc, ar⟩ fun vs st1 => vs.length ≤ sizeLine ∧ ∀ l, Q (.ref l) ⟨st1.loc, (l, .list vs) :: st1.ar⟩) : EV cx fm A (.List es pos) ⟨loc, ar⟩ Q := EV_list h
theorem r_append {l : Addr} {vs : List V} {v : V} {Q : V → St → Prop} (hp : Put l (.list vs) (.list (vs ++ [v])) ar ar') (hs : vs.length ≤ sizeLine) (h : Q .none ⟨loc, ar'⟩) :
    OpN cx fm A (fun xs => call (.builtin "list.append") xs) VR [.ref l, v] ⟨loc, ar⟩ Q := M_append hp hs h
theorem r_setlist {l : Addr} {vs : List V} {k : Nat} {v : V} {Q : St → Prop} (hp : Put l (.list vs) (.list (vs.set k v)) ar ar') (hk : k < vs.length) (hk2 : k < 2 ^ 63) (h : Q ⟨loc, ar'⟩) :
    Op3 cx fm A setItem UR (.ref l) (nt k) v ⟨loc, ar⟩ (fun _ => Q) := SI_list hp hk hk2 h
theorem r_callF {f : Str} {a : Addr} {k : Nat} {e : PySem.Expr} {rest : List PySem.Expr} {fp pos : Pos} {Q : V → St → Prop} (hf : Has (f, .val (.ref a)) gl) (hfn : IsFn cx a k)
    (h : EVs cx ⟨env, gl, cl⟩ A (e :: rest) pos ⟨loc, ar⟩ fun vs st1 => CallT cx A (.ref a) vs st1.ar fun v ar' => Q v ⟨st1.loc, ar'⟩)
    (he : ∀ env, starEach (e :: rest) env = (false, eval e env) :: starEach rest env := by walk_at "u")
    (hd : (f == ("__debug__" : Str)) = false := by walk_at "k") : EV cx ⟨env, gl, cl⟩ A (.Call (.Name f fp) (e :: rest) [] pos) ⟨loc, ar⟩ Q := by
  obtain ⟨fd, f1, _⟩ := hfn
  exact EV_callF hf.mem f1 h he hd
theorem Back_ret {v : V} {st : St} {Q : V → Ar → Prop} (hs : ar'.Sublist st.ar) (h : Q v ar') : Back Q (.ret v) st := ⟨v, ar', .inl rfl, hs, h⟩
theorem Back_next {st : St} {Q : V → Ar → Prop} (hs : ar'.Sublist st.ar) (h : Q .none ar') : Back Q .next st := ⟨.none, ar', .inr ⟨rfl, rfl⟩, hs, h⟩
end

/-! the top -/
noncomputable abbrev glAll (ad : Nat → Addr) : List (Str × V) := [
  (Str.ofString "compute_powers", .val (.ref (ad 1))), (Str.ofString "_int2digits", .val (.ref (ad 2))), (Str.ofString "_digits2int", .val (.ref (ad 3))), (Str.ofString "bisect_right", .val (.ref (ad 5))),
  (Str.ofString "bisect_left", .val (.ref (ad 6))), (Str.ofString "ISNONTERMINAL", .val (.ref (ad 10))), (Str.ofString "ISEOF", .val (.ref (ad 11))), (Str.ofString "_substitution_cost", .val (.ref (ad 15))),
  (Str.ofString "_law_draw", .val (.ref (ad 17))), (Str.ofString "_law_fronts", .val (.ref (ad 18))), (Str.ofString "_law_read", .val (.ref (ad 19))), (Str.ofString "_law_next", .val (.ref (ad 20))),
  (Str.ofString "_law_up", .val (.ref (ad 21))), (Str.ofString "_law_rest", .val (.ref (ad 22))), (Str.ofString "_law_product", .val (.ref (ad 23))), (Str.ofString "_law_every_row", .val (.ref (ad 24))),
  (Str.ofString "_law_marks", .val (.ref (ad 25))), (Str.ofString "_law_led_back", .val (.ref (ad 26))),
  (Str.ofString "len", .val (.builtin "len")), (Str.ofString "min", .val (.builtin "min")), (Str.ofString "sorted", .val (.builtin "sorted")), (Str.ofString "iter", .val (.builtin "iter")), (Str.ofString "next", .val (.builtin "next")),
  (Str.ofString "range", .val (.type "range")), (Str.ofString "set", .val (.type "set")),
  (Str.ofString "NT_OFFSET", nt 256), (Str.ofString "ENDMARKER", nt 0), (Str.ofString "_CASE_COST", nt 1), (Str.ofString "_MOVE_COST", nt 2)]
structure Tops (cx : Cx) (ad : Nat → Addr) : Prop where
  lim : cx.base.NoLimit
  gl : ∀ p ∈ glAll ad, GlobV cx p.1 p.2
  fn : ∀ k ∈ [2, 3, 10, 11, 15, 17, 18, 19, 20, 21, 22, 23, 24, 25, 26], IsFn cx (ad k) k
noncomputable def GlobOk (cx : Cx) (ad : Nat → Addr) (gl : List (Str × V)) : Prop := ∀ p ∈ gl, p ∈ glAll ad
theorem GlobOk.nil {cx : Cx} {ad : Nat → Addr} : GlobOk cx ad [] := fun _ h => nomatch h
theorem GlobOk.cons {cx : Cx} {ad : Nat → Addr} {p : Str × V} {r : List (Str × V)} (h : Has p (glAll ad)) (hr : GlobOk cx ad r) : GlobOk cx ad (p :: r) := fun q hq => by
  rcases List.mem_cons.mp hq with rfl | hq
  · exact h.mem
  · exact hr q hq
theorem CallT_top {cx : Cx} {ad : Nat → Addr} {A : Around} {k : Nat} {vs : List V} {ps rest gn : List Str} {gl : List (Str × V)} {ar : Ar} {Q : V → Ar → Prop} {n : Nat} (T : Tops cx ad)
    (hk : k ∈ [2, 3, 10, 11, 15, 17, 18, 19, 20, 21, 22, 23, 24, 25, 26]) (room : Room A (n + 1)) (hok : defOk (defAt k) ps rest gn = true) (hgn : gl.map (·.1) = gn) (hlen : vs.length = ps.length)
    (hbind : ∀ fd : FuncData, fd.params = (defAt k).params → fd.defaults = .none → fd.kwdefaults = .none → ∀ xs : List Value, xs.length = ps.length → bindArgs fd ⟨xs, []⟩ = pure (ps.zip xs))
    (hgl : GlobOk cx ad gl)
    (h : ∀ env A', Room A' n → EB cx ⟨env, gl, []⟩ A' (defAt k).body ⟨loc0 (ps.zip vs) rest, ar⟩ (Back Q)) : CallT cx A (.ref (ad k)) vs ar Q :=
  CallT_fn (T.fn k hk) T.lim room hok hgn hlen hbind (fun p hp => T.gl p (hgl p hp)) fun env A' _ r _ _ => h env A' r

theorem CallT_topE {cx : Cx} {ad : Nat → Addr} {A : Around} {k : Nat} {vs : List V} {ps rest gn : List Str} {gl : List (Str × V)} {ar : Ar} {Q : V → Ar → Prop} {n : Nat} (T : Tops cx ad)
    (hk : k ∈ [2, 3, 10, 11, 15, 17, 18, 19, 20, 21, 22, 23, 24, 25, 26]) (room : Room A (n + 1)) (hok : defOk (defAt k) ps rest gn = true) (hgn : gl.map (·.1) = gn) (hlen : vs.length = ps.length)
    (hbind : ∀ fd : FuncData, fd.params = (defAt k).params → fd.defaults = .none → fd.kwdefaults = .none → ∀ xs : List Value, xs.length = ps.length → bindArgs fd ⟨xs, []⟩ = pure (ps.zip xs))
    (hgl : GlobOk cx ad gl)
    (h : ∀ env A' fd, Room A' n → FdIs fd (defAt k) → EnvOf fd env → EB cx ⟨env, gl, []⟩ A' (defAt k).body ⟨loc0 (ps.zip vs) rest, ar⟩ (Back Q)) : CallT cx A (.ref (ad k)) vs ar Q :=
  CallT_fn (T.fn k hk) T.lim room hok hgn hlen hbind (fun p hp => T.gl p (hgl p hp)) h

theorem lit_e : Str.ofString "" = ⟨([] : List Nat).toArray⟩ := by decide +kernel
theorem lit_d : Str.ofString "." = ⟨([46] : List Nat).toArray⟩ := by decide +kernel
theorem lit_x : Str.ofString "x" = ⟨([120] : List Nat).toArray⟩ := by decide +kernel
theorem lit_X : Str.ofString "X" = ⟨([88] : List Nat).toArray⟩ := by decide +kernel
theorem lit_dx : Str.ofString ".x" = ⟨([46, 120] : List Nat).toArray⟩ := by decide +kernel
theorem lit_xX : Str.ofString "xX" = ⟨([120, 88] : List Nat).toArray⟩ := by decide +kernel
theorem lit_xXxX : Str.ofString "xXxX" = ⟨([120, 88, 120, 88] : List Nat).toArray⟩ := by decide +kernel

theorem r_callT {cx : Cx} {ad : Nat → Addr} {env : Env} {gl : List (Str × V)} {cl : List (Str × Addr)} {A : Around} {loc : Loc} {ar : Ar} {f : Str} {k : Nat} {e : PySem.Expr} {rest : List PySem.Expr} {fp pos : Pos} {Q : V → St → Prop} (T : Tops cx ad) (hf : Has (f, .val (.ref (ad k))) gl)
    (h : EVs cx ⟨env, gl, cl⟩ A (e :: rest) pos ⟨loc, ar⟩ fun vs st1 => CallT cx A (.ref (ad k)) vs st1.ar fun v ar' => Q v ⟨st1.loc, ar'⟩) (hk : k ∈ [2, 3, 10, 11, 15, 17, 18, 19, 20, 21, 22, 23, 24, 25, 26] := by decide)
    (he : ∀ env, starEach (e :: rest) env = (false, eval e env) :: starEach rest env := by walk_at "u")
    (hd : (f == ("__debug__" : Str)) = false := by walk_at "k") : EV cx ⟨env, gl, cl⟩ A (.Call (.Name f fp) (e :: rest) [] pos) ⟨loc, ar⟩ Q := r_callF hf (T.fn k hk) h he hd

section
variable {cx : Cx} {fm : Fm} {A : Around} {st : St}
theorem r_bitlen {o : PySem.Expr} {apos pos : Pos} {Q : V → St → Prop} (h : EV cx fm A o st fun v st1 => ∃ n, v = nt n ∧ Q (nt (bits n)) st1)
    (hbase : ∀ env, attributeBase o (Str.ofString "bit_length") env (eval o env) = eval o env := by walk_at "u") (hline : (apos.endLine == pos.line) = true := by walk_at "u") :
    EV cx fm A (.Call (.Attribute o (Str.ofString "bit_length") apos) [] [] pos) st Q :=
  EV_meth (T := "int") (id := "int.bit_length") PySem.F.plainAttrs_int PySem.F.slot_int_bit_length PySem.F.type_int_bit_length (h.mono fun v st1 q => by
    obtain ⟨n, rfl, q⟩ := q
    exact ⟨.int _, EVs_nil (M_bits q)⟩) hbase (by intros; with_unfolding_all rfl) hline
theorem r_appendM {o e : PySem.Expr} {apos pos : Pos} {Q : V → St → Prop} (h : EV cx fm A o st fun ov st1 => ∃ l vs1, ov = .ref l ∧ At l (.list vs1) st1.ar ∧ EV cx fm A e st1 fun v st2 => OpN cx fm A (fun xs => call (.builtin "list.append") xs) VR [.ref l, v] st2 Q)
    (hbase : ∀ env, attributeBase o (Str.ofString "append") env (eval o env) = eval o env := by walk_at "u") (hline : (apos.endLine == pos.line) = true := by walk_at "u")
    (he : ∀ env, starEach [e] env = (false, eval e env) :: starEach [] env := by walk_at "u") (hfew : ∀ env, ((backTo pos (starEach [e] env)).all (fun x => !x.1) && (backToKw pos (keywordEach [] env)).all (fun x => x.1.isSome)
      && decide ([e].length + ([] : List Keyword).length + (if ([] : List Keyword).isEmpty then 0 else 1) < 30)) = true := by walk_at "u") (hn : NoStar [e] := by walk_at "u")
    (hes : ∀ env pos, (∃ e' rest, backTo pos (starEach [e] env) = (false, eval e' env) :: rest) ∨ backTo pos (starEach [e] env) = [] := by walk_at "q") :
    EV cx fm A (.Call (.Attribute o (Str.ofString "append") apos) [e] [] pos) st Q :=
  EV_meth (T := "list") (id := "list.append") PySem.F.plainAttrs_list PySem.F.slot_list_append PySem.F.type_list_append (h.mono fun v st1 q => by
    obtain ⟨l, vs1, rfl, hl, q⟩ := q
    exact ⟨.list hl, EVs_cons (q.mono fun v st2 q => EVs_nil q) he⟩) hbase hfew hline hn hes
end

section
variable {st : St} {Q : Fl → St → Prop} {J : St → Prop}
theorem turn_next (h : J st) : Fl.turn Q J .next st := h
theorem turn_cont (h : J st) : Fl.turn Q J .cont st := h
theorem turn_brk (h : Q .next st) : Fl.turn Q J .brk st := h
theorem turn_ret {v : V} (h : Q (.ret v) st) : Fl.turn Q J (.ret v) st := h
end
end
section
section
variable {cx : Cx} {fm : Fm} {A : Around} {st : St}

/-! growth -/
theorem Step.grow {h h' : Heap} (hk : ∀ c o, h.get? c = some o → h'.get? c = some o) : Step h.objs.size h h' :=
  ⟨fun b o _ e => hk b o e, fun o e => by rw [size_none] at e; cases e⟩
theorem Rel.grow {s : Shared} {h' : Heap} {tk : Nat} (r : Rel cx fm st s) (hk : ∀ c o, s.heap.get? c = some o → h'.get? c = some o) : Rel cx fm st { s with heap := h', toks := tk } :=
  r.step_off (dr := s.drawn) (Step.grow hk) r.h.fresh.1 r.h.fresh.2.1 r.h.fresh.2.2 (Nat.ne_of_lt r.env_lt)
theorem Ext.grow {mt : List Addr} {ar : Ar} {h h' : Heap} (hk : ∀ c o, h.get? c = some o → h'.get? c = some o) : Ext mt ar h ar h' := Ext.step_off (Step.grow hk) (.inr (size_none _))
theorem ext_free {h h' : Heap} (he : Heap.ExtBut h.objs.size h h') : ∀ c o, h.get? c = some o → h'.get? c = some o := fun c o e => he c o (fun q => by rw [q, size_none] at e; cases e) e

/-! texts -/
variable {Q : V → St → Prop}
theorem str_app (x y : List Nat) : (⟨x.toArray⟩ : Str) ++ (⟨y.toArray⟩ : Str) = ⟨(x ++ y).toArray⟩ := by
  show Str.append _ _ = _
  simp [Str.append]
theorem O_addS {x y : List Nat} (hs : x.length + y.length ≤ 1000000) (h : Q (.str (x ++ y)) st) : Op2 cx fm A (binaryOp .Add) VR (.str x) (.str y) st Q := fun s a b Qr Er r ra rb k => by
  cases ra
  cases rb
  refine PyProof.Rows.add_str (fun t' tk => ?_) (by rw [sizeLine_eq]; simp [Str.length]; omega)
  rw [str_app]
  exact k _ _ _ _ h (r.toks _) (.str _ _) (.refl ..)
theorem O_iaddS {x y : List Nat} (hs : x.length + y.length ≤ 1000000) (h : Q (.str (x ++ y)) st) : Op2 cx fm A (inplaceOp .Add) VR (.str x) (.str y) st Q := fun s a b Qr Er r ra rb k => by
  cases ra
  cases rb
  refine PyProof.Rows.iadd_str (fun t' tk => ?_) (by rw [sizeLine_eq]; simp [Str.length]; omega)
  rw [str_app]
  exact k _ _ _ _ h (r.toks _) (.str _ _) (.refl ..)
theorem M_lower {x y : List Nat} (hx : x.length ≤ 1000) (he : Txt.lower ⟨x.toArray⟩ = ⟨y.toArray⟩) (h : Q (.str y) st) : OpN cx fm A (fun xs => call (.builtin "str.lower") xs) VR [.str x] st Q := fun s xs Qr Er r rx k => by
  cases rx with
  | cons ra rx =>
    cases ra
    cases rx
    refine SCL.lower (by simp [Str.length]; omega) fun _ => ?_
    rw [he]
    exact k _ _ _ _ h (r.toks _) (.str _ _) (.refl ..)
/-- a list of texts -/
theorem VRs.strs {h : Heap} : ∀ {ys : List (List Nat)} {xs : List Value}, VRs h (ys.map V.str) xs → StrsAre xs (ys.map fun y => (⟨y.toArray⟩ : Str))
  | [], _, r => by cases r; exact .nil
  | y :: ys, _, r => by
    cases r with
    | cons a r => cases a; exact .cons _ _ (VRs.strs r)
noncomputable def joinL : List (List Nat) → List Nat
  | [] => []
  | [x] => x
  | x :: r => x ++ joinL r
theorem joinL_flat : ∀ ys : List (List Nat), joinL ys = ys.flatten
  | [] => rfl
  | [x] => by simp [joinL]
  | x :: y :: r => by
    show x ++ joinL (y :: r) = _
    rw [joinL_flat (y :: r)]
    rfl
theorem M_join {l : Addr} {ys : List (List Nat)} (hl : At l (.list (ys.map V.str)) st.ar) (hw : (ys.map List.length).sum + ys.length ≤ 10000) (h : Q (.str ys.flatten) st)
    (hj : Txt.join ⟨([] : List Nat).toArray⟩ (ys.map fun y => (⟨y.toArray⟩ : Str)) = ⟨ys.flatten.toArray⟩) :
    OpN cx fm A (fun xs => call (.builtin "str.join") xs) VR [.str [], .ref l] st Q := fun s xs Qr Er r rx k => by
  cases rx with
  | cons ra rx =>
    cases ra
    cases rx with
    | cons rb rx =>
      cases rb
      cases rx
      obtain ⟨items, n, e, q⟩ := r.h.list hl
      have e2 : (ys.map fun y => (⟨y.toArray⟩ : Str)).map (·.length) = ys.map List.length := by simp [Str.length]
      refine join_listW (isList_of e) (by simpa using q.strs) (by simp [Str.length]) (by rw [e2]; simpa using Nat.le_trans hw (by decide)) fun t' k' => ?_
      rw [hj]
      exact k _ _ _ _ h (r.toks _) (.str _ _) (.refl ..)

/-! lists -/
theorem O_addL {l m : Addr} {vs ws : List V} (hl : At l (.list vs) st.ar) (hm : At m (.list ws) st.ar) (hs : vs.length + ws.length ≤ 1000000) (h : ∀ d, Q (.ref d) { st with ar := (d, .list (vs ++ ws)) :: st.ar }) :
    Op2 cx fm A (binaryOp .Add) VR (.ref l) (.ref m) st Q := fun s a b Qr Er r ra rb k => by
  cases ra
  cases rb
  obtain ⟨xs, n, e1, q1⟩ := r.h.list hl
  obtain ⟨ys, n2, e2, q2⟩ := r.h.list hm
  have h1 := q1.length
  have h2 := q2.length
  refine concat_meets ⟨_, e1, rfl⟩ ⟨_, e2, rfl⟩ noFill_list_add seq_list_add PySem.F.slot_list_add PySem.F.entry_list_add (PySem.F.args_list_add_2 _ _) (list_addW l m xs.toArray ys.toArray n n2 none none #[] #[] (by rw [sizeLine_eq]; simp; omega)) ⟨e1, e2, ?_⟩
  have e : xs.toArray ++ ys.toArray = (xs ++ ys).toArray := by simp
  rw [e]
  exact k _ _ _ _ (h _) (r.alloc s.toks (.list ((q1.append q2).mono (Step.push s.heap _).hard)) rfl) (.ref _) (.alloc _ _ r.mt_lt)
theorem T_list {l : Addr} {vs : List V} {Q : Bool → St → Prop} (hl : At l (.list vs) st.ar) (hs : vs.length < 2 ^ 62) (h : Q (!vs.isEmpty) st) : Op1 cx fm A truthy BR (.ref l) st Q := fun s a Qr Er r ra k => by
  cases ra
  obtain ⟨xs, n, e1, q1⟩ := r.h.list hl
  have h1 := q1.length
  refine wpAny_truthy_list (isList_of e1) (by simp; omega) (k _ _ _ _ h (r.toks _) ?_ (.refl ..))
  show (!vs.isEmpty) = !xs.toArray.isEmpty
  cases vs <;> cases xs <;> simp_all
theorem B_min {a b : Nat} (hA : A.handled = none) (h : Q (nt (min a b)) st) : OpN cx fm A (fun xs => call (.builtin "min") xs) VR [nt a, nt b] st Q := fun s xs Qr Er r rx k => by
  cases rx with
  | cons ra rx =>
    cases ra
    cases rx with
    | cons rb rx =>
      cases rb
      cases rx
      refine min_two_ints hA fun h' tk hk => ?_
      by_cases c : b < a
      · rw [if_pos (by omega)]
        have e : min a b = b := by omega
        rw [e] at h
        exact k _ _ _ _ h (r.grow hk) (.int _ _) (.grow hk)
      · rw [if_neg (by omega)]
        have e : min a b = a := by omega
        rw [e] at h
        exact k _ _ _ _ h (r.grow hk) (.int _ _) (.grow hk)

/-! slices of lists -/
noncomputable def PV : V → Option (Option Nat)
  | .none => some Option.none
  | .int (.ofNat n) => some (some n)
  | _ => Option.none
noncomputable def EP (cx : Cx) (fm : Fm) (A : Around) (e : Option PySem.Expr) (st : St) (Q : V → St → Prop) : Prop := Tr cx fm A (evalPart e fm.env) VR st Q
theorem EP_none (h : Q .none st) : EP cx fm A none st Q := fun s Qr Er r k => wpAny_pure (k _ _ _ _ h r .none (.refl ..))
theorem EP_some {e : PySem.Expr} (h : EV cx fm A e st Q) : EP cx fm A (some e) st Q := h
noncomputable def cut (vs : List V) : V → V → Option (List V)
  | .none, .none => some vs
  | .none, .int (.ofNat b) => if b ≤ vs.length then some (vs.take b) else Option.none
  | .int (.ofNat a), .none => if a ≤ vs.length then some (vs.drop a) else Option.none
  | .int (.ofNat a), .int (.ofNat b) => if b ≤ vs.length ∧ a ≤ b then some ((vs.drop a).take (b - a)) else Option.none
  | _, _ => Option.none

theorem EV_sliceL {v : PySem.Expr} {lower upper : Option PySem.Expr} {p pos : Pos} {l : Addr} {vs : List V}
    (h : EV cx fm A v st fun ov st1 => EP cx fm A lower st1 fun a st2 => EP cx fm A upper st2 fun b st3 => ∃ l vs ws, ov = .ref l ∧ At l (.list vs) st3.ar ∧ vs.length ≤ 1000000 ∧ cut vs a b = some ws ∧ (a = .none → b ≠ .none) ∧
      ∀ d, Q (.ref d) { st3 with ar := (d, .list ws) :: st3.ar })
    (ht : ∀ o r, letTemporaryGo v o r = pure () := by walk_at "u") : EV cx fm A (.Subscript v (.Slice lower upper none p) pos) st Q := fun s Qr Er r k => by
  refine wpAny_Subscript_list_slice (h s _ _ r fun ov st1 s1 x h1 r1 rx e1 => h1 s1 _ _ r1 fun a st2 s2 y h2 r2 ry e2 => h2 s2 _ _ r2 fun b st3 s3 z h3 r3 rz e3 => ?_) ht
  obtain ⟨l, vs, ws, rfl, hl, hs, hcut, hne, h3⟩ := h3
  cases rx
  obtain ⟨xs, n, e4, q⟩ := r3.h.list hl
  have hlen := q.length
  have ry3 := ry.mono e3.hard
  have fin : ∀ lo hi (cs : List Value), slicePick xs.toArray lo hi none = cs.toArray → IsPart y lo → IsPart z hi → VRs s3.heap ws cs → ∃ l_1 items lo hi, Value.ref l = Value.ref l_1 ∧ s3.heap.IsList l_1 items ∧ items.size ≤ sizeLine ∧ IsPart y lo ∧ IsPart z hi ∧
        Qr (.ref (s3.heap.objs.size + 1)) { s3 with heap := (s3.heap.push { cls := .type "slice", data := .fields #[y, z, .none] }).push { cls := .type "list", data := .seq (slicePick items lo hi none) } } := by
    intro lo hi cs hp p1 p2 hcs
    refine ⟨l, xs.toArray, lo, hi, rfl, isList_of e4, by rw [sizeLine_eq]; simp; omega, p1, p2, ?_⟩
    rw [hp]
    have r4 := r3.push { cls := .type "slice", data := .fields #[y, z, .none] } s3.toks
    have hc4 := hcs.mono (Step.push s3.heap { cls := .type "slice", data := .fields #[y, z, .none] }).hard
    generalize hH : s3.heap.push { cls := .type "slice", data := .fields #[y, z, .none] } = H at r4 hc4 ⊢
    have hsz : H.objs.size = s3.heap.objs.size + 1 := by rw [← hH]; exact Heap.size_push ..
    rw [← hsz]
    have key := r4.alloc (x := .list ws) (o := { cls := .type "list", data := .seq cs.toArray }) s3.toks (.list (hc4.mono (Step.push H _).hard)) rfl
    refine k _ _ _ _ (h3 _) key (.ref _) (e1.trans (e2.trans (e3.trans ?_)))
    exact Ext.trans (hH ▸ Ext.push s3.heap _) (Ext.alloc H _ r4.mt_lt)
  unfold cut at hcut
  split at hcut
  · exact absurd rfl (hne rfl)
  · rename_i b
    split at hcut
    · rename_i hb
      cases hcut
      cases ry
      cases rz
      exact fin none (some b) _ (slicePick_upto _ _ (by simp; omega)) .none (.int _ _) (by simpa using q.take b)
    · cases hcut
  · rename_i a
    split at hcut
    · rename_i hb
      cases hcut
      cases ry
      cases rz
      exact fin (some a) none _ (slicePick_from _ _ (by simp; omega)) (.int _ _) .none (by simpa using q.drop a)
    · cases hcut
  · rename_i a b
    split at hcut
    · rename_i hb
      cases hcut
      cases ry
      cases rz
      exact fin (some a) (some b) _ (slicePick_run _ _ _ (by simp; omega) (by omega)) (.int _ _) (.int _ _) (by simpa using (q.drop a).take (b - a))
    · cases hcut
  · cases hcut
end
end
section
open PySem PySem.W PyProof.Rows PySem.Calls PySem.Spec
set_option maxRecDepth 100000
theorem pick_rev {α : Type} (xs : List α) (n : Nat) (hn : n ≤ xs.length) : ((List.range n).map fun k : Nat => (((n : Int) - 1) + (-1) * (k : Int)).toNat).filterMap (xs[·]?) = (xs.take n).reverse := by
  induction n with
  | zero => simp
  | succ n ih =>
    rw [List.range_succ_eq_map]
    simp only [List.map_cons, List.map_map, List.filterMap_cons]
    have e0 : ((((n + 1 : Nat) : Int) - 1) + (-1) * ((0 : Nat) : Int)).toNat = n := by omega
    rw [e0]
    have hx : xs[n]? = some xs[n] := by simp [show n < xs.length by omega]
    rw [hx]
    have e1 : (List.range n).map ((fun k : Nat => ((((n + 1 : Nat) : Int) - 1) + (-1) * (k : Int)).toNat) ∘ Nat.succ) = (List.range n).map fun k : Nat => (((n : Int) - 1) + (-1) * (k : Int)).toNat := by
      apply List.map_congr_left
      intro k _
      show ((((n + 1 : Nat) : Int) - 1) + (-1) * ((k + 1 : Nat) : Int)).toNat = _
      congr 1
      omega
    rw [e1, ih (by omega)]
    have e2 : xs.take (n + 1) = xs.take n ++ [xs[n]] := by rw [List.take_add_one, hx]; rfl
    rw [e2, List.reverse_append]
    rfl

section
variable {cx : Cx} {fm : Fm} {A : Around} {st : St} {Q : V → St → Prop}

theorem slice_rev (x : List Nat) (t u : Tok) : sliceMade ⟨x.toArray⟩ t none none (some (-1, u)) = .str ⟨x.reverse.toArray⟩ := by
  have hp : slicePicked ⟨x.toArray⟩ none none (some (-1, u)) = (List.range x.length).map fun k : Nat => (((x.length : Int) - 1) + (-1) * (k : Int)).toNat := by
    unfold slicePicked Builtin.Str.strSliceIndices sliceRange Str.length
    simp only [Option.map_none, Option.map_some, Option.getD_some, List.size_toArray]
    have h1 : ¬ ((-1 : Int) > 0) := by decide
    simp only [h1, if_false]
    have hc : (if ((x.length : Int) - 1 > -1) then ((x.length : Int) - 1 - -1 - -1 - 1) / (- -1) else 0).toNat = x.length := by
      split
      · have : ((x.length : Int) - 1 - -1 - -1 - 1) / (- -1) = x.length := by
          rw [show (- (-1 : Int)) = 1 from rfl, Int.ediv_one]; omega
        rw [this]; omega
      · omega
    rw [hc]
  unfold sliceMade
  rw [hp]
  have h2 : (((some ((-1 : Int), u)).map (·.1)).getD 1 == 1) = false := rfl
  rw [h2, Bool.false_and, if_neg (by simp)]
  congr 2
  have := pick_rev x x.length (Nat.le_refl _)
  rw [List.take_length] at this
  rw [← this]
  simp

theorem EV_revS {v stp : PySem.Expr} {p pos : Pos} (hs : EV cx fm A v st fun ov st1 => ∃ x, ov = .str x ∧ x.length ≤ 1000000 ∧ EV cx fm A stp st1 fun b st2 => b = .int (-1) ∧ Q (.str x.reverse) st2)
    (ht : ∀ o r, letTemporaryGo v o r = pure () := by walk_at "u") : EV cx fm A (.Subscript v (.Slice none none (some stp) p) pos) st Q := fun s Qr Er r k => by
  refine wpAny_Subscript_Slice_step (T := "str") PySem.F.slot_str_getitem.lookup (hs s _ _ r fun ov st1 s1 x h1 r1 rx e1 => wpAny_Slice (by
    rw [evalPart_none]
    refine wpAny_pure ?_
    refine wpAny_pure ?_
    rw [evalPart_some]
    obtain ⟨x, rfl, hl, h1⟩ := h1
    cases rx
    refine h1 s1 _ _ r1 fun b st2 s2 y h2 r2 ry e2 => ?_
    obtain ⟨rfl, h2⟩ := h2
    cases ry
    rename_i tk
    have r3 := r2.push { cls := .type "slice", data := .fields #[.none, .none, .int (-1) tk] } s2.toks
    refine ⟨typeIs_str _ _ _, wpAny_getItem_str_slice (l := none) (u := none) (st := some (-1, _)) ⟨_, Heap.get?_push_size _ rfl, rfl, rfl⟩ rfl ?_⟩
    rw [slice_rev]
    simp only [Made.post]
    refine ⟨by rw [sizeLine_eq]; simp [Str.length]; omega, ?_⟩
    exact k _ _ _ _ h2 (r3.toks _) (.str _ _) (e1.trans (e2.trans (.push ..))))) ht

/-! [x] * n -/
theorem mul_raw {prog : Program} {w : World} {E : Value → Shared → Prop} {s : Shared} {l : Addr} {items : Array Value} {k : Nat} {x : Int} {u : Tok} {Q : Value → Shared → Prop}
    (hl : s.heap.get? l = some { cls := .type "list", dict := none, data := .seq items k, slots := #[] })
    (hlo : -(2 ^ 63 : Int) ≤ x) (hhi : x < 2 ^ 63) (hsz : items.size * x.toNat ≤ 2 ^ 24)
    (h : Q (.ref s.heap.objs.size) { s with heap := s.heap.push { cls := .type "list", data := .seq (List.foldl (fun x1 x2 => x1 ++ x2) #[] (List.replicate (if items.isEmpty = true then 0 else x.toNat) items)) } }) :
    wpAny (model prog w) A (binaryOp .Mult (.ref l) (.int x u)) Q E s :=
  wpAny_binaryOp_repeat_ref (T := "list") (U := "int") (by decide) ⟨_, hl, rfl⟩ (fun s' => typeIs_int s' x u) noFill_list_mul PySem.F.fills_int_mul PySem.F.slot_int_rmul repeat_list PySem.F.slot_int_index.lookup
    (call_meets PySem.F.slot_int_rmul (typeIs_int s x u) PySem.F.entry_int_rmul (PySem.F.args_int_rmul_2 _ _) (int___rmul___int_list x u l items k)
      ⟨hl, rfl, ⟨_, hl, rfl⟩, call_meets PySem.F.slot_list_mul ⟨_, hl, rfl⟩ PySem.F.entry_list_mul (PySem.F.args_list_mul_2 _ _)
        (AutoListH.list___mul___list_int_3 l items k x u (by simp [Builtin.List.listFitsIndex]; omega) (by omega) (by simp [Builtin.List.listTooLong, sizeLine]; omega))
        ⟨hl, h⟩⟩)
theorem O_rep {l : Addr} {v : V} {n : Nat} (hl : At l (.list [v]) st.ar) (hn : n ≤ 1000000) (h : ∀ d, Q (.ref d) { st with ar := (d, .list (List.replicate n v)) :: st.ar }) :
    Op2 cx fm A (binaryOp .Mult) VR (.ref l) (nt n) st Q := fun s a b Qr Er r ra rb k => by
  cases ra
  cases rb
  obtain ⟨xs, m, e1, q1⟩ := r.h.list hl
  cases q1 with
  | cons rv q1 =>
    cases q1
    rename_i u x
    have hsz : ([x].toArray : Array Value).size = 1 := rfl
    have hlist : ([x].toArray : Array Value).toList = [x] := rfl
    have hem : ([x].toArray : Array Value).isEmpty = false := rfl
    generalize ([x].toArray : Array Value) = I at e1 hsz hlist hem
    refine mul_raw e1 (by omega) (by omega) (by rw [hsz]; simp; omega) ?_
    have e : List.foldl (fun x1 x2 => x1 ++ x2) #[] (List.replicate (if I.isEmpty = true then 0 else ((n : Int)).toNat) I) = (List.replicate n x).toArray := by
      rw [hem]
      simp only [Bool.false_eq_true, if_false, Int.toNat_natCast]
      have : ∀ (n : Nat) (acc : Array Value), List.foldl (fun x1 x2 => x1 ++ x2) acc (List.replicate n I) = acc ++ (List.replicate n x).toArray := by
        intro n
        induction n with
        | zero => intro acc; simp
        | succ n ih =>
          intro acc
          rw [List.replicate_succ, List.foldl_cons, ih, List.replicate_succ]
          apply Array.ext'
          simp [hlist]
      rw [this]
      simp
    rw [e]
    have hv : VRs s.heap (List.replicate n v) (List.replicate n x) := by
      clear e k h hn
      induction n with
      | zero => exact .nil
      | succ n ih => exact .cons rv ih
    exact k _ _ _ _ (h _) (r.alloc s.toks (.list (hv.mono (Step.push s.heap _).hard)) rfl) (.ref _) (.alloc _ _ r.mt_lt)

/-! is None -/
theorem O_isN {v : V} (hv : ∀ x, v ≠ .val x) (h : Q (.bool (match v with | .none => true | _ => false)) st) : Op2 cx fm A (compareOp .Is) VR v .none st Q := fun s a b Qr Er r ra rb k => by
  cases rb
  refine is_none_gen (k _ _ _ _ h r ?_ (.refl ..))
  cases ra with
  | none => exact .bool true
  | bool b => exact .bool false
  | int i t => exact .bool false
  | str x t => exact .bool false
  | ref a => exact .bool false
  | val x => exact absurd rfl (hv _)
  | tup e q => exact .bool false

/-! equality of lists -/
theorem VRs.ints {h : Heap} : ∀ {ns : List Nat} {xs : List Value}, VRs h (ns.map nt) xs → IntsAre xs (ns.map fun n : Nat => (n : Int))
  | [], _, r => by cases r; exact .nil
  | y :: ys, _, r => by
    cases r with
    | cons a r => cases a; exact .cons _ _ (VRs.ints r)
theorem cast_inj : ∀ {ns ms : List Nat}, (ns.map fun n : Nat => (n : Int)) = (ms.map fun n : Nat => (n : Int)) → ns = ms
  | [], [], _ => rfl
  | [], _ :: _, h => by cases h
  | _ :: _, [], h => by cases h
  | n :: ns, m :: ms, h => by
    simp only [List.map_cons, List.cons.injEq] at h
    rw [cast_inj h.2, show n = m by omega]
theorem O_eqL {l m : Addr} {ns ms : List Nat} (hl : At l (.list (ns.map nt)) st.ar) (hm : At m (.list (ms.map nt)) st.ar) (hA : A.units + 64 < 9900) (h : Q (.bool (decide (ns = ms))) st) :
    Op2 cx fm A (compareOp .Eq) VR (.ref l) (.ref m) st Q := fun s a b Qr Er r ra rb k => by
  cases ra
  cases rb
  obtain ⟨xs, n, e1, q1⟩ := r.h.list hl
  obtain ⟨ys, n2, e2, q2⟩ := r.h.list hm
  refine eq_intsK (isList_of e1) q1.ints (isList_of e2) q2.ints (by unfold cLine; exact hA) (k _ _ _ _ h r ?_ (.refl ..))
  have : decide ((ns.map fun n : Nat => (n : Int)) = (ms.map fun n : Nat => (n : Int))) = decide (ns = ms) := by
    rw [Bool.eq_iff_iff, decide_eq_true_iff, decide_eq_true_iff]
    exact ⟨cast_inj, fun e => by rw [e]⟩
  rw [this]
  exact .bool _
end
end
section
open PySem PySem.W PyProof.Rows PySem.Calls PySem.Spec PySem.SeqAt PyProof.V
set_option maxRecDepth 100000
section
variable {cx : Cx} {fm : Fm} {A : Around} {st : St} {Q : V → St → Prop}

/-! unpacking of tuples -/
noncomputable def AEach (cx : Cx) (fm : Fm) (A : Around) : List PySem.Expr → List V → St → (St → Prop) → Prop
  | [], [], st, Q => Q st
  | t :: ts, v :: vs, st, Q => AS cx fm A t v st fun st1 => AEach cx fm A ts vs st1 Q
  | _, _, _, _ => False

theorem each_order {ts : List PySem.Expr} : ∀ {vs : List V} {st : St} {Q : St → Prop}, AEach cx fm A ts vs st Q → ∀ (s : Shared) (xs : List Value) (Qr : Unit → Shared → Prop) (Er : Value → Shared → Prop), Rel cx fm st s → VRs s.heap vs xs →
    (∀ st' s', Q st' → Rel cx fm st' s' → Ext (fm.mt cx) st.ar s.heap st'.ar s'.heap → Qr () s') → wpAny cx.M A (assignInOrder (ts.map fun t => assign t fm.env) xs) Qr Er s := by
  induction ts with
  | nil =>
    intro vs st Q h s xs Qr Er r rv k
    cases rv with
    | nil => exact assignInOrder_nil (k _ _ h r (.refl ..))
    | cons ra rv => exact h.elim
  | cons t ts ih =>
    intro vs st Q h s xs Qr Er r rv k
    cases rv with
    | nil => exact h.elim
    | cons ra rv =>
      exact assignInOrder_cons (h s _ _ _ r ra fun _ st1 s1 _ h1 r1 _ e1 => ih h1 s1 _ _ _ r1 (rv.mono e1.hard) fun st2 s2 h2 r2 e2 => k _ _ h2 r2 (e1.trans e2))
theorem AS_tup {elts : List PySem.Expr} {n : Nat} {pos : Pos} {vs : List V} {Q : St → Prop} (hA : A.handled = none) (hlen : elts.length = vs.length) (h : AEach cx fm A elts vs st Q)
    (he : ∀ env, assignEach elts env = elts.map fun t => (false, assign t env) := by walk_at "u") : AS cx fm A (.Tuple elts n pos) (.tup vs) st Q := fun s x Qr Er r rx k => by
  cases rx with
  | @tup a m vs items e q =>
    refine assign_Tuple_tuple hA (items := items.toArray) ⟨_, e, rfl, _, rfl⟩ (by rw [he]; simp [hlen, q.length]) (by rw [he]; simp) fun h' hb => ?_
    have hk := ext_free hb
    rw [he, List.map_map]
    exact each_order h _ _ _ _ (r.grow (tk := s.toks) hk) (by simpa using q.mono (h' := h') fun a o e _ => hk a o e) fun st' s' hq r' e' => k () _ _ () hq r' trivial ((Ext.grow hk).trans e')

/-! a comprehension whose list a name takes up at once -/
theorem EX_assignC {y : Str} {py : Pos} {target elt iter : PySem.Expr} {ifs : List PySem.Expr} {scope : Scope} {cl : List (Str × Addr)} {pos spos : Pos} (names : List Str) (glc : List (Str × V)) (clc : List (Str × Addr)) {u : Option V} {Q : Fl → St → Prop} (ok : CompOk cx fm scope cl names glc clc)
    (hy : (y, u) ∈ st.loc)
    (h : EI cx fm A iter st fun n item C st1 => ∃ outs : Nat → Option V, C st1 ∧ n ≤ sizeLine ∧ (∀ i env', i < n → env'.scope = relabel scope fm.env → CompTurn cx A ⟨env', glc, clc⟩ target ifs elt names st1.ar (item i) (outs i)) ∧
      ∀ l, SNm cx fm A y (.ref l) ⟨st1.loc, (l, .list (outsOf outs n)) :: st1.ar⟩ (Q .next))
    (hl : (py.line == pos.line) = true := by walk_at "u") (hny : (scope.names.any fun x => x.1 == y && (x.2 == NameKind.local || x.2 == NameKind.cell)) = false := by walk_at "k")
    (hs : ∀ env x, foldedSetIterable iter env x = pure x := by walk_at "u") (one : Nat.ble ifs.length 1 = true := by walk_at "u") : EX cx fm A (.Assign [.Name y py] (.ListComp elt [⟨target, iter, ifs, 0⟩] scope pos) spos) st Q := fun s Qr Er r k => by
  have hsw : swapsWith (.ListComp elt [⟨target, iter, ifs, 0⟩] scope pos) (some (.Name y py)) spos.line fm.env = pure true := by
    have hk := r.loc.kinds _ hy
    have hb : (fm.env.blockKind == .function) = true := by simp [Env.blockKind, r.fn, ScopeKind.isAnnotationScope]
    have hk2 : (fm.env.kindOf y == some .local) = true := by simpa using hk
    unfold swapsWith
    have hl2 : (py.line == (PySem.Expr.ListComp elt [⟨target, iter, ifs, 0⟩] scope pos).pos.line) = true := hl
    simp only [hb, hk2, hl2, hny, Bool.and_self, Bool.not_false]
  rw [exec_Assign_Name_used _ _ _ _ hsw]
  refine wpAny_bind (wpAny_standAt (wpAny_bind ?_))
  show wpAny _ A (do let _ ← comprehension (.ListComp elt [⟨target, iter, ifs, 0⟩] scope pos) scope fm.env _ (newList []) false (eval iter fm.env) (some (assign (.Name y py) fm.env))) _ _ s
  refine wpAny_bind (wpAny_mono (wpAny_comprehension_free (use := some (assign (.Name y py) fm.env)) (Q := fun _ s' => Qr .next s') rfl (hs _) ok.clos ok.kind ok.names
    (h s _ Er r fun n item C st1 s1 I W hh r1 it w0 off hI e1 => ?_)) (fun _ s' hq => wpAny_pure (wpAny_pure hq)) fun _ _ e => e)
  obtain ⟨outs, hC, hsz, turn, fin⟩ := hh
  refine comp_core (RR := compPost cx.M A Er (some (assign (.Name y py) fm.env)) fun _ s' => Qr .next s') ok one r1 it hC w0 off e1 hI turn hsz fun D Ca s' r' e' hn hCa c1 c2 c3 c4 => ?_
  obtain ⟨m, hn⟩ := hn
  show wpAny _ A (assign (.Name y py) fm.env (.ref D)) _ _ _
  refine wpAny_assign_Name (fin D s' (.ref D) _ _ r' (.ref D) fun _ st2 s2 _ h2 r2 _ e2 => ?_)
  obtain ⟨o, es, ep, q1, q2, q3⟩ := hn
  have hCar : Ca ∉ adr ((D, O.list (outsOf outs n)) :: st1.ar) := fun q => (List.mem_cons.mp q).elim c4 c1
  have q4 := e2.keep _ _ q1 c2 hCar
  refine ⟨m, ⟨o, es, ep, q4, q2, q3⟩, fun h' hb => ?_⟩
  have stp : Step Ca s2.heap h' := Step.sameBut hb fun o' eo => by
    rw [q4] at eo; cases eo
    refine ⟨fun items n (q : o.data = .seq items n) => ?_, fun vs (q : o.data = .fields vs) => ?_⟩ <;> rw [q2] at q <;> cases q
  have hCa2 : Ca ∉ adr st2.ar := fun q => (e2.new _ q).elim hCar fun z => by rw [z.1] at q1; cases q1
  exact k _ _ _ _ h2 (r2.step_off (tk := s2.toks) (dr := s2.drawn) stp hCa2 (fun q => c2 (.tail _ q)) c3 (fun q => c2 (q ▸ .head _))) .next ((e'.trans e2).past stp hCa)

/-! equality of lists of texts -/
theorem VRs.reads {h : Heap} : ∀ {ys : List (List Nat)} {xs : List Value}, VRs h (ys.map V.str) xs → ReadsAll h xs (ys.map fun y => PyData.str ⟨y.toArray⟩) []
  | [], _, r => by cases r; exact .nil
  | y :: ys, _, r => by
    cases r with
    | cons a r => cases a; exact ReadsAll.cons (Reads.str (h := h) _ _) (VRs.reads r)
theorem lay_strs : ∀ {ys : List (List Nat)}, (∀ y ∈ ys, ∀ c ∈ y, c < 128) → PyData.canLayAll0 (ys.map fun y => PyData.str ⟨y.toArray⟩) = true
  | [], _ => rfl
  | y :: ys, h => by
    simp only [List.map_cons, PyData.canLayAll0, PyData.canLay0, Bool.and_eq_true]
    refine ⟨?_, lay_strs fun z hz => h z (.tail _ hz)⟩
    simp only [PyData.strOk, List.size_toArray, List.all_toArray', List.all_eq_true, decide_eq_true_eq]
    exact fun c hc => Nat.lt_trans (h y (.head _) c hc) (by decide)
theorem depth_strs : ∀ ys : List (List Nat), PyData.depthAll (ys.map fun y => PyData.str ⟨y.toArray⟩) = 0
  | [] => rfl
  | _ :: r => by simp [PyData.depthAll, PyData.depth, depth_strs r]
theorem shaped_strs {ys : List (List Nat)} (h : ∀ y ∈ ys, ∀ c ∈ y, c < 128) : SeqAt.shaped (.list (ys.map fun y => PyData.str ⟨y.toArray⟩)) = true := by
  simp [SeqAt.shaped, PyData.canLay0, PyData.depth, lay_strs h, depth_strs]
theorem noMix_strs (xs ys : List (List Nat)) : noMixAll (xs.map fun y => PyData.str ⟨y.toArray⟩) (ys.map fun y => PyData.str ⟨y.toArray⟩) = true := by
  refine noMixAll_of_all (P := fun d => ∃ c, d = PyData.str c) (fun _ _ ⟨_, h⟩ ⟨_, k⟩ => by subst h k; simp [noMix]) _ _ (fun d h => ?_) fun d h => ?_ <;> (obtain ⟨y, _, rfl⟩ := List.mem_map.mp h; exact ⟨_, rfl⟩)
theorem same_strs (xs : List (List Nat)) : ∀ ys : List (List Nat), PySem.Spec.sameAll (xs.map fun y => PyData.str ⟨y.toArray⟩) (ys.map fun y => PyData.str ⟨y.toArray⟩) = decide (xs = ys) := by
  induction xs with
  | nil => intro ys; cases ys <;> simp [PySem.Spec.sameAll]
  | cons n r ih =>
    intro ys
    cases ys with
    | nil => simp [PySem.Spec.sameAll]
    | cons k q =>
      have head : PySem.Spec.same (.str ⟨n.toArray⟩) (.str ⟨k.toArray⟩) = decide (n = k) := by rw [PyProof.V.same_str]; exact decide_eq_decide.mpr (by simp)
      rw [List.map_cons, List.map_cons, PySem.Spec.sameAll, head, ih, ← Bool.decide_and]; exact decide_eq_decide.mpr (by simp)
theorem O_neSL {l m : Addr} {xs ys : List (List Nat)} (hl : At l (.list (xs.map V.str)) st.ar) (hm : At m (.list (ys.map V.str)) st.ar) (hx : ∀ y ∈ xs, ∀ c ∈ y, c < 128) (hy : ∀ y ∈ ys, ∀ c ∈ y, c < 128) (hA : A.units + 64 < 9900) (h : Q (.bool (!decide (xs = ys))) st) :
    Op2 cx fm A (compareOp .NotEq) VR (.ref l) (.ref m) st Q := fun s a b Qr Er r ra rb k => by
  cases ra
  cases rb
  obtain ⟨us, n, e1, q1⟩ := r.h.list hl
  obtain ⟨ws, n2, e2, q2⟩ := r.h.list hm
  refine ne_dataH_same (Reads.list e1 rfl rfl (by simpa using q1.reads)) (Reads.list e2 rfl rfl (by simpa using q2.reads)) (shaped_strs hx) (shaped_strs hy) (by unfold cLine; exact hA) (by simp only [noMix]; exact noMix_strs xs ys) ?_
  simp only [PySem.Spec.same]
  rw [same_strs]
  exact k _ _ _ _ h r (.bool _) (.refl ..)
end
end
section
open PySem PySem.W PyProof.Rows PySem.Calls PySem.Spec
set_option maxRecDepth 100000
theorem cellsFrom_keep {x : Str} : ∀ (names : List (Str × NameKind)) (n : Nat) (acc : List (Str × Addr)), (acc.lookup x).isSome = true → ((cellsFrom n names acc).lookup x).isSome = true
  | [], n, acc, h => h
  | (y, kind) :: r, n, acc, h => by
    unfold cellsFrom
    split
    · refine cellsFrom_keep r _ _ ?_
      rw [List.lookup_cons]
      cases x == y with
      | true => rfl
      | false => exact h
    · exact cellsFrom_keep r _ _ h
theorem cellsFrom_some {x : Str} : ∀ (names : List (Str × NameKind)) (n : Nat) (acc : List (Str × Addr)), (x, NameKind.cell) ∈ names → ((cellsFrom n names acc).lookup x).isSome = true
  | [], n, acc, h => nomatch h
  | (y, kind) :: r, n, acc, h => by
    unfold cellsFrom
    rcases List.mem_cons.mp h with e | h
    · cases e
      have hcc : (NameKind.cell == NameKind.cell) = true := by decide
      rw [if_pos hcc]
      refine cellsFrom_keep r _ _ ?_
      rw [List.lookup_cons, beq_self_eq_true]; rfl
    · split
      · exact cellsFrom_some r _ _ h
      · exact cellsFrom_some r _ _ h

theorem bindL_notin {kd : Str → Option NameKind} {x : Str} : ∀ (binds : List (Str × Value)) (m : Str → Option Value), x ∉ binds.map (·.1) → bindL kd binds m x = m x
  | [], m, _ => rfl
  | (n, v) :: r, m, h => by
    unfold bindL
    rw [bindL_notin r _ (fun q => h (.tail _ q))]
    split
    · show (if x = n then some v else m x) = m x
      rw [if_neg (fun e : x = n => h (by rw [e]; exact .head _))]
    · rfl
theorem bindL_in {kd : Str → Option NameKind} {x : Str} {y : Value} : ∀ (binds : List (Str × Value)) (m : Str → Option Value), (binds.map (·.1)).Nodup → (x, y) ∈ binds → kd x = some .local → bindL kd binds m x = some y
  | [], m, _, h, _ => nomatch h
  | (n, v) :: r, m, nd, h, hk => by
    unfold bindL
    rcases List.mem_cons.mp h with e | h
    · cases e
      rw [bindL_notin r _ (List.nodup_cons.mp nd).1, if_pos hk, if_pos rfl]
    · exact bindL_in r _ (List.nodup_cons.mp nd).2 h hk
theorem bindC_notin {kd : Str → Option NameKind} {x : Str} : ∀ (binds : List (Str × Value)) (m : Str → Option Value), x ∉ binds.map (·.1) → bindC kd binds m x = m x
  | [], m, _ => rfl
  | (n, v) :: r, m, h => by
    unfold bindC
    rw [bindC_notin r _ (fun q => h (.tail _ q))]
    split
    · rfl
    · show (if x = n then some v else m x) = m x
      rw [if_neg (fun e : x = n => h (by rw [e]; exact .head _))]
theorem bindC_in {kd : Str → Option NameKind} {x : Str} {y : Value} : ∀ (binds : List (Str × Value)) (m : Str → Option Value), (binds.map (·.1)).Nodup → (x, y) ∈ binds → kd x ≠ some .local → bindC kd binds m x = some y
  | [], m, _, h, _ => nomatch h
  | (n, v) :: r, m, nd, h, hk => by
    unfold bindC
    rcases List.mem_cons.mp h with e | h
    · cases e
      rw [bindC_notin r _ (List.nodup_cons.mp nd).1, if_neg hk, if_pos rfl]
    · exact bindC_in r _ (List.nodup_cons.mp nd).2 h hk

theorem HRel.joins {cx : Cx} {ar : Ar} {s : Shared} (r : HRel cx ar s) : ∀ (cs : List (Addr × O)), (∀ p ∈ cs, ∃ o, s.heap.get? p.1 = some o ∧ OR s.heap p.2 o) → (∀ p ∈ cs, p.1 ∉ adr ar ∧ p.1 ∉ cx.tb ∧ cx.base.get? p.1 = none) → (adr cs).Nodup → HRel cx (cs ++ ar) s
  | [], _, _, _ => r
  | p :: cs, h1, h2, h3 => by
    have ih := r.joins cs (fun q hq => h1 q (.tail _ hq)) (fun q hq => h2 q (.tail _ hq)) (List.nodup_cons.mp h3).2
    obtain ⟨o, e, q⟩ := h1 p (.head _)
    obtain ⟨k1, k2, k3⟩ := h2 p (.head _)
    refine ih.join (a := p.1) (x := p.2) e q (fun hm => ?_) k2 k3
    have : p.1 ∈ adr cs ++ adr ar := by simpa [List.map_append] using hm
    rcases List.mem_append.mp this with hm | hm
    · exact (List.nodup_cons.mp h3).1 hm
    · exact k1 hm

theorem CallT_cells {cx : Cx} {A : Around} {a : Addr} {fd : FuncData} {body : List Stmt} {vs : List V} {pv : List (Str × V)} {cn : List (Str × Option V)} {loc : Loc} {gl : List (Str × V)} {ar : Ar} {Q : V → Ar → Prop} {n : Nat}
    (hfn : FnB cx a fd) (hbody : fd.body = .stmts body) (hlim : cx.base.NoLimit) (room : Room A (n + 1)) (hclo : fd.closure = [])
    (hbind : ∀ (s : Shared) xs, VRs s.heap vs xs → ∃ binds, bindArgs fd ⟨xs, []⟩ = pure binds ∧ PB s.heap pv binds)
    (hpn : (pv.map (·.1)).Nodup) (hln : (loc.map (·.1)).Nodup) (hlk : ∀ p ∈ loc, fd.scope.names.lookup p.1 = some .local) (hlv : ∀ x v, (x, some v) ∈ loc → (x, v) ∈ pv)
    (hcn : (cn.map (·.1)).Nodup) (hck : ∀ p ∈ cn, fd.scope.names.lookup p.1 = some .cell) (hcv : ∀ x v, (x, some v) ∈ cn → (x, v) ∈ pv) (hcv0 : ∀ x, (x, Option.none) ∈ cn → x ∉ pv.map (·.1))
    (hpk : ∀ x ∈ pv.map (·.1), fd.scope.names.lookup x = some .local ∨ fd.scope.names.lookup x = some .cell)
    (hgl : ∀ p ∈ gl, GlobV cx p.1 p.2 ∧ fd.scope.names.lookup p.1 = some .globalImplicit) (hg : fd.globals = mainGlobals) (hb : fd.builtins = builtinsNs)
    (hco : fd.scope.isCoroutine = false) (hgen : fd.scope.isGenerator = false) (hk : fd.scope.kind = .function)
    (h : ∀ env A' as, Room A' n → EnvOf fd env → as.length = cn.length → EB cx ⟨env, gl, (cn.map (·.1)).zip as⟩ A' body ⟨loc, as.zip (cn.map fun p => O.cell p.2) ++ ar⟩ (Back Q)) : CallT cx A (.ref a) vs ar Q := fun s xs Qr Er r rx kk => by
  obtain ⟨o, ho, hdat⟩ := hfn.obj
  obtain ⟨binds, hbd, hpb⟩ := hbind s xs rx
  have hn : (binds.map (·.1)).Nodup := by rw [hpb.names]; exact hpn
  have hsome : ∀ x, fd.scope.names.lookup x = some .cell → ((cellsFrom (s.heap.objs.size + 1) fd.scope.names []).lookup x).isSome = true := fun x hx => cellsFrom_some _ _ _ (mem_of_lookup hx)
  refine wpAny_call (codeAny_call_cells (fd := fd) (body := body) (binds := binds) room.lt (r.keep _ _ ho) hdat (hlim.keeps r.keep) (hfn.code.keeps r.keep) hbody hbd hclo (fun x hx => ?_) (fun s₁ I => ?_) hco hgen hk)
  · have hm : x.1 ∈ pv.map (·.1) := by rw [← hpb.names]; exact List.mem_map.mpr ⟨x, hx, rfl⟩
    exact (hpk _ hm).imp id fun e => ⟨e, hsome _ e⟩
  · obtain ⟨h', tk, rfl⟩ := I.toInCall.same
    have hkeep : ∀ b o, s.heap.get? b = some o → h'.get? b = some o := I.toInCall.keep
    have hns := I.toInCall.ns
    have cls := I.cell
    have apart := I.apart
    have above := I.above
    generalize henv : callEnvC fd s.heap.objs.size a = env at *
    have hsc : env.scope = fd.scope := by rw [← henv]; rfl
    have hL : env.locals = s.heap.objs.size := by rw [← henv]; rfl
    have hcs : env.cells = cellsFrom (s.heap.objs.size + 1) fd.scope.names [] := by rw [← henv]; rfl
    have hkind : ∀ x, env.kindOf x = fd.scope.names.lookup x := fun x => by rw [← henv]; rfl
    have hEnv : EnvOf fd env := by rw [← henv]; exact ⟨rfl, rfl, rfl, rfl, rfl⟩
    -- the cells' places
    let as : List Addr := cn.map fun p => (env.cells.lookup p.1).getD 0
    have hat : ∀ p ∈ cn, ∃ c, env.cells.lookup p.1 = some c := fun p hp => Option.isSome_iff_exists.mp (by rw [hcs]; exact hsome _ (hck p hp))
    have hzip : as.zip (cn.map fun p => O.cell p.2) = cn.map fun p => ((env.cells.lookup p.1).getD 0, O.cell p.2) := by
      show (cn.map _).zip (cn.map _) = _
      rw [List.zip_map', ]
    have hzip2 : (cn.map (·.1)).zip as = cn.map fun p => (p.1, (env.cells.lookup p.1).getD 0) := by
      show (cn.map _).zip (cn.map _) = _
      rw [List.zip_map', ]
    have hr0 : HRel cx ar { s with heap := h', toks := tk } := r.step_off (x := s.heap.objs.size) (dr := s.drawn) (Step.grow hkeep) r.fresh.1 r.fresh.2.1 r.fresh.2.2
    have fresh : ∀ c, s.heap.objs.size ≤ c → s.heap.get? c = none := fun c hc => by
      cases q : s.heap.get? c with
      | none => rfl
      | some o => exact absurd (Heap.lt_size q) (Nat.not_lt.mpr hc)
    have foff : ∀ c, s.heap.objs.size ≤ c → c ∉ adr ar ∧ c ∉ cx.tb ∧ cx.base.get? c = none := fun c hc => by
      refine ⟨fun q => absurd (r.mem_lt q) (Nat.not_lt.mpr hc), fun q => absurd (r.tb_lt _ q) (Nat.not_lt.mpr hc), ?_⟩
      cases q : cx.base.get? c with
      | none => rfl
      | some o => exact absurd (Heap.lt_size (r.keep _ _ q)) (Nat.not_lt.mpr hc)
    have hcge : ∀ p ∈ cn, ∃ c, env.cells.lookup p.1 = some c ∧ s.heap.objs.size < c := fun p hp => by
      obtain ⟨c, e⟩ := hat p hp
      exact ⟨c, e, hL ▸ above _ _ (mem_of_lookup e)⟩
    have hr1 : HRel cx (as.zip (cn.map fun p => O.cell p.2) ++ ar) { s with heap := h', toks := tk } := by
      rw [hzip]
      refine hr0.joins _ (fun q hq => ?_) (fun q hq => ?_) ?_
      · obtain ⟨p, hp, rfl⟩ := List.mem_map.mp hq
        obtain ⟨c, e⟩ := hat p hp
        dsimp only
        rw [e]
        obtain ⟨oc, e1, e2⟩ := cls _ _ e
        refine ⟨oc, e1, ?_⟩
        have hnl : env.kindOf p.1 ≠ some .local := by rw [hkind, hck p hp]; decide
        rcases hv : p.2 with _ | v
        · have hne : p.1 ∉ binds.map (·.1) := by rw [hpb.names]; exact hcv0 _ (by rw [← hv]; exact hp)
          rw [bindC_notin _ _ hne] at e2
          exact .cell0 e2
        · obtain ⟨y, hy1, hy2⟩ := hpb.lookup (hcv p.1 v (by rw [← hv]; exact hp))
          rw [bindC_in _ _ hn hy1 hnl] at e2
          exact .cell1 e2 (hy2.mono fun a o e _ => hkeep a o e)
      · obtain ⟨p, hp, rfl⟩ := List.mem_map.mp hq
        obtain ⟨c, e, hlt⟩ := hcge p hp
        dsimp only
        rw [e]
        exact foff c (Nat.le_of_lt hlt)
      · show (List.map _ (List.map _ _)).Nodup
        rw [List.map_map]
        have : ∀ (l : List (Str × Option V)), (∀ p ∈ l, p ∈ cn) → (l.map (·.1)).Nodup → (l.map ((fun x : Addr × O => x.1) ∘ fun p => ((env.cells.lookup p.1).getD 0, O.cell p.2))).Nodup := by
          intro l
          induction l with
          | nil => intro _ _; exact List.nodup_nil
          | cons p l ih =>
            intro hs nd
            refine List.nodup_cons.mpr ⟨fun hm => ?_, ih (fun q hq => hs q (.tail _ hq)) (List.nodup_cons.mp nd).2⟩
            obtain ⟨q, hq, he⟩ := List.mem_map.mp hm
            obtain ⟨c, e⟩ := hat p (hs p (.head _))
            obtain ⟨d, e'⟩ := hat q (hs q (.tail _ hq))
            simp only [Function.comp_apply, e, e', Option.getD_some] at he
            subst he
            have := name_of_addr apart (mem_of_lookup e) (mem_of_lookup e')
            exact (List.nodup_cons.mp nd).1 (List.mem_map.mpr ⟨q, hq, this.symm⟩)
        exact this cn (fun _ h => h) hcn
    have hadr : ∀ c ∈ adr (as.zip (cn.map fun p => O.cell p.2) ++ ar), (s.heap.objs.size < c) ∨ c ∈ adr ar := fun c hc => by
      replace hc : c ∈ List.map (·.1) (as.zip (cn.map fun p => O.cell p.2) ++ ar) := hc
      rw [List.map_append] at hc
      rcases List.mem_append.mp hc with hc | hc
      · rw [hzip, List.map_map] at hc
        obtain ⟨p, hp, rfl⟩ := List.mem_map.mp hc
        obtain ⟨c, e, hlt⟩ := hcge p hp
        refine .inl ?_
        simp only [Function.comp_apply, e, Option.getD_some]
        exact hlt
      · exact .inr hc
    have hrel : Rel cx ⟨env, gl, (cn.map (·.1)).zip as⟩ ⟨loc, as.zip (cn.map fun p => O.cell p.2) ++ ar⟩ { s with heap := h', toks := tk } := by
      refine ⟨hr1, ⟨hln, fun p hp => ?_, _, hns, fun p hp => ?_⟩, ⟨fun q => ?_, ?_, ?_⟩, ?_, fun p hp => ?_, fun p hp A s' Q E kp k => ?_⟩
      · show env.kindOf p.1 = _
        rw [hkind]; exact hlk p hp
      · rcases hv : p.2 with _ | v
        · trivial
        · obtain ⟨y, hy1, hy2⟩ := hpb.lookup (hlv p.1 v (by rw [← hv]; exact hp))
          exact ⟨y, bindL_in _ _ hn hy1 (by rw [hkind]; exact hlk p hp), hy2.mono fun a o e _ => hkeep a o e⟩
      · rcases hadr _ q with q | q
        · rw [hL] at q; exact Nat.lt_irrefl _ q
        · rw [hL] at q; exact r.fresh.1 q
      · show env.locals ∉ cx.tb
        rw [hL]; exact r.fresh.2.1
      · show cx.base.get? env.locals = none
        rw [hL]; exact r.fresh.2.2
      · show env.scope.kind = _
        rw [hsc]; exact hk
      · rw [hzip2] at hp
        obtain ⟨q, hq, rfl⟩ := List.mem_map.mp hp
        obtain ⟨c, e⟩ := hat q hq
        refine ⟨?_, .inl ?_⟩
        · show env.cells.lookup q.1 = some ((env.cells.lookup q.1).getD 0)
          rw [e]; rfl
        · show env.kindOf q.1 = _
          rw [hkind]; exact hck q hq
      · refine (hgl p hp).1 env A s' Q E ?_ ?_ ?_ ?_ kp k
        · rw [hsc]; exact hk
        · rw [hkind]; exact (hgl p hp).2
        · rw [hEnv.globals]; exact hg
        · rw [hEnv.builtins]; exact hb
    refine h env _ as (room.deeper _) hEnv (by simp [as]) _ _ _ hrel fun f st' s' g hq r' rf e' => ?_
    obtain ⟨v, ar', hf, hs, hq⟩ := hq
    have e0 : Ext (Fm.mt cx ⟨env, gl, (cn.map (·.1)).zip as⟩) ar s.heap (as.zip (cn.map fun p => O.cell p.2) ++ ar) h' := ⟨fun b o e _ _ => hkeep b o e, fun b o e _ => hkeep b o e, fun c m => (by
      rcases hadr c m with q | q
      · refine .inr ⟨fresh c (Nat.le_of_lt q), fun z => ?_⟩
        rcases List.mem_cons.mp z with z | z
        · rw [z] at q; exact Nat.lt_irrefl _ (hL ▸ q)
        · exact (foff c (Nat.le_of_lt q)).2.1 z
      · exact .inl q), fun b e _ => by
        cases q : s.heap.get? b with
        | none => exact absurd q e
        | some o => rw [hkeep b o q]; nofun⟩
    have hE : Ext cx.tb ar s.heap ar' s'.heap := by
      refine ((e0.trans e').sub fun p hp => (hs.map _).subset hp).weaken (fun p hp => ?_) fun p hp => .inl (.tail _ hp)
      rcases List.mem_cons.mp hp with rfl | hp
      · exact .inr (by show s.heap.get? env.locals = none; rw [hL]; exact size_none _)
      · exact .inl hp
    rcases hf with rfl | ⟨rfl, rfl⟩
    · cases rf with
      | ret rv => exact kk _ _ _ _ hq (r'.h.sub hs) rv hE
    · cases rf
      exact kk _ _ _ _ hq (r'.h.sub hs) .none hE
end
section
open PySem PySem.W PyProof.Rows PySem.Calls PySem.Spec
set_option maxRecDepth 100000
theorem tab_soft {ps : Array Value} (h : TriplesOk ps.toList) : Soft (tabObj ps) := by
  refine soft_of (vs := ps) rfl fun q t e => ?_
  have e2 : ps.toList[1]? = some (.str q t) := by simpa using e
  revert h e2
  generalize ps.toList = l
  intro h e2
  match l, h with
  | [], _ => cases e2
  | .int _ _ :: .int _ _ :: _ :: _, _ => simp at e2
theorem among_snoc {pos pos' : Pos} {c cv : Value} (l : List Value) (h : TriplesOk l) (e : codeAmong pos' (l ++ [rawInt pos.line, rawInt pos.col, c]) = some cv) :
    codeAmong pos' l = some cv ∨ (cv = c ∧ pos'.line = pos.line ∧ pos'.col = pos.col) := by
  fun_induction TriplesOk l with
  | case1 =>
    simp only [List.nil_append, codeAmong, rawInt] at e
    split at e
    · rename_i hc
      cases e
      simp only [Bool.and_eq_true, beq_iff_eq] at hc
      exact .inr ⟨rfl, by omega, by omega⟩
    · simp [codeAmong] at e
  | case2 a t b u x rest ih =>
    simp only [List.cons_append, codeAmong] at e ⊢
    split at e
    · rename_i hc
      rw [if_pos hc]; exact .inl e
    · rename_i hc
      rw [if_neg hc]; exact ih h e
  | case3 l h1 h2 => exact h.elim

/-- what a nested def needs of the world -/
structure Nest (cx : Cx) : Prop where
  glob : ∃ mg, cx.base.Ns mainGlobals mg ∧ ∃ bm ob, mg "__builtins__" = some (.ref bm) ∧ bm ≠ builtinsNs ∧ cx.base.get? bm = some ob ∧ ob.cls = .type "module" ∧ ob.dict = some builtinsNs ∧ ob.data = .plain
  qual : ∀ p q : Pos, p.line = q.line → p.col = q.col → cx.qual p = cx.qual q
  head : ∀ t ∈ cx.tabs, CodeHd cx.base t.1 t.2

structure FnNest (fd : FuncData) (args : Arguments) (body : FuncBody) (scope : Scope) (clos : List (Str × Addr)) : Prop where
  params : fd.params = args
  body : fd.body = body
  scope : fd.scope = scope
  closure : fd.closure = clos
  defaults : fd.defaults = .none
  kwdefaults : fd.kwdefaults = .none
  globals : fd.globals = mainGlobals
  builtins : fd.builtins = builtinsNs

section
variable {cx : Cx} {fm : Fm} {A : Around} {st : St}
theorem HRel.tab {ar : Ar} {s : Shared} {P : Addr} {h' : Heap} {tk : Nat} (r : HRel cx ar s) (hP : P ∈ cx.tb) (hx : Heap.ExtBut P s.heap h') (t : TabOk cx P h') : HRel cx ar { s with heap := h', toks := tk } := by
  have stp : Step P s.heap h' := ⟨fun b o hb e => hx b o hb e, fun o e => by
    obtain ⟨ps, e2, e3, _⟩ := (r.tabs P hP).1
    rw [e] at e2; cases e2
    exact tab_soft e3⟩
  refine ⟨r.gens, r.os, fun b o e => stp.keep b o (fun q => by rw [q, (r.tabs P hP).2] at e; cases e) (r.keep b o e), fun p hp => ?_, r.off, r.nodup, fun P' hP' => ⟨?_, (r.tabs P' hP').2⟩⟩
  · obtain ⟨o, e, q⟩ := r.objs p hp
    exact ⟨o, stp.keep _ _ (fun z => (r.off p hp).2 (z ▸ hP)) e, q.mono stp.hard⟩
  · by_cases e : P' = P
    · exact e ▸ t
    · exact (r.tabs P' hP').1.step stp e
theorem Rel.tab {s : Shared} {P : Addr} {h' : Heap} {tk : Nat} (r : Rel cx fm st s) (hP : P ∈ cx.tb) (hx : Heap.ExtBut P s.heap h') (t : TabOk cx P h') : Rel cx fm st { s with heap := h', toks := tk } := by
  have stp : Step P s.heap h' := ⟨fun b o hb e => hx b o hb e, fun o e => by
    obtain ⟨ps, e2, e3, _⟩ := (r.h.tabs P hP).1
    rw [e] at e2; cases e2
    exact tab_soft e3⟩
  exact ⟨r.h.tab hP hx t, r.loc.step stp (fun q => r.off.2.1 (q ▸ hP)), r.off, r.fn, r.cells, r.globs⟩
theorem Ext.tab {ar : Ar} {s : Shared} {P : Addr} {h' : Heap} (r : HRel cx ar s) (hP : P ∈ cx.tb) (hx : Heap.ExtBut P s.heap h') : Ext (fm.mt cx) ar s.heap ar h' := by
  have stp : Step P s.heap h' := ⟨fun b o hb e => hx b o hb e, fun o e => by
    obtain ⟨ps, e2, e3, _⟩ := (r.tabs P hP).1
    rw [e] at e2; cases e2
    exact tab_soft e3⟩
  exact .step_off stp (.inl (.tail _ hP))

/-- the making of a function -/
theorem make_any {name : Str} {args : Arguments} {body : FuncBody} {scope : Scope} {pos : Pos} {c P : Addr} {clos : List (Str × Addr)} {s : Shared} {Qr : Value → Shared → Prop} {Er : Value → Shared → Prop}
    (N : Nest cx) (hT : (c, P) ∈ cx.tabs) (hc : fm.env.code = .ref c) (hg : fm.env.globals = mainGlobals) (hcl : closureFor scope fm.env = pure clos) (r : Rel cx fm st s)
    (k : ∀ a o fd s', o.data = .func fd → FnNest fd args body scope clos → Rel cx fm ⟨st.loc, (a, .fn o) :: st.ar⟩ s' → Ext (fm.mt cx) st.ar s.heap ((a, .fn o) :: st.ar) s'.heap → Qr (.ref a) s')
    (hb : (∃ b, body = .stmts b) ∨ ∃ e, body = .expr e) :
    wpAny cx.M A (makeFunction name (cx.qual pos) args body scope fm.env [] [] [] pos pos.line) Qr Er s := by
  obtain ⟨mg, hns, bm, ob, b1, b2, b3, b4, b5, b6⟩ := N.glob
  have hP : P ∈ cx.tb := List.mem_map.mpr ⟨_, hT, rfl⟩
  obtain ⟨⟨ps, eP, ht, hcodes⟩, hPb⟩ := r.h.tabs P hP
  have hgs := hns.keeps r.h.keep
  have hgP : mainGlobals ≠ P := fun q => by
    obtain ⟨o, es, ep, e, hd, _⟩ := hns
    rw [q, hPb] at e; cases e
  have hbP : bm ≠ P := fun q => by rw [q, hPb] at b3; cases b3
  have hbG : bm ≠ mainGlobals := fun q => by
    obtain ⟨o, es, ep, e, hd, _⟩ := hns
    rw [q, e] at b3; cases b3; rw [hd] at b6; cases b6
  have C := (N.head _ hT).keeps r.h.keep
  have B : s.heap.BuiltinsAt mg P := ⟨bm, ob, b1, b2, hbG, hbP, r.h.keep _ _ b3, b4, b5, b6⟩
  have fin : ∀ (h' : Heap) (tk : Tok) (o : Obj) (fd : FuncData), o.data = .func fd → o.isFreed = false → FnNest fd args body scope clos → fd.qualname = cx.qual pos → h'.CodeRec fd.code (cx.qual pos) → Rel cx fm st { s with heap := h', toks := tk } → Ext (fm.mt cx) st.ar s.heap st.ar h' →
      Qr (.ref h'.objs.size) { s with heap := h'.push o, toks := tk } := fun h' tk o fd h1 hf h2 h3 h4 r' e' =>
    k _ o fd _ h1 h2 (r'.alloc tk (.fn h1 (h3 ▸ h4.push _)) hf) (e'.trans (.alloc _ _ r'.mt_lt))
  cases hf : codeAmong pos ps.toList with
  | none =>
    have grow : ∀ (c' : Addr) (h' : Heap) (tk : Tok), Heap.ExtBut P s.heap h' → h'.CodeRec (.ref c') (cx.qual pos) → h'.get? P = some (tabObj (ps ++ #[rawInt pos.line, rawInt pos.col, .ref c'])) → Rel cx fm st { s with heap := h', toks := tk } ∧ Ext (fm.mt cx) st.ar s.heap st.ar h' := fun c' h' tk hx hrec htb => by
      refine ⟨r.tab hP hx ⟨_, htb, ?_, fun pos' cv e => ?_⟩, Ext.tab r.h hP hx⟩
      · rw [Array.toList_append]; exact TriplesOk_snoc _ _ _ _ ht
      · rw [Array.toList_append] at e
        rcases among_snoc _ ht e with e | ⟨rfl, h1, h2⟩
        · obtain ⟨c2, o, vs, t, q1, q2, q3, q4⟩ := hcodes _ _ e
          refine ⟨c2, o, vs, t, q1, hx _ _ (fun z => ?_) q2, q3, q4⟩
          rw [z, eP] at q2; cases q2
          cases q3
          exact (tab_soft ht).2 ps rfl _ _ q4
        · rw [N.qual pos' pos h1 h2]; exact hrec
    rcases hb with ⟨b, rfl⟩ | ⟨e, rfl⟩
    · refine makeFunction_K (mg := mg) hcl hg hgs hc C eP ht hf hgP B fun c' ctv doc h' tk hx hge hlt hrec htb => ?_
      obtain ⟨r', e'⟩ := grow c' h' tk hx hrec htb
      exact fin h' tk _ _ rfl rfl ⟨rfl, rfl, rfl, rfl, rfl, rfl, rfl, rfl⟩ rfl hrec r' e'
    · refine kla_makeFunction (mg := mg) hcl hg hgs hc C eP ht hf hgP B fun c' ctv h' tk hx hge hlt hrec htb => ?_
      obtain ⟨r', e'⟩ := grow c' h' tk hx hrec htb
      exact fin h' tk _ _ rfl rfl ⟨rfl, rfl, rfl, rfl, rfl, rfl, rfl, rfl⟩ rfl hrec r' e'
  | some cv =>
    have hrec := hcodes _ _ hf
    rcases hb with ⟨b, rfl⟩ | ⟨e, rfl⟩
    · refine makeFunction_hit (mg := mg) hcl hg hgs hc C eP ht hf B fun ctv doc h' tk hk hsz => ?_
      exact fin h' tk _ _ rfl rfl ⟨rfl, rfl, rfl, rfl, rfl, rfl, rfl, rfl⟩ rfl (hrec.keeps hk) (r.grow hk) (.grow hk)
    · refine kla_makeFunctionHit (mg := mg) hcl hg hgs hc C eP ht hf B fun ctv h' tk hk hsz => ?_
      exact fin h' tk _ _ rfl rfl ⟨rfl, rfl, rfl, rfl, rfl, rfl, rfl, rfl⟩ rfl (hrec.keeps hk) (r.grow hk) (.grow hk)

theorem EX_def {name : Str} {args : Arguments} {body : List Stmt} {scope : Scope} {pos : Pos} {c P : Addr} {clos : List (Str × Addr)} {Q : Fl → St → Prop} (N : Nest cx) (hT : (c, P) ∈ cx.tabs) (hc : fm.env.code = .ref c) (hg : fm.env.globals = mainGlobals)
    (hcl : closureFor scope fm.env = pure clos) (hq : qualnameIn fm.env name name = cx.qual pos)
    (h : ∀ a o fd, o.data = .func fd → FnNest fd args (.stmts body) scope clos → SNm cx fm A name (.ref a) ⟨st.loc, (a, .fn o) :: st.ar⟩ (Q .next))
    (hd0 : args.defaults = [] := by walk_at "u") (hk0 : args.kw_defaults = [] := by walk_at "u") (ha : ∀ env, annTrees args none env = [] := by walk_at "u") :
    EX cx fm A (.FunctionDef name args body [] none [] scope none name pos) st Q := fun s Qr Er r k =>
  nestDef_K hd0 hk0 (ha _) (by
    rw [hq]
    refine make_any N hT hc hg hcl r (fun a o fd s' h1 h2 r' e' => ?_) (.inl ⟨_, rfl⟩)
    exact h a o fd h1 h2 s' (.ref a) _ _ r' (.ref a) fun _ st2 s2 _ h3 r3 _ e3 => k _ _ _ _ h3 r3 .next (e'.trans e3))
theorem EV_lambda {args : Arguments} {body : PySem.Expr} {scope : Scope} {pos : Pos} {c P : Addr} {clos : List (Str × Addr)} {Q : V → St → Prop} (N : Nest cx) (hT : (c, P) ∈ cx.tabs) (hc : fm.env.code = .ref c) (hg : fm.env.globals = mainGlobals)
    (hcl : closureFor scope fm.env = pure clos) (hq : fm.env.qual ++ "<lambda>" = cx.qual pos)
    (h : ∀ a o fd, o.data = .func fd → FnNest fd args (.expr body) scope clos → Q (.ref a) ⟨st.loc, (a, .fn o) :: st.ar⟩)
    (hdef : ∀ env, defaultsOf args env = ([], []) := by walk_at "u") : EV cx fm A (.Lambda args body scope pos) st Q := fun s Qr Er r k =>
  kla_eval (hdef _) (by
    rw [hq]
    refine make_any N hT hc hg hcl r (fun a o fd s' h1 h2 r' e' => ?_) (.inr ⟨_, rfl⟩)
    exact k _ _ _ _ (h a o fd h1 h2) r' (.ref a) e')

/-! a call of a nested function: no cells of its own -/
structure NestOk (cx : Cx) (scope : Scope) (clos : List (Str × Addr)) (pnames rest : List Str) (gl : List (Str × V)) (cl : List (Str × Addr)) : Prop where
  nd : (pnames ++ rest).Nodup
  kinds : ∀ x ∈ pnames ++ rest, scope.names.lookup x = some .local
  gl : ∀ p ∈ gl, GlobV cx p.1 p.2 ∧ scope.names.lookup p.1 = some .globalImplicit
  cells : ∀ p ∈ cl, clos.lookup p.1 = some p.2 ∧ scope.names.lookup p.1 = some .free
  nocell : ∀ x ∈ scope.names, x.2 ≠ .cell
  co : scope.isCoroutine = false
  gen : scope.isGenerator = false
  kind : scope.kind = .function

noncomputable abbrev envOfN (fd : FuncData) (L a : Addr) : Env := newEnv fd.scope L fd.globals fd.closure (fd.qualname ++ ".<locals>.") (some a) fd.code none fd.builtins

theorem nest_enter {a : Addr} {o : Obj} {fd : FuncData} {vs : List V} {pv : List (Str × V)} {rest : List Str} {gl : List (Str × V)} {cl : List (Str × Addr)} {ar : Ar} {n : Nat} {args : Arguments} {fbody : FuncBody} {scope : Scope} {clos : List (Str × Addr)} {s : Shared} {binds : List (Str × Value)}
    (hfd : o.data = .func fd) (hn : FnNest fd args fbody scope clos) (ok : NestOk cx scope clos (pv.map (·.1)) rest gl cl) (r : HRel cx ar s) (hpb : PB s.heap pv binds) {Q : Env → Shared → Prop} {Er : Value → Shared → Prop}
    (h : ∀ env s', env.scope = scope → EnvOf fd env → env.locals = s.heap.objs.size → Rel cx ⟨env, gl, cl⟩ ⟨loc0 pv rest, ar⟩ s' → (∀ b o, s.heap.get? b = some o → s'.heap.get? b = some o) → Q env s') :
    wpAny cx.M A (newFunctionEnv fd.scope fd.globals fd.closure binds (fd.qualname ++ ".<locals>.") (some a) fd.code none fd.builtins) Q Er s := by
  have hnb : (binds.map (·.1)).Nodup := by rw [hpb.names]; exact (List.nodup_append.mp ok.nd).1
  refine wpAny_newFunctionEnv (by rw [hn.scope]; exact ok.nocell) (fun x hx => ?_) (fun h₁ hns hsb => ?_) (by rw [hn.scope]; exact ok.kind)
  · rw [hn.scope]
    refine ok.kinds x.1 (List.mem_append_left _ ?_)
    rw [← hpb.names]; exact List.mem_map.mpr ⟨x, hx, rfl⟩
  · have hkeep : ∀ b o, s.heap.get? b = some o → h₁.get? b = some o := fun b o e => hsb.extBut b o (Nat.ne_of_lt (Heap.lt_size e)) (Heap.get?_push_of_some _ e)
    have hsc : (envOfN fd s.heap.objs.size a).scope = scope := hn.scope
    refine h _ _ hsc ⟨rfl, rfl, rfl, rfl, rfl⟩ rfl ⟨r.step_off (x := s.heap.objs.size) (dr := s.drawn) (Step.grow hkeep) r.fresh.1 r.fresh.2.1 r.fresh.2.2, ⟨?_, fun p hp => ?_, _, hns, fun p hp => ?_⟩, ⟨r.fresh.1, r.fresh.2.1, r.fresh.2.2⟩, ?_, fun p hp => ⟨?_, .inr ?_⟩, fun p hp A s' Q E kp k => ?_⟩ hkeep
    · rw [loc0_names]; exact ok.nd
    · show fd.scope.names.lookup p.1 = _
      rw [hn.scope]; exact ok.kinds p.1 (by rw [← loc0_names]; exact List.mem_map.mpr ⟨p, hp, rfl⟩)
    · rcases List.mem_append.mp hp with hp | hp
      · obtain ⟨q, hq, rfl⟩ := List.mem_map.mp hp
        obtain ⟨y, h1, h2⟩ := hpb.lookup (x := q.1) (v := q.2) hq
        exact ⟨y, lookup_rev hnb h1, h2.mono fun a o e _ => hkeep a o e⟩
      · obtain ⟨q, hq, rfl⟩ := List.mem_map.mp hp
        trivial
    · show fd.scope.kind = _
      rw [hn.scope]; exact ok.kind
    · show fd.closure.lookup p.1 = _
      rw [hn.closure]; exact (ok.cells p hp).1
    · show fd.scope.names.lookup p.1 = _
      rw [hn.scope]; exact (ok.cells p hp).2
    · refine (ok.gl p hp).1 _ A s' Q E ?_ ?_ hn.globals hn.builtins kp k
      · show fd.scope.kind = _
        rw [hn.scope]; exact ok.kind
      · show fd.scope.names.lookup p.1 = _
        rw [hn.scope]; exact (ok.gl p hp).2

theorem ext_enter {env : Env} {ar ar' : Ar} {h h0 h' : Heap} {gl : List (Str × V)} {cl : List (Str × Addr)} (hL : env.locals = h.objs.size) (hkeep : ∀ b o, h.get? b = some o → h0.get? b = some o) (e : Ext (Fm.mt cx ⟨env, gl, cl⟩) ar h0 ar' h') : Ext cx.tb ar h ar' h' := by
  refine ((Ext.grow hkeep).trans e).weaken (fun p hp => ?_) fun p hp => .inl (.tail _ hp)
  rcases List.mem_cons.mp hp with rfl | hp
  · exact .inr (by show h.get? env.locals = none; rw [hL]; exact size_none _)
  · exact .inl hp

theorem CallT_nest {a : Addr} {o : Obj} {fd : FuncData} {vs : List V} {pv : List (Str × V)} {rest : List Str} {gl : List (Str × V)} {cl : List (Str × Addr)} {ar : Ar} {n : Nat} {args : Arguments} {body : List Stmt} {scope : Scope} {clos : List (Str × Addr)} {Q : V → Ar → Prop}
    (hat : At a (.fn o) ar) (hfd : o.data = .func fd) (hn : FnNest fd args (.stmts body) scope clos) (ok : NestOk cx scope clos (pv.map (·.1)) rest gl cl) (hlim : cx.base.NoLimit) (room : Room A (n + 1))
    (hbind : ∀ (s : Shared) xs, VRs s.heap vs xs → ∃ binds, bindArgs fd ⟨xs, []⟩ = pure binds ∧ PB s.heap pv binds)
    (h : ∀ env A', Room A' n → EB cx ⟨env, gl, cl⟩ A' body ⟨loc0 pv rest, ar⟩ (Back Q)) : CallT cx A (.ref a) vs ar Q := fun s xs Qr Er r rx kk => by
  obtain ⟨o', eo, q⟩ := r.objs _ hat.mem
  cases q with
  | fn e2 hrec =>
    rw [hfd] at e2; cases e2
    obtain ⟨binds, hbd, hpb⟩ := hbind s xs rx
    refine wpAny_call (codeAny_call_function room.lt eo hfd (by rw [hn.scope]; exact ok.co) (by rw [hn.scope]; exact ok.gen) hn.body hrec ?_)
    rw [hbd]
    refine wpAny_pure (nest_enter (vs := vs) (n := n) (a := a) hfd hn ok r hpb fun env s' hsc hE hL r' hkeep => ⟨hlim.keeps r'.h.keep, codeAny_func (h env _ (room.deeper _) s' _ _ r' fun f st' s'' g hq r'' rf e' => ?_)⟩)
    obtain ⟨v, ar', hf, hs, hq⟩ := hq
    have hX := ext_enter hL hkeep (e'.sub fun p hp => (hs.map _).subset hp)
    rcases hf with rfl | ⟨rfl, rfl⟩
    · cases rf with
      | ret rv => exact kk _ _ _ _ hq (r''.h.sub hs) rv hX
    · cases rf
      exact kk _ _ _ _ hq (r''.h.sub hs) .none hX

theorem CallT_lam {a : Addr} {o : Obj} {fd : FuncData} {vs : List V} {pv : List (Str × V)} {rest : List Str} {gl : List (Str × V)} {cl : List (Str × Addr)} {ar : Ar} {n : Nat} {args : Arguments} {body : PySem.Expr} {scope : Scope} {clos : List (Str × Addr)} {Q : V → Ar → Prop}
    (hat : At a (.fn o) ar) (hfd : o.data = .func fd) (hn : FnNest fd args (.expr body) scope clos) (ok : NestOk cx scope clos (pv.map (·.1)) rest gl cl) (hlim : cx.base.NoLimit) (room : Room A (n + 1))
    (hbind : ∀ (s : Shared) xs, VRs s.heap vs xs → ∃ binds, bindArgs fd ⟨xs, []⟩ = pure binds ∧ PB s.heap pv binds)
    (h : ∀ env A', Room A' n → EV cx ⟨env, gl, cl⟩ A' body ⟨loc0 pv rest, ar⟩ fun v st => ∃ ar', ar'.Sublist st.ar ∧ Q v ar') : CallT cx A (.ref a) vs ar Q := fun s xs Qr Er r rx kk => by
  obtain ⟨o', eo, q⟩ := r.objs _ hat.mem
  cases q with
  | fn e2 hrec =>
    rw [hfd] at e2; cases e2
    obtain ⟨binds, hbd, hpb⟩ := hbind s xs rx
    refine wpAny_call (kla_callFunE room.lt eo hfd (by rw [hn.scope]; exact ok.co) (by rw [hn.scope]; exact ok.gen) hn.body hrec ?_)
    rw [hbd]
    refine wpAny_pure (nest_enter (vs := vs) (n := n) (a := a) hfd hn ok r hpb fun env s' hsc hE hL r' hkeep => ⟨hlim.keeps r'.h.keep, kla_codeExpr (h env _ (room.deeper _) s' _ _ r' fun v st' s'' x hq r'' rv e' => ?_)⟩)
    obtain ⟨ar', hs, hq⟩ := hq
    exact kk _ _ _ _ hq (r''.h.sub hs) rv (ext_enter hL hkeep (e'.sub fun p hp => (hs.map _).subset hp))
end
end
section
open PySem PySem.W PyProof.Rows PySem.Calls PySem.Spec
set_option maxRecDepth 100000
/-! calls with keywords -/
noncomputable def CallK (cx : Cx) (A : Around) (f : Value) (vs : List V) (kn : List Str) (kv : List V) (ar : Ar) (Q : V → Ar → Prop) : Prop :=
  ∀ (s : Shared) (xs ys : List Value) (Qr : Value → Shared → Prop) (Er : Value → Shared → Prop), HRel cx ar s → VRs s.heap vs xs → VRs s.heap kv ys →
    (∀ v ar' s' x, Q v ar' → HRel cx ar' s' → VR s'.heap v x → Ext cx.tb ar s.heap ar' s'.heap → Qr x s') → wpAny cx.M A (call f xs (kn.zip ys)) Qr Er s

section
variable {cx : Cx} {fm : Fm} {A : Around} {st : St}

theorem EV_callK1 {f : Str} {a : Addr} {fd : FuncData} {e ke : PySem.Expr} {rest : List PySem.Expr} {kname : Str} {kp fp pos : Pos} {Q : V → St → Prop} (hf : (f, .val (.ref a)) ∈ fm.gl) (hfn : FnB cx a fd)
    (h : EVs cx fm A (e :: rest) pos st fun vs st1 => EV cx fm A ke st1 fun kv st2 => CallK cx A (.ref a) vs [kname] [kv] st2.ar fun v ar' => Q v { st2 with ar := ar' })
    (he : ∀ env, starEach (e :: rest) env = (false, eval e env) :: starEach rest env := by walk_at "u")
    (hd : (f == ("__debug__" : Str)) = false := by walk_at "k") : EV cx fm A (.Call (.Name f fp) (e :: rest) [⟨some kname, ke, kp⟩] pos) st Q := fun s Qr Er r k =>
  wpAny_Call_Name_kw (EV_glob hf (Q := fun v st' => v = .val (.ref a) ∧ st' = st) ⟨rfl, rfl⟩ hd s _ _ r fun v st1 s1 x h1 r1 rv e1 => by
    obtain ⟨rfl, rfl⟩ := h1
    cases rv
    obtain ⟨o, ho, hdat⟩ := hfn.obj
    have h2 := h s1 _ Er r1 fun vs st2 s2 xs h2 r2 rvs e2 => h2 s2 (fun kx s3 => s3.heap.get? a = some o ∧ wpAny cx.M A (call (.ref a) xs ([kname].zip [kx])) Qr Er s3) Er r2 fun kv st3 s3 kx h3 r3 rk e3 => ⟨r3.h.keep _ _ ho, h3 s3 xs [kx] Qr Er r3.h (rvs.mono e3.hard) (.cons rk .nil) fun v ar' s4 y h4 r4 rv e4 =>
      k _ _ _ _ h4 (r3.after_call r4 e4) rv (e1.trans (e2.trans (e3.trans (r3.frame e4))))⟩
    refine callWith_def_kw (o := o) hdat ?_
    show wpAny cx.M A (evalArgs _ true (backTo pos (starEach (e :: rest) fm.env)) (backToKw pos (keywordEach [⟨some kname, ke, kp⟩] fm.env))) _ _ _
    unfold EVs at h2
    rw [he] at h2 ⊢
    refine evalArgs_kw rfl (wpAny_mono h2 (fun xs s2 h3 => ?_) fun _ _ x => x)
    refine wpAny_evalAll_cons ?_
    refine wpAny_bind (wpAny_mono h3 (fun kx s3 h4 => ?_) fun _ _ x => x)
    exact wpAny_bind (wpAny_standAt (wpAny_pure (wpAny_evalAll_nil h4))))

theorem CallK_def {a : Addr} {fd : FuncData} {body : List Stmt} {vs : List V} {kn : List Str} {kv : List V} {pv : List (Str × V)} {rest : List Str} {gl : List (Str × V)} {ar : Ar} {Q : V → Ar → Prop} {n : Nat}
    (hfn : FnB cx a fd) (hbody : fd.body = .stmts body) (hlim : cx.base.NoLimit) (room : Room A (n + 1))
    (hbind : ∀ s xs ys, (∀ b o, cx.base.get? b = some o → s.heap.get? b = some o) → VRs s.heap vs xs → VRs s.heap kv ys → ∃ binds, BindsTo s fd ⟨xs, kn.zip ys⟩ binds ∧ PB s.heap pv binds)
    (hnd : (pv.map (·.1) ++ rest).Nodup) (hkind : ∀ x ∈ pv.map (·.1) ++ rest, fd.scope.names.lookup x = some .local)
    (hgl : ∀ p ∈ gl, GlobV cx p.1 p.2 ∧ fd.scope.names.lookup p.1 = some .globalImplicit) (hg : fd.globals = mainGlobals) (hb : fd.builtins = builtinsNs)
    (hcell : ∀ x ∈ fd.scope.names, x.2 ≠ .cell) (hco : fd.scope.isCoroutine = false) (hgen : fd.scope.isGenerator = false) (hk : fd.scope.kind = .function)
    (h : ∀ env A', Room A' n → EnvOf fd env → EB cx ⟨env, gl, []⟩ A' body ⟨loc0 pv rest, ar⟩ (Back Q)) : CallK cx A (.ref a) vs kn kv ar Q := fun s xs ys Qr Er r rx ry kk => by
  obtain ⟨o, ho, hdat⟩ := hfn.obj
  obtain ⟨binds, hbd, hpb⟩ := hbind s xs ys r.keep rx ry
  have hn : (binds.map (·.1)).Nodup := by rw [hpb.names]; exact (List.nodup_append.mp hnd).1
  refine wpAny_call (codeAny_call_def (fd := fd) (body := body) (binds := binds) room.lt (r.keep _ _ ho) hdat (hlim.keeps r.keep) (hfn.code.keeps r.keep) hbody hbd hcell (fun x hx => ?_) (fun h₀ hns hkeep => ?_) hco hgen hk)
  · refine hkind x.1 (List.mem_append_left _ ?_)
    rw [← hpb.names]
    exact List.mem_map.mpr ⟨x, hx, rfl⟩
  · have hr : HRel cx ar { s with heap := h₀, toks := s.toks + binds.length } := r.step_off (x := s.heap.objs.size) (dr := s.drawn) (Step.grow hkeep) r.fresh.1 r.fresh.2.1 r.fresh.2.2
    have hrel : Rel cx ⟨callEnv fd s.heap.objs.size a, gl, []⟩ ⟨loc0 pv rest, ar⟩ { s with heap := h₀, toks := s.toks + binds.length } := by
      refine ⟨hr, ⟨?_, fun p hp => ?_, _, hns, fun p hp => ?_⟩, ⟨r.fresh.1, r.fresh.2.1, r.fresh.2.2⟩, hk, fun p hp => (nomatch hp), fun p hp A s' Q E kp k => (hgl p hp).1 _ A s' Q E hk (hgl p hp).2 hg hb kp k⟩
      · rw [loc0_names]; exact hnd
      · exact hkind p.1 (by rw [← loc0_names]; exact List.mem_map.mpr ⟨p, hp, rfl⟩)
      · rcases List.mem_append.mp hp with hp | hp
        · obtain ⟨q, hq, rfl⟩ := List.mem_map.mp hp
          obtain ⟨y, h1, h2⟩ := hpb.lookup (x := q.1) (v := q.2) hq
          exact ⟨y, lookup_rev hn h1, h2.mono fun a o e _ => hkeep a o e⟩
        · obtain ⟨q, hq, rfl⟩ := List.mem_map.mp hp
          trivial
    refine h (callEnv fd s.heap.objs.size a) _ (room.deeper _) ⟨rfl, rfl, rfl, rfl, rfl⟩ _ _ _ hrel fun f st' s' g hq r' rf e' => ?_
    obtain ⟨v, ar', hf, hs, hq⟩ := hq
    have hE := ext_enter (h := s.heap) (cx := cx) (ar := ar) rfl hkeep (e'.sub fun p hp => (hs.map _).subset hp)
    rcases hf with rfl | ⟨rfl, rfl⟩
    · cases rf with
      | ret rv => exact kk _ _ _ _ hq (r'.h.sub hs) rv hE
    · cases rf
      exact kk _ _ _ _ hq (r'.h.sub hs) .none hE
end
end
section
open PySem PySem.W PyProof.Rows PySem.Calls PySem.Spec
set_option maxRecDepth 100000
section
variable {cx : Cx} {fm : Fm} {A : Around} {st : St} {Q : V → St → Prop} {loc : Loc} {ar ar' : Ar} {env : Env} {gl : List (Str × V)} {cl : List (Str × Addr)}

/-! loops on written states -/
theorem r_for1 {target e : PySem.Expr} {f : Str} {fp pos fpos : Pos} {body : List Stmt} {Q : Fl → St → Prop} (hA : A.handled = none) (hf : Has (f, .val (.type "range")) gl)
    (h : EV cx ⟨env, gl, cl⟩ A e ⟨loc, ar⟩ fun x st1 => ∃ n, x = nt n ∧ n < 2 ^ 62 ∧ ∃ J : Nat → St → Prop, J 0 st1 ∧
      (∀ i st2, i < n → J i st2 → AS cx ⟨env, gl, cl⟩ A target (nt i) st2 fun st3 => EB cx ⟨env, gl, cl⟩ A body st3 (Fl.turn Q (J (i + 1)))) ∧ ∀ st2, J n st2 → Q .next st2)
    (he : ∀ env, starEach [e] env = (false, eval e env) :: starEach [] env := by walk_at "u") (hn : NoStar [e] := by walk_at "u") (hd : (f == ("__debug__" : Str)) = false := by walk_at "k")
    (hs : ∀ env x, foldedSetIterable (.Call (.Name f fp) [e] [] pos) env x = pure x := by walk_at "u") : EX cx ⟨env, gl, cl⟩ A (.For target (.Call (.Name f fp) [e] [] pos) body [] fpos) ⟨loc, ar⟩ Q :=
  EX_for (EI_range1 hA hf.mem (h.mono fun x st1 ⟨n, h1, h2, J, h3, h4, h5⟩ => ⟨n, h1, h2, J, h3, fun _ _ _ => trivial, h4, h5⟩) he hn hd) hs
theorem r_forS {target iter : PySem.Expr} {fpos : Pos} {body : List Stmt} {Q : Fl → St → Prop} (hA : A.handled = none)
    (h : EV cx fm A iter ⟨loc, ar⟩ fun x st1 => ∃ l, x = .str l ∧ l.all (· < 128) = true ∧ ∃ J : Nat → St → Prop, J 0 st1 ∧
      (∀ i st2, i < l.length → J i st2 → AS cx fm A target (.str [l.getD i 0]) st2 fun st3 => EB cx fm A body st3 (Fl.turn Q (J (i + 1)))) ∧ ∀ st2, J l.length st2 → Q .next st2)
    (hs : ∀ env x, foldedSetIterable iter env x = pure x := by walk_at "u") : EX cx fm A (.For target iter body [] fpos) ⟨loc, ar⟩ Q :=
  EX_for (EI_str hA (h.mono fun x st1 ⟨n, h1, h2, J, h3, h4, h5⟩ => ⟨n, h1, h2, J, h3, fun _ _ _ => trivial, h4, h5⟩)) hs
theorem r_forL {target iter : PySem.Expr} {fpos : Pos} {body : List Stmt} {Q : Fl → St → Prop} (hA : A.handled = none)
    (h : EV cx fm A iter ⟨loc, ar⟩ fun x st1 => ∃ l vs, x = .ref l ∧ At l (.list vs) st1.ar ∧ ∃ J : Nat → St → Prop, J 0 st1 ∧ (∀ i st2, J i st2 → At l (.list vs) st2.ar) ∧
      (∀ i st2, i < vs.length → J i st2 → AS cx fm A target (vs.getD i .none) st2 fun st3 => EB cx fm A body st3 (Fl.turn Q (J (i + 1)))) ∧ ∀ st2, J vs.length st2 → Q .next st2)
    (hs : ∀ env x, foldedSetIterable iter env x = pure x := by walk_at "u") : EX cx fm A (.For target iter body [] fpos) ⟨loc, ar⟩ Q :=
  EX_for (EI_list hA (h.mono fun x st1 ⟨l, vs, h1, h2, J, h3, h4, h5, h6⟩ => ⟨l, vs, h1, h2, J, h3, h4, h5, h6⟩)) hs

theorem r_expr {e : PySem.Expr} {pos : Pos} {Q : Fl → St → Prop} (h : EV cx fm A e ⟨loc, ar⟩ fun v st1 => v = .none ∧ Q .next st1) (hs : ∀ env, swapsWith e none pos.line env = pure false := by walk_at "u") : EX cx fm A (.Expr e pos) ⟨loc, ar⟩ Q :=
  EX_expr h (by intro env he; unfold interactive; rw [he]; rfl) hs
theorem cut_from {vs : List V} {a : Nat} (h : a ≤ vs.length) : cut vs (nt a) .none = some (vs.drop a) := by
  show (if a ≤ vs.length then some (vs.drop a) else Option.none) = _
  rw [if_pos h]
theorem cut_upto {vs : List V} {b : Nat} (h : b ≤ vs.length) : cut vs .none (nt b) = some (vs.take b) := by
  show (if b ≤ vs.length then some (vs.take b) else Option.none) = _
  rw [if_pos h]
theorem cut_run {vs : List V} {a b : Nat} (h : b ≤ vs.length) (hab : a ≤ b) : cut vs (nt a) (nt b) = some ((vs.drop a).take (b - a)) := by
  show (if b ≤ vs.length ∧ a ≤ b then some ((vs.drop a).take (b - a)) else Option.none) = _
  rw [if_pos ⟨h, hab⟩]
theorem r_from {v lo : PySem.Expr} {p pos : Pos} (h : EV cx fm A v st fun ov st1 => EV cx fm A lo st1 fun a st2 => ∃ l vs k, ov = .ref l ∧ a = nt k ∧ At l (.list vs) st2.ar ∧ vs.length ≤ 1000000 ∧ k ≤ vs.length ∧ ∀ d, Q (.ref d) ⟨st2.loc, (d, .list (vs.drop k)) :: st2.ar⟩)
    (ht : ∀ o r, letTemporaryGo v o r = pure () := by walk_at "u") : EV cx fm A (.Subscript v (.Slice (some lo) none none p) pos) st Q :=
  EV_sliceL (l := 0) (vs := []) (h.mono fun ov st1 h => EP_some (h.mono fun a st2 h => EP_none (by
    obtain ⟨l, vs, k, rfl, rfl, h1, h2, h3, h4⟩ := h
    exact ⟨l, vs, _, rfl, h1, h2, cut_from h3, (by intro q; cases q), h4⟩))) ht
theorem r_upto {v hi : PySem.Expr} {p pos : Pos} (h : EV cx fm A v st fun ov st1 => EV cx fm A hi st1 fun a st2 => ∃ l vs k, ov = .ref l ∧ a = nt k ∧ At l (.list vs) st2.ar ∧ vs.length ≤ 1000000 ∧ k ≤ vs.length ∧ ∀ d, Q (.ref d) ⟨st2.loc, (d, .list (vs.take k)) :: st2.ar⟩)
    (ht : ∀ o r, letTemporaryGo v o r = pure () := by walk_at "u") : EV cx fm A (.Subscript v (.Slice none (some hi) none p) pos) st Q :=
  EV_sliceL (l := 0) (vs := []) (h.mono fun ov st1 h => EP_none (EP_some (h.mono fun a st2 h => by
    obtain ⟨l, vs, k, rfl, rfl, h1, h2, h3, h4⟩ := h
    exact ⟨l, vs, _, rfl, h1, h2, cut_upto h3, (by intro _ q; cases q), h4⟩))) ht
theorem r_run {v lo hi : PySem.Expr} {p pos : Pos} (h : EV cx fm A v st fun ov st1 => EV cx fm A lo st1 fun a st2 => EV cx fm A hi st2 fun b st3 => ∃ l vs k m, ov = .ref l ∧ a = nt k ∧ b = nt m ∧ At l (.list vs) st3.ar ∧ vs.length ≤ 1000000 ∧ m ≤ vs.length ∧ k ≤ m ∧ ∀ d, Q (.ref d) ⟨st3.loc, (d, .list ((vs.drop k).take (m - k))) :: st3.ar⟩)
    (ht : ∀ o r, letTemporaryGo v o r = pure () := by walk_at "u") : EV cx fm A (.Subscript v (.Slice (some lo) (some hi) none p) pos) st Q :=
  EV_sliceL (l := 0) (vs := []) (h.mono fun ov st1 h => EP_some (h.mono fun a st2 h => EP_some (h.mono fun b st3 h => by
    obtain ⟨l, vs, k, m, rfl, rfl, rfl, h1, h2, h3, h4, h5⟩ := h
    exact ⟨l, vs, _, rfl, h1, h2, cut_run h3 h4, (by intro q; cases q), h5⟩))) ht

/-! methods of texts -/
theorem r_lower {o : PySem.Expr} {apos pos : Pos} (h : EV cx fm A o st fun v st1 => ∃ x y, v = .str x ∧ x.length ≤ 1000 ∧ Txt.lower ⟨x.toArray⟩ = ⟨y.toArray⟩ ∧ Q (.str y) st1)
    (hbase : ∀ env, attributeBase o (Str.ofString "lower") env (eval o env) = eval o env := by walk_at "u") (hline : (apos.endLine == pos.line) = true := by walk_at "u") :
    EV cx fm A (.Call (.Attribute o (Str.ofString "lower") apos) [] [] pos) st Q :=
  EV_meth (T := "str") (id := "str.lower") PySem.F.plainAttrs_str PySem.F.slot_str_lower PySem.F.type_str_lower (h.mono fun v st1 q => by
    obtain ⟨x, y, rfl, h1, h2, q⟩ := q
    exact ⟨.str _, EVs_nil (M_lower h1 h2 q)⟩) hbase (by intros; with_unfolding_all rfl) hline
theorem r_join {o e : PySem.Expr} {apos pos : Pos} (h : EV cx fm A o st fun v st1 => v = .str [] ∧ EV cx fm A e st1 fun lv st2 => ∃ l ys, lv = .ref l ∧ At l (.list (List.map V.str ys)) st2.ar ∧ (ys.map List.length).sum + ys.length ≤ 10000 ∧
      Txt.join ⟨([] : List Nat).toArray⟩ (ys.map fun y => (⟨y.toArray⟩ : Str)) = ⟨ys.flatten.toArray⟩ ∧ Q (.str ys.flatten) st2)
    (hbase : ∀ env, attributeBase o (Str.ofString "join") env (eval o env) = eval o env := by walk_at "u") (hline : (apos.endLine == pos.line) = true := by walk_at "u")
    (he : ∀ env, starEach [e] env = (false, eval e env) :: starEach [] env := by walk_at "u") (hfew : ∀ env, ((backTo pos (starEach [e] env)).all (fun x => !x.1) && (backToKw pos (keywordEach [] env)).all (fun x => x.1.isSome)
      && decide ([e].length + ([] : List Keyword).length + (if ([] : List Keyword).isEmpty then 0 else 1) < 30)) = true := by walk_at "u") (hn : NoStar [e] := by walk_at "u")
    (hes : ∀ env pos, (∃ e' rest, backTo pos (starEach [e] env) = (false, eval e' env) :: rest) ∨ backTo pos (starEach [e] env) = [] := by walk_at "q") :
    EV cx fm A (.Call (.Attribute o (Str.ofString "join") apos) [e] [] pos) st Q :=
  EV_meth (T := "str") (id := "str.join") PySem.F.plainAttrs_str PySem.F.slot_str_join PySem.F.type_str_join (h.mono fun v st1 q => by
    obtain ⟨rfl, q⟩ := q
    exact ⟨.str _, EVs_cons (q.mono fun lv st2 q => by
      obtain ⟨l, ys, rfl, h1, h2, h3, q⟩ := q
      exact EVs_nil (M_join h1 h2 q h3)) he⟩) hbase hfew hline hn hes

/-! lists on written states -/
theorem r_addL {l m : Addr} {vs ws : List V} (hl : At l (.list vs) ar) (hm : At m (.list ws) ar) (hs : vs.length + ws.length ≤ 1000000) (h : ∀ d, Q (.ref d) ⟨loc, (d, .list (vs ++ ws)) :: ar⟩) :
    Op2 cx fm A (binaryOp .Add) VR (.ref l) (.ref m) ⟨loc, ar⟩ Q := O_addL hl hm hs h
theorem r_rep {l : Addr} {v : V} {n : Nat} (hl : At l (.list [v]) ar) (hn : n ≤ 1000000) (h : ∀ d, Q (.ref d) ⟨loc, (d, .list (List.replicate n v)) :: ar⟩) :
    Op2 cx fm A (binaryOp .Mult) VR (.ref l) (nt n) ⟨loc, ar⟩ Q := O_rep hl hn h

/-! the script: a list of the base -/
theorem S_base {v i : PySem.Expr} {l : Addr} {items : List Value} {zs : List Int} {k : Nat} {x : Int} (hl : cx.base.IsList l items.toArray) (hI : IntsAre items zs) (hx : zs[k]? = some x) (hk : k < 2 ^ 63) (h : Q (.int x) st) (hi : PlainIdx i := by walk_at "u") :
    Op2 cx fm A (subscriptTail v i) VR (.ref l) (nt k) st Q := fun s a b Qr Er r ra rb kk => by
  cases ra
  cases rb
  obtain ⟨o, ho, hc⟩ := hl
  have hL : s.heap.IsList l items.toArray := ⟨o, r.h.keep _ _ ho, hc⟩
  obtain ⟨t, ht⟩ : ∃ t, items[k]? = some (.int x t) := by
    clear hL hc
    induction hI generalizing k with
    | nil => simp at hx
    | cons n t r ih =>
      cases k with
      | zero => simp at hx; subst hx; exact ⟨t, rfl⟩
      | succ k => simp only [List.getElem?_cons_succ] at hx ⊢; exact ih hx (by omega)
  exact tail_any hL.typeIs slot_list_getitem.lookup (wpAny_getItem_list hL (by omega) (by omega) (by simpa using ht) (kk _ _ _ _ h r (.int _ _) (.refl ..))) (hi _ _ _)
theorem B_lenBase {l : Addr} {items : List Value} {n : Nat} (hl : cx.base.IsList l items.toArray) (hn : items.length = n) (hs : n < 2 ^ 62) (h : Q (nt n) st) : OpN cx fm A (fun xs => call (.builtin "len") xs) VR [.ref l] st Q := fun s xs Qr Er r rx kk => by
  cases rx with
  | cons ra rx =>
    cases ra
    cases rx
    obtain ⟨o, ho, hc⟩ := hl
    have hL : s.heap.IsList l items.toArray := ⟨o, r.h.keep _ _ ho, hc⟩
    refine call_len_list hL (by rw [List.size_toArray, hn]; omega) (kk _ _ _ _ h (r.toks _) ?_ (.refl ..))
    rw [List.size_toArray, hn]
    exact .int _ _
end

/-- the names of nested functions -/
noncomputable def qualAll (p : Pos) : Str := if p.line = 46 then Str.ofString "_int2digits.<locals>.inner" else if p.line = 61 then Str.ofString "_digits2int.<locals>.inner" else Str.ofString "law.<locals>.<lambda>"
noncomputable def defIn (k j : Nat) : Def := (((defAt k).body[j]?).bind defOf?).getD ⟨⟨#[]⟩, ⟨[], [], none, [], [], none, []⟩, [], { kind := .function, names := [], isGenerator := false, isCoroutine := false }⟩
/-! functions with defaults -/
structure Tops2 (cx : Cx) (ad : Nat → Addr) : Prop extends Tops cx ad where
  nest : Nest cx
  qual : ∀ p, cx.qual p = qualAll p
  code : ∀ k fd, (k = 2 ∨ k = 3) → FnB cx (ad k) fd → FdIs fd (defAt k) → ∃ c P, (c, P) ∈ cx.tabs ∧ fd.code = .ref c
  bis : ∀ k, k = 5 ∨ k = 6 → ∃ fd, FnB cx (ad k) fd ∧ FdIs fd (defAt k) ∧ ∀ (s : Shared) (x y z : Value), (∀ b o, cx.base.get? b = some o → s.heap.get? b = some o) →
    ∃ t, BindsTo s fd ⟨[x, y], [(Str.ofString "key", z)]⟩ [(Str.ofString "a", x), (Str.ofString "x", y), (Str.ofString "lo", .int 0 t), (Str.ofString "hi", .none), (Str.ofString "key", z)]
  pow : ∃ fd, FnB cx (ad 1) fd ∧ FdIs fd (defAt 1) ∧ ∀ (s : Shared) (x y z : Value), (∀ b o, cx.base.get? b = some o → s.heap.get? b = some o) →
    BindsTo s fd ⟨[x, y, z], []⟩ [(Str.ofString "w", x), (Str.ofString "base", y), (Str.ofString "more_than", z), (Str.ofString "show", .bool false)]
end
section
open PySem PySem.W PyProof.Rows PySem.Calls PySem.Spec
set_option maxRecDepth 100000
noncomputable def closOf (cl : List (Str × Addr)) : List (Str × NameKind) → List (Str × Addr) → List (Str × Addr)
  | [], acc => acc
  | x :: r, acc => if x.2 == .free then closOf cl r ((x.1, (cl.lookup x.1).getD 0) :: acc) else closOf cl r acc
noncomputable def freeIn (cl : List (Str × Addr)) (names : List (Str × NameKind)) : Bool := names.all fun x => !(x.2 == .free) || (cl.lookup x.1).isSome
noncomputable def freeNames (ns : List Str) (names : List (Str × NameKind)) : Bool := names.all fun x => !(x.2 == .free) || ns.any (x.1 == ·)
theorem freeIn_of {cl : List (Str × Addr)} {ns : List Str} {names : List (Str × NameKind)} (h : cl.map (·.1) = ns) (hf : freeNames ns names = true) : freeIn cl names = true := by
  subst h
  refine List.all_eq_true.mpr fun x hx => ?_
  have := List.all_eq_true.mp hf x hx
  rcases Bool.or_eq_true _ _ ▸ this with h | h
  · rw [h]; rfl
  · rw [Bool.or_eq_true]; right
    clear this hf hx
    induction cl with
    | nil => simp at h
    | cons p r ih =>
      rw [List.lookup_cons]
      simp only [List.map_cons, List.any_cons, Bool.or_eq_true] at h
      cases hb : x.1 == p.1 with
      | true => rfl
      | false =>
        rw [hb] at h
        exact ih (h.resolve_left (by simp))
theorem closureFor_eq {env : Env} {scope : Scope} {cl : List (Str × Addr)} (hc : ∀ p ∈ cl, env.cells.lookup p.1 = some p.2) (hf : freeIn cl scope.names = true) : closureFor scope env = pure (closOf cl scope.names []) := by
  unfold closureFor
  have key : ∀ (names : List (Str × NameKind)) (acc : List (Str × Addr)), freeIn cl names = true →
      (forIn names acc fun (x : Str × NameKind) (r : List (Str × Addr)) => (match x with
        | (name, kind) => if (kind == .free) = true then (do let a ← cellOf env name; pure (ForInStep.yield ((name, a) :: r))) else pure (ForInStep.yield r) : Sem (ForInStep (List (Str × Addr))))) = (pure (closOf cl names acc) : Sem _) := by
    intro names
    induction names with
    | nil => intro acc _; rfl
    | cons x r ih =>
      intro acc h
      obtain ⟨name, kind⟩ := x
      simp only [freeIn, List.all_cons, Bool.and_eq_true] at h
      rw [List.forIn_cons]
      unfold closOf
      by_cases hk : (kind == NameKind.free) = true
      · simp only [hk, if_true]
        have h1 := h.1
        simp only [hk, Bool.not_true, Bool.false_or] at h1
        obtain ⟨a, ha⟩ := Option.isSome_iff_exists.mp h1
        have hcell : cellOf env name = pure a := by
          unfold cellOf
          rw [hc (name, a) (mem_of_lookup ha)]
        rw [hcell, ha]
        simp only [pure_bind, Option.getD_some]
        exact ih _ h.2
      · simp only [hk]
        simp only [Bool.false_eq_true, if_false, pure_bind]
        exact ih _ h.2
  have := key scope.names [] hf
  simpa using this

section
variable {cx : Cx} {fm : Fm} {A : Around} {st : St} {loc : Loc} {ar ar' : Ar}
theorem Ext.left {mt : List Addr} {a a' b : Ar} {h h' : Heap} (x : Ext mt a' h b h') (hs : ∀ p ∈ adr a', p ∈ adr a) : Ext mt a h b h' :=
  ⟨fun p o e h1 h2 => x.keep p o e h1 fun q => h2 (hs p q), x.hard, fun p hp => (x.new p hp).imp (hs p) id, x.live⟩
theorem EB_forget {b : List Stmt} {Q : Fl → St → Prop} (hs : ar'.Sublist ar) (h : EB cx fm A b ⟨loc, ar'⟩ Q) : EB cx fm A b ⟨loc, ar⟩ Q := fun s Qr Er r k =>
  h s Qr Er (r.sub hs) fun f st' s' g hq r' rf e => k f st' s' g hq r' rf (e.left fun p hp => (hs.map _).subset hp)
theorem EX_forget {b : Stmt} {Q : Fl → St → Prop} (hs : ar'.Sublist ar) (h : EX cx fm A b ⟨loc, ar'⟩ Q) : EX cx fm A b ⟨loc, ar⟩ Q := fun s Qr Er r k =>
  h s Qr Er (r.sub hs) fun f st' s' g hq r' rf e => k f st' s' g hq r' rf (e.left fun p hp => (hs.map _).subset hp)
theorem CallT.forget {f : Value} {vs : List V} {Q : V → Ar → Prop} (hs : ar'.Sublist ar) (h : CallT cx A f vs ar' Q) : CallT cx A f vs ar Q := fun s xs Qr Er r rx k =>
  h s xs Qr Er (r.sub hs) rx fun v ar2 s' x hq r' rv e => k v ar2 s' x hq r' rv (e.left fun p hp => (hs.map _).subset hp)

theorem r_def {env : Env} {gl : List (Str × V)} {cl : List (Str × Addr)} {name : Str} {args : Arguments} {body : List Stmt} {scope : Scope} {pos : Pos} {c P : Addr} {Q : Fl → St → Prop} (N : Nest cx) (hT : (c, P) ∈ cx.tabs) (hc : env.code = .ref c) (hg : env.globals = mainGlobals)
    {ns : List Str} (hns : cl.map (·.1) = ns) (hfree : freeNames ns scope.names = true) (hkn : qualnameIn env name name = cx.qual pos)
    (h : ∀ a o fd, o.data = .func fd → FnNest fd args (.stmts body) scope (closOf cl scope.names []) → SNm cx ⟨env, gl, cl⟩ A name (.ref a) ⟨loc, (a, .fn o) :: ar⟩ (Q .next))
    (hd0 : args.defaults = [] := by walk_at "u") (hk0 : args.kw_defaults = [] := by walk_at "u") (ha : ∀ env, annTrees args none env = [] := by walk_at "u") :
    EX cx ⟨env, gl, cl⟩ A (.FunctionDef name args body [] none [] scope none name pos) ⟨loc, ar⟩ Q := fun s Qr Er r k =>
  EX_def N hT hc hg (closureFor_eq (fun p hp => (r.cells p hp).1) (freeIn_of hns hfree)) hkn h hd0 hk0 ha s Qr Er r k
theorem r_lambda {env : Env} {gl : List (Str × V)} {cl : List (Str × Addr)} {args : Arguments} {body : PySem.Expr} {scope : Scope} {pos : Pos} {c P : Addr} {Q : V → St → Prop} (N : Nest cx) (hT : (c, P) ∈ cx.tabs) (hc : env.code = .ref c) (hg : env.globals = mainGlobals)
    {ns : List Str} (hns : cl.map (·.1) = ns) (hfree : freeNames ns scope.names = true) (hq : env.qual ++ "<lambda>" = cx.qual pos)
    (h : ∀ a o fd, o.data = .func fd → FnNest fd args (.expr body) scope (closOf cl scope.names []) → Q (.ref a) ⟨loc, (a, .fn o) :: ar⟩)
    (hdef : ∀ env, defaultsOf args env = ([], []) := by walk_at "u") : EV cx ⟨env, gl, cl⟩ A (.Lambda args body scope pos) ⟨loc, ar⟩ Q := fun s Qr Er r k =>
  EV_lambda N hT hc hg (closureFor_eq (fun p hp => (r.cells p hp).1) (freeIn_of hns hfree)) hq h hdef s Qr Er r k
theorem r_callV {f : PySem.Expr} {e : PySem.Expr} {rest : List PySem.Expr} {pos : Pos} {Q : V → St → Prop}
    (h : EV cx fm A f st fun v st1 => ∃ a o fd, v = .ref a ∧ o.data = .func fd ∧ EVs cx fm A (e :: rest) pos st1 fun vs st2 => At a (.fn o) st2.ar ∧ CallT cx A (.ref a) vs st2.ar fun v ar' => Q v ⟨st2.loc, ar'⟩)
    (he : ∀ env, starEach (e :: rest) env = (false, eval e env) :: starEach rest env := by walk_at "u")
    (hc : ∀ env, eval (.Call f (e :: rest) [] pos) env = (do callWith pos (← eval f env) [] (backTo pos (starEach (e :: rest) env)) (backToKw pos (keywordEach [] env))) := by walk_at "u") : EV cx fm A (.Call f (e :: rest) [] pos) st Q := EV_callV h he hc
theorem r_storeC {env : Env} {gl : List (Str × V)} {cl : List (Str × Addr)} {x : Str} {a : Addr} {u : Option V} {v : V} {Q : St → Prop} (hc : Has (x, a) cl) (p : Put a (.cell u) (.cell (some v)) ar ar') (h : Q ⟨loc, ar'⟩) (hk : env.kindOf x = some .cell) : SNm cx ⟨env, gl, cl⟩ A x v ⟨loc, ar⟩ Q := fun s y Qr Er r ry k =>
  SN_cell hc.mem p h hk s y Qr Er r ry k
end
end
section
open PySem PySem.W PyProof.Rows PySem.Calls PySem.Spec
set_option maxRecDepth 100000
noncomputable def pick {α : Type} (b : Bool) : List Bool → List α → List α
  | f :: fs, x :: xs => if f = b then x :: pick b fs xs else pick b fs xs
  | _, _ => []
theorem pick_mem {α : Type} {b : Bool} : ∀ {fs : List Bool} {xs : List α} {x : α}, x ∈ pick b fs xs → x ∈ xs
  | [], _, _, h => by simp [pick] at h
  | _ :: _, [], _, h => by simp [pick] at h
  | f :: fs, y :: ys, x, h => by
    unfold pick at h
    split at h
    · rcases List.mem_cons.mp h with e | h
      · exact e ▸ .head _
      · exact .tail _ (pick_mem h)
    · exact .tail _ (pick_mem h)
theorem pick_map {α β : Type} {b : Bool} (g : α → β) : ∀ (fs : List Bool) (xs : List α), (pick b fs xs).map g = pick b fs (xs.map g)
  | [], _ => by simp [pick]
  | _ :: _, [] => by simp [pick]
  | f :: fs, y :: ys => by
    simp only [List.map_cons, pick]
    split
    · simp [pick_map g fs ys]
    · exact pick_map g fs ys
theorem pick_all {α : Type} : ∀ (fs : List Bool) (xs : List α), fs.length = xs.length → ∀ x ∈ xs, x ∈ pick true fs xs ∨ x ∈ pick false fs xs
  | [], [], _, _, h => nomatch h
  | f :: fs, y :: ys, e, x, h => by
    have e2 : fs.length = ys.length := by simpa using e
    cases f with
    | true =>
      simp only [pick, if_true]
      rcases List.mem_cons.mp h with rfl | h
      · exact .inl (.head _)
      · exact (pick_all fs ys e2 x h).imp (.tail _) (by simpa using id)
    | false =>
      simp only [pick, if_true]
      rcases List.mem_cons.mp h with rfl | h
      · exact .inr (.head _)
      · exact (pick_all fs ys e2 x h).imp (by simpa using id) (.tail _)

noncomputable def defOkC (d : Def) (fl : List Bool) (ps rest crest gn : List Str) : Bool :=
  decide (fl.length = ps.length) && decide (ps ++ (rest ++ crest)).Nodup && decide (pick true fl ps ++ rest).Nodup && decide (pick false fl ps ++ crest).Nodup && namesAre d.scope .local (pick true fl ps ++ rest) && namesAre d.scope .cell (pick false fl ps ++ crest) && namesAre d.scope .globalImplicit gn
    && !d.scope.isCoroutine && !d.scope.isGenerator && (d.scope.kind == .function)

theorem CallT_topC {cx : Cx} {ad : Nat → Addr} {A : Around} {k : Nat} {vs : List V} {ps rest crest gn : List Str} {fl : List Bool} {gl : List (Str × V)} {ar : Ar} {Q : V → Ar → Prop} {n : Nat} (T : Tops cx ad)
    (hk : k ∈ [2, 3, 10, 11, 15, 17, 18, 19, 20, 21, 22, 23, 24, 25, 26]) (room : Room A (n + 1)) (hok : defOkC (defAt k) fl ps rest crest gn = true) (hgn : gl.map (·.1) = gn) (hlen : vs.length = ps.length)
    (hbind : ∀ fd : FuncData, fd.params = (defAt k).params → fd.defaults = .none → fd.kwdefaults = .none → ∀ xs : List Value, xs.length = ps.length → bindArgs fd ⟨xs, []⟩ = pure (ps.zip xs))
    (hgl : GlobOk cx ad gl)
    (h : ∀ env A' as fd, Room A' n → FnB cx (ad k) fd → FdIs fd (defAt k) → EnvOf fd env → as.length = (pick false fl ps ++ crest).length →
      EB cx ⟨env, gl, (pick false fl ps ++ crest).zip as⟩ A' (defAt k).body ⟨(pick true fl (ps.zip vs)).map (fun p => (p.1, some p.2)) ++ rest.map (·, Option.none), as.zip ((pick false fl (ps.zip vs)).map (fun p => O.cell (some p.2)) ++ crest.map fun _ => O.cell Option.none) ++ ar⟩ (Back Q)) :
    CallT cx A (.ref (ad k)) vs ar Q := by
  obtain ⟨fd, f1, f2, f3, f4⟩ := T.fn k hk
  simp only [defOkC, Bool.and_eq_true, decide_eq_true_eq, Bool.not_eq_true', beq_iff_eq] at hok
  obtain ⟨⟨⟨⟨⟨⟨⟨⟨⟨o1, o2⟩, o3⟩, o4⟩, o5⟩, o6⟩, o7⟩, o8⟩, o9⟩, o10⟩ := hok
  have hz : (ps.zip vs).map (·.1) = ps := by rw [List.map_fst_zip (by omega)]
  have hpn : ps.Nodup := (List.nodup_append.mp o2).1
  have pb : ∀ (h : Heap) (ps : List Str) (vs : List V) (xs : List Value), VRs h vs xs → PB h (ps.zip vs) (ps.zip xs) := by
    intro h ps
    induction ps with
    | nil => intro vs xs _; exact .nil
    | cons p ps ih =>
      intro vs xs r
      cases r with
      | nil => exact .nil
      | cons a r => exact .cons a (ih _ _ r)
  have n1 : ((pick true fl (ps.zip vs)).map fun p : Str × V => (p.1, some p.2)).map (·.1) = pick true fl ps := by
    rw [List.map_map, show ((fun x : Str × Option V => x.1) ∘ fun p : Str × V => (p.1, some p.2)) = (·.1) from rfl, pick_map, hz]
  have n2 : ((pick false fl (ps.zip vs)).map fun p : Str × V => (p.1, some p.2)).map (·.1) = pick false fl ps := by
    rw [List.map_map, show ((fun x : Str × Option V => x.1) ∘ fun p : Str × V => (p.1, some p.2)) = (·.1) from rfl, pick_map, hz]
  have l1 : ((pick true fl (ps.zip vs)).map (fun p => (p.1, some p.2)) ++ rest.map (·, (Option.none : Option V))).map (·.1) = pick true fl ps ++ rest := by
    rw [List.map_append, n1]; simp [Function.comp_def]
  have l2 : ((pick false fl (ps.zip vs)).map (fun p => (p.1, some p.2)) ++ crest.map (·, (Option.none : Option V))).map (·.1) = pick false fl ps ++ crest := by
    rw [List.map_append, n2]; simp [Function.comp_def]
  have sm : ∀ (b : Bool) (r : List Str) x v, (x, some v) ∈ (pick b fl (ps.zip vs)).map (fun p => (p.1, some p.2)) ++ r.map (·, (Option.none : Option V)) → (x, v) ∈ ps.zip vs := fun b r x v hm => by
    rcases List.mem_append.mp hm with hm | hm
    · obtain ⟨q, hq, e⟩ := List.mem_map.mp hm
      cases e
      exact pick_mem hq
    · obtain ⟨q, hq, e⟩ := List.mem_map.mp hm
      cases e
  refine CallT_cells (pv := ps.zip vs) (cn := (pick false fl (ps.zip vs)).map (fun p => (p.1, some p.2)) ++ crest.map (·, Option.none)) (loc := (pick true fl (ps.zip vs)).map (fun p => (p.1, some p.2)) ++ rest.map (·, Option.none)) (gl := gl)
    f1 f2.body T.lim room f2.closure (fun s xs rx => ⟨ps.zip xs, hbind fd f2.params f3 f4 xs (by rw [← rx.length, hlen]), pb _ _ _ _ rx⟩) (by rw [hz]; exact hpn) (by rw [l1]; exact o3)
    (fun p hp => ?_) (sm true rest) (by rw [l2]; exact o4) (fun p hp => ?_) (sm false crest) (fun x hx hm => ?_) (fun x hx => ?_) (fun p hp => ⟨T.gl p (hgl p hp), ?_⟩) f2.globals f2.builtins (by rw [f2.scope]; exact o8) (by rw [f2.scope]; exact o9) (by rw [f2.scope]; exact o10)
    (fun env A' as ra hE hl => ?_)
  · rw [f2.scope]; exact namesAre.get o5 _ (by rw [← l1]; exact List.mem_map.mpr ⟨p, hp, rfl⟩)
  · rw [f2.scope]; exact namesAre.get o6 _ (by rw [← l2]; exact List.mem_map.mpr ⟨p, hp, rfl⟩)
  · rw [hz] at hm
    rcases List.mem_append.mp hx with hx | hx
    · obtain ⟨q, hq, e⟩ := List.mem_map.mp hx
      cases e
    · obtain ⟨q, hq, e⟩ := List.mem_map.mp hx
      cases e
      exact (List.nodup_append.mp o2).2.2 _ hm _ (List.mem_append_right _ hq) rfl
  · rw [hz] at hx
    rw [f2.scope]
    exact (pick_all fl ps o1 x hx).imp (fun q => namesAre.get o5 _ (List.mem_append_left _ q)) fun q => namesAre.get o6 _ (List.mem_append_left _ q)
  · rw [f2.scope]; exact namesAre.get o7 _ (hgn ▸ List.mem_map.mpr ⟨p, hp, rfl⟩)
  · have hl2 : as.length = (pick false fl ps ++ crest).length := by
      rw [hl, ← l2, List.length_map]
    have := h env A' as fd ra f1 f2 hE hl2
    rw [l2]
    have e3 : (((pick false fl (ps.zip vs)).map (fun p : Str × V => (p.1, some p.2)) ++ crest.map (·, Option.none)).map fun p : Str × Option V => O.cell p.2) = (pick false fl (ps.zip vs)).map (fun p => O.cell (some p.2)) ++ crest.map fun _ => O.cell Option.none := by
      rw [List.map_append, List.map_map, List.map_map]; rfl
    rw [e3]
    exact this
end
section
open PySem PySem.W PyProof.Rows PySem.Calls PySem.Spec
set_option maxRecDepth 100000
theorem relabel_lookup {scope : Scope} {env : Env} {x : Str} {k : NameKind} (h : scope.names.lookup x = some k) : (relabel scope env).names.lookup x = some k ∨ (k = .free ∧ (relabel scope env).names.lookup x = some .cell) := by
  show List.lookup x (scope.names.map fun (n, k) => if (k == NameKind.free && env.scope.kind == .function && env.kindOf n == some .cell) then (n, NameKind.cell) else (n, k)) = _ ∨ (_ ∧ List.lookup x (scope.names.map fun (n, k) => if (k == NameKind.free && env.scope.kind == .function && env.kindOf n == some .cell) then (n, NameKind.cell) else (n, k)) = _)
  revert h
  generalize scope.names = l
  intro h
  induction l with
  | nil => simp at h
  | cons p r ih =>
    obtain ⟨n, k'⟩ := p
    rw [List.lookup_cons] at h
    cases hx : x == n with
    | true =>
      rw [hx] at h
      cases h
      simp only [List.map_cons]
      split
      · rename_i hc
        right
        simp only [Bool.and_eq_true, beq_iff_eq] at hc
        refine ⟨hc.1.1, ?_⟩
        rw [List.lookup_cons, hx]
      · left
        rw [List.lookup_cons, hx]
    | false =>
      rw [hx] at h
      have := ih h
      simp only [List.map_cons]
      have e : ∀ (q : Str × NameKind) (t : List (Str × NameKind)), q.1 = n → List.lookup x (q :: t) = List.lookup x t := fun q t hq => by rw [List.lookup_cons, hq, hx]
      rw [e _ _ (by split <;> rfl)]
      exact this

theorem closOf_keep {cl : List (Str × Addr)} {x : Str} : ∀ (names : List (Str × NameKind)) (acc : List (Str × Addr)), acc.lookup x = some ((cl.lookup x).getD 0) → (closOf cl names acc).lookup x = some ((cl.lookup x).getD 0)
  | [], acc, h => h
  | p :: r, acc, h => by
    unfold closOf
    split
    · refine closOf_keep r _ ?_
      rw [List.lookup_cons]
      cases hx : x == p.1 with
      | true => rw [beq_iff_eq.mp hx]
      | false => exact h
    · exact closOf_keep r _ h
theorem closOf_lookup {cl : List (Str × Addr)} {x : Str} : ∀ (names : List (Str × NameKind)) (acc : List (Str × Addr)), (x, NameKind.free) ∈ names → (closOf cl names acc).lookup x = some ((cl.lookup x).getD 0)
  | [], acc, h => nomatch h
  | p :: r, acc, h => by
    unfold closOf
    rcases List.mem_cons.mp h with e | h
    · subst e
      have hf : (NameKind.free == NameKind.free) = true := by decide
      rw [if_pos hf]
      refine closOf_keep r _ ?_
      rw [List.lookup_cons, beq_self_eq_true]
    · split
      · exact closOf_lookup r _ h
      · exact closOf_lookup r _ h

noncomputable def compOkB (scope : Scope) (names gn cn ns : List Str) : Bool :=
  scope.names.all (fun y => y.2 != .cell) && (scope.kind == .function) && decide names.Nodup && namesAre scope .local names && namesAre scope .globalImplicit gn && namesAre scope .free cn && freeNames ns scope.names && scope.names.all (fun x => !(x.2 == .local) || scope.names.lookup x.1 == some .local)

theorem CompOk.of {cx : Cx} {env : Env} {gl : List (Str × V)} {cl : List (Str × Addr)} {scope : Scope} {names gn cn ns : List Str} {glc : List (Str × V)} {clc : List (Str × Addr)} (hok : compOkB scope names gn cn ns = true) (hg : env.globals = mainGlobals) (hb : env.builtins = builtinsNs)
    (hns : cl.map (·.1) = ns) (hgn : glc.map (·.1) = gn) (hcn : clc.map (·.1) = cn) (hglc : ∀ p ∈ glc, GlobV cx p.1 p.2) (hclc : ∀ p ∈ clc, cl.lookup p.1 = some p.2) (hc : ∀ p ∈ cl, env.cells.lookup p.1 = some p.2) :
    CompOk cx ⟨env, gl, cl⟩ scope (closOf cl scope.names []) names glc clc := by
  simp only [compOkB, Bool.and_eq_true, decide_eq_true_eq, beq_iff_eq] at hok
  obtain ⟨⟨⟨⟨⟨⟨⟨o1, o2⟩, o3⟩, o4⟩, o5⟩, o6⟩, o7⟩, o8⟩ := hok
  refine ⟨fun y hy => ?_, o2, o3, namesAre.get o4, fun p hp => ⟨hglc p hp, ?_⟩, hg, hb, fun p hp => ⟨?_, ?_⟩, closureFor_eq hc (freeIn_of hns o7), fun x hx hl => ?_⟩
  · have := List.all_eq_true.mp o1 y hy; simpa using this
  · rcases relabel_lookup (env := env) (namesAre.get o5 p.1 (hgn ▸ List.mem_map.mpr ⟨p, hp, rfl⟩)) with h | h
    · exact h
    · cases h.1
  · have h1 := namesAre.get o6 p.1 (hcn ▸ List.mem_map.mpr ⟨p, hp, rfl⟩)
    rw [closOf_lookup _ _ (mem_of_lookup h1), hclc p hp]; rfl
  · rcases relabel_lookup (env := env) (namesAre.get o6 p.1 (hcn ▸ List.mem_map.mpr ⟨p, hp, rfl⟩)) with h | h
    · exact .inr h
    · exact .inl h.2
  · have := List.all_eq_true.mp o8 x hx
    rw [hl] at this
    simpa using this

section
variable {cx : Cx} {A : Around} {loc : Loc} {ar : Ar} {env : Env} {gl : List (Str × V)} {cl : List (Str × Addr)}
theorem r_comp {target elt iter : PySem.Expr} {ifs : List PySem.Expr} {scope : Scope} {pos : Pos} (names gn cn ns : List Str) (glc : List (Str × V)) (clc : List (Str × Addr)) {Q : V → St → Prop} (hok : compOkB scope names gn cn ns = true) (hg : env.globals = mainGlobals) (hb : env.builtins = builtinsNs)
    (hns : cl.map (·.1) = ns) (hgn : glc.map (·.1) = gn) (hcn : clc.map (·.1) = cn) (hglc : ∀ p ∈ glc, GlobV cx p.1 p.2) (hclc : ∀ p ∈ clc, cl.lookup p.1 = some p.2)
    (h : EI cx ⟨env, gl, cl⟩ A iter ⟨loc, ar⟩ fun n item C st1 => ∃ outs : Nat → Option V, C st1 ∧ n ≤ sizeLine ∧ (∀ i env', i < n → CompTurn cx A ⟨env', glc, clc⟩ target ifs elt names st1.ar (item i) (outs i)) ∧
      ∀ l, Q (.ref l) ⟨st1.loc, (l, .list (outsOf outs n)) :: st1.ar⟩)
    (hs : ∀ env x, foldedSetIterable iter env x = pure x := by walk_at "u") (one : Nat.ble ifs.length 1 = true := by walk_at "u") : EV cx ⟨env, gl, cl⟩ A (.ListComp elt [⟨target, iter, ifs, 0⟩] scope pos) ⟨loc, ar⟩ Q := fun s Qr Er r k =>
  EV_comp names glc clc (.of hok hg hb hns hgn hcn hglc hclc fun p hp => (r.cells p hp).1) (fun s Qr Er r k => h s Qr Er r fun n item C st1 s1 I W ⟨outs, h1, h2, h3, h4⟩ => k n item C st1 s1 I W ⟨outs, h1, h2, fun i env' hi _ => h3 i env' hi, h4⟩) hs one s Qr Er r k
theorem r_assignC {y : Str} {py : Pos} {target elt iter : PySem.Expr} {ifs : List PySem.Expr} {scope : Scope} {pos spos : Pos} (names gn cn ns : List Str) (glc : List (Str × V)) (clc : List (Str × Addr)) {u : Option V} {Q : Fl → St → Prop} (hok : compOkB scope names gn cn ns = true) (hg : env.globals = mainGlobals) (hb : env.builtins = builtinsNs)
    (hns : cl.map (·.1) = ns) (hgn : glc.map (·.1) = gn) (hcn : clc.map (·.1) = cn) (hglc : ∀ p ∈ glc, GlobV cx p.1 p.2) (hclc : ∀ p ∈ clc, cl.lookup p.1 = some p.2)
    (hy : Has (y, u) loc)
    (h : EI cx ⟨env, gl, cl⟩ A iter ⟨loc, ar⟩ fun n item C st1 => ∃ outs : Nat → Option V, C st1 ∧ n ≤ sizeLine ∧ (∀ i env', i < n → CompTurn cx A ⟨env', glc, clc⟩ target ifs elt names st1.ar (item i) (outs i)) ∧
      ∀ l, SNm cx ⟨env, gl, cl⟩ A y (.ref l) ⟨st1.loc, (l, .list (outsOf outs n)) :: st1.ar⟩ (Q .next))
    (hl : (py.line == pos.line) = true := by walk_at "u") (hny : (scope.names.any fun x => x.1 == y && (x.2 == NameKind.local || x.2 == NameKind.cell)) = false := by walk_at "k")
    (hs : ∀ env x, foldedSetIterable iter env x = pure x := by walk_at "u") (one : Nat.ble ifs.length 1 = true := by walk_at "u") : EX cx ⟨env, gl, cl⟩ A (.Assign [.Name y py] (.ListComp elt [⟨target, iter, ifs, 0⟩] scope pos) spos) ⟨loc, ar⟩ Q := fun s Qr Er r k =>
  EX_assignC names glc clc (.of hok hg hb hns hgn hcn hglc hclc fun p hp => (r.cells p hp).1) hy.mem (fun s Qr Er r k => h s Qr Er r fun n item C st1 s1 I W ⟨outs, h1, h2, h3, h4⟩ => k n item C st1 s1 I W ⟨outs, h1, h2, fun i env' hi _ => h3 i env' hi, h4⟩) hl hny hs one s Qr Er r k

/-- lists as sources -/
theorem ei_list {iter : PySem.Expr} {fm : Fm} {st : St} {Q : Nat → (Nat → V) → (St → Prop) → St → Prop} (hA : A.handled = none)
    (h : EV cx fm A iter st fun x st1 => ∃ l vs, x = .ref l ∧ At l (.list vs) st1.ar ∧ Q vs.length (fun i => vs.getD i .none) (fun st' => At l (.list vs) st'.ar) st1) : EI cx fm A iter st Q := EI_list hA h
/-- the states of a comprehension with one name -/
theorem turn1 {fmc : Fm} {target : PySem.Expr} {ifs : List PySem.Expr} {elt : PySem.Expr} {x : Str} {v : V} {out : Option V}
    (h : ∀ u, AS cx fmc A target v ⟨[(x, u)], ar⟩ fun st3 => CI cx fmc A ifs st3 fun ok st4 =>
      if ok = true then EV cx fmc A elt st4 fun y st5 => st5.ar = ar ∧ st5.loc.map (·.1) = [x] ∧ out = some y else st4.ar = ar ∧ st4.loc.map (·.1) = [x] ∧ out = none) : CompTurn cx A fmc target ifs elt [x] ar v out := fun us hu => by
  match us, hu with
  | [u], _ => exact h u
end
theorem outs_some {n : Nat} {f : Nat → V} : outsOf (fun i => some (f i)) n = (List.range n).map f := by
  unfold outsOf
  rw [List.filterMap_eq_map']
theorem getD_ntV {ds : List Nat} {i : Nat} (h : i < (ds.map nt).length) : (ds.map nt).getD i .none = nt (ds.getD i 0) := by
  rw [List.length_map] at h
  simp [List.getD_eq_getElem?_getD, h]
theorem outs_nt {ds : List Nat} {g : Nat → Nat} : outsOf (fun i => some (nt (g (ds.getD i 0)))) (ds.map nt).length = (ds.map g).map nt := by
  rw [outs_some, List.length_map]
  apply List.ext_getElem
  · simp
  · intro i h1 h2
    simp at h1
    simp [List.getD_eq_getElem?_getD, h1]
end
section
open PySem PySem.W PyProof.Rows PySem.Calls PySem.Spec
set_option maxRecDepth 100000
set_option maxHeartbeats 4000000
section
variable {cx : Cx} {fm : Fm} {A : Around} {st : St} {Q : V → St → Prop}
/-- the first part of a list, which no name holds -/
theorem r_uptoT {v hi : PySem.Expr} {p pos : Pos} (h : EV cx fm A v st fun ov st1 => EV cx fm A hi st1 fun a st2 => ∃ l vs k, ov = .ref l ∧ a = nt k ∧ At l (.list vs) st2.ar ∧ vs.length ≤ 1000000 ∧ k ≤ vs.length ∧ ∀ d, Q (.ref d) ⟨st2.loc, (d, .list (vs.take k)) :: st2.ar⟩) :
    EV cx fm A (.Subscript v (.Slice none (some hi) none p) pos) st Q := fun s Qr Er r kk => by
  refine Subscript_ (h s _ _ r fun ov st1 s1 x h1 r1 rx e1 => ?_)
  refine wpAny_Slice (wpAny_evalPart_none ?_)
  show wpAny cx.M A (eval hi fm.env) _ _ s1
  refine h1 s1 _ _ r1 fun a st2 s2 y h2 r2 ry e2 => wpAny_evalPart_none ?_
  obtain ⟨l, vs, k, rfl, rfl, hl, hs, hk, h3⟩ := h2
  cases rx
  cases ry
  rename_i tok
  obtain ⟨xs, n, e4, q⟩ := r2.h.list hl
  have hlen := q.length
  have hL : (s2.heap.push { cls := .type "slice", data := .fields #[.none, .int (k : Int) tok, .none] }).IsList l xs.toArray := (isList_of e4).push _
  unfold subscriptTail
  refine wpAny_bind ?_
  rw [getitemInPython_of_ne (Shared.TypeIs.not_modules (s := { s2 with heap := s2.heap.push { cls := .type "slice", data := .fields #[.none, .int (k : Int) tok, .none] } }) hL.typeIs)]
  refine wpAny_bind (wpAny_specialOf (T := "list") hL.typeIs list_getitem_lookup ?_)
  have fin : wpAny cx.M A (operate [.ref s2.heap.objs.size, .ref l] (getItem (.ref l) (.ref s2.heap.objs.size))) (fun r s₃ => wpAny cx.M A (letTemporaryGo v (.ref l) r >>= fun _ => pure r) Qr Er s₃) Er { s2 with heap := s2.heap.push { cls := .type "slice", data := .fields #[.none, .int (k : Int) tok, .none] } } := by
    refine wpAny_operating (wpAny_getItem_list_slice (lo := none) (hi := some (k : Int)) (st := none) hL (Heap.IsSliceOf.new ..) .none (.int _ _) .none (by simp) ?_ (by rw [sizeLine_eq]; simp; omega))
    refine wpAny_bind (wpAny_letTemporaryGo (wpAny_pure ?_))
    rw [slicePick_upto _ _ (by simp; omega)]
    have r4 := r2.push { cls := .type "slice", data := .fields #[.none, .int (k : Int) tok, .none] } s2.toks
    have hc4 := (q.take k).mono (Step.push s2.heap { cls := .type "slice", data := .fields #[.none, .int (k : Int) tok, .none] }).hard
    have key := r4.alloc (x := .list (vs.take k)) (o := { cls := .type "list", data := .seq (xs.take k).toArray }) s2.toks (.list (hc4.mono (Step.push _ _).hard)) rfl
    have := kk _ _ _ (Value.ref (s2.heap.push { cls := .type "slice", data := .fields #[.none, .int (k : Int) tok, .none] }).objs.size) (h3 _) key (.ref _) (e1.trans (e2.trans (Ext.trans (Ext.push s2.heap _) (Ext.alloc _ _ r4.mt_lt))))
    simpa using this
  first
    | exact wpAny_pure (wpAny_bind fin)
    | exact wpAny_bind (wpAny_pure (wpAny_bind fin))
    | exact wpAny_bind fin
/-- a text, read backwards, which no name holds -/
theorem r_revT {v stp : PySem.Expr} {p pos : Pos} (hs : EV cx fm A v st fun ov st1 => ∃ x, ov = .str x ∧ x.length ≤ 1000000 ∧ EV cx fm A stp st1 fun b st2 => b = .int (-1) ∧ Q (.str x.reverse) st2) :
    EV cx fm A (.Subscript v (.Slice none none (some stp) p) pos) st Q := fun s Qr Er r k => by
  refine Subscript_ (hs s _ _ r fun ov st1 s1 x h1 r1 rx e1 => ?_)
  refine wpAny_Slice (wpAny_evalPart_none (wpAny_evalPart_none ?_))
  show wpAny cx.M A (eval stp fm.env) _ _ s1
  obtain ⟨x, rfl, hl, h1⟩ := h1
  cases rx
  refine h1 s1 _ _ r1 fun b st2 s2 y h2 r2 ry e2 => ?_
  obtain ⟨rfl, h2⟩ := h2
  cases ry
  rename_i tk
  have r3 := r2.push { cls := .type "slice", data := .fields #[.none, .none, .int (-1) tk] } s2.toks
  refine kba_turn (value' := PySem.Expr.Name (PySem.Str.ofString "_") ⟨0, 0, 0, 0⟩) (fun _ => rfl) ?_
  refine subscriptTail_builtin (typeIs_str _ _ _) PySem.F.slot_str_getitem.lookup (wpAny_getItem_str_slice (l := none) (u := none) (st := some (-1, _)) ⟨_, Heap.get?_push_size _ rfl, rfl, rfl⟩ rfl ?_)
  rw [slice_rev]
  simp only [Made.post]
  refine ⟨by rw [sizeLine_eq]; simp [Str.length]; omega, ?_⟩
  exact k _ _ _ _ h2 (r3.toks _) (.str _ _) (e1.trans (e2.trans (.push ..)))
end
end
noncomputable def ad (k : Nat) : Addr := [0, 22, 29, 36, 0, 45, 54, 0, 0, 0, 61, 68, 0, 0, 0, 75, 0, 82, 89, 96, 103, 110, 117, 122, 127, 134, 139, 144].getD k 0
local macro_rules | `(tactic| walk_at "ah") => `(tactic| (repeat (first | exact Has.head | refine Has.tail ?_)); done)
local macro_rules | `(tactic| walk_at "aa") => `(tactic| (repeat (first | exact At.head | refine At.tail ?_)); done)
local macro_rules | `(tactic| walk_at "ap") => `(tactic| (repeat (first | exact Put.head | apply Put.tail)); done)
local macro_rules | `(tactic| walk_at "al") => `(tactic| (repeat (first | exact PutL.head | apply PutL.tail)); done)
local macro_rules | `(tactic| walk_at "ao") => `(tactic| first | assumption | decide | omega)
local macro_rules | `(tactic| walk_at "as") => `(tactic| first | assumption | omega | (simp; omega) | (simp; done))
local macro_rules | `(tactic| walk_at "aw") => `(tactic| repeat' with_reducible first
  | (show EV _ _ _ (PySem.Expr.Name _ _) _ _; first | refine r_loc (by walk_at "ah") ?_ | refine r_cell (by walk_at "ah") (by walk_at "aa") ?_ | refine r_glob (by walk_at "ah") ?_ | fail)
  | (show EV _ _ _ (PySem.Expr.Constant _ _ _) _ _; first | refine EV_nat ?_ | refine EV_str (by first | exact lit_e | exact lit_d | exact lit_x | exact lit_X | exact lit_dx | exact lit_xX | exact lit_xXxX) ?_ | refine EV_none ?_ | fail)
  | (show EV _ _ _ (PySem.Expr.BinOp _ _ _ _) _ _; first | refine EV_bin ?_ | fail)
  | (show EV _ _ _ (PySem.Expr.Subscript _ _ _) _ _; first | refine r_from ?_ | refine r_upto ?_ | refine r_run ?_ | refine EV_revS ?_ | refine r_revT ?_ | refine EV_sub ?_ | fail)
  | (show EV _ _ _ (PySem.Expr.Call _ _ _ _) _ _; first | refine r_callT (by assumption) (by walk_at "ah") ?_ | refine r_callB (by walk_at "ah") ?_ | refine r_lower ?_ | refine r_bitlen ?_ | refine r_appendM ?_ | fail)
  | (show EV _ _ _ _ _ _; first | refine EV_cmp ?_ | refine EV_ifexp ?_ | refine EV_tuple ?_ | refine r_list ?_ | refine EV_un ?_ | fail)
  | (show EVs _ _ _ _ _ _ _; first | refine EVs_cons ?_ | refine EVs_nil ?_ | fail)
  | (show Op2 _ _ _ (binaryOp _) _ _ _ _ _; first | refine O_add ?_ | refine O_xor ?_ | refine O_and ?_ | refine O_shr ?_ | refine O_mul (by first | exact .inl (by walk_at "ao") | exact .inr (by walk_at "ao")) ?_ | refine O_shl (by walk_at "ao") (by walk_at "ao") ?_ | refine O_sub (by walk_at "ao") ?_ | refine O_mod (by walk_at "ao") ?_ | refine O_fdiv (by walk_at "ao") (by walk_at "ao") ?_ | refine O_pow (by walk_at "ao") (by walk_at "ao") ?_ | refine O_addS (by walk_at "as") ?_ | fail)
  | (show Op2 _ _ _ (inplaceOp _) _ _ _ _ _; first | refine O_iadd ?_ | refine O_isub (by walk_at "ao") ?_ | refine O_iaddS (by walk_at "as") ?_ | fail)
  | (show Op2 _ _ _ (compareOp _) _ _ _ _ _; first | refine O_eq ?_ | refine O_ne ?_ | refine O_lt ?_ | refine O_le ?_ | refine O_gt ?_ | refine O_ge ?_ | refine O_eqS ?_ | refine O_neS ?_ | fail)
  | (show Op1 _ _ _ _ _ _ _ _; first | refine r_storeC (by walk_at "ah") (by walk_at "ap") ?_ (by assumption) | refine r_store (by walk_at "al") ?_ | refine T_int ?_ | refine T_bool ?_ | refine O_neg ?_ | refine AS_name ?_ | fail)
  | (show OpN _ _ _ _ _ _ _ _; first | refine r_append (by walk_at "ap") (by rw [sizeLine_eq]; first | omega | (simp; done) | (simp; omega)) ?_ | refine B_lenS (by walk_at "as") ?_ | fail)
  | (show EB _ _ _ _ _ _; first | refine EB_cons ?_ | refine EB_nil ?_ | fail)
  | (show thenB _ _ _ _ _ _ _; first | refine thenB_next ?_ | refine thenB_ret ?_ | refine thenB_cont ?_ | fail)
  | (show Fl.turn _ _ _ _; first | refine turn_next ?_ | refine turn_cont ?_ | refine turn_ret ?_ | refine turn_brk ?_ | fail)
  | (show EX _ _ _ _ _ _; first | refine r_assign ?_ | refine EX_if ?_ | refine EX_ret ?_ | refine EX_ret0 ?_ | refine r_aug (by walk_at "ah") ?_ | refine EX_cont ?_ | refine r_expr ?_ | fail)
  | (show ET _ _ _ _ _ _; first | refine ET_cmp ?_ | refine ET_not ?_ | refine ET_plain ?_ | fail)
  | refine split_dec (fun _ => ?_) (fun _ => ?_)
  | refine ite_ndec (fun _ => ?_) (fun _ => ?_)
  | refine ⟨_, _, rfl, (by walk_at "aa"), ?_⟩
  | refine ⟨_, rfl, ?_⟩
  | refine ⟨rfl, ?_⟩
  | refine CI_nil ?_
  | refine CI_one ?_
  | refine ite_tt ?_
  | refine ite_ff ?_
  | fail)
local macro_rules | `(tactic| walk_at "aw fn") => `(tactic| (intro fd h1 h2 h3 xs hl; (match xs, hl with | [_], _ => (unfold bindArgs; rw [h1, h2]; rfl) | [], h => cases h | _ :: _ :: _, h => simp at h)))
local macro_rules | `(tactic| walk_at "aw fn2") => `(tactic| (intro fd h1 h2 h3 xs hl; (match xs, hl with | [_, _], _ => (unfold bindArgs; rw [h1, h2]; rfl) | [], h => cases h | [_], h => simp at h | _ :: _ :: _ :: _, h => simp at h)))
local macro_rules | `(tactic| walk_at "aw gl") => `(tactic| with_reducible (repeat (first | exact GlobOk.nil | refine GlobOk.cons (by walk_at "ah") ?_)))
section
set_option maxRecDepth 10000
set_option maxHeartbeats 4000000
section
variable {cx : Cx} {A : Around} {ar : Ar} {Q : V → Ar → Prop}
theorem spec_isnt {x n : Nat} (T : Tops cx ad) (room : Room A (n + 1)) (h : Q (.bool (decide (256 ≤ x))) ar) : CallT cx A (.ref (ad 10)) [nt x] ar Q := by
  refine CallT_top (n := n) (ps := [Str.ofString "x"]) (rest := []) (gn := [Str.ofString "NT_OFFSET"]) (gl := [(Str.ofString "NT_OFFSET", nt 256)]) T (by decide) room (by decide +kernel) rfl rfl (by walk_at "aw fn") (by walk_at "aw gl") ?_
  intro env A' room'
  show EB _ _ _ (_ :: _) ⟨[(Str.ofString "x", some (nt x))], ar⟩ _
  walk_at "aw"
  exact Back_ret (List.Sublist.refl _) h
theorem spec_iseof {x n : Nat} (T : Tops cx ad) (room : Room A (n + 1)) (h : Q (.bool (decide (x = 0))) ar) : CallT cx A (.ref (ad 11)) [nt x] ar Q := by
  refine CallT_top (n := n) (ps := [Str.ofString "x"]) (rest := []) (gn := [Str.ofString "ENDMARKER"]) (gl := [(Str.ofString "ENDMARKER", nt 0)]) T (by decide) room (by decide +kernel) rfl rfl (by walk_at "aw fn") (by walk_at "aw gl") ?_
  intro env A' room'
  show EB _ _ _ (_ :: _) ⟨[(Str.ofString "x", some (nt x))], ar⟩ _
  walk_at "aw"
  exact Back_ret (List.Sublist.refl _) h
end
end
section
set_option maxRecDepth 10000
set_option maxHeartbeats 4000000
section
variable {cx : Cx} {A : Around} {ar : Ar} {Q : V → Ar → Prop}
noncomputable def upN (w x : Nat) : Nat := if 256 ≤ x * 2 then (x * 2) ^^^ w else x * 2
theorem spec_up {x w n : Nat} (T : Tops cx ad) (room : Room A (n + 2)) (hx : x < 2 ^ 60) (hw : w < 2 ^ 60) (h : Q (nt (upN w x)) ar) : CallT cx A (.ref (ad 21)) [nt x, nt w] ar Q := by
  refine CallT_top (n := n + 1) (ps := [Str.ofString "lifted", Str.ofString "whole"]) (rest := []) (gn := [Str.ofString "ISNONTERMINAL"]) (gl := [(Str.ofString "ISNONTERMINAL", .val (.ref (ad 10)))]) T (by decide) room (by decide +kernel) rfl rfl (by walk_at "aw fn2") (by walk_at "aw gl") ?_
  intro env A' room'
  show EB _ _ _ (_ :: _) ⟨[(Str.ofString "lifted", some (nt x)), (Str.ofString "whole", some (nt w))], ar⟩ _
  unfold upN at h
  walk_at "aw"
  refine spec_isnt T room' ?_
  walk_at "aw"
  · rename_i c
    rw [if_pos c] at h
    exact Back_ret (List.Sublist.refl _) h
  · rename_i c
    rw [if_neg c] at h
    exact Back_ret (List.Sublist.refl _) h

/-- the rest -/
noncomputable def restF : Nat → Nat → Nat → Nat
  | 0, n, _ => n
  | f + 1, n, w => if bits w ≤ bits n then restF f (n ^^^ (w <<< (bits n - bits w))) w else n
noncomputable def restN (n w : Nat) : Nat := restF (bits n + 1) n w
theorem bits_pos {n : Nat} (h : 0 < n) : bits n = n.log2 + 1 := by unfold bits; rw [if_neg (by omega)]
theorem lt_bits (n : Nat) : n < 2 ^ bits n := by
  unfold bits
  split
  · rename_i h; subst h; decide
  · exact Nat.lt_log2_self
theorem bits_le {n k : Nat} (h : n < 2 ^ k) : bits n ≤ k := bits_lt h
theorem top_bit {n : Nat} (h : 0 < n) : 2 ^ (bits n - 1) ≤ n := by
  rw [bits_pos h]
  simpa using Nat.log2_self_le (by omega)
theorem bits_shift {w k : Nat} (h : 0 < w) : bits (w <<< k) = bits w + k := by
  have h1 : 0 < w <<< k := by rw [Nat.shiftLeft_eq]; exact Nat.mul_pos h (Nat.two_pow_pos k)
  have a1 := lt_bits w
  have a2 := top_bit h
  have b1 : bits (w <<< k) ≤ bits w + k := bits_le (by rw [Nat.shiftLeft_eq, Nat.pow_add]; exact Nat.mul_lt_mul_of_pos_right a1 (Nat.two_pow_pos k))
  have b2 : 2 ^ (bits w - 1 + k) ≤ w <<< k := by rw [Nat.shiftLeft_eq, Nat.pow_add]; exact Nat.mul_le_mul_right _ a2
  have b3 := lt_bits (w <<< k)
  have b4 : bits w - 1 + k < bits (w <<< k) := (Nat.pow_lt_pow_iff_right (by decide : 1 < 2)).mp (Nat.lt_of_le_of_lt b2 b3)
  omega
theorem xor_drop {a b k : Nat} (ha : 2 ^ k ≤ a) (ha' : a < 2 ^ (k + 1)) (hb : 2 ^ k ≤ b) (hb' : b < 2 ^ (k + 1)) : a ^^^ b < 2 ^ k := by
  apply Nat.lt_pow_two_of_testBit
  intro i hi
  rw [Nat.testBit_xor]
  by_cases h : i = k
  · subst h
    have t : ∀ c : Nat, 2 ^ i ≤ c → c < 2 ^ (i + 1) → c.testBit i = true := fun c h1 h2 => by
      have e : c / 2 ^ i = 1 := by
        apply Nat.div_eq_of_lt_le
        · simpa using h1
        · rw [Nat.pow_succ] at h2; omega
      simp [Nat.testBit, Nat.shiftRight_eq_div_pow, e]
    rw [t a ha ha', t b hb hb']; rfl
  · have h3 : 2 ^ (k + 1) ≤ 2 ^ i := Nat.pow_le_pow_right (by decide) (by omega)
    rw [Nat.testBit_lt_two_pow (Nat.lt_of_lt_of_le ha' h3), Nat.testBit_lt_two_pow (Nat.lt_of_lt_of_le hb' h3)]; rfl
theorem bits_step {n w : Nat} (hw : 0 < w) (h : bits w ≤ bits n) : bits (n ^^^ (w <<< (bits n - bits w))) < bits n := by
  have hbw : 0 < bits w := by rw [bits_pos hw]; omega
  have hn : 0 < n := Nat.pos_of_ne_zero fun e => by subst e; unfold bits at h hbw; simp at h; omega
  have e := bits_shift (k := bits n - bits w) hw
  have h1 : 0 < w <<< (bits n - bits w) := by rw [Nat.shiftLeft_eq]; exact Nat.mul_pos hw (Nat.two_pow_pos _)
  have e2 : bits (w <<< (bits n - bits w)) = bits n := by omega
  have t1 := top_bit hn
  have t2 := top_bit h1
  have l1 := lt_bits n
  have l2 := lt_bits (w <<< (bits n - bits w))
  rw [e2] at t2 l2
  have hk : bits n - 1 + 1 = bits n := by omega
  have := bits_le (xor_drop t1 (by rw [hk]; exact l1) t2 (by rw [hk]; exact l2))
  omega
theorem restF_ge {w : Nat} (hw : 0 < w) : ∀ (f g n : Nat), bits n < f → bits n < g → restF f n w = restF g n w := by
  intro f
  induction f with
  | zero => intro g n h; omega
  | succ f ih =>
    intro g n h1 h2
    match g, h2 with
    | g + 1, h2 =>
      unfold restF
      split
      · rename_i h
        have := bits_step hw h
        exact ih _ _ (by omega) (by omega)
      · rfl
theorem restN_eq {n w : Nat} (hw : 0 < w) : restN n w = if bits w ≤ bits n then restN (n ^^^ (w <<< (bits n - bits w))) w else n := by
  unfold restN
  rw [restF]
  split
  · rename_i h
    have := bits_step hw h
    exact restF_ge hw _ _ _ (by omega) (by omega)
  · rfl

theorem spec_rest {x w n : Nat} (T : Tops cx ad) (room : Room A (n + 1)) (hx : x < 2 ^ 60) (hw : w < 2 ^ 60) (hw0 : 0 < w) (h : Q (nt (restN x w)) ar) : CallT cx A (.ref (ad 22)) [nt x, nt w] ar Q := by
  refine CallT_top (n := n) (ps := [Str.ofString "number", Str.ofString "whole"]) (rest := []) (gn := []) (gl := []) T (by decide) room (by decide +kernel) rfl rfl (by walk_at "aw fn2") (by walk_at "aw gl") ?_
  intro env A' room'
  show EB _ _ _ (_ :: _) ⟨[(Str.ofString "number", some (nt x)), (Str.ofString "whole", some (nt w))], ar⟩ _
  with_reducible refine EB_cons ?_
  refine EX_while (fun m st => ∃ y, st = ⟨[(Str.ofString "number", some (nt y)), (Str.ofString "whole", some (nt w))], ar⟩ ∧ m = bits y ∧ y < 2 ^ 60 ∧ restN y w = restN x w) (bits x) ⟨x, rfl, rfl, hx, rfl⟩ ?_
  rintro m st ⟨y, rfl, rfl, hy, he⟩
  have hb1 := bits_le hy
  walk_at "aw"
  · rename_i c
    have hst := bits_step hw0 c
    have h2 := restN_eq (n := y) hw0
    rw [if_pos c] at h2
    refine ⟨_, hst, _, rfl, rfl, Nat.lt_of_lt_of_le (lt_bits _) (Nat.pow_le_pow_right (by decide) (by omega)), by rw [← h2]; exact he⟩
  · rename_i c
    have h2 := restN_eq (n := y) hw0
    rw [if_neg c] at h2
    refine Back_ret (List.Sublist.refl _) ?_
    rw [← h2, he]; exact h
end
end
section
set_option maxRecDepth 10000
set_option maxHeartbeats 4000000
section
variable {cx : Cx} {A : Around} {ar : Ar} {Q : V → Ar → Prop}
noncomputable def lowC (c : Nat) : Nat := if c = 88 then 120 else c
noncomputable def Chr (c : Nat) : Prop := c = 46 ∨ c = 88 ∨ c = 120
theorem lower_chr {c : Nat} (h : Chr c) : Txt.lower ⟨([c] : List Nat).toArray⟩ = ⟨([lowC c] : List Nat).toArray⟩ := by
  rcases h with rfl | rfl | rfl <;> decide +kernel
noncomputable def costN (c d : Nat) : Nat := if c = d then 0 else if lowC c = lowC d then 1 else 2
theorem spec_subst {c d n : Nat} (T : Tops cx ad) (room : Room A (n + 1)) (hc : Chr c) (hd : Chr d) (h : Q (nt (costN c d)) ar) : CallT cx A (.ref (ad 15)) [.str [c], .str [d]] ar Q := by
  refine CallT_top (n := n) (ps := [Str.ofString "ch_a", Str.ofString "ch_b"]) (rest := []) (gn := [Str.ofString "_CASE_COST", Str.ofString "_MOVE_COST"]) (gl := [(Str.ofString "_CASE_COST", nt 1), (Str.ofString "_MOVE_COST", nt 2)]) T (by decide) room (by decide +kernel) rfl rfl (by walk_at "aw fn2") (by walk_at "aw gl") ?_
  intro env A' room'
  show EB _ _ _ (_ :: _) ⟨[(Str.ofString "ch_a", some (.str [c])), (Str.ofString "ch_b", some (.str [d]))], ar⟩ _
  unfold costN at h
  walk_at "aw"
  · rename_i e
    rw [if_pos (by simpa using e)] at h
    exact Back_ret (List.Sublist.refl _) h
  · rename_i e
    rw [if_neg (by simpa using e)] at h
    refine ⟨[c], [lowC c], rfl, by simp, lower_chr hc, ?_⟩
    walk_at "aw"
    refine ⟨[d], [lowC d], rfl, by simp, lower_chr hd, ?_⟩
    walk_at "aw"
    · rename_i e2
      rw [if_pos (by simpa using e2)] at h
      exact Back_ret (List.Sublist.refl _) h
    · rename_i e2
      rw [if_neg (by simpa using e2)] at h
      exact Back_ret (List.Sublist.refl _) h

/-- reading a row -/
noncomputable def readK (cs fs : List Nat) : Nat → Nat
  | 0 => 0
  | k + 1 => if cs.getD k 0 = 88 then readK cs fs k ^^^ fs.getD k 0 else readK cs fs k
noncomputable abbrev readN (cs fs : List Nat) : Nat := readK cs fs cs.length
theorem getD_some {l : List Nat} {k : Nat} (h : k < l.length) : l[k]? = some (l.getD k 0) := by simp [List.getD_eq_getElem?_getD, h]
theorem getD_nt {l : List Nat} {k : Nat} (h : k < l.length) : (l.map nt)[k]? = some (nt (l.getD k 0)) := by rw [List.getElem?_map, getD_some h]; rfl
theorem spec_read {cs fs : List Nat} {l : Addr} {n : Nat} (T : Tops cx ad) (room : Room A (n + 1)) (hl : At l (.list (fs.map nt)) ar) (hlen : cs.length ≤ fs.length) (hsz : cs.length < 2 ^ 62) (h : Q (nt (readN cs fs)) ar) : CallT cx A (.ref (ad 19)) [.str cs, .ref l] ar Q := by
  refine CallT_top (n := n) (ps := [Str.ofString "cells", Str.ofString "fronts"]) (rest := [Str.ofString "number", Str.ofString "place"]) (gn := [Str.ofString "range", Str.ofString "len"]) (gl := [(Str.ofString "range", .val (.type "range")), (Str.ofString "len", .val (.builtin "len"))]) T (by decide) room (by decide +kernel) rfl rfl (by walk_at "aw fn2") (by walk_at "aw gl") ?_
  intro env A' room'
  show EB _ _ _ (_ :: _) ⟨[(Str.ofString "cells", some (.str cs)), (Str.ofString "fronts", some (.ref l)), (Str.ofString "number", none), (Str.ofString "place", none)], ar⟩ _
  walk_at "aw"
  refine r_for1 room'.handled (by repeat (first | exact Has.head | refine Has.tail ?_)) ?_
  walk_at "aw"
  refine ⟨hsz, fun k st => ∃ u, st = ⟨[(Str.ofString "cells", some (.str cs)), (Str.ofString "fronts", some (.ref l)), (Str.ofString "number", some (nt (readK cs fs k))), (Str.ofString "place", u)], ar⟩, ⟨_, rfl⟩, ?_, ?_⟩
  · rintro i st hi ⟨u, rfl⟩
    walk_at "aw"
    refine S_str (getD_some hi) (by omega) ?_
    walk_at "aw"
    · rename_i e
      refine S_list hl (getD_nt (by omega)) (by omega) ?_
      walk_at "aw"
      exact ⟨some (nt i), by simp only [readK]; rw [if_pos (by simpa using e)]⟩
    · rename_i e
      exact ⟨some (nt i), by simp only [readK]; rw [if_neg (by simpa using e)]⟩
  · rintro st ⟨u, rfl⟩
    walk_at "aw"
    exact Back_ret (List.Sublist.refl _) h
end
end
section
set_option maxRecDepth 10000
set_option maxHeartbeats 4000000
section
variable {cx : Cx} {A : Around} {ar : Ar} {Q : V → Ar → Prop}
noncomputable def framedL (cs : List Nat) : List Nat := [120] ++ cs ++ [120]
noncomputable def priceN (ms cs : List Nat) (k : Nat) : Nat := costN ((framedL cs).getD k 0) ((framedL cs).getD (k + 2) 0) + costN (cs.getD k 0) (ms.getD k 0)
noncomputable def nextK (ms cs : List Nat) : Nat → List Nat
  | 0 => []
  | k + 1 => nextK ms cs k ++ [[120, 88, 120, 88].getD (priceN ms cs k) 0]
noncomputable abbrev nextN (ms cs : List Nat) : List Nat := nextK ms cs ms.length
theorem nextK_len (ms cs : List Nat) : ∀ k, (nextK ms cs k).length = k
  | 0 => rfl
  | k + 1 => by simp [nextK, nextK_len ms cs k]
noncomputable def Cell (c : Nat) : Prop := c = 88 ∨ c = 120
noncomputable def Mark (c : Nat) : Prop := c = 46 ∨ c = 120
theorem Cell.chr {c : Nat} (h : Cell c) : Chr c := h.elim (fun e => .inr (.inl e)) fun e => .inr (.inr e)
theorem Mark.chr {c : Nat} (h : Mark c) : Chr c := h.elim .inl fun e => .inr (.inr e)
theorem getD_mem {l : List Nat} {k : Nat} (h : k < l.length) : l.getD k 0 ∈ l := by
  simp [List.getD_eq_getElem?_getD, h]
theorem framed_cell {cs : List Nat} (hc : ∀ c ∈ cs, Cell c) {k : Nat} (hk : k < (framedL cs).length) : Cell ((framedL cs).getD k 0) := by
  have := getD_mem hk
  revert this
  generalize (framedL cs).getD k 0 = c
  intro h
  unfold framedL at h
  rcases List.mem_append.mp h with h | h
  · rcases List.mem_append.mp h with h | h
    · exact .inr (by simpa using h)
    · exact hc _ h
  · exact .inr (by simpa using h)
theorem cost_cells {c d : Nat} (hc : Cell c) (hd : Cell d) : costN c d ≤ 1 := by
  rcases hc with rfl | rfl <;> rcases hd with rfl | rfl <;> decide
theorem cost_le (c d : Nat) : costN c d ≤ 2 := by
  unfold costN
  split
  · omega
  · split <;> omega
theorem framed_len (cs : List Nat) : (framedL cs).length = cs.length + 2 := by simp [framedL]
theorem price_lt {ms cs : List Nat} (hc : ∀ c ∈ cs, Cell c) {k : Nat} (hk : k < cs.length) : priceN ms cs k < 4 := by
  unfold priceN
  have h1 := cost_cells (framed_cell hc (k := k) (by rw [framed_len]; omega)) (framed_cell hc (k := k + 2) (by rw [framed_len]; omega))
  have h2 := cost_le (cs.getD k 0) (ms.getD k 0)
  omega
theorem price_get {p : Nat} (h : p < 4) : ([120, 88, 120, 88] : List Nat)[p]? = some (([120, 88, 120, 88] : List Nat).getD p 0) := getD_some (by simpa using h)
theorem spec_next {ms cs : List Nat} {n : Nat} (T : Tops cx ad) (room : Room A (n + 2)) (hlen : ms.length = cs.length) (hc : ∀ c ∈ cs, Cell c) (hm : ∀ c ∈ ms, Mark c) (hsz : cs.length ≤ 1000) (h : Q (.str (nextN ms cs)) ar) : CallT cx A (.ref (ad 20)) [.str ms, .str cs] ar Q := by
  refine CallT_top (n := n + 1) (ps := [Str.ofString "marks", Str.ofString "cells"]) (rest := [Str.ofString "framed", Str.ofString "after", Str.ofString "place", Str.ofString "price"]) (gn := [Str.ofString "range", Str.ofString "len", Str.ofString "_substitution_cost"])
    (gl := [(Str.ofString "range", .val (.type "range")), (Str.ofString "len", .val (.builtin "len")), (Str.ofString "_substitution_cost", .val (.ref (ad 15)))]) T (by decide) room (by decide +kernel) rfl rfl (by walk_at "aw fn2") (by walk_at "aw gl") ?_
  intro env A' room'
  show EB _ _ _ (_ :: _) ⟨[(Str.ofString "marks", some (.str ms)), (Str.ofString "cells", some (.str cs)), (Str.ofString "framed", none), (Str.ofString "after", none), (Str.ofString "place", none), (Str.ofString "price", none)], ar⟩ _
  have hms : ms.length < 2 ^ 62 := by omega
  walk_at "aw"
  refine r_for1 room'.handled (by repeat (first | exact Has.head | refine Has.tail ?_)) ?_
  walk_at "aw"
  refine ⟨hms, fun k st => ∃ u v, st = ⟨[(Str.ofString "marks", some (.str ms)), (Str.ofString "cells", some (.str cs)), (Str.ofString "framed", some (.str (framedL cs))), (Str.ofString "after", some (.str (nextK ms cs k))), (Str.ofString "place", u), (Str.ofString "price", v)], ar⟩, ⟨_, _, rfl⟩, ?_, ?_⟩
  · rintro i st hi ⟨u, v, rfl⟩
    have hf := framed_len cs
    have hic : i < cs.length := by omega
    have hnl := nextK_len ms cs i
    walk_at "aw"
    refine S_str (getD_some (l := framedL cs) (by omega)) (by omega) ?_
    walk_at "aw"
    refine S_str (getD_some (l := framedL cs) (by omega)) (by omega) ?_
    walk_at "aw"
    refine spec_subst T room' (framed_cell hc (by omega)).chr (framed_cell hc (by omega)).chr ?_
    walk_at "aw"
    refine S_str (getD_some hic) (by omega) ?_
    walk_at "aw"
    refine S_str (getD_some hi) (by omega) ?_
    walk_at "aw"
    refine spec_subst T room' (hc _ (getD_mem hic)).chr (hm _ (getD_mem hi)).chr ?_
    walk_at "aw"
    refine S_str (price_get (price_lt hc hic)) (by have := price_lt (ms := ms) hc hic; unfold priceN at this; omega) ?_
    walk_at "aw"
    exact ⟨_, _, rfl⟩
  · rintro st ⟨u, v, rfl⟩
    walk_at "aw"
    exact Back_ret (List.Sublist.refl _) h
end
end
section
set_option maxRecDepth 10000
set_option maxHeartbeats 4000000
section
variable {cx : Cx} {A : Around} {ar : Ar} {Q : V → Ar → Prop}
noncomputable def frontsK (ms : List Nat) : Nat → List Nat
  | 0 => [0, 1]
  | k + 1 => frontsK ms k ++ [if ms.getD k 0 = 120 then ((frontsK ms k).getD (k + 1) 0 * 2 ^^^ (frontsK ms k).getD k 0) ^^^ (frontsK ms k).getD (k + 1) 0 else (frontsK ms k).getD (k + 1) 0 * 2 ^^^ (frontsK ms k).getD k 0]
theorem frontsK_len (ms : List Nat) : ∀ k, (frontsK ms k).length = k + 2
  | 0 => rfl
  | k + 1 => by simp [frontsK, frontsK_len ms k]
noncomputable def frontsN (ms : List Nat) : List Nat := (frontsK ms ms.length).drop 1
theorem spec_fronts {ms : List Nat} {n : Nat} (T : Tops cx ad) (room : Room A (n + 1)) (hm : ∀ c ∈ ms, Mark c) (hsz : ms.length ≤ 1000) (h : ∀ d, Q (.ref d) ((d, .list ((frontsN ms).map nt)) :: ar)) : CallT cx A (.ref (ad 18)) [.str ms] ar Q := by
  refine CallT_top (n := n) (ps := [Str.ofString "marks"]) (rest := [Str.ofString "fronts", Str.ofString "mark", Str.ofString "front"]) (gn := []) (gl := []) T (by decide) room (by decide +kernel) rfl rfl (by walk_at "aw fn") (by walk_at "aw gl") ?_
  intro env A' room'
  show EB _ _ _ (_ :: _) ⟨[(Str.ofString "marks", some (.str ms)), (Str.ofString "fronts", none), (Str.ofString "mark", none), (Str.ofString "front", none)], ar⟩ _
  walk_at "aw"
  refine ⟨by decide +kernel, fun l => ?_⟩
  walk_at "aw"
  refine r_forS room'.handled ?_
  walk_at "aw"
  refine ⟨List.all_eq_true.mpr fun c hc => by have := hm c hc; unfold Mark at this; simp; omega, fun k st => ∃ u v, st = ⟨[(Str.ofString "marks", some (.str ms)), (Str.ofString "fronts", some (.ref l)), (Str.ofString "mark", u), (Str.ofString "front", v)], (l, .list ((frontsK ms k).map nt)) :: ar⟩, ⟨_, _, rfl⟩, ?_, ?_⟩
  · rintro i st hi ⟨u, v, rfl⟩
    have hl := frontsK_len ms i
    have hL : ((frontsK ms i).map nt).length = i + 2 := by rw [List.length_map, hl]
    have a1 : ((frontsK ms i).map nt)[((frontsK ms i).map nt).length - 1]? = some (nt ((frontsK ms i).getD (i + 1) 0)) := by rw [hL]; exact getD_nt (by omega)
    have a2 : ((frontsK ms i).map nt)[((frontsK ms i).map nt).length - 2]? = some (nt ((frontsK ms i).getD i 0)) := by rw [hL]; exact getD_nt (by omega)
    walk_at "aw"
    refine S_listN (k := 1) .head (by omega) (by omega) a1 (by omega) ?_
    walk_at "aw"
    refine S_listN (k := 2) .head (by omega) (by omega) a2 (by omega) ?_
    walk_at "aw"
    · rename_i e
      refine S_listN (k := 1) .head (by omega) (by omega) a1 (by omega) ?_
      walk_at "aw"
      have hx : (frontsK ms (i + 1)).map nt = (frontsK ms i).map nt ++ [nt (((frontsK ms i).getD (i + 1) 0 * 2 ^^^ (frontsK ms i).getD i 0) ^^^ (frontsK ms i).getD (i + 1) 0)] := by
        simp only [frontsK]
        rw [if_pos (by simpa using e), List.map_append]
        rfl
      rw [← hx]
      exact ⟨_, _, rfl⟩
    · rename_i e
      have hx : (frontsK ms (i + 1)).map nt = (frontsK ms i).map nt ++ [nt ((frontsK ms i).getD (i + 1) 0 * 2 ^^^ (frontsK ms i).getD i 0)] := by
        simp only [frontsK]
        rw [if_neg (by simpa using e), List.map_append]
        rfl
      rw [← hx]
      exact ⟨_, _, rfl⟩
  · rintro st ⟨u, v, rfl⟩
    have hl := frontsK_len ms ms.length
    walk_at "aw"
    refine ⟨l, _, 1, rfl, rfl, .head, by rw [List.length_map]; omega, by rw [List.length_map]; omega, fun d => ?_⟩
    walk_at "aw"
    refine Back_ret (.cons₂ _ (.cons _ (List.Sublist.refl _))) ?_
    have := h d
    unfold frontsN at this
    rw [List.map_drop] at this
    exact this
end
end
section
set_option maxRecDepth 10000
set_option maxHeartbeats 4000000
section
variable {cx : Cx} {A : Around} {ar : Ar} {Q : V → Ar → Prop}
theorem spec_draw {sa : Addr} {items : List Value} {zs : List Int} {n : Nat} (T : Tops cx ad) (room : Room A (n + 1)) (hl : cx.base.IsList sa items.toArray) (hI : IntsAre items zs) (hsz : zs.length < 2 ^ 62) (h : ∀ l a b c, Q (.ref l) ((l, .list [nt a, nt b, nt c]) :: ar)) : CallT cx A (.ref (ad 17)) [.ref sa] ar Q := by
  refine CallT_top (n := n) (ps := [Str.ofString "script"]) (rest := [Str.ofString "seeds", Str.ofString "place"]) (gn := [Str.ofString "range", Str.ofString "len", Str.ofString "min"]) (gl := [(Str.ofString "range", .val (.type "range")), (Str.ofString "len", .val (.builtin "len")), (Str.ofString "min", .val (.builtin "min"))]) T (by decide) room (by decide +kernel) rfl rfl (by walk_at "aw fn") (by walk_at "aw gl") ?_
  intro env A' room'
  show EB _ _ _ (_ :: _) ⟨[(Str.ofString "script", some (.ref sa)), (Str.ofString "seeds", none), (Str.ofString "place", none)], ar⟩ _
  have hlen : items.length = zs.length := hI.length
  walk_at "aw"
  refine ⟨by decide +kernel, fun l => ?_⟩
  walk_at "aw"
  refine r_for1 room'.handled (by repeat (first | exact Has.head | refine Has.tail ?_)) ?_
  walk_at "aw"
  refine B_lenBase hl hlen hsz ?_
  walk_at "aw"
  refine B_min room'.handled ?_
  refine ⟨_, rfl, by omega, fun k st => ∃ u a b c, st = ⟨[(Str.ofString "script", some (.ref sa)), (Str.ofString "seeds", some (.ref l)), (Str.ofString "place", u)], (l, .list [nt a, nt b, nt c]) :: ar⟩, ⟨_, _, _, _, rfl⟩, ?_, ?_⟩
  · rintro i st hi ⟨u, a, b, c, rfl⟩
    have hi2 : i < zs.length := by omega
    have hz : zs[i]? = some zs[i] := by simp [hi2]
    have hm : i % 3 < 3 := Nat.mod_lt _ (by decide)
    walk_at "aw"
    refine EX_augitem ?_
    walk_at "aw"
    have hx : [nt a, nt b, nt c][i % 3]? = some (nt ([a, b, c].getD (i % 3) 0)) := getD_nt (l := [a, b, c]) (by simpa using hm)
    refine G_list .head hx (by omega) ?_
    walk_at "aw"
    refine S_base hl hI hz (by omega) ?_
    walk_at "aw"
    refine O_modI (by decide) ?_
    walk_at "aw"
    refine r_setlist .head (by simpa using hm) (by omega) ?_
    walk_at "aw"
    have h3 : i % 3 = 0 ∨ i % 3 = 1 ∨ i % 3 = 2 := by omega
    rcases h3 with e | e | e <;> rw [e] <;> exact ⟨_, _, _, _, rfl⟩
  · rintro st ⟨u, a, b, c, rfl⟩
    walk_at "aw"
    exact Back_ret (List.Sublist.refl _) (h l a b c)

/-- Euclid's run -/
noncomputable def marksF : Nat → Nat → Nat → List Nat → List Nat
  | 0, _, _, acc => acc
  | f + 1, w, p, acc => if p = 0 then (if w = 1 then acc else []) else if bits w = bits p + 1 then
      (if bits (w ^^^ p * 2) = bits p then marksF f p ((w ^^^ p * 2) ^^^ p) (acc ++ [120]) else marksF f p (w ^^^ p * 2) (acc ++ [46])) else []
noncomputable def marksN (w p : Nat) : List Nat := marksF (bits p + 1) w p []
theorem bits_double {p : Nat} (h : 0 < p) : bits (p * 2) = bits p + 1 := by
  have := bits_shift (w := p) (k := 1) h
  rwa [Nat.shiftLeft_eq, Nat.pow_one] at this
theorem bits_xor_le {a b k : Nat} (ha : bits a ≤ k) (hb : bits b ≤ k) : bits (a ^^^ b) ≤ k :=
  bits_le (Nat.xor_lt_two_pow (Nat.lt_of_lt_of_le (lt_bits a) (Nat.pow_le_pow_right (by decide) ha)) (Nat.lt_of_lt_of_le (lt_bits b) (Nat.pow_le_pow_right (by decide) hb)))
theorem bits_xor_lt {a b k : Nat} (ha : bits a = k + 1) (hb : bits b = k + 1) : bits (a ^^^ b) ≤ k := by
  have pa : 0 < a := Nat.pos_of_ne_zero fun e => by subst e; simp [bits] at ha
  have pb : 0 < b := Nat.pos_of_ne_zero fun e => by subst e; simp [bits] at hb
  have t1 := top_bit pa
  have t2 := top_bit pb
  have l1 := lt_bits a
  have l2 := lt_bits b
  rw [ha] at t1 l1
  rw [hb] at t2 l2
  exact bits_le (xor_drop t1 l1 t2 l2)
theorem spec_marks {w p n : Nat} (T : Tops cx ad) (room : Room A (n + 1)) (hw : w < 2 ^ 60) (hp : p < 2 ^ 60) (h : Q (.str (marksN w p)) ar) : CallT cx A (.ref (ad 25)) [nt w, nt p] ar Q := by
  refine CallT_top (n := n) (ps := [Str.ofString "whole", Str.ofString "part"]) (rest := [Str.ofString "marks", Str.ofString "rest"]) (gn := []) (gl := []) T (by decide) room (by decide +kernel) rfl rfl (by walk_at "aw fn2") (by walk_at "aw gl") ?_
  intro env A' room'
  show EB _ _ _ (_ :: _) ⟨[(Str.ofString "whole", some (nt w)), (Str.ofString "part", some (nt p)), (Str.ofString "marks", none), (Str.ofString "rest", none)], ar⟩ _
  walk_at "aw"
  refine EX_while (fun m st => ∃ w' p' acc u, st = ⟨[(Str.ofString "whole", some (nt w')), (Str.ofString "part", some (nt p')), (Str.ofString "marks", some (.str acc)), (Str.ofString "rest", u)], ar⟩ ∧ m = bits p' ∧ bits w' ≤ 60 ∧ bits p' ≤ 60 ∧ acc.length + bits p' ≤ 60 ∧ marksF (bits p' + 1) w' p' acc = marksN w p) (bits p)
    ⟨w, p, [], _, rfl, rfl, bits_le hw, bits_le hp, by have := bits_le hp; simpa using this, rfl⟩ ?_
  rintro m st ⟨w', p', acc, u, rfl, rfl, hw', hp', hacc, he⟩
  have fuel : ∀ f g w p acc, bits p < f → bits p < g → marksF f w p acc = marksF g w p acc := by
    intro f
    induction f with
    | zero => intro g w p acc h1 h2; omega
    | succ f ih =>
      intro g w p acc h1 h2
      cases g with
      | zero => omega
      | succ g =>
        unfold marksF
        split
        · rfl
        · rename_i hp0
          have hpp : 0 < p := by omega
          split
          · rename_i hb
            have hd := bits_double hpp
            have hx := bits_xor_lt (k := bits p) hb hd
            split
            · rename_i hb2
              have hpos : 0 < bits p := by rw [bits_pos hpp]; omega
              have hx2 := bits_xor_lt (a := w ^^^ p * 2) (b := p) (k := bits p - 1) (by omega) (by omega)
              exact ih _ _ _ _ (by omega) (by omega)
            · exact ih _ _ _ _ (by omega) (by omega)
          · rfl
  walk_at "aw"
  · rename_i c1 c2
    refine Back_ret (List.Sublist.refl _) ?_
    rw [← he] at h
    unfold marksF at h
    rw [if_neg (by omega), if_neg c2] at h
    exact h
  · rename_i c1 c2 c3
    have hd := bits_double c1
    have hx := bits_xor_lt (k := bits p') c2 hd
    have hpos : 0 < bits p' := by rw [bits_pos c1]; omega
    have hx2 := bits_xor_lt (a := w' ^^^ p' * 2) (b := p') (k := bits p' - 1) (by omega) (by omega)
    refine ⟨bits (w' ^^^ p' * 2 ^^^ p'), by omega, p', _, acc ++ [120], _, rfl, rfl, by omega, by omega, by simp; omega, ?_⟩
    rw [← he]
    conv => rhs; unfold marksF
    rw [if_neg (by omega), if_pos c2, if_pos c3]
    exact fuel _ _ _ _ _ (by omega) (by omega)
  · rename_i c1 c2 c3
    have hd := bits_double c1
    have hx := bits_xor_lt (k := bits p') c2 hd
    refine ⟨bits (w' ^^^ p' * 2), by omega, p', _, acc ++ [46], _, rfl, rfl, by omega, by omega, by simp; omega, ?_⟩
    rw [← he]
    conv => rhs; unfold marksF
    rw [if_neg (by omega), if_pos c2, if_neg c3]
    exact fuel _ _ _ _ _ (by omega) (by omega)
  · rename_i c1 c2
    refine Back_ret (List.Sublist.refl _) ?_
    rw [← he] at h
    unfold marksF at h
    rw [if_pos (by omega), if_pos c2] at h
    exact h
  · rename_i c1 c2
    refine Back_ret (List.Sublist.refl _) ?_
    rw [← he] at h
    unfold marksF at h
    rw [if_pos (by omega), if_neg c2] at h
    exact h
end
end
section
set_option maxRecDepth 10000
set_option maxHeartbeats 4000000
section
variable {cx : Cx} {A : Around} {ar : Ar} {Q : V → Ar → Prop}
noncomputable def digs (x m k : Nat) : List Nat := (List.range k).map fun i => (x >>> (i * m)) % 2 ^ m
theorem digs_len (x m k : Nat) : (digs x m k).length = k := by simp [digs]
theorem digs_one {x m : Nat} (h : x < 2 ^ m) : digs x m 1 = [x] := by
  simp [digs, List.range_succ, Nat.mod_eq_of_lt h]
theorem digs_add (x m k1 k2 : Nat) : digs x m (k1 + k2) = digs (x % 2 ^ (k1 * m)) m k1 ++ digs (x >>> (k1 * m)) m k2 := by
  unfold digs
  rw [List.range_add, List.map_append, List.map_map]
  congr 1
  · apply List.map_congr_left
    intro i hi
    have hi : i < k1 := List.mem_range.mp hi
    have hle : (i + 1) * m ≤ k1 * m := Nat.mul_le_mul_right _ hi
    rw [Nat.add_mul, Nat.one_mul] at hle
    apply Nat.eq_of_testBit_eq
    intro j
    simp only [Nat.testBit_mod_two_pow, Nat.testBit_shiftRight]
    by_cases hj : j < m
    · have : i * m + j < k1 * m := by omega
      simp [hj, this]
    · simp [hj]
  · apply List.map_congr_left
    intro i _
    show (x >>> ((k1 + i) * m)) % 2 ^ m = (x >>> (k1 * m)) >>> (i * m) % 2 ^ m
    rw [← Nat.shiftRight_add, Nat.add_mul]
theorem low_bits (x s : Nat) : x ^^^ ((x >>> s) <<< s) = x % 2 ^ s := by
  apply Nat.eq_of_testBit_eq
  intro j
  simp only [Nat.testBit_xor, Nat.testBit_shiftLeft, Nat.testBit_shiftRight, Nat.testBit_mod_two_pow]
  by_cases hj : j < s
  · have h1 : ¬ (j ≥ s) := by omega
    simp [h1, hj]
  · have h1 : j ≥ s := by omega
    have h2 : s + (j - s) = j := by omega
    simp [h1, hj, h2]
noncomputable def wr (ds : List Nat) (L : Nat) (xs : List Nat) : List Nat := ds.take L ++ xs ++ ds.drop (L + xs.length)
theorem wr_len {ds : List Nat} {L : Nat} {xs : List Nat} (h : L + xs.length ≤ ds.length) : (wr ds L xs).length = ds.length := by
  simp [wr]; omega
theorem wr_one {ds : List Nat} {L x : Nat} (h : L < ds.length) : ds.set L x = wr ds L [x] := by
  rw [List.set_eq_take_append_cons_drop, if_pos h]
  simp [wr]
theorem wr_wr {ds : List Nat} {L : Nat} {xs ys : List Nat} (h : L + xs.length + ys.length ≤ ds.length) : wr (wr ds L xs) (L + xs.length) ys = wr ds L (xs ++ ys) := by
  have h1 : (ds.take L ++ xs).length = L + xs.length := by simp; omega
  unfold wr
  rw [List.take_append_of_le_length (by omega), List.take_of_length_le (by omega), List.drop_append, h1, List.drop_of_length_le (by omega), List.nil_append, List.drop_drop]
  simp only [List.append_assoc, List.length_append]
  congr 4
  omega
theorem wr_all {ds xs : List Nat} (h : ds.length = xs.length) : wr ds 0 xs = xs := by
  simp [wr, ← h]

noncomputable abbrev arI (f l c1 c2 c3 : Addr) (o : Obj) (m : Nat) (ds : List Nat) (ar : Ar) : Ar := (f, .fn o) :: (l, .list (ds.map nt)) :: (c1, .cell (some (nt m))) :: (c2, .cell (some (.ref l))) :: (c3, .cell (some (.ref f))) :: ar
theorem spec_inner2 {n m : Nat} {f l c1 c2 c3 : Addr} {o : Obj} {fd : FuncData} (T2 : Tops2 cx ad) (hfd : o.data = .func fd) (hn : FnNest fd (defIn 2 1).params (.stmts (defIn 2 1).body) (defIn 2 1).scope [(Str.ofString "n", c1), (Str.ofString "inner", c3), (Str.ofString "a_digits", c2)]) :
    ∀ (k x L : Nat) (ds : List Nat) (A : Around), Room A (n + k + 1) → 0 < k → L + k ≤ ds.length → x < 2 ^ (m * k) → m * k ≤ 60 → ds.length ≤ 1000 → CallT cx A (.ref f) [nt x, nt L, nt (L + k)] (arI f l c1 c2 c3 o m ds ar) fun v ar' => v = .none ∧ ar' = arI f l c1 c2 c3 o m (wr ds L (digs x m k)) ar := by
  intro k
  induction k using Nat.strongRecOn with
  | ind k ih =>
    intro x L ds A room hk hL hx hmk hds
    have ok : NestOk cx (defIn 2 1).scope [(Str.ofString "n", c1), (Str.ofString "inner", c3), (Str.ofString "a_digits", c2)] [Str.ofString "x", Str.ofString "L", Str.ofString "R"] [Str.ofString "mid", Str.ofString "shift", Str.ofString "upper", Str.ofString "lower"] []
        [(Str.ofString "n", c1), (Str.ofString "inner", c3), (Str.ofString "a_digits", c2)] := by
      refine ⟨by decide +kernel, namesAre.get (by decide +kernel), fun p hp => (nomatch hp), fun p hp => ?_, ?_, by decide +kernel, by decide +kernel, by decide +kernel⟩
      · simp only [List.mem_cons, List.not_mem_nil, or_false] at hp
        rcases hp with rfl | rfl | rfl
        · exact ⟨rfl, show (defIn 2 1).scope.names.lookup (Str.ofString "n") = _ by decide +kernel⟩
        · exact ⟨rfl, show (defIn 2 1).scope.names.lookup (Str.ofString "inner") = _ by decide +kernel⟩
        · exact ⟨rfl, show (defIn 2 1).scope.names.lookup (Str.ofString "a_digits") = _ by decide +kernel⟩
      · have : ((defIn 2 1).scope.names.all fun x => x.2 != .cell) = true := by decide +kernel
        exact fun x hx => by have := List.all_eq_true.mp this x hx; simpa using this
    refine CallT_nest (pv := [(Str.ofString "x", nt x), (Str.ofString "L", nt L), (Str.ofString "R", nt (L + k))]) (rest := [Str.ofString "mid", Str.ofString "shift", Str.ofString "upper", Str.ofString "lower"]) (n := n + k) .head hfd hn ok T2.lim room (fun s xs rx => ?_) ?_
    · cases rx with
      | cons r1 rx =>
        cases rx with
        | cons r2 rx =>
          cases rx with
          | cons r3 rx =>
            cases rx
            refine ⟨_, ?_, .cons r1 (.cons r2 (.cons r3 .nil))⟩
            unfold bindArgs
            rw [hn.params, hn.defaults]
            rfl
    · intro env A' room'
      show EB _ _ _ (_ :: _) ⟨[(Str.ofString "x", some (nt x)), (Str.ofString "L", some (nt L)), (Str.ofString "R", some (nt (L + k))), (Str.ofString "mid", none), (Str.ofString "shift", none), (Str.ofString "upper", none), (Str.ofString "lower", none)], _⟩ _
      have hm64 : m < 2 ^ 64 := by
        have : m ≤ m * k := Nat.le_mul_of_pos_right _ hk
        omega
      walk_at "aw"
      · rename_i e
        have hk1 : k = 1 := by omega
        subst hk1
        refine EX_setitem ?_
        walk_at "aw"
        refine r_setlist (.tail .head) (by rw [List.length_map]; omega) (by omega) ?_
        walk_at "aw"
        refine Back_ret (List.Sublist.refl _) ⟨rfl, ?_⟩
        rw [digs_one (by simpa using hx), ← wr_one (by omega)]
        show _ = arI f l c1 c2 c3 o m (ds.set L x) ar
        unfold arI
        rw [List.map_set]
      · rename_i e
        generalize hM : (L + (L + k)) >>> 1 = M
        have hM2 : M = (L + (L + k)) / 2 := by rw [← hM, Nat.shiftRight_eq_div_pow]
        clear hM
        obtain ⟨k1, rfl⟩ : ∃ k1, M = L + k1 := ⟨M - L, by omega⟩
        obtain ⟨k2, rfl⟩ : ∃ k2, k = k1 + k2 := ⟨k - k1, by omega⟩
        have hk1 : 0 < k1 := by omega
        have hk2 : 0 < k2 := by omega
        clear hM2
        simp only [Nat.add_sub_cancel_left]
        rw [Nat.mul_add] at hmk hx
        have hs : k1 * m ≤ 60 := by rw [Nat.mul_comm]; omega
        have hx60 : x < 2 ^ 60 := Nat.lt_of_lt_of_le hx (Nat.pow_le_pow_right (by decide) hmk)
        have hu : x >>> (k1 * m) < 2 ^ 64 := by
          rw [Nat.shiftRight_eq_div_pow]
          exact Nat.lt_of_le_of_lt (Nat.div_le_self _ _) (Nat.lt_trans hx60 (by decide))
        refine O_shl hu (by omega) ?_
        walk_at "aw"
        rw [low_bits]
        refine r_callV ?_
        walk_at "aw"
        refine ⟨f, o, fd, rfl, hfd, ?_⟩
        walk_at "aw"
        refine ⟨.head, ?_⟩
        refine (ih k1 (by omega) _ L ds A' (room'.le (by omega)) hk1 (by omega) (by rw [Nat.mul_comm m]; exact Nat.mod_lt _ (Nat.two_pow_pos _)) (by omega) hds).mono ?_
        rintro v ar' ⟨rfl, rfl⟩
        refine ⟨rfl, ?_⟩
        have hwl := wr_len (ds := ds) (L := L) (xs := digs (x % 2 ^ (k1 * m)) m k1) (by rw [digs_len]; omega)
        walk_at "aw"
        refine r_callV ?_
        walk_at "aw"
        refine ⟨f, o, fd, rfl, hfd, ?_⟩
        walk_at "aw"
        refine ⟨.head, ?_⟩
        rw [← Nat.add_assoc]
        refine (ih k2 (by omega) _ (L + k1) _ A' (room'.le (by omega)) hk2 (by omega) (by
          rw [Nat.shiftRight_eq_div_pow, Nat.mul_comm k1]
          exact Nat.div_lt_of_lt_mul (by rw [← Nat.pow_add]; exact hx)) (by omega) (by omega)).mono ?_
        rintro v ar' ⟨rfl, rfl⟩
        refine ⟨rfl, ?_⟩
        walk_at "aw"
        refine Back_next (List.Sublist.refl _) ⟨rfl, ?_⟩
        have hw2 := wr_wr (ds := ds) (L := L) (xs := digs (x % 2 ^ (k1 * m)) m k1) (ys := digs (x >>> (k1 * m)) m k2) (by rw [digs_len, digs_len]; omega)
        rw [digs_len] at hw2
        rw [digs_add, ← hw2]
end
end
section
set_option maxRecDepth 10000
set_option maxHeartbeats 4000000
section
variable {cx : Cx} {A : Around} {ar : Ar} {Q : V → Ar → Prop}
noncomputable def digitsN (a m : Nat) : List Nat := digs a m ((bits a + m - 1) / m)
theorem ceil_mul {b m : Nat} (hm : 0 < m) : b ≤ m * ((b + m - 1) / m) := by
  have h := Nat.div_add_mod (b + m - 1) m
  have h2 := Nat.mod_lt (b + m - 1) hm
  omega
theorem ceil_le {b m : Nat} (hm : 0 < m) : m * ((b + m - 1) / m) ≤ b + m - 1 := Nat.mul_div_le _ _
theorem kind_cell {env : Env} {k : Nat} {fd : FuncData} {x : Str} (hE : EnvOf fd env) (hD : FdIs fd (defAt k)) (h : (defAt k).scope.names.lookup x = some .cell) : env.kindOf x = some .cell := by
  show env.scope.names.lookup x = _
  rw [hE.scope, hD.scope]; exact h
theorem spec_int2 {a m n : Nat} (T2 : Tops2 cx ad) (room : Room A (n + 63)) (hm : 0 < m) (hm8 : m ≤ 8) (ha : bits a ≤ 52) (h : ∀ d, Q (.ref d) ((d, .list ((digitsN a m).map nt)) :: ar)) : CallT cx A (.ref (ad 2)) [nt a, nt m] ar Q := by
  have T := T2.toTops
  refine CallT_topC (n := n + 62) (ps := [Str.ofString "a", Str.ofString "n"]) (fl := [true, false]) (rest := []) (crest := [Str.ofString "a_digits", Str.ofString "inner"]) (gn := [Str.ofString "len"]) (gl := [(Str.ofString "len", .val (.builtin "len"))]) T (by decide) room (by decide +kernel) rfl rfl (by walk_at "aw fn2") (by walk_at "aw gl") ?_
  intro env A' as fd room' hF hD hE hl
  match as, hl with
  | [c1, c2, c3], _ =>
  show EB _ ⟨_, _, [(Str.ofString "n", c1), (Str.ofString "a_digits", c2), (Str.ofString "inner", c3)]⟩ _ (_ :: _) ⟨[(Str.ofString "a", some (nt a))], (c1, .cell (some (nt m))) :: (c2, .cell none) :: (c3, .cell none) :: ar⟩ _
  have hk1 : env.kindOf (Str.ofString "a_digits") = some .cell := kind_cell hE hD (by decide +kernel)
  have hk2 : env.kindOf (Str.ofString "inner") = some .cell := kind_cell hE hD (by decide +kernel)
  have hc1 := ceil_mul (b := bits a) hm
  have hc2 := ceil_le (b := bits a) hm
  walk_at "aw"
  refine ⟨by decide +kernel, fun l0 => ?_⟩
  walk_at "aw"
  have hK : (bits a + m - 1) / m ≤ 59 := Nat.le_trans (Nat.div_le_self _ _) (by omega)
  have hK0 : bits a = 0 → (bits a + m - 1) / m = 0 := fun e => by rw [e]; exact Nat.div_eq_of_lt (by omega)
  unfold digitsN at h
  generalize (bits a + m - 1) / m = K at hc1 hc2 hK hK0 h ⊢
  refine r_rep .head (by omega) fun l => ?_
  walk_at "aw"
  refine EX_forget (ar' := (l, .list (List.replicate K (nt 0))) :: (c1, .cell (some (nt m))) :: (c2, .cell (some (.ref l))) :: (c3, .cell none) :: ar) (.cons_cons _ (.cons _ (.refl _))) ?_
  obtain ⟨c, P, hT, hcode⟩ := T2.code 2 fd (.inl rfl) hF hD
  refine r_def T2.nest hT (hE.code.trans hcode) (hE.globals.trans hD.globals) (ns := [Str.ofString "n", Str.ofString "a_digits", Str.ofString "inner"]) rfl (by decide +kernel) ?_ ?_
  · rw [T2.qual]
    unfold qualnameIn
    rw [hk2, hE.qual, hD.qual]
    decide +kernel
  · intro f o fd' hfd hn
    have hn2 : FnNest fd' (defIn 2 1).params (.stmts (defIn 2 1).body) (defIn 2 1).scope [(Str.ofString "n", c1), (Str.ofString "inner", c3), (Str.ofString "a_digits", c2)] := hn
    clear hn
    have e0 : List.replicate K (nt 0) = (List.replicate K 0).map nt := by rw [List.map_replicate]
    rw [e0]
    have hlen : (List.replicate K 0).length = K := List.length_replicate
    walk_at "aw"
    · rename_i hne
      refine r_callV ?_
      walk_at "aw"
      refine ⟨f, o, fd', rfl, hfd, ?_⟩
      walk_at "aw"
      refine B_lenL (.tail .head) (by rw [List.length_map]; omega) ?_
      rw [List.length_map, hlen]
      walk_at "aw"
      refine ⟨.head, ?_⟩
      have hpos : 0 < bits a := by rw [bits_pos (by omega)]; omega
      have hKpos : 0 < K := Nat.pos_of_ne_zero fun e => by subst e; omega
      have := spec_inner2 (ar := ar) (n := n) (m := m) (f := f) (l := l) (c1 := c1) (c2 := c2) (c3 := c3) T2 hfd hn2 K a 0 (List.replicate K 0) A' (room'.le (by omega)) hKpos (by omega)
        (Nat.lt_of_lt_of_le (lt_bits a) (Nat.pow_le_pow_right (by decide) hc1)) (by omega) (by omega)
      rw [Nat.zero_add, wr_all (by rw [digs_len, hlen])] at this
      refine this.mono ?_
      rintro v ar' ⟨rfl, rfl⟩
      refine ⟨rfl, ?_⟩
      walk_at "aw"
      refine Back_ret (.cons _ (.cons_cons _ (.cons _ (.cons _ (.cons _ (.refl _)))))) (h l)
    · rename_i hne
      have hz : a = 0 := by omega
      have hK1 : K = 0 := hK0 (by rw [hz]; rfl)
      subst hK1
      exact Back_ret (.cons _ (.cons_cons _ (.cons _ (.cons _ (.cons _ (.refl _)))))) (h l)
end
end
section
set_option maxRecDepth 10000
set_option maxHeartbeats 4000000
section
variable {cx : Cx} {A : Around} {ar : Ar} {Q : V → Ar → Prop}
noncomputable def valN (m : Nat) : List Nat → Nat
  | [] => 0
  | d :: r => d + 2 ^ m * valN m r
theorem valN_app (m : Nat) : ∀ xs ys : List Nat, valN m (xs ++ ys) = valN m xs + 2 ^ (m * xs.length) * valN m ys
  | [], ys => by simp [valN]
  | d :: r, ys => by
    simp only [List.cons_append, valN, valN_app m r ys, List.length_cons, Nat.mul_add, Nat.mul_one, Nat.pow_add]
    rw [Nat.add_assoc, ← Nat.mul_assoc, Nat.mul_comm (2 ^ m) (2 ^ (m * r.length))]
theorem valN_lt {m : Nat} : ∀ {xs : List Nat}, (∀ d ∈ xs, d < 2 ^ m) → valN m xs < 2 ^ (m * xs.length)
  | [], _ => by simp [valN]
  | d :: r, h => by
    have h1 := h d (.head _)
    have h2 := valN_lt (m := m) (xs := r) fun e he => h e (.tail _ he)
    simp only [valN, List.length_cons, Nat.mul_add, Nat.mul_one, Nat.pow_add]
    have h3 : 2 ^ m * (valN m r + 1) ≤ 2 ^ m * 2 ^ (m * r.length) := Nat.mul_le_mul_left _ h2
    rw [Nat.mul_add, Nat.mul_one] at h3
    rw [Nat.mul_comm (2 ^ (m * r.length))]
    omega
noncomputable abbrev seg (ds : List Nat) (L k : Nat) : List Nat := (ds.drop L).take k
theorem seg_add (ds : List Nat) (L k1 k2 : Nat) : seg ds L (k1 + k2) = seg ds L k1 ++ seg ds (L + k1) k2 := by
  unfold seg
  rw [List.take_add, List.drop_drop]
theorem seg_len {ds : List Nat} {L k : Nat} (h : L + k ≤ ds.length) : (seg ds L k).length = k := by
  simp [seg]; omega
theorem seg_mem {ds : List Nat} {L k d : Nat} (h : d ∈ seg ds L k) : d ∈ ds := List.mem_of_mem_drop (List.mem_of_mem_take h)
theorem seg_one {ds : List Nat} {L : Nat} (h : L < ds.length) : seg ds L 1 = [ds.getD L 0] := by
  unfold seg
  have e : ds.getD L 0 = ds[L] := by simp [List.getD_eq_getElem?_getD, h]
  rw [List.drop_eq_getElem_cons h, e]
  rfl
theorem seg_all (ds : List Nat) : seg ds 0 ds.length = ds := by simp [seg]

noncomputable abbrev arJ (f l c1 c2 c3 : Addr) (o : Obj) (m : Nat) (ar : Ar) : Ar := (f, .fn o) :: (c1, .cell (some (.ref l))) :: (c2, .cell (some (nt m))) :: (c3, .cell (some (.ref f))) :: ar
theorem spec_inner3 {n m : Nat} {f l c1 c2 c3 : Addr} {o : Obj} {fd : FuncData} {ds : List Nat} (T2 : Tops2 cx ad) (hfd : o.data = .func fd) (hn : FnNest fd (defIn 3 0).params (.stmts (defIn 3 0).body) (defIn 3 0).scope [(Str.ofString "n", c2), (Str.ofString "inner", c3), (Str.ofString "digits", c1)])
    (hl : At l (.list (ds.map nt)) ar) (hds : ds.length ≤ 1000) (hdig : ∀ d ∈ ds, d < 2 ^ m) :
    ∀ (k L : Nat) (A : Around), Room A (n + k + 1) → 0 < k → L + k ≤ ds.length → m * k ≤ 60 → CallT cx A (.ref f) [nt L, nt (L + k)] (arJ f l c1 c2 c3 o m ar) fun v ar' => v = nt (valN m (seg ds L k)) ∧ ar' = arJ f l c1 c2 c3 o m ar := by
  intro k
  induction k using Nat.strongRecOn with
  | ind k ih =>
    intro L A room hk hL hmk
    have ok : NestOk cx (defIn 3 0).scope [(Str.ofString "n", c2), (Str.ofString "inner", c3), (Str.ofString "digits", c1)] [Str.ofString "L", Str.ofString "R"] [Str.ofString "mid", Str.ofString "shift"] []
        [(Str.ofString "n", c2), (Str.ofString "inner", c3), (Str.ofString "digits", c1)] := by
      refine ⟨by decide +kernel, namesAre.get (by decide +kernel), fun p hp => (nomatch hp), fun p hp => ?_, ?_, by decide +kernel, by decide +kernel, by decide +kernel⟩
      · simp only [List.mem_cons, List.not_mem_nil, or_false] at hp
        rcases hp with rfl | rfl | rfl
        · exact ⟨rfl, show (defIn 3 0).scope.names.lookup (Str.ofString "n") = _ by decide +kernel⟩
        · exact ⟨rfl, show (defIn 3 0).scope.names.lookup (Str.ofString "inner") = _ by decide +kernel⟩
        · exact ⟨rfl, show (defIn 3 0).scope.names.lookup (Str.ofString "digits") = _ by decide +kernel⟩
      · have : ((defIn 3 0).scope.names.all fun x => x.2 != .cell) = true := by decide +kernel
        exact fun x hx => by have := List.all_eq_true.mp this x hx; simpa using this
    refine CallT_nest (pv := [(Str.ofString "L", nt L), (Str.ofString "R", nt (L + k))]) (rest := [Str.ofString "mid", Str.ofString "shift"]) (n := n + k) .head hfd hn ok T2.lim room (fun s xs rx => ?_) ?_
    · cases rx with
      | cons r1 rx =>
        cases rx with
        | cons r2 rx =>
          cases rx
          refine ⟨_, ?_, .cons r1 (.cons r2 .nil)⟩
          unfold bindArgs
          rw [hn.params, hn.defaults]
          rfl
    · intro env A' room'
      show EB _ _ _ (_ :: _) ⟨[(Str.ofString "L", some (nt L)), (Str.ofString "R", some (nt (L + k))), (Str.ofString "mid", none), (Str.ofString "shift", none)], _⟩ _
      have hm64 : m < 2 ^ 64 := by
        have : m ≤ m * k := Nat.le_mul_of_pos_right _ hk
        omega
      walk_at "aw"
      · rename_i e
        have hk1 : k = 1 := by omega
        subst hk1
        refine S_list (.tail (.tail (.tail (.tail hl)))) (getD_nt (by omega)) (by omega) ?_
        walk_at "aw"
        refine Back_ret (List.Sublist.refl _) ⟨?_, rfl⟩
        rw [seg_one (by omega)]
        simp [valN]
      · rename_i e
        generalize hM : (L + (L + k)) >>> 1 = M
        have hM2 : M = (L + (L + k)) / 2 := by rw [← hM, Nat.shiftRight_eq_div_pow]
        clear hM
        obtain ⟨k1, rfl⟩ : ∃ k1, M = L + k1 := ⟨M - L, by omega⟩
        obtain ⟨k2, rfl⟩ : ∃ k2, k = k1 + k2 := ⟨k - k1, by omega⟩
        have hk1 : 0 < k1 := by omega
        have hk2 : 0 < k2 := by omega
        clear hM2
        simp only [Nat.add_sub_cancel_left]
        rw [Nat.mul_add] at hmk
        have hs : k1 * m ≤ 60 := by rw [Nat.mul_comm]; omega
        refine r_callV ?_
        walk_at "aw"
        refine ⟨f, o, fd, rfl, hfd, ?_⟩
        walk_at "aw"
        refine ⟨.head, ?_⟩
        rw [← Nat.add_assoc]
        refine (ih k2 (by omega) (L + k1) A' (room'.le (by omega)) hk2 (by omega) (by omega)).mono ?_
        rintro v ar' ⟨rfl, rfl⟩
        walk_at "aw"
        have hv : valN m (seg ds (L + k1) k2) < 2 ^ 64 := by
          have := valN_lt (m := m) (xs := seg ds (L + k1) k2) fun d hd => hdig d (seg_mem hd)
          rw [seg_len (by omega)] at this
          exact Nat.lt_of_lt_of_le this (Nat.pow_le_pow_right (by decide) (by omega))
        refine O_shl hv (by omega) ?_
        refine r_callV ?_
        walk_at "aw"
        refine ⟨f, o, fd, rfl, hfd, ?_⟩
        walk_at "aw"
        refine ⟨.head, ?_⟩
        refine (ih k1 (by omega) L A' (room'.le (by omega)) hk1 (by omega) (by omega)).mono ?_
        rintro v ar' ⟨rfl, rfl⟩
        walk_at "aw"
        refine Back_ret (List.Sublist.refl _) ⟨?_, rfl⟩
        rw [seg_add, valN_app, seg_len (by omega), Nat.shiftLeft_eq, Nat.mul_comm m k1, Nat.add_comm, Nat.mul_comm (2 ^ (k1 * m))]
theorem spec_dig2 {ds : List Nat} {l : Addr} {m n : Nat} (T2 : Tops2 cx ad) (room : Room A (n + 63)) (hl : At l (.list (ds.map nt)) ar) (hdig : ∀ d ∈ ds, d < 2 ^ m) (hm : 0 < m) (hmk : m * ds.length ≤ 60) (h : Q (nt (valN m ds)) ar) : CallT cx A (.ref (ad 3)) [.ref l, nt m] ar Q := by
  have T := T2.toTops
  refine CallT_topC (n := n + 62) (ps := [Str.ofString "digits", Str.ofString "n"]) (fl := [false, false]) (rest := []) (crest := [Str.ofString "inner"]) (gn := [Str.ofString "len"]) (gl := [(Str.ofString "len", .val (.builtin "len"))]) T (by decide) room (by decide +kernel) rfl rfl (by walk_at "aw fn2") (by walk_at "aw gl") ?_
  intro env A' as fd room' hF hD hE hlen
  match as, hlen with
  | [c1, c2, c3], _ =>
  show EB _ ⟨_, _, [(Str.ofString "digits", c1), (Str.ofString "n", c2), (Str.ofString "inner", c3)]⟩ _ (_ :: _) ⟨[], (c1, .cell (some (.ref l))) :: (c2, .cell (some (nt m))) :: (c3, .cell none) :: ar⟩ _
  have hk2 : env.kindOf (Str.ofString "inner") = some .cell := kind_cell hE hD (by decide +kernel)
  have hds : ds.length ≤ 60 := Nat.le_trans (Nat.le_mul_of_pos_left _ hm) hmk
  obtain ⟨c, P, hT, hcode⟩ := T2.code 3 fd (.inr rfl) hF hD
  refine EB_cons ?_
  refine r_def T2.nest hT (hE.code.trans hcode) (hE.globals.trans hD.globals) (ns := [Str.ofString "digits", Str.ofString "n", Str.ofString "inner"]) rfl (by decide +kernel) ?_ ?_
  · rw [T2.qual]
    unfold qualnameIn
    rw [hk2, hE.qual, hD.qual]
    decide +kernel
  · intro f o fd' hfd hn
    have hn2 : FnNest fd' (defIn 3 0).params (.stmts (defIn 3 0).body) (defIn 3 0).scope [(Str.ofString "n", c2), (Str.ofString "inner", c3), (Str.ofString "digits", c1)] := hn
    clear hn
    walk_at "aw"
    refine T_list (.tail (.tail (.tail (.tail hl)))) (by rw [List.length_map]; omega) ?_
    refine split_bool (fun e => ?_) fun e => ?_
    · refine r_callV ?_
      walk_at "aw"
      refine ⟨f, o, fd', rfl, hfd, ?_⟩
      walk_at "aw"
      refine B_lenL (.tail (.tail (.tail (.tail hl)))) (by rw [List.length_map]; omega) ?_
      rw [List.length_map]
      walk_at "aw"
      refine ⟨.head, ?_⟩
      have hpos : 0 < ds.length := by
        cases ds with
        | nil => simp at e
        | cons d r => simp
      have := spec_inner3 (n := n) (m := m) (f := f) (l := l) (c1 := c1) (c2 := c2) (c3 := c3) T2 hfd hn2 hl (by omega) hdig ds.length 0 A' (room'.le (by omega)) hpos (by omega) hmk
      rw [Nat.zero_add, seg_all] at this
      refine this.mono ?_
      rintro v ar' ⟨rfl, rfl⟩
      walk_at "aw"
      exact Back_ret (.cons _ (.cons _ (.cons _ (.cons _ (.refl _))))) h
    · walk_at "aw"
      have hz : ds = [] := by
        cases ds with
        | nil => rfl
        | cons d r => simp at e
      subst hz
      exact Back_ret (.cons _ (.cons _ (.cons _ (.cons _ (.refl _))))) h
end
end
section
set_option maxRecDepth 10000
set_option maxHeartbeats 4000000
section
variable {cx : Cx} {A : Around} {ar : Ar} {Q : V → Ar → Prop}
noncomputable def wideN (one other : Nat) : Nat := valN 4 (digitsN one 1) * valN 4 (digitsN other 1)
noncomputable def productN (one other : Nat) : Nat := valN 1 ((digitsN (wideN one other) 4).map (· % 2))
theorem digs_lt {x m k d : Nat} (h : d ∈ digs x m k) : d < 2 ^ m := by
  obtain ⟨i, _, rfl⟩ := List.mem_map.mp h
  exact Nat.mod_lt _ (Nat.two_pow_pos _)
theorem digitsN_len {x k : Nat} (h : bits x ≤ k) : (digitsN x 1).length ≤ k := by
  unfold digitsN
  rw [digs_len, Nat.add_sub_cancel, Nat.div_one]
  exact h
theorem spec_product {one other n : Nat} (T2 : Tops2 cx ad) (room : Room A (n + 64)) (h1 : bits one ≤ 6) (h2 : bits other ≤ 6) (h : Q (nt (productN one other)) ar) : CallT cx A (.ref (ad 23)) [nt one, nt other] ar Q := by
  have T := T2.toTops
  refine CallT_topE (n := n + 63) (ps := [Str.ofString "one", Str.ofString "other"]) (rest := [Str.ofString "wide"]) (gn := [Str.ofString "_digits2int", Str.ofString "_int2digits"]) (gl := [(Str.ofString "_digits2int", .val (.ref (ad 3))), (Str.ofString "_int2digits", .val (.ref (ad 2)))]) T (by decide) room (by decide +kernel) rfl rfl (by walk_at "aw fn2") (by walk_at "aw gl") ?_
  intro env A' fd room' hD hE
  show EB _ _ _ (_ :: _) ⟨[(Str.ofString "one", some (nt one)), (Str.ofString "other", some (nt other)), (Str.ofString "wide", none)], ar⟩ _
  have l1 := digitsN_len h1
  have l2 := digitsN_len h2
  have v1 : valN 4 (digitsN one 1) < 2 ^ 24 := by
    have := valN_lt (m := 4) (xs := digitsN one 1) fun d hd => Nat.lt_trans (digs_lt hd) (by decide)
    exact Nat.lt_of_lt_of_le this (Nat.pow_le_pow_right (by decide) (by omega))
  have v2 : valN 4 (digitsN other 1) < 2 ^ 24 := by
    have := valN_lt (m := 4) (xs := digitsN other 1) fun d hd => Nat.lt_trans (digs_lt hd) (by decide)
    exact Nat.lt_of_lt_of_le this (Nat.pow_le_pow_right (by decide) (by omega))
  have v3 : wideN one other < 2 ^ 48 := by
    unfold wideN
    rw [show (2 : Nat) ^ 48 = 2 ^ 24 * 2 ^ 24 from rfl]
    exact Nat.mul_lt_mul'' v1 v2
  have b3 : bits (wideN one other) ≤ 48 := bits_le v3
  walk_at "aw"
  refine spec_int2 (n := n) T2 room' (by decide) (by decide) (by omega) fun d1 => ?_
  walk_at "aw"
  refine spec_dig2 (n := n) T2 room' .head (fun d hd => Nat.lt_trans (digs_lt hd) (by decide)) (by decide) (by omega) ?_
  walk_at "aw"
  refine spec_int2 (n := n) T2 room' (by decide) (by decide) (by omega) fun d2 => ?_
  walk_at "aw"
  refine spec_dig2 (n := n) T2 room' .head (fun d hd => Nat.lt_trans (digs_lt hd) (by decide)) (by decide) (by omega) ?_
  walk_at "aw"
  refine r_comp [Str.ofString "count"] [] [] [] [] [] (by decide +kernel) (hE.globals.trans hD.globals) (hE.builtins.trans hD.builtins) rfl rfl rfl (fun _ h => nomatch h) (fun _ h => nomatch h) (ei_list room'.handled ?_)
  walk_at "aw"
  have hw : valN 4 (digitsN one 1) * valN 4 (digitsN other 1) = wideN one other := rfl
  rw [hw]
  refine spec_int2 (n := n) T2 room' (by decide) (by decide) (Nat.le_trans b3 (by decide)) fun d3 => ?_
  have l3 : (digitsN (wideN one other) 4).length ≤ 12 := by
    unfold digitsN
    rw [digs_len]
    have := Nat.div_le_div_right (c := 4) (show bits (wideN one other) + 4 - 1 ≤ 51 by omega)
    omega
  refine ⟨d3, _, rfl, .head, fun i => some (nt ((digitsN (wideN one other) 4).getD i 0 % 2)), .head, by rw [List.length_map, sizeLine_eq]; omega, fun i env' hi => turn1 fun u => ?_, fun l => ?_⟩
  · dsimp only
    rw [getD_ntV hi]
    walk_at "aw"
    rfl
  · have ho : outsOf (fun i => some (nt ((digitsN (wideN one other) 4).getD i 0 % 2))) ((digitsN (wideN one other) 4).map nt).length = ((digitsN (wideN one other) 4).map (· % 2)).map nt := outs_nt (g := (· % 2))
    rw [ho]
    walk_at "aw"
    refine spec_dig2 (n := n) T2 room' .head (fun d hd => ?_) (by decide) (by rw [List.length_map]; omega) ?_
    · obtain ⟨e, _, rfl⟩ := List.mem_map.mp hd
      exact Nat.mod_lt _ (by decide)
    · walk_at "aw"
      exact Back_ret (.cons _ (.cons _ (.cons _ (.cons _ (.refl _))))) h
end
end
section
set_option maxRecDepth 10000
set_option maxHeartbeats 4000000
section
variable {cx : Cx} {A : Around} {ar : Ar} {Q : V → Ar → Prop}
noncomputable def bisT (left : Bool) (k x : Nat) : Bool := if left then decide (k < x) else !decide (x < k)
noncomputable def bisF (left : Bool) (ks : List Nat) (x : Nat) : Nat → Nat → Nat → Nat
  | 0, lo, _ => lo
  | f + 1, lo, hi => if lo < hi then (if bisT left (ks.getD ((lo + hi) / 2) 0) x = true then bisF left ks x f ((lo + hi) / 2 + 1) hi else bisF left ks x f lo ((lo + hi) / 2)) else lo
noncomputable def bisN (left : Bool) (ks : List Nat) (x : Nat) : Nat := bisF left ks x (ks.length + 1) 0 ks.length
theorem bisF_fuel (left : Bool) (ks : List Nat) (x : Nat) : ∀ (f g lo hi : Nat), hi - lo < f → hi - lo < g → bisF left ks x f lo hi = bisF left ks x g lo hi := by
  intro f
  induction f with
  | zero => intro g lo hi h1 h2; omega
  | succ f ih =>
    intro g lo hi h1 h2
    cases g with
    | zero => omega
    | succ g =>
      simp only [bisF]
      split
      · split
        · exact ih g ((lo + hi) / 2 + 1) hi (by omega) (by omega)
        · exact ih g lo ((lo + hi) / 2) (by omega) (by omega)
      · rfl
theorem bisF_step {left : Bool} {ks : List Nat} {x lo hi : Nat} (h : lo < hi) : bisF left ks x (hi - lo + 1) lo hi = if bisT left (ks.getD ((lo + hi) / 2) 0) x = true then bisF left ks x (hi - ((lo + hi) / 2 + 1) + 1) ((lo + hi) / 2 + 1) hi else bisF left ks x ((lo + hi) / 2 - lo + 1) lo ((lo + hi) / 2) := by
  conv => lhs; unfold bisF
  rw [if_pos h]
  split
  · exact bisF_fuel left ks x (hi - lo) (hi - ((lo + hi) / 2 + 1) + 1) ((lo + hi) / 2 + 1) hi (by omega) (by omega)
  · exact bisF_fuel left ks x (hi - lo) ((lo + hi) / 2 - lo + 1) lo ((lo + hi) / 2) (by omega) (by omega)
theorem bisF_end {left : Bool} {ks : List Nat} {x lo hi : Nat} (h : ¬ lo < hi) : bisF left ks x (hi - lo + 1) lo hi = lo := by
  unfold bisF
  rw [if_neg h]
theorem spec_bisl {x n : Nat} {l f : Addr} {o : Obj} {fk : FuncData} {vs : List V} {ks : List Nat} (T2 : Tops2 cx ad) (room : Room A (n + 3)) (hl : At l (.list vs) ar) (hat : At f (.fn o) ar) (hfd : o.data = .func fk) (hlen : vs.length = ks.length) (hsz : ks.length ≤ 1000)
    (hkey : ∀ A', Room A' (n + 2) → ∀ (k : Nat) v, vs[k]? = some v → CallT cx A' (.ref f) [v] ar fun v ar' => v = nt (ks.getD k 0) ∧ ar' = ar) (h : Q (nt (bisN true ks x)) ar) : CallK cx A (.ref (ad 6)) [.ref l, nt x] [Str.ofString "key"] [.ref f] ar Q := by
  obtain ⟨fd, f1, f2, f3⟩ := T2.bis 6 (by decide)
  refine CallK_def (n := n + 2) (pv := [(Str.ofString "a", .ref l), (Str.ofString "x", nt x), (Str.ofString "lo", nt 0), (Str.ofString "hi", .none), (Str.ofString "key", .ref f)]) (rest := [Str.ofString "mid"]) (gl := [(Str.ofString "len", .val (.builtin "len"))])
    f1 f2.body T2.lim room (fun s xs ys kp rx ry => ?_) (show [Str.ofString "a", Str.ofString "x", Str.ofString "lo", Str.ofString "hi", Str.ofString "key", Str.ofString "mid"].Nodup by decide +kernel) (by rw [f2.scope]; exact namesAre.get (show namesAre (defAt 6).scope .local [Str.ofString "a", Str.ofString "x", Str.ofString "lo", Str.ofString "hi", Str.ofString "key", Str.ofString "mid"] = true by decide +kernel)) (fun p hp => ⟨T2.gl p ?_, ?_⟩) f2.globals f2.builtins ?_ (by rw [f2.scope]; decide +kernel) (by rw [f2.scope]; decide +kernel) (by rw [f2.scope]; decide +kernel) ?_
  · cases rx with
    | cons r1 rx =>
      cases rx with
      | cons r2 rx =>
        cases rx
        cases ry with
        | cons r3 ry =>
          cases ry
          obtain ⟨t, ht⟩ := f3 s _ _ _ kp
          exact ⟨_, ht, .cons r1 (.cons r2 (.cons (.int 0 t) (.cons .none (.cons r3 .nil))))⟩
  · rw [List.mem_singleton.mp hp]
    exact Has.mem (by repeat (first | exact Has.head | refine Has.tail ?_))
  · rw [List.mem_singleton.mp hp, f2.scope]
    show (defAt 6).scope.names.lookup (Str.ofString "len") = _
    decide +kernel
  · rw [f2.scope]
    have : ((defAt 6).scope.names.all fun x => x.2 != .cell) = true := by decide +kernel
    exact fun x hx => by have := List.all_eq_true.mp this x hx; simpa using this
  · intro env A' room' hE
    show EB _ _ _ (_ :: _) ⟨[(Str.ofString "a", some (.ref l)), (Str.ofString "x", some (nt x)), (Str.ofString "lo", some (nt 0)), (Str.ofString "hi", some .none), (Str.ofString "key", some (.ref f)), (Str.ofString "mid", none)], ar⟩ _
    walk_at "aw"
    · exact absurd (by assumption : 0 < 0) (Nat.lt_irrefl _)
    refine O_isN (by intro _ q; cases q) ?_
    walk_at "aw"
    refine B_lenL hl (by omega) ?_
    rw [hlen]
    walk_at "aw"
    refine O_isN (by intro _ q; cases q) ?_
    walk_at "aw"
    refine EX_while (fun m st => ∃ lo hi u, st = ⟨[(Str.ofString "a", some (.ref l)), (Str.ofString "x", some (nt x)), (Str.ofString "lo", some (nt lo)), (Str.ofString "hi", some (nt hi)), (Str.ofString "key", some (.ref f)), (Str.ofString "mid", u)], ar⟩ ∧ m = hi - lo ∧ hi ≤ ks.length ∧ bisF true ks x (hi - lo + 1) lo hi = bisN true ks x) ks.length
      ⟨0, ks.length, _, rfl, rfl, Nat.le_refl _, rfl⟩ ?_
    rintro m st ⟨lo, hi, u, rfl, rfl, hh, he⟩
    walk_at "aw"
    · rename_i c
      have hm1 : lo ≤ (lo + hi) / 2 := by omega
      have hm2 : (lo + hi) / 2 < hi := by omega
      rw [bisF_step c] at he
      generalize (lo + hi) / 2 = M at hm1 hm2 he ⊢
      refine r_callV ?_
      walk_at "aw"
      refine ⟨f, o, fk, rfl, hfd, ?_⟩
      walk_at "aw"
      have hv : vs[M]? = some vs[M] := by simp [show M < vs.length by omega]
      refine S_list hl hv (by omega) ?_
      walk_at "aw"
      refine ⟨hat, (hkey A' room' M _ hv).mono ?_⟩
      rintro v ar' ⟨rfl, rfl⟩
      walk_at "aw"
      · rename_i c2
        rw [if_pos (show bisT true _ x = true from decide_eq_true c2)] at he
        exact ⟨_, by omega, _, _, _, rfl, rfl, by omega, he⟩
      · rename_i c2
        rw [if_neg (show ¬ bisT true _ x = true from by unfold bisT; simpa using c2)] at he
        exact ⟨_, by omega, _, _, _, rfl, rfl, by omega, he⟩
    · rename_i c
      rw [bisF_end c] at he
      rw [← he] at h
      exact Back_ret (List.Sublist.refl _) h
theorem spec_bisr {x n : Nat} {l f : Addr} {o : Obj} {fk : FuncData} {vs : List V} {ks : List Nat} (T2 : Tops2 cx ad) (room : Room A (n + 3)) (hl : At l (.list vs) ar) (hat : At f (.fn o) ar) (hfd : o.data = .func fk) (hlen : vs.length = ks.length) (hsz : ks.length ≤ 1000)
    (hkey : ∀ A', Room A' (n + 2) → ∀ (k : Nat) v, vs[k]? = some v → CallT cx A' (.ref f) [v] ar fun v ar' => v = nt (ks.getD k 0) ∧ ar' = ar) (h : Q (nt (bisN false ks x)) ar) : CallK cx A (.ref (ad 5)) [.ref l, nt x] [Str.ofString "key"] [.ref f] ar Q := by
  obtain ⟨fd, f1, f2, f3⟩ := T2.bis 5 (by decide)
  refine CallK_def (n := n + 2) (pv := [(Str.ofString "a", .ref l), (Str.ofString "x", nt x), (Str.ofString "lo", nt 0), (Str.ofString "hi", .none), (Str.ofString "key", .ref f)]) (rest := [Str.ofString "mid"]) (gl := [(Str.ofString "len", .val (.builtin "len"))])
    f1 f2.body T2.lim room (fun s xs ys kp rx ry => ?_) (show [Str.ofString "a", Str.ofString "x", Str.ofString "lo", Str.ofString "hi", Str.ofString "key", Str.ofString "mid"].Nodup by decide +kernel) (by rw [f2.scope]; exact namesAre.get (show namesAre (defAt 5).scope .local [Str.ofString "a", Str.ofString "x", Str.ofString "lo", Str.ofString "hi", Str.ofString "key", Str.ofString "mid"] = true by decide +kernel)) (fun p hp => ⟨T2.gl p ?_, ?_⟩) f2.globals f2.builtins ?_ (by rw [f2.scope]; decide +kernel) (by rw [f2.scope]; decide +kernel) (by rw [f2.scope]; decide +kernel) ?_
  · cases rx with
    | cons r1 rx =>
      cases rx with
      | cons r2 rx =>
        cases rx
        cases ry with
        | cons r3 ry =>
          cases ry
          obtain ⟨t, ht⟩ := f3 s _ _ _ kp
          exact ⟨_, ht, .cons r1 (.cons r2 (.cons (.int 0 t) (.cons .none (.cons r3 .nil))))⟩
  · rw [List.mem_singleton.mp hp]
    exact Has.mem (by repeat (first | exact Has.head | refine Has.tail ?_))
  · rw [List.mem_singleton.mp hp, f2.scope]
    show (defAt 5).scope.names.lookup (Str.ofString "len") = _
    decide +kernel
  · rw [f2.scope]
    have : ((defAt 5).scope.names.all fun x => x.2 != .cell) = true := by decide +kernel
    exact fun x hx => by have := List.all_eq_true.mp this x hx; simpa using this
  · intro env A' room' hE
    show EB _ _ _ (_ :: _) ⟨[(Str.ofString "a", some (.ref l)), (Str.ofString "x", some (nt x)), (Str.ofString "lo", some (nt 0)), (Str.ofString "hi", some .none), (Str.ofString "key", some (.ref f)), (Str.ofString "mid", none)], ar⟩ _
    walk_at "aw"
    · exact absurd (by assumption : 0 < 0) (Nat.lt_irrefl _)
    refine O_isN (by intro _ q; cases q) ?_
    walk_at "aw"
    refine B_lenL hl (by omega) ?_
    rw [hlen]
    walk_at "aw"
    refine O_isN (by intro _ q; cases q) ?_
    walk_at "aw"
    refine EX_while (fun m st => ∃ lo hi u, st = ⟨[(Str.ofString "a", some (.ref l)), (Str.ofString "x", some (nt x)), (Str.ofString "lo", some (nt lo)), (Str.ofString "hi", some (nt hi)), (Str.ofString "key", some (.ref f)), (Str.ofString "mid", u)], ar⟩ ∧ m = hi - lo ∧ hi ≤ ks.length ∧ bisF false ks x (hi - lo + 1) lo hi = bisN false ks x) ks.length
      ⟨0, ks.length, _, rfl, rfl, Nat.le_refl _, rfl⟩ ?_
    rintro m st ⟨lo, hi, u, rfl, rfl, hh, he⟩
    walk_at "aw"
    · rename_i c
      have hm1 : lo ≤ (lo + hi) / 2 := by omega
      have hm2 : (lo + hi) / 2 < hi := by omega
      rw [bisF_step c] at he
      generalize (lo + hi) / 2 = M at hm1 hm2 he ⊢
      refine r_callV ?_
      walk_at "aw"
      refine ⟨f, o, fk, rfl, hfd, ?_⟩
      walk_at "aw"
      have hv : vs[M]? = some vs[M] := by simp [show M < vs.length by omega]
      refine S_list hl hv (by omega) ?_
      walk_at "aw"
      refine ⟨hat, (hkey A' room' M _ hv).mono ?_⟩
      rintro v ar' ⟨rfl, rfl⟩
      walk_at "aw"
      · rename_i c2
        rw [if_neg (show ¬ bisT false _ x = true from by unfold bisT; simpa using c2)] at he
        exact ⟨_, by omega, _, _, _, rfl, rfl, by omega, he⟩
      · rename_i c2
        rw [if_pos (show bisT false _ x = true from by unfold bisT; simpa using c2)] at he
        exact ⟨_, by omega, _, _, _, rfl, rfl, by omega, he⟩
    · rename_i c
      rw [bisF_end c] at he
      rw [← he] at h
      exact Back_ret (List.Sublist.refl _) h
end
end
section
set_option maxRecDepth 10000
set_option maxHeartbeats 4000000
section
variable {cx : Cx} {A : Around} {ar : Ar} {Q : V → Ar → Prop}
theorem each_nil {fm : Fm} {st : St} {Q : St → Prop} (h : Q st) : AEach cx fm A [] [] st Q := h
theorem each_cons {fm : Fm} {t : PySem.Expr} {ts : List PySem.Expr} {v : V} {vs : List V} {st : St} {Q : St → Prop} (h : AS cx fm A t v st fun st1 => AEach cx fm A ts vs st1 Q) : AEach cx fm A (t :: ts) (v :: vs) st Q := h
abbrev Row3 := Nat × Nat × List Nat
noncomputable def rowV (r : Row3) : V := .tup [nt r.1, nt r.2.1, .str r.2.2]
noncomputable def growR (r : Row3) : List Row3 := [(r.2.1, r.2.1 * 2 ^^^ r.1, r.2.2 ++ [46]), (r.2.1, (r.2.1 * 2 ^^^ r.1) ^^^ r.2.1, r.2.2 ++ [120])]
noncomputable def rowsK : Nat → List Row3
  | 0 => [(0, 1, [])]
  | k + 1 => (rowsK k).flatMap growR
theorem rowsK_marks : ∀ (k : Nat), ∀ r ∈ rowsK k, r.2.2.length = k
  | 0, r, h => by simp [rowsK] at h; subst h; rfl
  | k + 1, r, h => by
    simp only [rowsK, List.mem_flatMap] at h
    obtain ⟨q, hq, hr⟩ := h
    have := rowsK_marks k q hq
    simp only [growR, List.mem_cons, List.not_mem_nil, or_false] at hr
    rcases hr with rfl | rfl <;> simp [this]
theorem grow_len (l : List Row3) : (l.flatMap growR).length = 2 * l.length := by
  induction l with
  | nil => rfl
  | cons r l ih => simp [List.flatMap_cons, growR, ih]; omega
theorem rowsK_len : ∀ k, (rowsK k).length = 2 ^ k
  | 0 => rfl
  | k + 1 => by rw [rowsK, grow_len, rowsK_len k, Nat.pow_succ, Nat.mul_comm]
noncomputable def pairV (r : Row3) : V := .tup [nt r.2.1, .str r.2.2]
theorem tup_sz (a b c : V) : [a, b, c].length ≤ sizeLine := by rw [sizeLine_eq]; show 3 ≤ _; decide
theorem tup_sz2 (a b : V) : [a, b].length ≤ sizeLine := by rw [sizeLine_eq]; show 2 ≤ _; decide
theorem tup_sz1 (a : V) : [a].length ≤ sizeLine := by rw [sizeLine_eq]; show 1 ≤ _; decide
theorem tup_sz0 : ([] : List V).length ≤ sizeLine := Nat.zero_le _
theorem getD_row {l : List Row3} {i : Nat} (h : i < l.length) : (l.map rowV).getD i .none = rowV l[i] := by simp [List.getD_eq_getElem?_getD, h]
theorem take_grow {l : List Row3} {i : Nat} (h : i < l.length) : (l.take (i + 1)).flatMap growR = (l.take i).flatMap growR ++ growR l[i] := by
  have e : l.take (i + 1) = l.take i ++ [l[i]] := by rw [List.take_add_one, List.getElem?_eq_getElem h]; rfl
  rw [e, List.flatMap_append]
  simp
theorem spec_rows {size n : Nat} {out : List V} (T : Tops cx ad) (room : Room A (n + 1)) (hsz : size ≤ 8)
    (hsort : ∀ (fm : Fm) (A' : Around) (loc : Loc) (ar' : Ar) (l : Addr) (R : V → St → Prop), Room A' n → At l (.list ((rowsK size).map pairV)) ar' → (∀ d, R (.ref d) ⟨loc, (d, .list out) :: ar'⟩) → OpN cx fm A' (fun xs => call (.builtin "sorted") xs) VR [.ref l] ⟨loc, ar'⟩ R)
    (h : ∀ d, Q (.ref d) ((d, .list out) :: ar)) : CallT cx A (.ref (ad 24)) [nt size] ar Q := by
  refine CallT_topE (n := n) (ps := [Str.ofString "size"]) (rest := [Str.ofString "rows", Str.ofString "step", Str.ofString "longer", Str.ofString "before", Str.ofString "front", Str.ofString "marks"]) (gn := [Str.ofString "range", Str.ofString "sorted"]) (gl := [(Str.ofString "range", .val (.type "range")), (Str.ofString "sorted", .val (.builtin "sorted"))]) T (by decide) room (by decide +kernel) rfl rfl (by walk_at "aw fn") (by walk_at "aw gl") ?_
  intro env A' fd room' hD hE
  show EB _ _ _ (_ :: _) ⟨[(Str.ofString "size", some (nt size)), (Str.ofString "rows", none), (Str.ofString "step", none), (Str.ofString "longer", none), (Str.ofString "before", none), (Str.ofString "front", none), (Str.ofString "marks", none)], ar⟩ _
  walk_at "aw"
  refine ⟨tup_sz .., ?_⟩
  walk_at "aw"
  refine ⟨tup_sz1 .., fun l0 => ?_⟩
  walk_at "aw"
  refine r_for1 room'.handled (by repeat (first | exact Has.head | refine Has.tail ?_)) ?_
  walk_at "aw"
  refine ⟨by omega, fun k st => ∃ l u1 u2 u3 u4 u5 ar2, st = ⟨[(Str.ofString "size", some (nt size)), (Str.ofString "rows", some (.ref l)), (Str.ofString "step", u1), (Str.ofString "longer", u2), (Str.ofString "before", u3), (Str.ofString "front", u4), (Str.ofString "marks", u5)], (l, .list ((rowsK k).map rowV)) :: ar2⟩ ∧ ar.Sublist ar2, ⟨l0, _, _, _, _, _, ar, rfl, .refl _⟩, ?_, ?_⟩
  · rintro k st hk ⟨l, u1, u2, u3, u4, u5, ar2, rfl, hsub⟩
    have hlen := rowsK_len k
    have hp : 2 ^ k ≤ 256 := Nat.le_trans (Nat.pow_le_pow_right (by decide) (show k ≤ 8 by omega)) (by decide)
    walk_at "aw"
    refine ⟨tup_sz0, fun l2 => ?_⟩
    walk_at "aw"
    refine r_forL room'.handled ?_
    walk_at "aw"
    refine ⟨fun i st => ∃ u1 u3 u4 u5, st = ⟨[(Str.ofString "size", some (nt size)), (Str.ofString "rows", some (.ref l)), (Str.ofString "step", u1), (Str.ofString "longer", some (.ref l2)), (Str.ofString "before", u3), (Str.ofString "front", u4), (Str.ofString "marks", u5)], (l2, .list ((((rowsK k).take i).flatMap growR).map rowV)) :: (l, .list ((rowsK k).map rowV)) :: ar2⟩, ⟨_, _, _, _, rfl⟩, ?_, ?_, ?_⟩
    · rintro i st ⟨u1, u3, u4, u5, rfl⟩
      exact .tail .head
    · rintro i st hi ⟨u1, u3, u4, u5, rfl⟩
      rw [List.length_map] at hi
      rw [getD_row hi]
      have hmk := rowsK_marks k _ (List.getElem_mem hi)
      have htk := take_grow hi
      have hLn : (((rowsK k).take i).flatMap growR).length ≤ 1000 := by rw [grow_len, List.length_take]; omega
      generalize ((rowsK k).take i).flatMap growR = L at hLn htk ⊢
      generalize (rowsK k)[i] = r at hmk htk ⊢
      obtain ⟨b, f, ms⟩ := r
      have ht2 : L.map rowV ++ [.tup [nt f, nt (f * 2 ^^^ b), .str (ms ++ [46])]] ++ [.tup [nt f, nt (f * 2 ^^^ b ^^^ f), .str (ms ++ [120])]] = (((rowsK k).take (i + 1)).flatMap growR).map rowV := by
        rw [htk, List.map_append]; simp [growR, rowV]
      have hms : ms.length ≤ 100 := by have : ms.length = k := hmk; omega
      refine AS_tup room'.handled rfl (each_cons ?_)
      walk_at "aw"
      refine each_cons ?_
      walk_at "aw"
      refine each_cons ?_
      walk_at "aw"
      refine each_nil ?_
      walk_at "aw"
      refine ⟨tup_sz .., ?_⟩
      walk_at "aw"
      refine ⟨tup_sz .., ?_⟩
      walk_at "aw"
      rw [ht2]
      exact ⟨_, _, _, _, rfl⟩
    · rintro st ⟨u1, u3, u4, u5, rfl⟩
      rw [List.length_map, List.take_length]
      walk_at "aw"
      exact ⟨l2, _, _, _, _, _, _, rfl, .cons _ hsub⟩
  · rintro st ⟨l, u1, u2, u3, u4, u5, ar2, rfl, hsub⟩
    walk_at "aw"
    have hlen := rowsK_len size
    have hp : 2 ^ size ≤ 256 := Nat.le_trans (Nat.pow_le_pow_right (by decide) hsz) (by decide)
    refine r_comp [Str.ofString "before", Str.ofString "front", Str.ofString "marks"] [] [] [] [] [] (by decide +kernel) (hE.globals.trans hD.globals) (hE.builtins.trans hD.builtins) rfl rfl rfl (fun _ h => nomatch h) (fun _ h => nomatch h) (ei_list room'.handled ?_)
    walk_at "aw"
    refine ⟨fun i => some (pairV ((rowsK size).getD i (0, 0, []))), .head, by rw [List.length_map, sizeLine_eq]; omega, fun i env' hi us hus => ?_, fun d => ?_⟩
    · match us, hus with
      | [v1, v2, v3], _ =>
      rw [List.length_map] at hi
      have hget : (rowsK size).getD i (0, 0, []) = (rowsK size)[i] := by simp [List.getD_eq_getElem?_getD, hi]
      dsimp only
      rw [getD_row hi, hget]
      generalize (rowsK size)[i] = r
      obtain ⟨b, f, ms⟩ := r
      show AS _ _ _ _ _ ⟨[(Str.ofString "before", v1), (Str.ofString "front", v2), (Str.ofString "marks", v3)], _⟩ _
      refine AS_tup room'.handled rfl (each_cons ?_)
      walk_at "aw"
      refine each_cons ?_
      walk_at "aw"
      refine each_cons ?_
      walk_at "aw"
      refine each_nil ?_
      walk_at "aw"
      refine ⟨tup_sz2 .., ?_⟩
      exact ⟨rfl, rfl, rfl⟩
    · have ho : outsOf (fun i => some (pairV ((rowsK size).getD i (0, 0, [])))) ((rowsK size).map rowV).length = (rowsK size).map pairV := by
        rw [outs_some, List.length_map]
        apply List.ext_getElem
        · simp
        · intro i h1 h2
          simp at h1
          simp [List.getD_eq_getElem?_getD, h1]
      rw [ho]
      walk_at "aw"
      refine hsort _ _ _ _ d _ room' .head fun d2 => ?_
      walk_at "aw"
      exact Back_ret (.cons_cons _ (.cons _ (.cons _ hsub))) (h d2)
end
end
section
open PySem PySem.W PyProof.Rows PySem.Calls PySem.Spec
set_option maxRecDepth 100000
set_option maxHeartbeats 4000000
/-- the sorting of two items or more: the machine stays as it is -/
noncomputable def SortsTo (M : Model) (A : Around) (h : Heap) (vs : List Value) (out : List Value → Prop) : Prop :=
  ∀ (s : Shared) (E : Value → Shared → Prop) (Q : SortSt → Shared → Prop), (∀ b o, h.get? b = some o → s.heap.get? b = some o) →
    (∀ st' xs, out xs → (arrOf st').map (·.2) = xs.toArray → xs.length = vs.length → failedOf st' = none → Q st' s) →
    wpAny M A (keyKind' vs.toArray) (fun κ s' => wpAny M A ((sortRuns').run (SortSt.mk' κ (vs.toArray.zip vs.toArray) #[] 7 none)) (fun r s'' => Q r.2 s'') E s') E s

section
variable {prog : Program} {w : World} {A : Around} {E : Value → Shared → Prop} {s : Shared}
theorem kept_push {h0 h : Heap} (x : Obj) (k : ∀ b o, h0.get? b = some o → h.get? b = some o) : ∀ b o, h0.get? b = some o → (h.push x).get? b = some o := fun b o e => Heap.get?_push_of_some _ (k b o e)
theorem kept_update {h0 h : Heap} {a : Addr} (f : Obj → Obj) (ha : h0.get? a = none) (k : ∀ b o, h0.get? b = some o → h.get? b = some o) : ∀ b o, h0.get? b = some o → (h.update a f).get? b = some o :=
  fun b o e => (Heap.get?_update_ne _ _ _ _ fun q => by rw [q, ha] at e; cases e).trans (k b o e)
theorem big_enough {n : Nat} (h : n ≤ 1000) : n ≤ sizeLine := by rw [sizeLine_eq]; omega
theorem big_more {n : Nat} (h : n ≤ 1000) : n ≤ sizeLine + 1 := Nat.le_succ_of_le (big_enough h)

theorem list_sort_gen {a : Addr} {vs : List Value} {n : Nat} {P : PySem.Fin → Shared → Prop} {out : List Value → Prop} {h0 : Heap} (ho : s.heap.get? a = some (seqObj "list" vs.toArray n)) (h2 : 2 ≤ vs.length) (hlen : vs.length ≤ 1000)
    (hk : ∀ b o, h0.get? b = some o → s.heap.get? b = some o) (ha0 : h0.get? a = none) (hs : SortsTo (model prog w) A h0 vs out)
    (h : ∀ xs n' h', out xs → xs.length = vs.length → (∀ b o, h0.get? b = some o → h'.get? b = some o) → h'.get? a = some (seqObj "list" xs.toArray n') → P (.done (.ret .none)) { s with heap := h' }) :
    wpAny (model prog w) A (Builtin.«list.sort» ⟨[.ref a], []⟩) P E s := by
  -- the emptied list, and what stands after the two objects that the sort makes
  have at1 := get?_update_seq ho fun _ => #[]
  have at2 := fun x y => Heap.get?_push_of_some y (Heap.get?_push_of_some x at1)
  have k2 := fun x y => kept_push y (kept_push x (kept_update (Obj.mapSeq fun _ => (#[] : Array Value)) ha0 hk))
  rw [list_sort_plain]
  refine wpAny_bind (listItems_at ho rfl (wpAny_bind (listUpdate_at ho rfl (wpAny_bind (seqEpoch_at at1 rfl (wpAny_bind (wpAny_newTuple (wpAny_bind (wpAny_newList (wpAny_holding ?_) (Nat.zero_le _)))
    (big_enough (by simpa using hlen)))))) (big_enough (by simpa using hlen)) (Nat.zero_le _))))
  have at3 := at2 (seqObj "tuple" vs.toArray 0) (seqObj "list" #[] 0)
  have k3 := k2 (seqObj "tuple" vs.toArray 0) (seqObj "list" #[] 0)
  have size2 : ¬ vs.toArray.size < 2 := by simpa using h2
  simp only [size2, if_false]
  refine wpAny_bind (wpAny_mono (hs _ E (fun st' s' => s' = _ ∧ ∃ xs, out xs ∧ (arrOf st').map (·.2) = xs.toArray ∧ xs.length = vs.length ∧ failedOf st' = none) k3 fun st' xs h1 h2 h3 h4 => ⟨rfl, xs, h1, h2, h3, h4⟩) (fun κ s0 hk => wpAny_bind (wpAny_mono hk ?_ fun _ _ e => e)) fun _ _ x => x)
  rintro ⟨⟨⟩, st'⟩ s' ⟨rfl, xs, hx, har, hxl, hf⟩
  dsimp only at har hf ⊢
  rw [har, hf]
  refine wpAny_bind (seqEpoch_at at3 rfl (wpAny_bind (listUpdate_at at3 rfl ?_ (Nat.zero_le _) (big_more (by simpa [hxl] using hlen)))))
  simp only [bne_self_eq_false, Bool.false_eq_true, if_false]
  exact wpAny_pure (h xs _ _ hx hxl (kept_update _ ha0 k3) (get?_update_seq at3 fun _ => xs.toArray))

theorem sorted_gen {l : Addr} {vs : List Value} {Q : Value → Shared → Prop} {out : List Value → Prop} (hl : s.heap.IsList l vs.toArray) (h2 : 2 ≤ vs.length) (hlen : vs.length ≤ 1000) (hs : SortsTo (model prog w) A.in1.in1 s.heap vs out)
    (h : ∀ D xs n h', out xs → xs.length = vs.length → (∀ b o, s.heap.get? b = some o → h'.get? b = some o) → s.heap.get? D = none → h'.get? D = some (seqObj "list" xs.toArray n) → Q (.ref D) { s with heap := h' }) :
    wpAny (model prog w) A (call (.builtin "sorted") [.ref l]) Q E s := by
  have kept : ∀ f x, ∀ b o, s.heap.get? b = some o → ((s.heap.push x).update s.heap.objs.size f).get? b = some o := fun f x => kept_update f (size_none _) (kept_push x fun _ _ e => e)
  have free : ∀ f x, s.heap.get? ((s.heap.push x).update s.heap.objs.size f).objs.size = none := fun f x => Heap.get?_none_of_le (by rw [Heap.size_update, size_push']; exact Nat.le_succ _)
  refine Calls.call_function_entry kind_sorted plain_sorted entry_sorted (args_sorted1 _) ?_
  unfold Builtin.«sorted»
  refine wpAny_bind (m := checkCount "sorted" 1 1 _) (wpAny_pure (wpAny_bind (collect_list hl (wpAny_bind (wpAny_newList ?_ (big_enough (by simpa using hlen)))) (big_enough (by simpa using hlen)))))
  exact wpAny_bind (wpAny_holding (wpAny_call_entry slot_list_sort ⟨_, Heap.get?_push_size _ rfl, rfl⟩ entry_list_sort
    (list_sort_gen (n := 0) (h0 := s.heap) (Heap.get?_push_size _ rfl) h2 hlen (kept_push _ (kept _ _)) (free _ _) hs fun xs n h' c1 c2 c3 c4 => ⟨_, rfl, wpAny_pure ⟨_, rfl, h _ xs n h' c1 c2 c3 (free _ _) c4⟩⟩) (args_list_sort _)))
end

/-! texts -/
noncomputable abbrev mkS (y : List Nat) : Str := ⟨y.toArray⟩
theorem strs_back {h : Heap} : ∀ {xs : List Value} {ss : List Str}, StrsAre xs ss → ∃ zs : List (List Nat), ss = zs.map mkS ∧ VRs h (zs.map V.str) xs
  | _, _, .nil => ⟨[], rfl, .nil⟩
  | _, _, .cons y t r => by
    obtain ⟨zs, h1, h2⟩ := strs_back (h := h) r
    refine ⟨y.cps.toList :: zs, by rw [h1]; rfl, .cons ?_ h2⟩
    have : y = ⟨y.cps.toList.toArray⟩ := by cases y; simp
    exact this ▸ VR.str (y.cps.toList) t
theorem mkS_inj {xs ys : List (List Nat)} (h : (xs.map mkS).Perm (ys.map mkS)) : xs.Perm ys := by
  have := h.map (fun s : Str => s.cps.toList)
  simpa [List.map_map, Function.comp_def] using this
section
variable {cx : Cx} {fm : Fm} {A : Around} {Q : V → St → Prop} {loc : Loc} {ar : Ar}
theorem Rel.made {st : St} {s : Shared} {D : Addr} {x : O} {o : Obj} {h' : Heap} {tk : Nat} (r : Rel cx fm st s) (hk : ∀ c o, s.heap.get? c = some o → h'.get? c = some o) (hn : s.heap.get? D = none) (e : h'.get? D = some o) (q : OR h' x o) :
    Rel cx fm ⟨st.loc, (D, x) :: st.ar⟩ { s with heap := h', toks := tk } ∧ Ext (fm.mt cx) st.ar s.heap ((D, x) :: st.ar) h' := by
  have h1 : D ∉ adr st.ar := fun hm => by
    obtain ⟨p, hp, rfl⟩ := List.mem_map.mp hm
    obtain ⟨o, e, _⟩ := r.h.objs p hp
    rw [hn] at e; cases e
  have h2 : D ∉ cx.tb := fun hm => by
    obtain ⟨⟨ps, e, _⟩, _⟩ := r.h.tabs D hm
    rw [hn] at e; cases e
  have h3 : cx.base.get? D = none := by
    cases q : cx.base.get? D with
    | none => rfl
    | some o => have := r.h.keep _ _ q; rw [hn] at this; cases this
  have h4 : fm.env.locals ≠ D := fun q => by
    have := r.env_some
    rw [q, hn] at this; cases this
  have r2 := r.grow (tk := tk) hk
  refine ⟨⟨r2.h.join e q h1 h2 h3, r2.loc, ⟨fun m => (List.mem_cons.mp m).elim h4 r2.off.1, r2.off.2⟩, r2.fn, r2.cells, r2.globs⟩, ⟨fun b o e _ _ => hk b o e, fun b o e _ => hk b o e, fun a m => ?_, fun b e _ => ?_⟩⟩
  · rcases List.mem_cons.mp m with rfl | m
    · exact .inr ⟨hn, fun m => (List.mem_cons.mp m).elim (fun z => h4 z.symm) h2⟩
    · exact .inl m
  · cases q : s.heap.get? b with
    | none => exact absurd q e
    | some o => rw [hk b o q]; nofun
theorem B_sortedS {l : Addr} {ys : List (List Nat)} (hl : At l (.list (ys.map V.str)) ar) (h64 : ys.length < 64) (h : ∀ d (zs : List (List Nat)), zs.Perm ys → sortedS (zs.map mkS) = true → Q (.ref d) ⟨loc, (d, .list (zs.map V.str)) :: ar⟩) :
    OpN cx fm A (fun xs => call (.builtin "sorted") xs) VR [.ref l] ⟨loc, ar⟩ Q := fun s xs Qr Er r rx k => by
  cases rx with
  | cons ra rx =>
    cases ra
    cases rx
    obtain ⟨items, n, e, q⟩ := r.h.list hl
    have hlen := q.length
    refine sorted_strs (isList_of e) (by simpa using q.strs) (by rw [← hlen, List.length_map]; exact h64) fun out ss' a1 a2 a3 => ?_
    obtain ⟨e2, he⟩ := sortedAll_at s.heap items out
    have hk : ∀ c o, s.heap.get? c = some o → (sortedAll s.heap items out).get? c = some o := fun _ _ => sortedAll_old
    obtain ⟨zs, rfl, hz⟩ := strs_back (h := sortedAll s.heap items out) a1
    have hn : s.heap.get? (s.heap.objs.size + 1) = none := by
      cases q : s.heap.get? (s.heap.objs.size + 1) with
      | none => rfl
      | some o => exact absurd (Heap.lt_size q) (Nat.not_lt.mpr (Nat.le_succ _))
    have he2 : (sortedAll s.heap items out).get? (s.heap.objs.size + 1) = some { cls := .type "list", data := .seq out.toList.toArray e2 } := by rw [Array.toArray_toList]; exact he
    obtain ⟨r2, x2⟩ := r.made (tk := s.toks) (x := .list (zs.map V.str)) hk hn he2 (.list hz)
    exact k _ _ _ _ (h _ zs (mkS_inj a2) a3) r2 (.ref _) x2
end
end
section
open PySem PySem.W PyProof.Rows PySem.Calls PySem.Spec
set_option maxRecDepth 100000
set_option maxHeartbeats 4000000
/-! the sorting of tuples (int, text) -/
abbrev Key2 := Nat × List Nat
noncomputable def pV (k : Key2) : V := .tup [nt k.1, .str k.2]
noncomputable def cmpB (a b : Key2) : Bool := if a.1 = b.1 then (if a.2 = b.2 then false else decide (a.2 < b.2)) else decide (a.1 < b.1)
section
variable {prog : Program} {w : World} {A : Around} {E : Value → Shared → Prop} {s : Shared}
theorem cmp_rows {x y : Value} {a b : Key2} {Q : Bool → Shared → Prop} (rx : VR s.heap (pV a) x) (ry : VR s.heap (pV b) y) (h : Q (cmpB a b) s) : wpAny (model prog w) A (keyLt' (tuples' true) x y) Q E s := by
  obtain ⟨f, m⟩ := a
  obtain ⟨g, k⟩ := b
  cases rx with
  | @tup ax nx _ xs ex qx =>
    cases ry with
    | @tup ay ny _ ys ey qy =>
      cases qx with
      | cons q1 qx =>
        cases q1
        cases qx with
        | cons q2 qx =>
          cases q2
          cases qx
          cases qy with
          | cons p1 qy =>
            cases p1
            cases qy with
            | cons p2 qy =>
              cases p2
              cases qy
              refine kat_lt ex rfl ey rfl ?_
              simp only [List.zip_cons_cons, List.zip_nil_right]
              refine kat_cons (wpAny_eqBool_int ?_)
              unfold cmpB at h
              by_cases e1 : f = g
              · subst e1
                rw [if_pos rfl] at h
                rw [show ((f : Int) == (f : Int)) = true from beq_self_eq_true _]
                refine kat_yes (kat_cons (eqBool_str ?_))
                by_cases e2 : m = k
                · subst e2
                  rw [if_pos rfl] at h
                  rw [show ((⟨m.toArray⟩ : Str) == ⟨m.toArray⟩) = true from beq_self_eq_true _]
                  exact kat_yes (kat_nil h)
                · rw [if_neg e2] at h
                  rw [show ((⟨m.toArray⟩ : Str) == ⟨k.toArray⟩) = false from by rw [beq_eq_false_iff_ne]; intro q; exact e2 (by simpa using q)]
                  refine kat_no (kat_one _ _ (PyProof.Rows.lt_str ?_))
                  show Q _ s
                  simpa using h
              · rw [if_neg e1] at h
                rw [show ((f : Int) == (g : Int)) = false from by rw [beq_eq_false_iff_ne]; omega]
                refine kat_no (oneLt_int ?_)
                have e : decide ((f : Int) < (g : Int)) = decide (f < g) := by rw [Bool.eq_iff_iff, decide_eq_true_iff, decide_eq_true_iff]; omega
                rw [e]; exact h

theorem tups_of {h : Heap} : ∀ {ks : List Key2} {vs : List Value}, VRs h (ks.map pV) vs → ∃ fs, KatTups h vs fs ∧ fs.length = ks.length ∧ ∀ v ∈ fs, ∃ i t, v = Value.int i t
  | [], _, r => by cases r; exact ⟨[], .nil, rfl, fun _ h => nomatch h⟩
  | k :: ks, _, r => by
    cases r with
    | cons a r =>
      obtain ⟨fs, h1, h2, h3⟩ := tups_of r
      cases a with
      | @tup ax nx _ xs ex qx =>
        cases qx with
        | cons q1 qx =>
          cases q1
          rename_i t
          exact ⟨.int (k.1 : Int) t :: fs, .cons ex rfl rfl (by simp) h1, by simp [h2], fun v hv => (List.mem_cons.mp hv).elim (fun e => ⟨_, _, e⟩) (h3 v)⟩
theorem kind_rows {ks : List Key2} {vs : List Value} {Q : SortKind → Shared → Prop} (r : VRs s.heap (ks.map pV) vs) (hne : 0 < ks.length) (h : Q (tuples' true) s) : wpAny (model prog w) A (keyKind' vs.toArray) Q E s := by
  obtain ⟨fs, h1, h2, h3⟩ := tups_of r
  refine kat_kind (T := .type "int") h1 (by omega) (fun v hv => ?_) (by decide) h
  obtain ⟨i, t, rfl⟩ := h3 v hv
  exact Looks.now
end
end
section
open PySem PySem.W PyProof.Rows PySem.Calls PySem.Spec
set_option maxRecDepth 100000
set_option maxHeartbeats 4000000
noncomputable def runK {α : Type} (n : Nat) (cmp : Nat → Nat → Bool) : KasT α → Option α
  | .ret a => some a
  | .ask i j k => if i < n ∧ j < n then runK n cmp (k (cmp i j)) else none
theorem runK_wp {α : Type} {n : Nat} {cmp : Nat → Nat → Bool} {W : Nat → Nat → (Bool → Shared → Prop) → Shared → Prop} {Q : α → Shared → Prop} {s : Shared} (hW : ∀ i j C, i < n → j < n → C (cmp i j) s → W i j C s) :
    ∀ (t : KasT α) {a : α}, runK n cmp t = some a → Q a s → t.kasWp W Q s
  | .ret b, a, e, q => by
    cases e
    exact q
  | .ask i j k, a, e, q => by
    unfold runK at e
    split at e
    · rename_i h
      exact hW i j _ h.1 h.2 (runK_wp hW (k (cmp i j)) e q)
    · cases e

theorem sorts_small {prog : Program} {w : World} {A : Around} {h0 : Heap} {ks : List Key2} {vs : List Value} {p : Array Nat} (r : VRs h0 (ks.map pV) vs) (h2 : 2 ≤ ks.length) (h64 : ks.length < 64)
    (hrun : runK ks.length (fun i j => cmpB (ks.getD i (0, [])) (ks.getD j (0, []))) (kas_sort ks.length) = some p) (hp : p.toList.all (· < ks.length) = true) :
    SortsTo (model prog w) A h0 vs (fun xs => VRs h0 ((p.toList.map fun i => ks.getD i (0, [])).map pV) xs) := by
  intro s E Q hk fin
  have hlen : vs.length = ks.length := by rw [← r.length, List.length_map]
  have r' : VRs s.heap (ks.map pV) vs := r.mono fun a o e _ => hk a o e
  have at' : ∀ (h : Heap), VRs h (ks.map pV) vs → ∀ i, i < ks.length → VR h (pV (ks.getD i (0, []))) (vs.getD i Value.none) := fun h rr i hi => by
    have e1 : (ks.map pV)[i]? = some (pV (ks.getD i (0, []))) := by simp [List.getD_eq_getElem?_getD, hi]
    obtain ⟨x, ex, rx⟩ := rr.get e1
    have e2 : vs.getD i Value.none = x := by simp [List.getD_eq_getElem?_getD, ex]
    rw [e2]; exact rx
  refine kind_rows r' (by omega) ?_
  refine kat_run (κ := tuples' true) (ks := vs) (vs := vs) (Q := Q) (G := fun q s' => s' = s ∧ q = p) rfl (by omega) (by omega) (fun q st' s' a1 a2 a3 a4 => ?_) ?_
  · obtain ⟨rfl, rfl⟩ := a4
    refine fin st' (q.toList.map fun i => vs.getD i Value.none) ?_ (kat_snds rfl a2) (by rw [List.length_map, Array.length_toList, a1]) a3
    have : ∀ l : List Nat, (∀ i ∈ l, i < ks.length) → VRs h0 ((l.map fun i => ks.getD i (0, [])).map pV) (l.map fun i => vs.getD i Value.none) := by
      intro l
      induction l with
      | nil => intro _; exact .nil
      | cons i l ih => intro hl; exact .cons (at' h0 r i (hl i (.head _))) (ih fun j hj => hl j (.tail _ hj))
    exact this _ fun i hi => by have := List.all_eq_true.mp hp i hi; simpa using this
  · rw [hlen]
    refine runK_wp (n := ks.length) (cmp := fun i j => cmpB (ks.getD i (0, [])) (ks.getD j (0, []))) (fun i j C hi hj hC => ?_) _ hrun ⟨rfl, rfl⟩
    exact cmp_rows (at' _ r' i hi) (at' _ r' j hj) hC
end
section
open PySem PySem.W PyProof.Rows PySem.Calls PySem.Spec
set_option maxRecDepth 100000
set_option maxHeartbeats 4000000
/-! the long sorting, with a pure order on places -/
noncomputable abbrev rho (κ : SortKind) (it : Nat → Keyed) (p : Array Nat) (pend : Array (Nat × Nat × Nat)) (g : Nat) : SortSt := SortSt.mk' κ (p.map it) pend g none
/-- the order is that of the machine -/
structure Ord (M : Model) (A : Around) (E : Value → Shared → Prop) (s : Shared) (κ : SortKind) (it : Nat → Keyed) (n : Nat) (c : Nat → Nat → Bool) : Prop where
  lt : ∀ i j (Q : Bool → Shared → Prop), i < n → j < n → Q (c i j) s → wpAny M A (keyLt' κ (it i).1 (it j).1) Q (fun _ _ => False) s
abbrev InR (n : Nat) (p : Array Nat) : Prop := ∀ i, i < p.size → p.getD i 0 < n
section
variable {M : Model} {A : Around} {E : Value → Shared → Prop} {s : Shared} {κ : SortKind} {it : Nat → Keyed} {n : Nat} {c : Nat → Nat → Bool} {p : Array Nat} {pend : Array (Nat × Nat × Nat)} {g : Nat}
theorem S_rule {r : String} {σ : Type} {Q : PUnit → σ → Prop} {st : σ} (h : Q ⟨⟩ st) : wpS M A E s (liftM (rule r) : StateT σ Sem Unit) Q st :=
  wpS_lift (wpAny_rule ⟨rfl, h⟩)
theorem S_lt {i j : Nat} {st : SortSt} {Q : Option Bool → SortSt → Prop} (O : Ord M A E s κ it n c) (hk : kindOf st = κ) (hi : i < n) (hj : j < n) (h : Q (some (c i j)) st) : wpS M A E s (lt' (it i) (it j)) Q st := by
  rw [lt'_eq]
  refine wpS_bind (wpS_get ?_)
  refine wpS_bind (wpS_lift (wpAny_attempt (wpAny_mono (Q := fun b s' => s' = s ∧ b = c i j) (O.lt i j _ hi hj ⟨rfl, rfl⟩ |> fun h => hk ▸ h) ?_ fun _ _ hF => hF.elim)))
  rintro b s' ⟨rfl, rfl⟩
  exact ⟨rfl, wpS_pure h⟩
theorem S_elem {i : Nat} {p : Array Nat} {st : SortSt} {Q : Keyed → SortSt → Prop} (hi : i < p.size) (h : Q (it (p.getD i 0)) st) : wpS M A E s (elem' (p.map it) i) Q st := by
  rw [elem'_eq]
  have e : (p.map it)[i]? = some (it (p.getD i 0)) := by simp [hi, Array.getD]
  rw [e]
  exact wpS_pure h
/-- one pure turn after the other -/
noncomputable def iterO {γ : Type} (t : Nat → γ → Array Nat → Option (ForInStep γ × Array Nat)) : List Nat → γ → Array Nat → Option (γ × Array Nat)
  | [], c, p => some (c, p)
  | x :: l, c, p => match t x c p with
    | none => none
    | some (.done c', p') => some (c', p')
    | some (.yield c', p') => iterO t l c' p'
theorem S_forL {γ β : Type} {e : γ → β} {t : Nat → γ → Array Nat → Option (ForInStep γ × Array Nat)} {f : Nat → β → StateT SortSt Sem (ForInStep β)}
    (hs : ∀ x c p r p' (Q : ForInStep β → SortSt → Prop), t x c p = some (r, p') → (match r with | .done c' => Q (.done (e c')) (rho κ it p' pend g) | .yield c' => Q (.yield (e c')) (rho κ it p' pend g)) → wpS M A E s (f x (e c)) Q (rho κ it p pend g)) :
    ∀ (l : List Nat) (c : γ) (p : Array Nat) {c' : γ} {p' : Array Nat} {Q : β → SortSt → Prop}, iterO t l c p = some (c', p') → Q (e c') (rho κ it p' pend g) → wpS M A E s (forIn l (e c) f) Q (rho κ it p pend g)
  | [], c, p, c', p', Q, h, q => by
    cases h
    rw [List.forIn_nil]; exact wpS_pure q
  | x :: l, c, p, c', p', Q, h, q => by
    rw [List.forIn_cons]
    unfold iterO at h
    refine wpS_bind ?_
    cases e1 : t x c p with
    | none => rw [e1] at h; cases h
    | some v =>
      obtain ⟨r, p1⟩ := v
      rw [e1] at h
      cases r with
      | done c1 =>
        cases h
        exact hs x c p _ p' _ e1 (wpS_pure q)
      | yield c1 => exact hs x c p _ p1 _ e1 (S_forL hs l c1 p1 h q)
theorem S_range {γ β : Type} {a b : Nat} {e : γ → β} {t : Nat → γ → Array Nat → Option (ForInStep γ × Array Nat)} {f : Nat → β → StateT SortSt Sem (ForInStep β)} {c0 : β} {c : γ} {p : Array Nat} {c' : γ} {p' : Array Nat} {Q : β → SortSt → Prop}
    (h : iterO t (List.range' a (b - a)) c p = some (c', p')) (hc : c0 = e c)
    (hs : ∀ x c p r p' (Q : ForInStep β → SortSt → Prop), t x c p = some (r, p') → (match r with | .done c' => Q (.done (e c')) (rho κ it p' pend g) | .yield c' => Q (.yield (e c')) (rho κ it p' pend g)) → wpS M A E s (f x (e c)) Q (rho κ it p pend g))
    (q : Q (e c') (rho κ it p' pend g)) : wpS M A E s (forIn [a:b] c0 f) Q (rho κ it p pend g) := by
  subst hc
  rw [Std.Legacy.Range.forIn_eq_forIn_range']
  have hsz : ([a:b] : Std.Legacy.Range).size = b - a := by simp [Std.Legacy.Range.size]
  show wpS M A E s (forIn (List.range' a ([a:b] : Std.Legacy.Range).size 1) (e c) f) Q _
  rw [hsz]
  exact S_forL hs _ _ _ h q

/-- a comparison within bounds -/
noncomputable def ltO (n : Nat) (c : Nat → Nat → Bool) (p : Array Nat) (i j : Nat) : Option Bool :=
  if i < p.size ∧ j < p.size ∧ p.getD i 0 < n ∧ p.getD j 0 < n then some (c (p.getD i 0) (p.getD j 0)) else none
theorem S_ltO {i j : Nat} {b : Bool} {Q : Option Bool → SortSt → Prop} (O : Ord M A E s κ it n c) (h : ltO n c p i j = some b) (q : Q (some b) (rho κ it p pend g)) : wpS M A E s (ltAt' i j) Q (rho κ it p pend g) := by
  unfold ltO at h
  split at h
  · rename_i hh
    cases h
    rw [ltAt'_eq]
    refine wpS_bind (wpS_get ?_)
    exact wpS_bind (S_elem hh.1 (wpS_bind (S_elem hh.2.1 (S_lt O rfl hh.2.2.1 hh.2.2.2 q))))
  · cases h
theorem S_rev {i j : Nat} {Q : Unit → SortSt → Prop} (h : Q () (rho κ it (kas_rev p i j) pend g)) : wpS M A E s (reverseSlice' i j) Q (rho κ it p pend g) := by
  rw [reverseSlice'_eq]
  refine wpS_modify ?_
  have e1 : mirror (p.map it) i j ((j - i) / 2) = (mirror p i j ((j - i) / 2)).map it := kas_swaps_map it (fun k => i + k) (fun k => j - 1 - k) _ p
  have e : setArr (rho κ it p pend g) (mirror (arrOf (rho κ it p pend g)) i j ((j - i) / 2)) = rho κ it (kas_rev p i j) pend g := by
    show SortSt.mk' κ (mirror (p.map it) i j ((j - i) / 2)) pend g none = SortSt.mk' κ ((mirror p i j ((j - i) / 2)).map it) pend g none
    rw [e1]
  rw [e]
  exact h
theorem S_move {k l : Nat} {Q : Unit → SortSt → Prop} (h : Q () (rho κ it (bubble p k (k - l)) pend g)) : wpS M A E s (moveDown' k l) Q (rho κ it p pend g) := by
  rw [moveDown'_eq]
  refine wpS_modify ?_
  have e1 : bubble (p.map it) k (k - l) = (bubble p k (k - l)).map it := kas_swaps_map it (fun i => k - i) (fun i => k - i - 1) _ p
  have e : setArr (rho κ it p pend g) (bubble (arrOf (rho κ it p pend g)) k (k - l)) = rho κ it (bubble p k (k - l)) pend g := by
    show SortSt.mk' κ (bubble (p.map it) k (k - l)) pend g none = SortSt.mk' κ ((bubble p k (k - l)).map it) pend g none
    rw [e1]
  rw [e]
  exact h

/-! binary insertion -/
noncomputable def placeT (n : Nat) (c : Nat → Nat → Bool) (lo k : Nat) (_ : Nat) (v : Nat × Nat) (p : Array Nat) : Option (ForInStep (Nat × Nat) × Array Nat) :=
  if v.1 ≥ v.2 then some (.done v, p) else
    match ltO n c p (lo + k) (lo + (v.1 + v.2) / 2) with
    | none => none
    | some true => some (.yield (v.1, (v.1 + v.2) / 2), p)
    | some false => some (.yield ((v.1 + v.2) / 2 + 1, v.2), p)
noncomputable def binT (n : Nat) (c : Nat → Nat → Bool) (lo k : Nat) (_ : Unit) (p : Array Nat) : Option (ForInStep Unit × Array Nat) :=
  match iterO (placeT n c lo k) (List.range' 0 (k - 0)) (0, k) p with
  | none => none
  | some (v, p') => some (.yield (), bubble p' (lo + k) (lo + k - (lo + v.1)))
noncomputable def binO (n : Nat) (c : Nat → Nat → Bool) (lo m ok : Nat) (p : Array Nat) : Option (Array Nat) :=
  (iterO (binT n c lo) (List.range' (max ok 1) (m - max ok 1)) () p).map (·.2)
theorem S_bin {lo m ok : Nat} {p' : Array Nat} {Q : Bool → SortSt → Prop} (O : Ord M A E s κ it n c) (h : binO n c lo m ok p = some p') (q : Q true (rho κ it p' pend g)) : wpS M A E s (binarySort' lo m ok) Q (rho κ it p pend g) := by
  rw [binarySort'_eq]
  unfold binO at h
  cases e1 : iterO (binT n c lo) (List.range' (max ok 1) (m - max ok 1)) () p with
  | none => rw [e1] at h; cases h
  | some v =>
    obtain ⟨u, p1⟩ := v
    rw [e1] at h
    cases h
    refine wpS_bind (S_range (e := fun _ : Unit => (none, ())) e1 rfl (fun k _ p r p' Q ht hQ => ?_) (wpS_pure q))
    unfold binT at ht
    cases e2 : iterO (placeT n c lo k) (List.range' 0 (k - 0)) (0, k) p with
    | none => rw [e2] at ht; cases ht
    | some v =>
      obtain ⟨v, p2⟩ := v
      rw [e2] at ht
      cases ht
      refine wpS_bind (S_range (e := fun v : Nat × Nat => (none, v.1, v.2)) e2 rfl (fun x v p r p' Q ht hQ => ?_) ?_)
      · unfold placeT at ht
        dsimp only
        by_cases hge : v.1 ≥ v.2
        · rw [if_pos hge] at ht ⊢
          cases ht
          exact wpS_pure hQ
        · rw [if_neg hge] at ht ⊢
          cases e3 : ltO n c p (lo + k) (lo + (v.1 + v.2) / 2) with
          | none => rw [e3] at ht; cases ht
          | some b =>
            rw [e3] at ht
            refine wpS_bind (S_ltO O e3 ?_)
            cases b <;> cases ht <;> exact wpS_pure hQ
      · dsimp only
        exact wpS_bind (S_move (wpS_pure hQ))
end
end
section
open PySem PySem.W PyProof.Rows PySem.Calls PySem.Spec
set_option maxRecDepth 100000
set_option maxHeartbeats 4000000
section
variable {M : Model} {A : Around} {E : Value → Shared → Prop} {s : Shared} {κ : SortKind} {it : Nat → Keyed} {n : Nat} {c : Nat → Nat → Bool} {p : Array Nat} {pend : Array (Nat × Nat × Nat)} {g : Nat}
noncomputable def ascT (n : Nat) (c : Nat → Nat → Bool) (lo : Nat) (_ : Nat) (m : Nat) (p : Array Nat) : Option (ForInStep Nat × Array Nat) :=
  match ltO n c p (lo + m) (lo + m - 1) with
  | none => none
  | some true => some (.done m, p)
  | some false => some (.yield (m + 1), p)
noncomputable def descT (n : Nat) (c : Nat → Nat → Bool) (lo : Nat) (_ : Nat) (v : Nat × Nat) (p : Array Nat) : Option (ForInStep (Nat × Nat) × Array Nat) :=
  match ltO n c p (lo + v.1) (lo + v.1 - 1) with
  | none => none
  | some true => some (.yield (v.1 + 1, 0), if v.2 > 0 then kas_rev p (lo + v.1 - (v.2 + 1)) (lo + v.1) else p)
  | some false => match ltO n c p (lo + v.1 - 1) (lo + v.1) with
    | none => none
    | some true => some (.done v, p)
    | some false => some (.yield (v.1 + 1, v.2 + 1), p)
noncomputable def tailO (n : Nat) (c : Nat → Nat → Bool) (lo nrem m : Nat) (p : Array Nat) : Option (Nat × Array Nat) :=
  iterO (ascT n c lo) (List.range' m (nrem - m)) m (kas_rev p lo (lo + m))
noncomputable def descO (n : Nat) (c : Nat → Nat → Bool) (lo nrem m : Nat) (p : Array Nat) : Option (Nat × Array Nat) :=
  match iterO (descT n c lo) (List.range' (m + 1) (nrem - (m + 1))) (m + 1, 0) p with
  | none => none
  | some (v, p) => tailO n c lo nrem v.1 (if v.2 > 0 then kas_rev p (lo + v.1 - (v.2 + 1)) (lo + v.1) else p)
noncomputable def countO (n : Nat) (c : Nat → Nat → Bool) (lo nrem : Nat) (p : Array Nat) : Option (Nat × Array Nat) :=
  match iterO (ascT n c lo) (List.range' 1 (nrem - 1)) 1 p with
  | none => none
  | some (m, p) => if (m == nrem) = true then some (m, p) else
    if m > 1 then match ltO n c p lo (lo + m - 1) with
      | none => none
      | some true => some (m, p)
      | some false => none
    else descO n c lo nrem m p

theorem S_count {lo nrem m' : Nat} {p' : Array Nat} {Q : Option Nat → SortSt → Prop} (O : Ord M A E s κ it n c) (h : countO n c lo nrem p = some (m', p')) (q : Q (some m') (rho κ it p' pend g)) : wpS M A E s (countRun' lo nrem) Q (rho κ it p pend g) := by
  rw [countRun'_eq]
  unfold countO at h
  cases e1 : iterO (ascT n c lo) (List.range' 1 (nrem - 1)) 1 p with
  | none => rw [e1] at h; cases h
  | some v =>
    obtain ⟨m, p1⟩ := v
    rw [e1] at h
    refine wpS_bind (S_range (e := fun m : Nat => (none, m)) e1 rfl (fun x m p r p' Q ht hQ => ?_) ?_)
    · unfold ascT at ht
      dsimp only at ht ⊢
      cases e9 : ltO n c p (lo + m) (lo + m - 1) with
      | none => rw [e9] at ht; cases ht
      | some b =>
        rw [e9] at ht
        refine wpS_bind (S_ltO O e9 ?_)
        cases b <;> cases ht <;> exact wpS_pure hQ
    dsimp only at h ⊢
    split at h
    · rename_i hm
      rw [if_pos hm]
      cases h
      exact wpS_pure q
    · rename_i hm
      rw [if_neg hm]
      split at h
      · rename_i h1
        rw [if_pos h1]
        cases e2 : ltO n c p1 lo (lo + m - 1) with
        | none => rw [e2] at h; cases h
        | some b =>
          rw [e2] at h
          refine wpS_bind (S_ltO O e2 ?_)
          cases b with
          | true =>
            cases h
            exact wpS_pure q
          | false => cases h
      · rename_i h1
        rw [if_neg h1]
        refine wpS_bind (S_rule ?_)
        unfold descO at h
        cases e3 : iterO (descT n c lo) (List.range' (m + 1) (nrem - (m + 1))) (m + 1, 0) p1 with
        | none => rw [e3] at h; cases h
        | some v =>
          obtain ⟨⟨m2, q2⟩, p2⟩ := v
          rw [e3] at h
          refine wpS_bind (S_range (e := fun v : Nat × Nat => (none, v)) e3 rfl (fun x v p r p' Q ht hQ => ?_) ?_)
          · unfold descT at ht
            dsimp only at ht ⊢
            cases e3 : ltO n c p (lo + v.1) (lo + v.1 - 1) with
            | none => rw [e3] at ht; cases ht
            | some b =>
              rw [e3] at ht
              refine wpS_bind (S_ltO O e3 ?_)
              cases b with
              | true =>
                cases ht
                dsimp only
                rw [if_pos rfl]
                split
                · rename_i hv
                  rw [if_pos hv] at hQ
                  exact wpS_bind (S_rev (wpS_pure hQ))
                · rename_i hv
                  rw [if_neg hv] at hQ
                  exact wpS_pure hQ
              | false =>
                dsimp only at ht ⊢
                rw [if_neg (by nofun)]
                cases e4 : ltO n c p (lo + v.1 - 1) (lo + v.1) with
                | none => rw [e4] at ht; cases ht
                | some b =>
                  rw [e4] at ht
                  refine wpS_bind (S_ltO O e4 ?_)
                  cases b <;> cases ht <;> exact wpS_pure hQ
          · dsimp only at h ⊢
            unfold tailO at h
            split
            · rename_i hv
              rw [if_pos hv] at h
              refine wpS_bind (S_rev (wpS_bind (S_rev (wpS_bind (S_range (e := fun m : Nat => (none, m)) h rfl (fun x m p r p' Q ht hQ => ?_) ?_)))))
              · unfold ascT at ht
                dsimp only at ht ⊢
                cases e9 : ltO n c p (lo + m) (lo + m - 1) with
                | none => rw [e9] at ht; cases ht
                | some b =>
                  rw [e9] at ht
                  refine wpS_bind (S_ltO O e9 ?_)
                  cases b <;> cases ht <;> exact wpS_pure hQ
              · exact wpS_pure q
            · rename_i hv
              rw [if_neg hv] at h
              refine wpS_bind (S_rev (wpS_bind (S_range (e := fun m : Nat => (none, m)) h rfl (fun x m p r p' Q ht hQ => ?_) ?_)))
              · unfold ascT at ht
                dsimp only at ht ⊢
                cases e9 : ltO n c p (lo + m) (lo + m - 1) with
                | none => rw [e9] at ht; cases ht
                | some b =>
                  rw [e9] at ht
                  refine wpS_bind (S_ltO O e9 ?_)
                  cases b <;> cases ht <;> exact wpS_pure hQ
              · exact wpS_pure q
end
end
section
open PySem PySem.W PyProof.Rows PySem.Calls PySem.Spec
set_option maxRecDepth 100000
set_option maxHeartbeats 4000000
section
variable {M : Model} {A : Around} {E : Value → Shared → Prop} {s : Shared} {κ : SortKind} {it : Nat → Keyed} {n : Nat} {c : Nat → Nat → Bool} {p : Array Nat} {pend : Array (Nat × Nat × Nat)} {g : Nat}
noncomputable def gallop' : Bool → Keyed → Array Keyed → Nat → Nat → Nat → StateT SortSt Sem (Option Nat) := sortPriv% PySem.Builtin.gallop
/-- is the key beyond the i-th? -/
noncomputable def beyO (n : Nat) (c : Nat → Nat → Bool) (left : Bool) (k : Nat) (p : Array Nat) (i : Nat) : Option Bool :=
  if i < p.size ∧ p.getD i 0 < n ∧ k < n then some (if left = true then c (p.getD i 0) k else !c k (p.getD i 0)) else none

noncomputable def upT (n : Nat) (c : Nat → Nat → Bool) (left : Bool) (k : Nat) (q : Array Nat) (base hint mx : Nat) (_ : Nat) (v : Nat × Nat) (p : Array Nat) : Option (ForInStep (Nat × Nat) × Array Nat) :=
  if v.2 ≥ mx then some (.done v, p) else
    match beyO n c left k q (base + (hint + v.2)) with
    | none => none
    | some true => some (.yield (v.2, 2 * v.2 + 1), p)
    | some false => some (.done v, p)
noncomputable def midT (n : Nat) (c : Nat → Nat → Bool) (left : Bool) (k : Nat) (q : Array Nat) (base : Nat) (_ : Nat) (v : Nat × Nat) (p : Array Nat) : Option (ForInStep (Nat × Nat) × Array Nat) :=
  if v.1 ≥ v.2 then some (.done v, p) else
    match beyO n c left k q (base + (v.1 + (v.2 - v.1) / 2)) with
    | none => none
    | some true => some (.yield (v.1 + (v.2 - v.1) / 2 + 1, v.2), p)
    | some false => some (.yield (v.1, v.1 + (v.2 - v.1) / 2), p)
/-- the gallop that begins upwards -/
noncomputable def gallopO (n : Nat) (c : Nat → Nat → Bool) (left : Bool) (k : Nat) (q : Array Nat) (base m hint : Nat) (p : Array Nat) : Option (Nat × Array Nat) :=
  match beyO n c left k q (base + hint) with
  | none => none
  | some false => none
  | some true => match iterO (upT n c left k q base hint (m - hint)) (List.range' 0 (m - 0)) (0, 1) p with
    | none => none
    | some (v, p) => match iterO (midT n c left k q base) (List.range' 0 (m - 0)) (hint + v.1 + 1, hint + min v.2 (m - hint)) p with
      | none => none
      | some (v, p) => some (v.2, p)

theorem S_gallop {left : Bool} {k : Nat} {q : Array Nat} {base m hint r : Nat} {p' : Array Nat} {Q : Option Nat → SortSt → Prop} (O : Ord M A E s κ it n c) (h : gallopO n c left k q base m hint p = some (r, p')) (hQ : Q (some r) (rho κ it p' pend g)) :
    wpS M A E s (gallop' left (it k) (q.map it) base m hint) Q (rho κ it p pend g) := by
  unfold gallopO at h
  cases e1 : beyO n c left k q (base + hint) with
  | none => rw [e1] at h; cases h
  | some b =>
    rw [e1] at h
    refine wpS_bind (wpS_mono (Q := fun r st => r = some b ∧ st = rho κ it p pend g) ?_ ?_)
    · clear h
      unfold beyO at e1
      split at e1
      · rename_i hh
        cases e1
        refine wpS_bind (S_elem hh.1 ?_)
        cases left with
        | true => exact S_lt O rfl hh.2.1 hh.2.2 ⟨rfl, rfl⟩
        | false => exact wpS_bind (S_lt O rfl hh.2.2 hh.2.1 (wpS_pure ⟨rfl, rfl⟩))
      · cases e1
    rintro _ _ ⟨rfl, rfl⟩
    cases b with
    | false => cases h
    | true =>
      dsimp only at h ⊢
      rw [if_pos rfl]
      cases e2 : iterO (upT n c left k q base hint (m - hint)) (List.range' 0 (m - 0)) (0, 1) p with
      | none => rw [e2] at h; cases h
      | some v =>
        obtain ⟨v, p1⟩ := v
        rw [e2] at h
        dsimp only at h
        refine wpS_bind (S_range (e := fun v : Nat × Nat => (none, v)) e2 rfl (fun x v p r p' Q ht hQ => ?_) ?_)
        · unfold upT at ht
          dsimp only at ht ⊢
          by_cases hge : v.2 ≥ m - hint
          · rw [if_pos hge] at ht ⊢
            cases ht
            exact wpS_pure hQ
          · rw [if_neg hge] at ht ⊢
            cases e1 : beyO n c left k q (base + (hint + v.2)) with
            | none => rw [e1] at ht; cases ht
            | some b =>
              rw [e1] at ht
              refine wpS_bind (wpS_mono (Q := fun r st => r = some b ∧ st = rho κ it p pend g) ?_ ?_)
              · skip
                unfold beyO at e1
                split at e1
                · rename_i hh
                  cases e1
                  refine wpS_bind (S_elem hh.1 ?_)
                  cases left with
                  | true => exact S_lt O rfl hh.2.1 hh.2.2 ⟨rfl, rfl⟩
                  | false => exact wpS_bind (S_lt O rfl hh.2.2 hh.2.1 (wpS_pure ⟨rfl, rfl⟩))
                · cases e1
              rintro _ _ ⟨rfl, rfl⟩
              cases b <;> cases ht <;> exact wpS_pure hQ
        · dsimp only
          cases e3 : iterO (midT n c left k q base) (List.range' 0 (m - 0)) (hint + v.1 + 1, hint + min v.2 (m - hint)) p1 with
          | none => rw [e3] at h; cases h
          | some w =>
            obtain ⟨w, p2⟩ := w
            rw [e3] at h
            cases h
            refine wpS_bind (S_range (e := fun v : Nat × Nat => (none, v)) e3 rfl (fun x v p r p' Q ht hQ => ?_) ?_)
            · unfold midT at ht
              dsimp only at ht ⊢
              by_cases hge : v.1 ≥ v.2
              · rw [if_pos hge] at ht ⊢
                cases ht
                exact wpS_pure hQ
              · rw [if_neg hge] at ht ⊢
                cases e1 : beyO n c left k q (base + (v.1 + (v.2 - v.1) / 2)) with
                | none => rw [e1] at ht; cases ht
                | some b =>
                  rw [e1] at ht
                  refine wpS_bind (wpS_mono (Q := fun r st => r = some b ∧ st = rho κ it p pend g) ?_ ?_)
                  · skip
                    unfold beyO at e1
                    split at e1
                    · rename_i hh
                      cases e1
                      refine wpS_bind (S_elem hh.1 ?_)
                      cases left with
                      | true => exact S_lt O rfl hh.2.1 hh.2.2 ⟨rfl, rfl⟩
                      | false => exact wpS_bind (S_lt O rfl hh.2.2 hh.2.1 (wpS_pure ⟨rfl, rfl⟩))
                    · cases e1
                  rintro _ _ ⟨rfl, rfl⟩
                  cases b <;> cases ht <;> exact wpS_pure hQ
            · exact wpS_pure hQ
end
end
section
open PySem PySem.W PyProof.Rows PySem.Calls PySem.Spec
set_option maxRecDepth 100000
set_option maxHeartbeats 4000000
section
variable {M : Model} {A : Around} {E : Value → Shared → Prop} {s : Shared} {κ : SortKind} {it : Nat → Keyed} {n : Nat} {c : Nat → Nat → Bool} {p : Array Nat} {pend : Array (Nat × Nat × Nat)} {g : Nat}
noncomputable def mergeLo' : Array Keyed → Array Keyed → StateT SortSt Sem (Array Keyed) := sortPriv% PySem.Builtin.mergeLo

abbrev Mg := Option (Array Nat) × Array Nat × Nat × Nat × Nat × Nat
noncomputable abbrev mgE (it : Nat → Keyed) (v : Mg) : Option (Array Keyed) × Array Keyed × Nat × Nat × Nat × Nat := (v.1.map (Array.map it), v.2.1.map it, v.2.2)
noncomputable def mergT (n : Nat) (c : Nat → Nat → Bool) (x y : Array Nat) (mg : Nat) (_ : Nat) : Mg → Array Nat → Option (ForInStep Mg × Array Nat)
  | (_, o, ia, ib, ac, bc), p =>
    if ib < y.size ∧ ia < x.size ∧ y.getD ib 0 < n ∧ x.getD ia 0 < n then
      if c (y.getD ib 0) (x.getD ia 0) = true then
        if (ib + 1 == y.size) = true then some (.done (some (o.push (y.getD ib 0) ++ x.extract ia x.size ++ y.extract (ib + 1) y.size), o.push (y.getD ib 0), ia, ib + 1, 0, bc + 1), p)
        else if bc + 1 ≥ mg then none else some (.yield (none, o.push (y.getD ib 0), ia, ib + 1, 0, bc + 1), p)
      else
        if (ia + 1 + 1 == x.size) = true then some (.done (some (o.push (x.getD ia 0) ++ y.extract ib y.size ++ x.extract (ia + 1) x.size), o.push (x.getD ia 0), ia + 1, ib, ac + 1, 0), p)
        else if ac + 1 ≥ mg then none else some (.yield (none, o.push (x.getD ia 0), ia + 1, ib, ac + 1, 0), p)
    else none
/-- a merge that never gallops -/
noncomputable def mergO (n : Nat) (c : Nat → Nat → Bool) (x y : Array Nat) (mg : Nat) (p : Array Nat) : Option (Array Nat × Array Nat) :=
  if 1 < y.size ∧ 1 < x.size then
    match iterO (mergT n c x y mg) (List.range' 0 (x.size + y.size - 0)) (none, #[y.getD 0 0], 0, 1, 0, 0) p with
    | some ((some z, _), p) => some (z, p)
    | _ => none
  else none
theorem S_mergeLo {x y z : Array Nat} {p' : Array Nat} {Q : Array Keyed → SortSt → Prop} (O : Ord M A E s κ it n c) (h : mergO n c x y g p = some (z, p')) (hQ : Q (z.map it) (rho κ it p' pend g)) : wpS M A E s (mergeLo' (x.map it) (y.map it)) Q (rho κ it p pend g) := by
  unfold mergO at h
  split at h
  · rename_i hh
    refine wpS_bind ?_
    refine S_rule ?_
    refine wpS_bind ?_
    refine S_elem (by omega) ?_
    dsimp only
    rw [if_neg (by rw [Array.size_map, beq_iff_eq]; omega)]
    rw [if_neg (by rw [Array.size_map, beq_iff_eq]; omega)]
    refine wpS_bind (wpS_get ?_)
    cases e1 : iterO (mergT n c x y g) (List.range' 0 (x.size + y.size - 0)) (none, #[y.getD 0 0], 0, 1, 0, 0) p with
    | none => rw [e1] at h; cases h
    | some v =>
      obtain ⟨⟨r, w⟩, p1⟩ := v
      rw [e1] at h
      cases r with
      | none => cases h
      | some z1 =>
        cases h
        rw [Array.size_map, Array.size_map]
        refine wpS_bind ?_
        rw [Std.Legacy.Range.forIn_eq_forIn_range']
        have hsz : ([0:x.size + y.size] : Std.Legacy.Range).size = (x.size + y.size - 1) + 1 := by simp [Std.Legacy.Range.size]; omega
        show wpS M A E s (forIn (List.range' 0 ([0:x.size + y.size] : Std.Legacy.Range).size 1) _ _) _ _
        rw [hsz, List.range'_succ, List.forIn_cons]
        refine wpS_bind (wpS_bind (S_range (e := mgE it) e1 ?_ (fun k v p r p' Q ht hQ => ?_) ?_))
        · simp
        · obtain ⟨r0, o, ia, ib, ac, bc⟩ := v
          unfold mergT at ht
          dsimp only at ht
          split at ht
          · rename_i hb
            refine wpS_bind (S_elem hb.1 (wpS_bind (S_elem hb.2.1 (wpS_bind (S_lt O rfl hb.2.2.1 hb.2.2.2 ?_)))))
            cases ec : c (y.getD ib 0) (x.getD ia 0) with
            | true =>
              rw [if_pos ec] at ht
              dsimp only
              rw [if_pos rfl]
              refine wpS_bind (S_elem hb.1 ?_)
              split at ht
              · rename_i h1
                rw [if_pos h1]
                cases ht
                refine wpS_pure ?_
                simpa [mgE] using hQ
              · rename_i h1
                rw [if_neg h1]
                split at ht
                · cases ht
                · rename_i h2
                  rw [if_neg h2]
                  cases ht
                  refine wpS_pure ?_
                  simpa [mgE] using hQ
            | false =>
              rw [if_neg (by rw [ec]; nofun)] at ht
              dsimp only
              rw [if_neg (by nofun)]
              refine wpS_bind (S_elem hb.2.1 ?_)
              split at ht
              · rename_i h1
                rw [if_pos h1]
                cases ht
                refine wpS_pure ?_
                simpa [mgE] using hQ
              · rename_i h1
                rw [if_neg h1]
                split at ht
                · cases ht
                · rename_i h2
                  rw [if_neg h2]
                  cases ht
                  refine wpS_pure ?_
                  simpa [mgE] using hQ
          · cases ht
        · dsimp only
          refine wpS_pure (wpS_pure (wpS_pure hQ))
  · cases h
end
end
section
open PySem PySem.W PyProof.Rows PySem.Calls PySem.Spec
set_option maxRecDepth 100000
set_option maxHeartbeats 4000000
section
variable {M : Model} {A : Around} {E : Value → Shared → Prop} {s : Shared} {κ : SortKind} {it : Nat → Keyed} {n : Nat} {c : Nat → Nat → Bool} {p : Array Nat} {pend : Array (Nat × Nat × Nat)} {g : Nat}
theorem S_set {σ : Type} {Q : PUnit → σ → Prop} {st st' : σ} (h : Q ⟨⟩ st') : wpS M A E s (set st' : StateT σ Sem PUnit) Q st := by
  unfold wpS; rw [StateT.run_set]; exact wpAny_pure ⟨rfl, h⟩
noncomputable def putO (sa : Nat) (z p : Array Nat) : Array Nat := z.toList.zipIdx.foldl (fun a v => a.setIfInBounds (sa + v.2) v.1) p
theorem put_map {α β : Type} (f : α → β) (sa : Nat) : ∀ (l : List α) (k : Nat) (xs : Array α), ((l.map f).zipIdx k).foldl (fun a v => a.setIfInBounds (sa + v.2) v.1) (xs.map f) = ((l.zipIdx k).foldl (fun a v => a.setIfInBounds (sa + v.2) v.1) xs).map f
  | [], _, _ => rfl
  | x :: l, k, xs => by
    show ((l.map f).zipIdx (k + 1)).foldl _ ((xs.map f).setIfInBounds (sa + k) (f x)) = _
    rw [← Array.map_setIfInBounds]
    exact put_map f sa l (k + 1) _

theorem pend_two (a b x : Nat × Nat × Nat) : (#[a, b].setIfInBounds 0 x).eraseIdxIfInBounds (0 + 1) = #[x] := by
  apply Array.toList_inj.mp
  simp
noncomputable def mergeAtO (n : Nat) (c : Nat → Nat → Bool) (sa na sb nb g : Nat) (p : Array Nat) : Option (Array Nat) :=
  if sb < p.size then
    match gallopO n c false (p.getD sb 0) p sa na 0 p with
    | none => none
    | some (k, p1) =>
      if (na - k == 0) = true then none else
        if sa + k + (na - k) - 1 < p.size then
          match gallopO n c true (p.getD (sa + k + (na - k) - 1) 0) p sb nb (nb - 1) p1 with
          | none => none
          | some (nb', p2) =>
            if (nb' == 0) = true then none else
              if na - k ≤ nb' then
                match mergO n c (p.extract (sa + k) sb) (p.extract sb (sb + nb')) g p2 with
                | none => none
                | some (z, p3) => some (putO (sa + k) z p3)
              else none
        else none
  else none
theorem S_mergeAt {sa na sb nb pw q : Nat} {p' : Array Nat} {Q : Bool → SortSt → Prop} (O : Ord M A E s κ it n c) (h : mergeAtO n c sa na sb nb g p = some p') (hQ : Q true (rho κ it p' #[(sa, na + nb, pw)] g)) : wpS M A E s (mergeAt' 0) Q (rho κ it p #[(sa, na, pw), (sb, nb, q)] g) := by
  unfold mergeAtO at h
  by_cases h1 : sb < p.size
  · rw [if_pos h1] at h
    refine wpS_bind ?_
    refine wpS_get ?_
    dsimp only
    refine wpS_bind ?_
    refine S_set ?_
    rw [pend_two]
    show wpS M A E s _ Q (rho κ it p #[(sa, na + nb, pw)] g)
    refine wpS_bind (S_elem h1 ?_)
    cases e1 : gallopO n c false (p.getD sb 0) p sa na 0 p with
    | none => rw [e1] at h; cases h
    | some v =>
      obtain ⟨k, p1⟩ := v
      rw [e1] at h
      dsimp only at h
      refine wpS_bind (S_gallop O e1 ?_)
      dsimp only
      by_cases h2 : (na - k == 0) = true
      · rw [if_pos h2] at h; cases h
      · rw [if_neg h2] at h ⊢
        by_cases h3 : sa + k + (na - k) - 1 < p.size
        · rw [if_pos h3] at h
          refine wpS_bind (S_elem h3 ?_)
          cases e2 : gallopO n c true (p.getD (sa + k + (na - k) - 1) 0) p sb nb (nb - 1) p1 with
          | none => rw [e2] at h; cases h
          | some v =>
            obtain ⟨nb', p2⟩ := v
            rw [e2] at h
            dsimp only at h
            refine wpS_bind (S_gallop O e2 ?_)
            dsimp only
            by_cases h4 : (nb' == 0) = true
            · rw [if_pos h4] at h; cases h
            · rw [if_neg h4] at h ⊢
              by_cases h5 : na - k ≤ nb'
              · rw [if_pos h5] at h ⊢
                cases e3 : mergO n c (p.extract (sa + k) sb) (p.extract sb (sb + nb')) g p2 with
                | none => rw [e3] at h; cases h
                | some v =>
                  obtain ⟨z, p3⟩ := v
                  rw [e3] at h
                  cases h
                  rw [← Array.map_extract, ← Array.map_extract]
                  refine wpS_bind (S_mergeLo O e3 ?_)
                  refine wpS_bind (wpS_modify ?_)
                  refine wpS_bind (wpS_get ?_)
                  refine wpS_pure ?_
                  have e : ((Array.map it z).toList.zipIdx.foldl (fun a v => a.setIfInBounds (sa + k + v.2) v.1) (Array.map it p3)) = (putO (sa + k) z p3).map it := by
                    rw [Array.toList_map]
                    exact put_map it (sa + k) z.toList 0 p3
                  show Q true (SortSt.mk' κ ((Array.map it z).toList.zipIdx.foldl (fun a v => a.setIfInBounds (sa + k + v.2) v.1) (Array.map it p3)) #[(sa, na + nb, pw)] g none)
                  rw [e]
                  exact hQ
              · rw [if_neg h5] at h; cases h
        · rw [if_neg h3] at h; cases h
  · rw [if_neg h1] at h; cases h
end
end
section
open PySem PySem.W PyProof.Rows PySem.Calls PySem.Spec
set_option maxRecDepth 100000
set_option maxHeartbeats 4000000
section
variable {M : Model} {A : Around} {E : Value → Shared → Prop} {s : Shared} {κ : SortKind} {it : Nat → Keyed} {n : Nat} {c : Nat → Nat → Bool} {p : Array Nat} {pend : Array (Nat × Nat × Nat)} {g : Nat}
theorem S_runs64 {m0 m1 : Nat} {q0 p1 q1 p2 p3 : Array Nat} {Q : Unit → SortSt → Prop} (O : Ord M A E s κ it n c) (hp : p.size = 64)
    (h1 : countO n c 0 64 p = some (m0, q0)) (hm0 : m0 < 32) (h2 : binO n c 0 32 m0 q0 = some p1)
    (h3 : countO n c 32 32 p1 = some (m1, q1)) (hm1 : m1 < 32) (h4 : binO n c 32 32 m1 q1 = some p2) (h5 : mergeAtO n c 0 32 32 32 7 p2 = some p3)
    (hQ : ∀ pw, Q () (rho κ it p3 #[(0, 64, pw)] 7)) : wpS M A E s sortRuns' Q (rho κ it p #[] 7) := by
  rw [sortRuns'_eq]
  refine wpS_bind (wpS_get ?_)
  have hs : (arrOf (rho κ it p #[] 7)).size = 64 := by
    show (p.map it).size = 64
    rw [Array.size_map, hp]
  have hmr : minRun' 64 64 0 = 32 := by decide +kernel
  simp only [hs, hmr]
  refine wpS_bind (wpS_mono (wpS_forRange
    (I := fun x c st => (x = 0 ∧ c = (none, 0) ∧ st = rho κ it p #[] 7) ∨ (x = 1 ∧ c = (none, 32) ∧ st = rho κ it p1 #[(0, 32, 0)] 7) ∨ (2 ≤ x ∧ c = (none, 64) ∧ st = rho κ it p2 #[(0, 32, power' 64 32 96 64), (32, 32, 0)] 7))
    (Q := fun c st => c = (none, 64) ∧ st = rho κ it p2 #[(0, 32, power' 64 32 96 64), (32, 32, 0)] 7) ?step ?fin (.inl ⟨rfl, rfl, rfl⟩)) ?post)
  case fin =>
    rintro c st (⟨hx, _, _⟩ | ⟨hx, _, _⟩ | ⟨_, hc, hD⟩)
    · omega
    · omega
    · exact ⟨hc, hD⟩
  case step =>
    rintro x c st _ hx (⟨rfl, rfl, rfl⟩ | ⟨rfl, rfl, rfl⟩ | ⟨hx2, rfl, rfl⟩)
    · dsimp only
      rw [if_neg (by omega)]
      refine wpS_bind (S_count O h1 ?_)
      dsimp only
      rw [if_pos hm0]
      refine wpS_bind (S_rule ?_)
      refine wpS_bind (S_bin O (by exact h2) ?_)
      simp only [Bool.not_true, Bool.false_eq_true, if_false]
      refine wpS_bind (wpS_get ?_)
      have hb : (pendingOf (rho κ it p1 #[] 7)).back? = none := rfl
      rw [hb]
      dsimp only
      exact wpS_bind (wpS_modify (wpS_pure (.inr (.inl ⟨by first | trivial | rfl, by first | trivial | rfl, by first | trivial | rfl⟩))))
    · dsimp only
      rw [if_neg (by omega)]
      refine wpS_bind (S_count O h3 ?_)
      dsimp only
      rw [if_pos hm1]
      refine wpS_bind (S_rule ?_)
      refine wpS_bind (S_bin O (by exact h4) ?_)
      simp only [Bool.not_true, Bool.false_eq_true, if_false]
      refine wpS_bind (wpS_get ?_)
      have hb : (pendingOf (rho κ it p2 #[(0, 32, 0)] 7)).back? = some (0, 32, 0) := rfl
      rw [hb]
      dsimp only
      refine wpS_bind (wpS_mono (wpS_forRange (I := fun _ c st'' => st'' = rho κ it p2 #[(0, 32, 0)] 7 ∧ c = (none, ())) (Q := fun c st'' => st'' = rho κ it p2 #[(0, 32, 0)] 7 ∧ c = (none, ())) ?_ (fun _ _ hh => hh) ⟨rfl, rfl⟩) ?_)
      · rintro x c st'' _ _ ⟨rfl, rfl⟩
        refine wpS_bind (wpS_get ?_)
        exact wpS_pure ⟨rfl, rfl⟩
      · rintro c st'' ⟨rfl, rfl⟩
        exact wpS_bind (wpS_modify (wpS_bind (wpS_modify (wpS_pure (.inr (.inr ⟨by omega, rfl, rfl⟩))))))
    · dsimp only
      rw [if_pos (Nat.le_refl _)]
      exact wpS_pure ⟨rfl, rfl⟩
  case post =>
    rintro c st ⟨rfl, rfl⟩
    dsimp only
    refine wpS_bind (wpS_mono (wpS_forRange
      (I := fun x c st => c = (none, ()) ∧ ((x = 0 ∧ st = rho κ it p2 #[(0, 32, power' 64 32 96 64), (32, 32, 0)] 7) ∨ (1 ≤ x ∧ st = rho κ it p3 #[(0, 64, power' 64 32 96 64)] 7)))
      (Q := fun c st => c = (none, ()) ∧ st = rho κ it p3 #[(0, 64, power' 64 32 96 64)] 7) ?_ ?_ ⟨rfl, .inl ⟨rfl, rfl⟩⟩) ?_)
    · rintro x c st _ hx ⟨rfl, (⟨rfl, rfl⟩ | ⟨hx1, rfl⟩)⟩
      · refine wpS_bind (wpS_get ?_)
        rw [if_neg (by show ¬ 2 ≤ 1; omega)]
        refine wpS_bind (S_mergeAt O h5 ?_)
        simp only [Bool.not_true, Bool.false_eq_true, if_false]
        exact wpS_pure ⟨rfl, .inr ⟨Nat.le_refl _, rfl⟩⟩
      · refine wpS_bind (wpS_get ?_)
        rw [if_pos (by show 1 ≤ 1; omega)]
        exact wpS_pure ⟨rfl, rfl⟩
    · rintro c st ⟨hc, (⟨hx, _⟩ | ⟨_, hD⟩)⟩
      · omega
      · exact ⟨hc, hD⟩
    · rintro c st ⟨rfl, rfl⟩
      exact wpS_pure (hQ _)
end
end
section
open PySem PySem.W PyProof.Rows PySem.Calls PySem.Spec
set_option maxRecDepth 100000
set_option maxHeartbeats 4000000
noncomputable def keysN (size : Nat) : List Key2 := (rowsK size).map fun r => (r.2.1, r.2.2)
theorem keysN_pair (size : Nat) : (keysN size).map pV = (rowsK size).map pairV := by
  unfold keysN; rw [List.map_map]; rfl
theorem keysN_len (size : Nat) : (keysN size).length = 2 ^ size := by unfold keysN; rw [List.length_map, rowsK_len]
noncomputable abbrev ordK (ks : List Key2) (i j : Nat) : Bool := cmpB (ks.getD i (0, [])) (ks.getD j (0, []))
noncomputable def run64 (n : Nat) (c : Nat → Nat → Bool) (p : Array Nat) : Option (Array Nat) :=
  match countO n c 0 64 p with
  | none => none
  | some (m0, q0) => if m0 < 32 then match binO n c 0 32 m0 q0 with
    | none => none
    | some p1 => match countO n c 32 32 p1 with
      | none => none
      | some (m1, q1) => if m1 < 32 then match binO n c 32 32 m1 q1 with
        | none => none
        | some p2 => mergeAtO n c 0 32 32 32 7 p2
        else none
    else none
theorem sorts_64 {prog : Program} {w : World} {A : Around} {h0 : Heap} {ks : List Key2} {vs : List Value} {p : Array Nat} (r : VRs h0 (ks.map pV) vs) (h64 : ks.length = 64)
    (hrun : run64 64 (ordK ks) (Array.range 64) = some p) (hp : p.toList.all (· < 64) = true) (hsz : p.size = 64) :
    SortsTo (model prog w) A h0 vs (fun xs => VRs h0 ((p.toList.map fun i => ks.getD i (0, [])).map pV) xs) := by
  intro s E Q hk fin
  have hlen : vs.length = ks.length := by rw [← r.length, List.length_map]
  have r' : VRs s.heap (ks.map pV) vs := r.mono fun a o e _ => hk a o e
  have at' : ∀ (h : Heap), VRs h (ks.map pV) vs → ∀ i, i < ks.length → VR h (pV (ks.getD i (0, []))) (vs.getD i Value.none) := fun h rr i hi => by
    have e1 : (ks.map pV)[i]? = some (pV (ks.getD i (0, []))) := by simp [List.getD_eq_getElem?_getD, hi]
    obtain ⟨x, ex, rx⟩ := rr.get e1
    have e2 : vs.getD i Value.none = x := by simp [List.getD_eq_getElem?_getD, ex]
    rw [e2]; exact rx
  refine kind_rows r' (by omega) ?_
  let it : Nat → Keyed := fun i => (vs.getD i Value.none, vs.getD i Value.none)
  have O : Ord (model prog w) A E s (tuples' true) it 64 (ordK ks) := ⟨fun i j C hi hj hC => cmp_rows (at' _ r' i (by omega)) (at' _ r' j (by omega)) hC⟩
  have hz : vs.toArray.zip vs.toArray = (Array.range 64).map it := by
    apply Array.ext
    · simp; omega
    · intro i h1 h2
      have h3 : i < vs.length := by simpa using h1
      simp [it, List.getD_eq_getElem?_getD, h3]
  rw [hz]
  unfold run64 at hrun
  cases e1 : countO 64 (ordK ks) 0 64 (Array.range 64) with
  | none => rw [e1] at hrun; cases hrun
  | some v =>
    obtain ⟨m0, q0⟩ := v
    rw [e1] at hrun
    dsimp only at hrun
    by_cases hm0 : m0 < 32
    · rw [if_pos hm0] at hrun
      cases e2 : binO 64 (ordK ks) 0 32 m0 q0 with
      | none => rw [e2] at hrun; cases hrun
      | some p1 =>
        rw [e2] at hrun
        dsimp only at hrun
        cases e3 : countO 64 (ordK ks) 32 32 p1 with
        | none => rw [e3] at hrun; cases hrun
        | some v =>
          obtain ⟨m1, q1⟩ := v
          rw [e3] at hrun
          dsimp only at hrun
          by_cases hm1 : m1 < 32
          · rw [if_pos hm1] at hrun
            cases e4 : binO 64 (ordK ks) 32 32 m1 q1 with
            | none => rw [e4] at hrun; cases hrun
            | some p2 =>
              rw [e4] at hrun
              dsimp only at hrun
              have run : wpS (model prog w) A E s sortRuns' (fun _ st' => ∃ pw, st' = rho (tuples' true) it p #[(0, 64, pw)] 7) (rho (tuples' true) it (Array.range 64) #[] 7) :=
                S_runs64 O (by simp) e1 hm0 e2 e3 hm1 e4 hrun fun pw => ⟨pw, rfl⟩
              refine wpAny_mono run ?_ fun _ _ e => e
              rintro ⟨⟨⟩, st'⟩ s' ⟨rfl, pw, rfl⟩
              refine fin _ (p.toList.map fun i => vs.getD i Value.none) ?_ ?_ (by rw [List.length_map, Array.length_toList]; omega) rfl
              · have : ∀ l : List Nat, (∀ i ∈ l, i < ks.length) → VRs h0 ((l.map fun i => ks.getD i (0, [])).map pV) (l.map fun i => vs.getD i Value.none) := by
                  intro l
                  induction l with
                  | nil => intro _; exact .nil
                  | cons i l ih => intro hl; exact .cons (at' h0 r i (hl i (.head _))) (ih fun j hj => hl j (.tail _ hj))
                exact this _ fun i hi => by have := List.all_eq_true.mp hp i hi; rw [h64]; simpa using this
              · show ((p.map it).map (·.2)) = _
                apply Array.toList_inj.mp
                simp [it, Function.comp_def]
          · rw [if_neg hm1] at hrun; cases hrun
    · rw [if_neg hm0] at hrun; cases hrun

/-- the permutation that sorts the rows -/
noncomputable def permN (size : Nat) : Option (Array Nat) :=
  if size = 6 then run64 64 (ordK (keysN size)) (Array.range 64) else runK (2 ^ size) (ordK (keysN size)) (kas_sort (2 ^ size))
noncomputable def outN (size : Nat) : List Key2 := ((permN size).getD #[]).toList.map fun i => (keysN size).getD i (0, [])
theorem perm_ok4 : ((permN 4).isSome && ((permN 4).getD #[]).toList.all (· < 2 ^ 4) && ((permN 4).getD #[]).size == 2 ^ 4) = true := by decide +kernel
noncomputable def perm5L : Array Nat := #[27, 23, 29, 0, 15, 30, 6, 12, 10, 17, 5, 20, 9, 18, 3, 24, 31, 2, 8, 4, 1, 16, 13, 22, 11, 26, 7, 28, 19, 25, 14, 21]
theorem perm5_eq : permN 5 = some perm5L := by decide +kernel
theorem perm_ok5 : ((permN 5).isSome && ((permN 5).getD #[]).toList.all (· < 2 ^ 5) && ((permN 5).getD #[]).size == 2 ^ 5) = true := by
  rw [perm5_eq]; decide +kernel
noncomputable def perm6L : Array Nat := #[12, 6, 24, 33, 18, 63, 10, 20, 17, 34, 9, 36, 5, 40, 3, 48, 30, 0, 45, 43, 53, 51, 39, 57, 23, 58, 27, 54, 29, 46, 15, 60, 22, 26, 35, 49, 14, 28, 37, 41, 19, 50, 13, 44, 25, 38, 11, 52, 7, 56, 21, 42, 1, 32, 31, 62, 4, 8, 55, 59, 47, 61, 2, 16]
theorem perm6_eq : permN 6 = some perm6L := by decide +kernel
theorem perm_ok6 : ((permN 6).isSome && ((permN 6).getD #[]).toList.all (· < 2 ^ 6) && ((permN 6).getD #[]).size == 2 ^ 6) = true := by
  rw [perm6_eq]; decide +kernel

theorem sorts_rows {prog : Program} {w : World} {A : Around} {h0 : Heap} {size : Nat} {vs : List Value} (h4 : 4 ≤ size) (h6 : size ≤ 6) (r : VRs h0 ((rowsK size).map pairV) vs) :
    SortsTo (model prog w) A h0 vs (fun xs => VRs h0 ((outN size).map pV) xs) := by
  rw [← keysN_pair] at r
  have hl := keysN_len size
  have ok : ((permN size).isSome && ((permN size).getD #[]).toList.all (· < 2 ^ size) && ((permN size).getD #[]).size == 2 ^ size) = true := by
    rcases (show size = 4 ∨ size = 5 ∨ size = 6 by omega) with rfl | rfl | rfl
    · exact perm_ok4
    · exact perm_ok5
    · exact perm_ok6
  rw [Bool.and_eq_true, Bool.and_eq_true] at ok
  obtain ⟨⟨o1, o2⟩, o3⟩ := ok
  obtain ⟨p, hp⟩ := Option.isSome_iff_exists.mp o1
  unfold outN
  rw [hp] at o2 o3 ⊢
  rw [Option.getD_some] at o2 o3 ⊢
  rw [beq_iff_eq] at o3
  unfold permN at hp
  by_cases h : size = 6
  · subst h
    rw [if_pos rfl] at hp
    exact sorts_64 r hl hp o2 o3
  · rw [if_neg h] at hp
    have : 2 ^ size ≤ 2 ^ 5 := Nat.pow_le_pow_right (by decide) (by omega)
    have h2 : 2 ^ 4 ≤ 2 ^ size := Nat.pow_le_pow_right (by decide) (by omega)
    exact sorts_small r (by omega) (by omega) (by rw [hl]; exact hp) (by rw [hl]; exact o2)

section
variable {cx : Cx} {fm : Fm} {A : Around} {Q : V → St → Prop} {loc : Loc} {ar : Ar}
theorem B_sortedRows {size : Nat} {l : Addr} (h4 : 4 ≤ size) (h6 : size ≤ 6) (hl : At l (.list ((rowsK size).map pairV)) ar) (h : ∀ d, Q (.ref d) ⟨loc, (d, .list ((outN size).map pV)) :: ar⟩) :
    OpN cx fm A (fun xs => call (.builtin "sorted") xs) VR [.ref l] ⟨loc, ar⟩ Q := fun s xs Qr Er r rx k => by
  cases rx with
  | cons ra rx =>
    cases ra
    cases rx
    obtain ⟨items, n, e, q⟩ := r.h.list hl
    have hlen := q.length
    rw [List.length_map, rowsK_len] at hlen
    have h1 : 2 ^ 4 ≤ 2 ^ size := Nat.pow_le_pow_right (by decide) h4
    have h2 : 2 ^ size ≤ 2 ^ 6 := Nat.pow_le_pow_right (by decide) h6
    refine sorted_gen (isList_of e) (by omega) (by omega) (sorts_rows h4 h6 q) fun D xs n h' a1 a2 a3 a4 a5 => ?_
    obtain ⟨r2, x2⟩ := r.made (tk := s.toks) (x := .list ((outN size).map pV)) a3 a4 a5 (.list (a1.mono fun a o e _ => a3 a o e))
    exact k _ _ _ _ (h D) r2 (.ref _) x2
end
end
section
set_option maxRecDepth 10000
set_option maxHeartbeats 4000000
section
variable {cx : Cx} {A : Around} {ar : Ar} {Q : V → Ar → Prop}
/-- a table of rows, sorted -/
theorem spec_table {size n : Nat} (T : Tops cx ad) (room : Room A (n + 1)) (h4 : 4 ≤ size) (h6 : size ≤ 6) (h : ∀ d, Q (.ref d) ((d, .list ((outN size).map pV)) :: ar)) : CallT cx A (.ref (ad 24)) [nt size] ar Q :=
  spec_rows T room (by omega) (fun fm A' loc ar' l R _ hl hR => B_sortedRows h4 h6 hl hR) h
theorem restN_bits {w : Nat} (hw : 0 < w) : ∀ (k n : Nat), bits n ≤ k → bits (restN n w) < bits w ∨ bits (restN n w) < bits w := by
  intro k
  induction k with
  | zero =>
    intro n h
    rw [restN_eq hw]
    have : 0 < bits w := by rw [bits_pos hw]; omega
    rw [if_neg (by omega)]
    omega
  | succ k ih =>
    intro n h
    rw [restN_eq hw]
    split
    · rename_i hb
      have := bits_step hw hb
      exact ih _ (by omega)
    · omega
theorem restN_lt {n w : Nat} (hw : 0 < w) : bits (restN n w) < bits w := (restN_bits hw (bits n) n (Nat.le_refl _)).elim id id

noncomputable def imageN (poly middle place : Nat) : Nat := restN ((1 <<< (2 * place)) ^^^ (middle <<< place)) poly
noncomputable def answersN (poly middle : Nat) : Nat → List Nat
  | 0 => [0]
  | k + 1 => answersN poly middle k ++ (answersN poly middle k).map (· ^^^ imageN poly middle k)
theorem answersN_len (poly middle : Nat) : ∀ k, (answersN poly middle k).length = 2 ^ k
  | 0 => rfl
  | k + 1 => by rw [answersN, List.length_append, List.length_map, answersN_len poly middle k, Nat.pow_succ]; omega
noncomputable def middleN (poly : Nat) : Nat := restN (((poly >>> 1) &&& 85) * 2 ^^^ ((poly >>> 1) &&& 85) * 4) poly
noncomputable def wordsF (poly : Nat) (as : List Nat) : Nat → List (List Nat)
  | 0 => []
  | k + 1 => if as.getD k 0 = 1 ∧ marksN poly k ≠ [] then wordsF poly as k ++ [marksN poly k] else wordsF poly as k
theorem wordsF_len (poly : Nat) (as : List Nat) : ∀ k, (wordsF poly as k).length ≤ k
  | 0 => Nat.le_refl _
  | k + 1 => by
    have := wordsF_len poly as k
    unfold wordsF
    split
    · rw [List.length_append]; simp; omega
    · omega
noncomputable def ledN (size poly : Nat) : List (List Nat) := wordsF poly (answersN poly (middleN poly) size) (2 ^ size)
/-- fewer than 64 words -/
noncomputable def fewB (size poly : Nat) : Bool := decide ((ledN size poly).length < 64)
theorem spec_led {size poly n : Nat} (T : Tops cx ad) (room : Room A (n + 2)) (h6 : size ≤ 6) (hp0 : 0 < poly) (hp : poly < 2 ^ 7) (hfew : (ledN size poly).length < 64)
    (h : ∀ d (zs : List (List Nat)), zs.Perm (ledN size poly) → sortedS (zs.map mkS) = true → Q (.ref d) ((d, .list (zs.map V.str)) :: ar)) : CallT cx A (.ref (ad 26)) [nt size, nt poly] ar Q := by
  refine CallT_topC (n := n + 1) (ps := [Str.ofString "size", Str.ofString "polynomial"]) (fl := [true, true]) (rest := [Str.ofString "slope", Str.ofString "middle", Str.ofString "answers", Str.ofString "place", Str.ofString "words", Str.ofString "root", Str.ofString "marks"]) (crest := [Str.ofString "image"]) (gn := [Str.ofString "_law_rest", Str.ofString "range", Str.ofString "_law_marks", Str.ofString "sorted"])
    (gl := [(Str.ofString "_law_rest", .val (.ref (ad 22))), (Str.ofString "range", .val (.type "range")), (Str.ofString "_law_marks", .val (.ref (ad 25))), (Str.ofString "sorted", .val (.builtin "sorted"))]) T (by decide) room (by decide +kernel) rfl rfl (by walk_at "aw fn2") (by walk_at "aw gl") ?_
  intro env A' as fd room' hF hD hE hl
  match as, hl with
  | [c1], _ =>
  show EB _ ⟨_, _, [(Str.ofString "image", c1)]⟩ _ (_ :: _) ⟨[(Str.ofString "size", some (nt size)), (Str.ofString "polynomial", some (nt poly)), (Str.ofString "slope", none), (Str.ofString "middle", none), (Str.ofString "answers", none), (Str.ofString "place", none), (Str.ofString "words", none), (Str.ofString "root", none), (Str.ofString "marks", none)], (c1, .cell none) :: ar⟩ _
  have hk1 : env.kindOf (Str.ofString "image") = some .cell := kind_cell hE hD (by decide +kernel)
  have hsl : (poly >>> 1 &&& 85) < 2 ^ 7 := Nat.lt_of_le_of_lt Nat.and_le_right (by decide)
  walk_at "aw"
  have hx1 : ((poly >>> 1 &&& 85) * 2 ^^^ (poly >>> 1 &&& 85) * 4) < 2 ^ 60 := Nat.lt_of_lt_of_le (Nat.xor_lt_two_pow (n := 9) (by omega) (by omega)) (by decide)
  refine spec_rest (n := n) T room' hx1 (by omega) hp0 ?_
  have hm0 : middleN poly < 2 ^ 6 := by
    have h1 := restN_lt (n := (poly >>> 1 &&& 85) * 2 ^^^ (poly >>> 1 &&& 85) * 4) hp0
    have h2 := bits_le hp
    exact Nat.lt_of_lt_of_le (lt_bits _) (Nat.pow_le_pow_right (by decide) (show bits (middleN poly) ≤ 6 by unfold middleN; omega))
  have hm1 : middleN poly < 2 ^ 64 := by omega
  unfold ledN at hfew h
  show SNm _ _ _ _ (nt (middleN poly)) _ _
  generalize hmid : middleN poly = mid at hm0 hm1 hfew h
  walk_at "aw"
  refine ⟨by decide +kernel, fun l0 => ?_⟩
  walk_at "aw"
  refine r_for1 room'.handled (by repeat (first | exact Has.head | refine Has.tail ?_)) ?_
  walk_at "aw"
  refine ⟨by omega, fun k st => ∃ u la v ar2, st = ⟨[(Str.ofString "size", some (nt size)), (Str.ofString "polynomial", some (nt poly)), (Str.ofString "slope", some (nt (poly >>> 1 &&& 85))), (Str.ofString "middle", some (nt mid)), (Str.ofString "answers", some (.ref la)), (Str.ofString "place", u), (Str.ofString "words", none), (Str.ofString "root", none), (Str.ofString "marks", none)], ar2⟩ ∧ ((la, O.list ((answersN poly mid k).map nt)) :: (c1, O.cell v) :: ar).Sublist ar2, ⟨_, l0, none, _, rfl, .refl _⟩, ?_, ?_⟩
  · rintro k st hk ⟨u, la, v, ar2, rfl, hsub⟩
    walk_at "aw"
    have hx2 : (1 <<< (2 * k)) ^^^ (mid <<< k) < 2 ^ 60 := by
      refine Nat.lt_of_lt_of_le (Nat.xor_lt_two_pow (n := 12) ?_ ?_) (by decide)
      · rw [Nat.shiftLeft_eq, Nat.one_mul]; exact Nat.pow_lt_pow_right (by decide) (by omega)
      · rw [Nat.shiftLeft_eq]
        have : 2 ^ k ≤ 2 ^ 5 := Nat.pow_le_pow_right (by decide) (by omega)
        exact Nat.lt_of_lt_of_le (Nat.mul_lt_mul_of_lt_of_le hm0 this (Nat.two_pow_pos _)) (by decide)
    refine CallT.forget hsub (spec_rest (n := n) T room' hx2 (by omega) hp0 ?_)
    show SNm _ _ _ _ (nt (imageN poly mid k)) _ _
    walk_at "aw"
    refine r_comp [Str.ofString "answer"] [] [Str.ofString "image"] [Str.ofString "image"] [] [(Str.ofString "image", c1)] (by decide +kernel) (hE.globals.trans hD.globals) (hE.builtins.trans hD.builtins) rfl rfl rfl (fun _ h => nomatch h) (fun p hp => by rw [List.mem_singleton.mp hp, List.lookup_cons, beq_self_eq_true]) (ei_list room'.handled ?_)
    walk_at "aw"
    have hlen := answersN_len poly mid k
    have hpk : 2 ^ k ≤ 2 ^ 6 := Nat.pow_le_pow_right (by decide) (by omega)
    refine ⟨fun i => some (nt ((answersN poly mid k).getD i 0 ^^^ imageN poly mid k)), .head, by rw [List.length_map, sizeLine_eq]; omega, fun i env' hi => turn1 fun u => ?_, fun l => ?_⟩
    · dsimp only
      rw [getD_ntV hi]
      walk_at "aw"
      rfl
    · have ho : outsOf (fun i => some (nt ((answersN poly mid k).getD i 0 ^^^ imageN poly mid k))) ((answersN poly mid k).map nt).length = ((answersN poly mid k).map (· ^^^ imageN poly mid k)).map nt := outs_nt (g := (· ^^^ imageN poly mid k))
      rw [ho]
      refine r_addL (.tail .head) .head (by rw [List.length_map, List.length_map, List.length_map, hlen]; omega) fun d => ?_
      rw [← List.map_append]
      walk_at "aw"
      exact ⟨_, d, some (nt (imageN poly mid k)), _, rfl, .cons_cons _ (.cons _ (.cons _ (.refl _)))⟩
  · rintro st ⟨u, la, v, ar2, rfl, hsub⟩
    refine thenB_next (EB_forget hsub ?_)
    have hlen := answersN_len poly mid size
    have hps : 2 ^ size ≤ 2 ^ 6 := Nat.pow_le_pow_right (by decide) h6
    generalize answersN poly mid size = as at hlen hfew h ⊢
    walk_at "aw"
    refine ⟨by decide +kernel, fun lw => ?_⟩
    walk_at "aw"
    refine r_for1 room'.handled (by repeat (first | exact Has.head | refine Has.tail ?_)) ?_
    walk_at "aw"
    refine ⟨by omega, fun k st => ∃ u1 u2, st = ⟨[(Str.ofString "size", some (nt size)), (Str.ofString "polynomial", some (nt poly)), (Str.ofString "slope", some (nt (poly >>> 1 &&& 85))), (Str.ofString "middle", some (nt mid)), (Str.ofString "answers", some (.ref la)), (Str.ofString "place", u), (Str.ofString "words", some (.ref lw)), (Str.ofString "root", u1), (Str.ofString "marks", u2)], (lw, O.list ((wordsF poly as k).map V.str)) :: (la, O.list (as.map nt)) :: (c1, O.cell v) :: ar⟩, ⟨_, _, rfl⟩, ?_, ?_⟩
    · rintro k st hk ⟨u1, u2, rfl⟩
      walk_at "aw"
      have hx : (as.map nt)[k]? = some (nt (as.getD k 0)) := getD_nt (by omega)
      refine S_list (.tail .head) hx (by omega) ?_
      walk_at "aw"
      · rename_i c1
        refine spec_marks (n := n) T room' (by omega) (by omega) ?_
        walk_at "aw"
        refine @ite_ndec _ _ _ _ (fun c2 => ?_) (fun c2 => ?_)
        · have hwl := wordsF_len poly as k
          walk_at "aw"
          have e : wordsF poly as (k + 1) = wordsF poly as k ++ [marksN poly k] := by
            conv => lhs; unfold wordsF
            rw [if_pos ⟨c1, c2⟩]
          dsimp only
          rw [e, List.map_append]
          exact ⟨_, _, rfl⟩
        · walk_at "aw"
          have e : wordsF poly as (k + 1) = wordsF poly as k := by
            conv => lhs; unfold wordsF
            rw [if_neg fun q => q.2 c2]
          dsimp only
          rw [e]
          exact ⟨_, _, rfl⟩
      · rename_i c1
        have e : wordsF poly as (k + 1) = wordsF poly as k := by
          conv => lhs; unfold wordsF
          rw [if_neg fun q => c1 q.1]
        dsimp only
        rw [e]
        exact ⟨_, _, rfl⟩
    · rintro st ⟨u1, u2, rfl⟩
      walk_at "aw"
      refine B_sortedS .head hfew fun d zs hz hs => ?_
      walk_at "aw"
      exact Back_ret (.cons_cons _ (.cons _ (.cons _ (.cons _ (.refl _))))) (h d zs hz hs)
end
end
section
open PySem PySem.W PyProof.Rows PySem.Calls PySem.Spec
set_option maxRecDepth 100000
set_option maxHeartbeats 4000000
/-! sets of small numbers -/
theorem OkE.hash {e : Int × Value} (h : OkE e) : e.1 = hashInt (keyE e) := by
  obtain ⟨k, t, rfl⟩ := h
  rfl
theorem isK (prog : Program) (w : World) (k : Int) (n : Nat) (t : Tok) : (PySem.intKind prog w).is k (.int (n : Int) t) = decide (k = (n : Int)) := by
  show PySem.Value.isInt k (.int (n : Int) t) = _
  unfold PySem.Value.isInt
  by_cases h : k = (n : Int)
  · simp [h]
  · have h2 : ¬ (n : Int) = k := fun e => h e.symm
    simp [h, h2]
theorem elems_of {prog : Program} {w : World} {es : List (Int × Value)} (h : ∀ e ∈ es, OkE e) : ElemsOf (PySem.intKind prog w) es := fun e he => by
  obtain ⟨k, t, rfl⟩ := h e he
  exact ⟨⟨(k : Int), by rw [isK]; exact decide_eq_true rfl, rfl⟩, rfl⟩
theorem soft_set {o : Obj} {es : Array (Int × Value)} {ep : Nat} {t : SetTable} (h : o.data = .set es ep t) : Soft o :=
  ⟨fun items n (q : o.data = .seq items n) => (by rw [h] at q; cases q), fun vs (q : o.data = .fields vs) => (by rw [h] at q; cases q)⟩

noncomputable def layK (t : SetTable) (c : Array Nat) (k : Nat) : Array Nat × SetTable × Bool :=
  match t.freeSlot (hashInt k) with
  | some (slot, wd) => (SetTable.insertAt c (t.put slot).2 k, (t.put slot).1.orStandIn (SetTable.insertAt c (t.put slot).2 k).size, wd)
  | none => (c.push k, t.standIn (c.size + 1), false)
noncomputable def relK (t : SetTable) (c : Array Nat) (wanted : Nat) : Array Nat × SetTable :=
  match t.relaid (c.map fun k => hashInt (k : Nat)) wanted with
  | some (t', order) => if coversAll order c.size && t'.fits (order.filterMap (c[·]?)).size then (order.filterMap (c[·]?), t') else (c, t.standIn c.size)
  | none => (c, t.standIn c.size)
noncomputable def addK (x : TS) (k : Nat) : TS :=
  if x.2.contains k then x else
    if !(layK x.1 x.2 k).2.2 && (layK x.1 x.2 k).2.1.tooFull then ((relK (layK x.1 x.2 k).2.1 (layK x.1 x.2 k).1 (SetTable.grown (layK x.1 x.2 k).1.size)).2, (relK (layK x.1 x.2 k).2.1 (layK x.1 x.2 k).1 (SetTable.grown (layK x.1 x.2 k).1.size)).1)
    else ((layK x.1 x.2 k).2.1, (layK x.1 x.2 k).1)

theorem insert_map {α β : Type} (f : α → β) (xs : Array α) (p : Nat) (x : α) : (SetTable.insertAt xs p x).map f = SetTable.insertAt (xs.map f) p (f x) := by
  unfold SetTable.insertAt
  simp
theorem lay_map {t : SetTable} {es : Array (Int × Value)} {k : Nat} {tok : Tok} :
    (layNew t es (hashInt k) (.int k tok)).1.map keyE = (layK t (es.map keyE) k).1 ∧ (layNew t es (hashInt k) (.int k tok)).2.1 = (layK t (es.map keyE) k).2.1 ∧ (layNew t es (hashInt k) (.int k tok)).2.2.1 = (layK t (es.map keyE) k).2.2 := by
  unfold layNew layK
  cases t.freeSlot (hashInt k) with
  | none =>
    refine ⟨?_, ?_, rfl⟩
    · show (es.push _).map keyE = _
      rw [Array.map_push]; rfl
    · show t.standIn _ = t.standIn _
      rw [Array.size_map]
  | some v =>
    obtain ⟨slot, wd⟩ := v
    have e := insert_map keyE es (t.put slot).2 (hashInt k, Value.int k tok)
    have e2 : (SetTable.insertAt es (t.put slot).2 (hashInt k, Value.int k tok)).size = (SetTable.insertAt (es.map keyE) (t.put slot).2 k).size := by
      rw [← Array.size_map (f := keyE), e]; rfl
    refine ⟨e, ?_, rfl⟩
    show SetTable.orStandIn _ _ = SetTable.orStandIn _ _
    rw [e2]
theorem rel_map {t : SetTable} {es : Array (Int × Value)} {wanted : Nat} (h : ∀ e ∈ es.toList, OkE e) :
    (relayAll t es wanted).1.map keyE = (relK t (es.map keyE) wanted).1 ∧ (relayAll t es wanted).2.1 = (relK t (es.map keyE) wanted).2 := by
  have e1 : es.map (·.1) = (es.map keyE).map fun k => hashInt (k : Nat) := by
    rw [Array.map_map]
    apply Array.toList_inj.mp
    rw [Array.toList_map, Array.toList_map]
    exact List.map_congr_left fun e he => (h e he).hash
  have e2 : ∀ order : Array Nat, (order.filterMap (es[·]?)).map keyE = order.filterMap ((es.map keyE)[·]?) := fun order => by
    apply Array.toList_inj.mp
    simp [List.map_filterMap]
  unfold relayAll relK
  rw [e1]
  cases t.relaid ((es.map keyE).map fun k => hashInt (k : Nat)) wanted with
  | none => exact ⟨rfl, by rw [Array.size_map]⟩
  | some v =>
    obtain ⟨t', order⟩ := v
    dsimp only
    have e3 : (order.filterMap (es[·]?)).size = (order.filterMap ((es.map keyE)[·]?)).size := by rw [← e2, Array.size_map]
    rw [e3, Array.size_map]
    split
    · exact ⟨e2 order, rfl⟩
    · exact ⟨rfl, rfl⟩

section
variable {prog : Program} {w : World} {A : Around} {E : Value → Shared → Prop} {s : Shared}
theorem SetI.setOf {a : Addr} {o : Obj} {x : TS} (ho : s.heap.get? a = some o) (hI : SetI o x) (hf : x.1.fits x.2.size = true) (hb : x.2.size < scanBound) :
    s.heap.SetOf (PySem.intKind prog w) a (fun k => x.2.toList.any fun y => decide (k = (y : Int))) x.2.size := by
  obtain ⟨es, ep, hd, hm, hk⟩ := hI.data
  have hsz : es.size = x.2.size := by rw [← hm, Array.size_map]
  refine ⟨o, es, ep, x.1, ho, hI.exact_, hd, elems_of hk, fun k => ?_, by rw [hsz]; exact hb, by rw [hsz]; exact hf, hsz⟩
  dsimp only
  rw [← hm, Array.toList_map, List.any_map, List.any_eq_true]
  constructor
  · rintro ⟨e, he, q⟩
    obtain ⟨n, t, rfl⟩ := hk e he
    refine ⟨_, he, ?_⟩
    rw [isK]
    exact q
  · rintro ⟨e, he, q⟩
    refine ⟨e, he, ?_⟩
    obtain ⟨n, t, rfl⟩ := hk e he
    rw [isK] at q
    exact q
/-- whether the table gave way is noted, and nothing else -/
theorem wp_gave {b : Bool} {Q : Unit → Shared → Prop} (h : Q () s) : wpAny (model prog w) A (match b with | true => rule "set.scan.the-table-gave-way" | false => pure ()) Q E s :=
  match b with | true => wpAny_rule h | false => wpAny_pure h
theorem keyE_int {k : Nat} {tok : Tok} {h : Int} : keyE (h, Value.int k tok) = k := rfl

theorem wp_add {a : Addr} {o : Obj} {x : TS} {k : Nat} {tok : Tok} {Q : Bool → Shared → Prop} (ho : s.heap.get? a = some o) (hI : SetI o x) (hf : x.1.fits x.2.size = true) (hb : x.2.size + 1 < scanBound)
    (h : ∀ b h' o', Heap.SameBut a s.heap h' → h'.get? a = some o' → SetI o' (addK x k) → Q b { s with heap := h' }) : wpAny (model prog w) A (setAddHashed a (.int k tok) (hashInt k)) Q E s := by
  obtain ⟨es, ep, hd, hm, hk⟩ := hI.data
  have hsz : es.size = x.2.size := by rw [← hm, Array.size_map]
  have hf' : x.1.fits es.size = true := by rw [hsz]; exact hf
  have hel := elems_of (prog := prog) (w := w) hk
  have hkey : (PySem.intKind prog w).is (k : Int) (.int k tok) = true := by rw [isK]; exact decide_eq_true rfl
  unfold setAddHashed setAddHashedIn
  refine wpAny_holding (wpAny_bind (wpAny_setState_of ho hd hf' ?_))
  dsimp only
  rw [byScan_of rfl (by rw [hsz]; omega) hel]
  simp only [↓reduceIte]
  unfold setAddByScan
  refine wpAny_bind ?_
  refine wpAny_bind (wpAny_rule ?_)
  refine wpAny_bind (wpAny_setScan_of (knd := intKind prog w) hkey ho hd hf' hel ?_)
  have hmem : x.2.contains k = true ↔ ∃ e ∈ es.toList, (PySem.intKind prog w).is (k : Int) e.2 = true := by
    rw [Array.contains_iff_mem, ← hm, Array.mem_map]
    constructor
    · rintro ⟨e, he, rfl⟩
      refine ⟨e, by simpa using he, ?_⟩
      obtain ⟨n, t, rfl⟩ := hk e (by simpa using he)
      rw [isK]
      exact decide_eq_true rfl
    · rintro ⟨e, he, q⟩
      refine ⟨e, by simpa using he, ?_⟩
      obtain ⟨n, t, rfl⟩ := hk e he
      rw [isK] at q
      have := of_decide_eq_true q
      show n = k
      omega
  cases hr : List.findIdx? (fun e => (PySem.intKind prog w).is (k : Int) e.2) es.toList with
  | some j =>
    dsimp only
    obtain ⟨hj, hpj, _⟩ := List.findIdx?_eq_some_iff_getElem.mp hr
    have hc := hmem.mpr ⟨es.toList[j], List.getElem_mem hj, hpj⟩
    have hx : addK x k = x := by unfold addK; rw [if_pos hc]
    refine wpAny_pure (wpAny_pure ?_)
    exact h false s.heap o (Heap.SameBut.refl a s.heap) ho (by rw [hx]; exact hI)
  | none =>
    dsimp only
    have hc : ¬ x.2.contains k = true := fun q => by
      obtain ⟨e, he, hp⟩ := hmem.mp q
      have := List.findIdx?_eq_none_iff.mp hr e he
      rw [hp] at this; exact Bool.noConfusion this
    have hperm := layNew_perm x.1 es (hashInt k) (.int k tok)
    have hfits := layNew_fits x.1 es (hashInt k) (.int k tok)
    obtain ⟨m1, m2, m3⟩ := lay_map (t := x.1) (es := es) (k := k) (tok := tok)
    rw [hm] at m1 m2 m3
    generalize hL : layNew x.1 es (hashInt k) (.int k tok) = L at hperm hfits m1 m2 m3 ⊢
    obtain ⟨es1, t1, wasDummy, gave⟩ := L
    dsimp only at hperm hfits m1 m2 m3 ⊢
    rw [Array.toList_push] at hperm
    have hk1 : ∀ e ∈ es1.toList, OkE e := fun e he => by
      rcases List.mem_append.mp (hperm.mem_iff.mp he) with q | q
      · exact hk e q
      · rw [List.mem_singleton] at q; exact ⟨k, tok, q⟩
    have hsz1 : es1.size = x.2.size + 1 := by rw [← Array.length_toList, hperm.length_eq, List.length_append, Array.length_toList, hsz]; rfl
    have hadd : addK x k = if !wasDummy && t1.tooFull then ((relK t1 (layK x.1 x.2 k).1 (SetTable.grown (layK x.1 x.2 k).1.size)).2, (relK t1 (layK x.1 x.2 k).1 (SetTable.grown (layK x.1 x.2 k).1.size)).1) else (t1, (layK x.1 x.2 k).1) := by
      unfold addK
      rw [if_neg hc, ← m3, ← m2]
    rw [← m1, Array.size_map] at hadd
    refine wpAny_bind (wp_gave ?_)
    obtain ⟨ho1, _⟩ := SetOf_store (knd := PySem.intKind prog w) (S' := fun k => es1.toList.any fun e => (PySem.intKind prog w).is k e.2) ho hI.exact_ hd (elems_of hk1) (fun k' => by rw [List.any_eq_true]) (by rw [hsz1]; exact hb) hfits
    have hsb1 := Heap.SameBut.update s.heap a (Obj.putSet es1 t1)
    split
    all_goals first
      | (refine wpAny_bind ?_; rw [hashByValue_scannable 8 rfl]; refine wpAny_pure ?_)
      | refine wpAny_bind (wpAny_pure ?_)
    all_goals
      simp only [plainKind, ↓reduceIte]
      refine wpAny_bind (wpAny_storeSet_of ho hd ?_ (fits_of_scanBound (by rw [hsz1]; exact hb)))
      split
    all_goals
      rename_i hcond
      first
      | (rw [if_pos hcond] at hadd
         obtain ⟨r1, r2⟩ := rel_map (t := t1) (wanted := SetTable.grown es1.size) hk1
         have hp := relayAll_perm t1 es1 (SetTable.grown es1.size)
         generalize hRl : relayAll t1 es1 (SetTable.grown es1.size) = Rl at hp r1 r2 ⊢
         obtain ⟨es2, t3, gave2⟩ := Rl
         dsimp only at hp r1 r2 ⊢
         have hk2 : ∀ e ∈ es2.toList, OkE e := fun e he => hk1 e (hp.mem_iff.mp he)
         have hsz2 : es2.size = es1.size := by rw [← Array.length_toList, hp.length_eq, Array.length_toList]
         refine wpAny_bind (wp_gave ?_)
         refine wpAny_bind (wpAny_storeSet_of ho1 rfl ?_ (fits_of_scanBound (by rw [hsz2, hsz1]; exact hb)))
         refine wpAny_pure (wpAny_pure (h true _ _ (hsb1.trans (Heap.SameBut.update _ a _)) (Heap.get?_update_self _ ho1 (by rw [putSet_of es2 t3 rfl]; rfl)) ?_))
         rw [putSet_of es2 t3 rfl, hadd, ← r1, ← r2]
         exact ⟨hI.exact_, es2, _, rfl, rfl, hk2⟩)
      | (rw [if_neg hcond] at hadd
         refine wpAny_pure (wpAny_pure (h true _ _ hsb1 ho1 ?_))
         rw [hadd]
         exact ⟨hI.exact_, es1, _, rfl, rfl, hk1⟩)
end
end
section
open PySem PySem.W PyProof.Rows PySem.Calls PySem.Spec
set_option maxRecDepth 100000
set_option maxHeartbeats 4000000
theorem wpAny_chooseN {M : Model} {A : Around} {E : Value → Shared → Prop} {s : Shared} {src : Source} {n : Nat} {Q : Nat → Shared → Prop} (hn : n ≠ 0) (h : ∀ i dr, i < n → Q i { s with drawn := dr }) : wpAny M A (choose src n) Q E s :=
  fun _ _ _ => ⟨hn, h _ _ (Nat.mod_lt _ (Nat.pos_of_ne_zero hn))⟩
noncomputable def popK (x : TS) (i : Nat) : TS := (x.1.popped i, SetTable.eraseAt x.2 i)
theorem erase_map {α β : Type} (f : α → β) (xs : Array α) (p : Nat) : (SetTable.eraseAt xs p).map f = SetTable.eraseAt (xs.map f) p := by
  unfold SetTable.eraseAt
  simp
theorem erase_mem {α : Type} {xs : Array α} {p : Nat} {e : α} (h : e ∈ (SetTable.eraseAt xs p).toList) : e ∈ xs.toList := by
  unfold SetTable.eraseAt at h
  rw [Array.toList_append] at h
  have key : ∀ i j, e ∈ (xs.extract i j).toList → e ∈ xs.toList := fun i j hm => by
    rw [Array.toList_extract, List.extract_eq_take_drop] at hm
    exact List.mem_of_mem_drop (List.mem_of_mem_take hm)
  exact (List.mem_append.mp h).elim (key _ _) (key _ _)
theorem erase_size {α : Type} {xs : Array α} {p : Nat} : (SetTable.eraseAt xs p).size ≤ xs.size + xs.size := by
  unfold SetTable.eraseAt
  simp only [Array.size_append, Array.size_extract]
  omega
noncomputable abbrev byText (w : World) : Bool := w.params.followText "set-order"
section
variable {prog : Program} {w : World} {A : Around} {E : Value → Shared → Prop} {s : Shared}
theorem wp_pop {a : Addr} {o : Obj} {x : TS} {Q : Option Value → Shared → Prop} (ho : s.heap.get? a = some o) (hI : SetI o x) (hf : x.1.fits x.2.size = true) (hb : x.2.size < 1000) (hne : x.2.size ≠ 0) (hled : x.1.led = true ∨ byText w = true)
    (h : ∀ i tok h' o' dr, i < x.2.size → Heap.SameBut a s.heap h' → h'.get? a = some o' → SetI o' (popK x i) → Q (some (.int (x.2.getD i 0 : Nat) tok)) { s with heap := h', drawn := dr }) : wpAny (model prog w) A (setPop a) Q E s := by
  obtain ⟨es, ep, hd, hm, hk⟩ := hI.data
  have hsz : es.size = x.2.size := by rw [← hm, Array.size_map]
  have hf' : x.1.fits es.size = true := by rw [hsz]; exact hf
  unfold setPop
  refine wpAny_bind (wpAny_setState_of ho hd hf' ?_)
  dsimp only
  obtain ⟨bf, hbf, hbl⟩ : ∃ i, x.1.popPlace = some i ∧ i < es.size := by
    have h1 : x.1.place.size = es.size := by simp only [SetTable.fits, Bool.and_eq_true, beq_iff_eq] at hf'; exact hf'.1
    unfold SetTable.popPlace
    rw [if_neg (by rw [Array.isEmpty_iff_size_eq_zero]; omega)]
    refine ⟨_, rfl, ?_⟩
    split <;> omega
  rw [hbf]
  dsimp only
  unfold setsByText
  refine wpAny_bind (wpAny_bind (wpAny_askSetting (wpAny_pure ?_)))
  split
  · refine wpAny_bind (wpAny_chooseN (by omega) fun i dr hi => ?_)
    have hgi : es[i]? = some es[i] := by simp [hi]
    rw [hgi]
    have hlt := erase_size (xs := es) (p := i)
    have hmem : es[i] ∈ es.toList := by simp
    obtain ⟨k, tok, he⟩ := hk _ hmem
    refine wpAny_bind (wpAny_storeSet_of (by exact ho) hd ?_ (fits_of_scanBound (Nat.lt_of_le_of_lt hlt (by rw [hsz]; show _ < 4096; omega))))
    have hg : x.2.getD i 0 = k := by
      rw [← hm]
      have : (es.map keyE)[i]? = some (keyE es[i]) := by simp [hi]
      simp only [Array.getD_eq_getD_getElem?, this, Option.getD_some, he]
      rfl
    have hgo : (s.heap.update a (Obj.putSet (SetTable.eraseAt es i) (x.1.popped i))).get? a = some { o with data := .set (SetTable.eraseAt es i) (ep + 1) (x.1.popped i) } := by
      have := Heap.get?_update_self (Obj.putSet (SetTable.eraseAt es i) (x.1.popped i)) ho (by rw [putSet_of _ _ hd]; rfl)
      rw [putSet_of _ _ hd] at this; exact this
    have := h i tok _ _ dr (by omega) (Heap.SameBut.update s.heap a (Obj.putSet (SetTable.eraseAt es i) (x.1.popped i))) hgo ⟨hI.exact_, _, _, rfl, by rw [erase_map, hm]; rfl, fun e he => hk e (erase_mem he)⟩
    rw [hg] at this
    show wpAny _ _ (pure (some es[i].2)) _ _ _
    rw [he]
    exact wpAny_pure this
  · rename_i hc
    have hl : x.1.led = true := by
      rcases hled with q | q
      · exact q
      · exact absurd (by rw [Bool.or_eq_true]; exact .inl q) hc
    refine wpAny_bind ?_
    have hz : (!x.1.led && decide (es.size > 1)) = false := by rw [hl]; rfl
    show wpAny _ _ (if (!x.1.led && decide (es.size > 1)) = true then unsupported "set:maker-not-led" else pure ()) _ _ _
    rw [hz]
    refine wpAny_pure (wpAny_bind (wpAny_pure ?_))
    have hi := hbl
    generalize bf = i at hi ⊢
    have hdr : ∃ dr, dr = s.drawn := ⟨_, rfl⟩
    have hgi : es[i]? = some es[i] := by simp [hi]
    rw [hgi]
    have hlt := erase_size (xs := es) (p := i)
    have hmem : es[i] ∈ es.toList := by simp
    obtain ⟨k, tok, he⟩ := hk _ hmem
    refine wpAny_bind (wpAny_storeSet_of (by exact ho) hd ?_ (fits_of_scanBound (Nat.lt_of_le_of_lt hlt (by rw [hsz]; show _ < 4096; omega))))
    have hg : x.2.getD i 0 = k := by
      rw [← hm]
      have : (es.map keyE)[i]? = some (keyE es[i]) := by simp [hi]
      simp only [Array.getD_eq_getD_getElem?, this, Option.getD_some, he]
      rfl
    have hgo : (s.heap.update a (Obj.putSet (SetTable.eraseAt es i) (x.1.popped i))).get? a = some { o with data := .set (SetTable.eraseAt es i) (ep + 1) (x.1.popped i) } := by
      have := Heap.get?_update_self (Obj.putSet (SetTable.eraseAt es i) (x.1.popped i)) ho (by rw [putSet_of _ _ hd]; rfl)
      rw [putSet_of _ _ hd] at this; exact this
    have := h i tok _ _ s.drawn (by omega) (Heap.SameBut.update s.heap a (Obj.putSet (SetTable.eraseAt es i) (x.1.popped i))) hgo ⟨hI.exact_, _, _, rfl, by rw [erase_map, hm]; rfl, fun e he => hk e (erase_mem he)⟩
    rw [hg] at this
    show wpAny _ _ (pure (some es[i].2)) _ _ _
    rw [he]
    exact wpAny_pure this

theorem call_set_pop {a : Addr} {o : Obj} {x : TS} {Q : Value → Shared → Prop} (ho : s.heap.get? a = some o) (hI : SetI o x) (hf : x.1.fits x.2.size = true) (hb : x.2.size < 1000) (hne : x.2.size ≠ 0) (hled : x.1.led = true ∨ byText w = true)
    (h : ∀ i tok h' o' dr, i < x.2.size → Heap.SameBut a s.heap h' → h'.get? a = some o' → SetI o' (popK x i) → Q (.int (x.2.getD i 0 : Nat) tok) { s with heap := h', drawn := dr }) :
    wpAny (model prog w) A (call (.builtin "set.pop") [.ref a]) Q E s := by
  refine wpAny_call_entry PySem.F.slot_set_pop ⟨o, ho, hI.exact_.1⟩ PySem.F.entry_set_pop ?_ (PySem.F.args_set_pop_1 _)
  unfold Builtin.«set.pop» Builtin.Frozenset.noArgs
  simp only [List.isEmpty_nil]
  unfold Builtin.Frozenset.addrOf
  refine wpAny_bind (wpAny_bind (wpAny_pure (wpAny_pure ?_)))
  refine wpAny_bind (wp_pop ho hI hf hb hne hled fun i tok h' o' dr h1 h2 h3 h4 => ?_)
  exact wpAny_pure ⟨_, rfl, h i tok h' o' dr h1 h2 h3 h4⟩
theorem call_set_add' {a : Addr} {o : Obj} {x : TS} {k : Nat} {tok : Tok} {Q : Value → Shared → Prop} (ho : s.heap.get? a = some o) (hI : SetI o x) (hf : x.1.fits x.2.size = true) (hb : x.2.size < 1000)
    (h : ∀ h' o', Heap.SameBut a s.heap h' → h'.get? a = some o' → SetI o' (addK x k) → Q .none { s with heap := h', toks := s.toks + 1 }) :
    wpAny (model prog w) A (call (.builtin "set.add") [.ref a, .int (k : Int) tok]) Q E s :=
  have adds := wp_add (prog := prog) (w := w) (A := A.in1) (E := E) (s := { s with toks := s.toks + 1 }) (k := k) (tok := tok) ho hI hf (show _ < 4096 by omega) fun _ h' o' c1 c2 c3 => h h' o' c1 c2 c3
  wpAny_call_entry PySem.F.slot_set_add ⟨o, ho, hI.exact_.1⟩ PySem.F.entry_set_add
    (by unfold Builtin.«set.add»; exact wpAny_bind (wpAny_of_eq (a := (a, Value.int (k : Int) tok)) rfl (wpAny_bind (wpAny_holding (wpAny_bind (wpAny_pyHash_int (wpAny_mono adds (fun _ _ q => wpAny_pure ⟨_, rfl, q⟩) fun _ _ e => e))))))) (PySem.F.args_set_add_2 _ _)
theorem truthy_set {a : Addr} {o : Obj} {x : TS} {Q : Bool → Shared → Prop} (ho : s.heap.get? a = some o) (hI : SetI o x) (hf : x.1.fits x.2.size = true) (hb : x.2.size < 1000)
    (h : Q (decide (x.2.size ≠ 0)) { s with toks := s.toks + 1 + 1 }) : wpAny (model prog w) A (truthy (.ref a)) Q E s := by
  obtain ⟨es, ep, hd, hm, hk⟩ := hI.data
  have hsz : es.size = x.2.size := by rw [← hm, Array.size_map]
  have hf' : x.1.fits es.size = true := by rw [hsz]; exact hf
  have hT : s.TypeIs (.ref a) "set" := ⟨o, ho, hI.exact_.1⟩
  have hne : ((es.size : Int) != 0) = decide (x.2.size ≠ 0) := by rw [hsz, Bool.eq_iff_iff, bne_iff_ne, decide_eq_true_iff]; omega
  have key : wpAny (model prog w) A (runValue (.builtin "len" ⟨[.ref a], []⟩)) (fun r s' => r = .int es.size (s.toks + 1) ∧ Q (decide (x.2.size ≠ 0)) s') E s := by
    refine wpAny_runValue (codeAny_builtin entry_len ?_)
    rw [Around.under_plainId plain_len _]
    exact wpAny_mono (wpAny_len_body_set (Q := fun r s' => r = .int es.size (s.toks + 1) ∧ Q (decide (x.2.size ≠ 0)) s') ho hI.exact_ hd hf' (by omega) ⟨rfl, h⟩)
      (fun fin s' h' => by obtain ⟨r, rfl, hq⟩ := h'; exact hq) fun _ _ e => e
  unfold truthy
  refine wpAny_bind (wpAny_callSpecial?_none (name := Str.ofString "__bool__") hT PySem.W.noBool_set ?_)
  refine wpAny_bind (wpAny_specialOf (name := Str.ofString "__len__") hT PySem.F.slot_set_len.lookup ?_)
  exact wpAny_bind (wpAny_mono key (fun r s' h' => by obtain ⟨rfl, hq⟩ := h'; exact wpAny_pure (hne ▸ hq)) fun _ _ e => e)
end
end
section
open PySem PySem.W PyProof.Rows PySem.Calls PySem.Spec
set_option maxRecDepth 100000
set_option maxHeartbeats 4000000
noncomputable abbrev set0 (w : World) : Obj := { cls := .type "set", dict := none, data := .set #[] 0 (.fresh 0 0 (!byText w)) }
noncomputable abbrev fresh0 (b : Bool) : TS := (.fresh 0 0 b, #[])
theorem set0_I (w : World) : SetI (set0 w) (fresh0 (!byText w)) := ⟨⟨rfl, rfl, rfl⟩, #[], 0, rfl, by show Array.map keyE #[] = #[]; simp, fun e he => by simp at he⟩
section
variable {prog : Program} {w : World} {A : Around} {E : Value → Shared → Prop} {s : Shared}
theorem wp_byText {Q : Bool → Shared → Prop} (h : Q (byText w) s) : wpAny (model prog w) A setsByText Q E s := wpAny_bind (wpAny_askSetting (wpAny_pure h))
theorem wp_newSet {Q : Value → Shared → Prop} (h : Q (.ref s.heap.objs.size) { s with heap := s.heap.push (set0 w) }) : wpAny (model prog w) A (newSet (.type "set")) Q E s := by
  unfold newSet
  exact wpAny_bind (wp_byText (wpAny_newObj_type h (by size_fits)))
theorem wp_newClass {Q : Value × List Value → Shared → Prop} (h : Q (.type "set", []) s) : wpAny (model prog w) A (Builtin.Frozenset.newClass "set" ⟨[.type "set"], []⟩) Q E s := by
  have e := sub_set_self
  unfold Builtin.Frozenset.newClass
  cases s
  wp_walk
  exact h
/-- `set.__new__` makes the set, and `set.__init__` leaves it as it is -/
theorem code_newSet {Q₁ : Value → Shared → Prop} (h : Q₁ (.ref s.heap.objs.size) { s with heap := s.heap.push (set0 w) }) :
    codeAny (model prog w) A (.call (.builtin "set.__new__") ⟨[.type "set"], []⟩) (wants Q₁ E) s :=
  codeAny_call_builtin PySem.F.plain_set_new PySem.F.entry_set_new (wpAny_of_eq PySem.F.newCall_set_0 (wpAny_bind (wp_newClass (wpAny_bind (wp_newSet (wpAny_pure h))))))
theorem code_initSet {D : Addr} {R : Value → Shared → Prop} (e : s.heap.get? D = some (set0 w)) (h : R .none s) : codeAny (model prog w) A (.call (.builtin "set.__init__") ⟨[.ref D], []⟩) (wants R E) s := by
  have isSet : s.TypeIs (.ref D) "set" := ⟨_, e, rfl⟩
  refine codeAny_call_builtin PySem.F.called_set.init.plain PySem.F.entry_set_init (check_set_init isSet ?_)
  unfold Builtin.«set.__init__» noKeywords
  wp_walk
  exact h
theorem call_set0 {Q : Value → Shared → Prop} (h : Q (.ref s.heap.objs.size) { s with heap := s.heap.push (set0 w) }) : wpAny (model prog w) A (call (.type "set") []) Q E s := by
  have e : (s.heap.push (set0 w)).get? s.heap.objs.size = some (set0 w) := Heap.get?_push_size _ rfl
  have isSet : Shared.TypeIs { s with heap := s.heap.push (set0 w) } (.ref s.heap.objs.size) "set" := ⟨_, e, rfl⟩
  have T := PySem.F.called_set
  obtain ⟨_, _, m⟩ := T.mro
  have f1 := T.made; have f2 := T.sub; have f3 := T.notType; have f4 := T.canCreate; have f5 := T.init.lookup; have f6 := T.init.bind (.ref s.heap.objs.size); have f7 := PySem.F.typeCall_set_0
  have enter : wpAny (model prog w) (A.under (.builtin "type.__call__" ⟨[.type "set"], []⟩)) (Builtin.«type.__call__» ⟨[.type "set"], []⟩) (fun fin s' => match fin with | .done f => wants Q E (.ok f) s' | .again c' => c'.quiet = true ∧ codeAny (model prog w) A c' (wants Q E) s') (fun e s' => wants Q E (.error e) s') s := by
    rw [Around.under_plain (weight_type_call_type "set" [] []) rfl]
    repeat (any_goals (first | assumption | wp_step))
    refine codeAny_mono (code_newSet (E := E) (Q₁ := fun v s' => v = .ref s.heap.objs.size ∧ s' = { s with heap := s.heap.push (set0 w) }) ⟨rfl, rfl⟩) fun r s' made => ?_
    obtain e | f := r
    · exact made
    cases f <;> try exact made.elim
    obtain ⟨rfl, rfl⟩ := made
    repeat (any_goals (first | assumption | wp_step))
    refine codeAny_mono (code_initSet (E := E) (R := fun v s' => v = .none ∧ Q (.ref s.heap.objs.size) s') e ⟨rfl, h⟩) fun r s' made => ?_
    obtain e | f := r
    · exact made
    cases f <;> try exact made.elim
    obtain ⟨rfl, q⟩ := made
    repeat (any_goals (first | assumption | wp_step))
  exact wpAny_call (codeAny_of_tree (wpAny_pure ⟨Code.quiet_builtin _ (by decide +kernel), codeAny_builtin PySem.F.entry_type_call enter⟩))
end
end
section
open PySem PySem.W PyProof.Rows PySem.Calls PySem.Spec
set_option maxRecDepth 100000
set_option maxHeartbeats 4000000
section
variable {cx : Cx} {fm : Fm} {A : Around} {st : St} {s : Shared} {loc : Loc} {ar ar' : Ar}
noncomputable def HasCode (cx : Cx) (cd : Value) : Prop := ∃ c o vs, cd = .ref c ∧ cx.base.get? c = some o ∧ o.data = .fields vs
theorem main_any {E : Value → Shared → Prop} {Q : Bool → Shared → Prop} {env : Env} (hc : HasCode cx env.code) (hk : ∀ b o, cx.base.get? b = some o → s.heap.get? b = some o) (h : ∀ b, Q b s) : wpAny cx.M A (inMainModule env) Q E s := by
  obtain ⟨c, o, vs, e, ho, hd⟩ := hc
  unfold inMainModule
  try dsimp only
  rw [e]
  split
  · exact wpAny_pure (h _)
  · refine wpAny_bind (wpAny_fieldsOf (hk _ _ ho) hd ?_)
    split
    · exact wpAny_bind (wpAny_askSetting (wpAny_pure (h _)))
    · exact wpAny_pure (h _)
theorem Rel.set_put {a : Addr} {x y : TS} {h' : Heap} {tk : Nat} {dr : Drawn} {o' : Obj} (r : Rel cx fm st s) (p : Put a (.set x) (.set y) st.ar ar') (hs : Heap.SameBut a s.heap h') (e : h'.get? a = some o') (hI : SetI o' y) :
    Rel cx fm { st with ar := ar' } { s with heap := h', toks := tk, drawn := dr } ∧ Ext (fm.mt cx) st.ar s.heap ar' h' := by
  have soft : ∀ o, s.heap.get? a = some o → Soft o := fun o eo => by
    obtain ⟨o2, e2, q⟩ := r.h.objs _ p.mem
    rw [show (a, O.set x).1 = a from rfl, eo] at e2
    cases e2
    cases q with
    | set q =>
      obtain ⟨es, ep, hd, _⟩ := q.data
      exact soft_set hd
  have stp : Step a s.heap h' := Step.sameBut hs soft
  exact ⟨r.put p stp e (.set hI), .put stp p e⟩
theorem HRel.setAt {a : Addr} {x : TS} {s : Shared} {ar : Ar} (r : HRel cx ar s) (h : At a (.set x) ar) : ∃ o, s.heap.get? a = some o ∧ SetI o x := by
  obtain ⟨o, e, q⟩ := r.objs _ h.mem
  cases q with
  | set q => exact ⟨o, e, q⟩

theorem r_addS {a : Addr} {x : TS} {k : Nat} {Q : V → St → Prop} (hp : Put a (.set x) (.set (addK x k)) ar ar') (hf : x.1.fits x.2.size = true) (hb : x.2.size < 1000) (h : Q .none ⟨loc, ar'⟩) :
    OpN cx fm A (fun xs => call (.builtin "set.add") xs) VR [.ref a, nt k] ⟨loc, ar⟩ Q := fun s xs Qr Er r rx kk => by
  cases rx with
  | cons ra rx =>
    cases ra
    cases rx with
    | cons rk rx =>
      cases rx
      cases rk
      obtain ⟨o, e, q⟩ := r.h.objs _ hp.mem
      cases q with
      | set q =>
        refine call_set_add' e q hf hb fun h' o' h1 h2 h3 => ?_
        obtain ⟨r2, x2⟩ := r.set_put (tk := s.toks + 1) (dr := s.drawn) hp h1 h2 h3
        exact kk _ _ _ _ h r2 .none x2
theorem r_popS {a : Addr} {x : TS} {Q : V → St → Prop} (hat : At a (.set x) ar) (hf : x.1.fits x.2.size = true) (hb : x.2.size < 1000) (hne : x.2.size ≠ 0) (hled : x.1.led = true ∨ byText cx.w = true)
    (h : ∀ i, i < x.2.size → ∃ ar', Put a (.set x) (.set (popK x i)) ar ar' ∧ Q (nt (x.2.getD i 0)) ⟨loc, ar'⟩) : OpN cx fm A (fun xs => call (.builtin "set.pop") xs) VR [.ref a] ⟨loc, ar⟩ Q := fun s xs Qr Er r rx kk => by
  cases rx with
  | cons ra rx =>
    cases ra
    cases rx
    obtain ⟨o, e, q⟩ := r.h.setAt hat
    refine call_set_pop e q hf hb hne hled fun i tok h' o' dr hi h1 h2 h3 => ?_
    obtain ⟨ar', hp, hq⟩ := h i hi
    obtain ⟨r2, x2⟩ := r.set_put (tk := s.toks) (dr := dr) hp h1 h2 h3
    exact kk _ _ _ _ hq r2 (.int _ _) x2
theorem O_inS {a : Addr} {x : TS} {k : Nat} {Q : V → St → Prop} (hat : At a (.set x) st.ar) (hf : x.1.fits x.2.size = true) (hb : x.2.size < 1000) (h : Q (.bool (x.2.contains k)) st) :
    Op2 cx fm A (compareOp .In) VR (nt k) (.ref a) st Q := fun s y z Qr Er r ry rz kk => by
  cases ry
  cases rz
  obtain ⟨o, e, q⟩ := r.h.setAt hat
  have hS := SetI.setOf (prog := cx.prog) (w := cx.w) e q hf (by show _ < 4096; omega)
  refine wpAny_inSet_of (knd := PySem.intKind cx.prog cx.w) (k := (k : Int)) (by rw [isK]; exact decide_eq_true rfl) rfl hS ?_
  have e2 : (x.2.toList.any fun y => decide ((k : Int) = (y : Int))) = x.2.contains k := by
    rw [Bool.eq_iff_iff, List.any_eq_true, Array.contains_iff_mem]
    constructor
    · rintro ⟨y, hy, q⟩
      have : k = y := by have := of_decide_eq_true q; omega
      rw [this]; simpa using hy
    · intro hy
      exact ⟨k, by simpa using hy, decide_eq_true rfl⟩
  rw [e2]
  exact kk _ _ _ _ h (r.toks _) (.bool _) (.refl ..)
theorem T_set {a : Addr} {x : TS} {Q : Bool → St → Prop} (hat : At a (.set x) st.ar) (hf : x.1.fits x.2.size = true) (hb : x.2.size < 1000) (h : Q (decide (x.2.size ≠ 0)) st) : Op1 cx fm A truthy BR (.ref a) st Q := fun s y Qr Er r ry kk => by
  cases ry
  obtain ⟨o, e, q⟩ := r.h.setAt hat
  exact truthy_set e q hf hb (kk _ _ _ _ h (r.toks _) rfl (.refl ..))
theorem B_set0 {Q : V → St → Prop} (h : ∀ d, Q (.ref d) ⟨loc, (d, .set (fresh0 (!byText cx.w))) :: ar⟩) : OpN cx fm A (fun xs => call (.type "set") xs) VR [] ⟨loc, ar⟩ Q := fun s xs Qr Er r rx kk => by
  cases rx
  exact call_set0 (kk _ _ _ _ (h _) (r.alloc s.toks (.set (set0_I cx.w)) rfl) (.ref _) (.alloc _ _ r.mt_lt))
theorem r_set0 {f : Str} {fp pos : Pos} {env : Env} {gl : List (Str × V)} {cl : List (Str × Addr)} {Q : V → St → Prop} (hf : Has (f, .val (.type "set")) gl) (h : ∀ d, Q (.ref d) ⟨loc, (d, .set (fresh0 (!byText cx.w))) :: ar⟩)
    (hd : (f == ("__debug__" : Str)) = false := by walk_at "k") : EV cx ⟨env, gl, cl⟩ A (.Call (.Name f fp) [] [] pos) ⟨loc, ar⟩ Q := EV_callT0 hf.mem (B_set0 h) hd

theorem EV_set1 {e : PySem.Expr} {pos : Pos} {Q : V → St → Prop} (hc : HasCode cx fm.env.code)
    (h : ∀ d, EV cx fm A e ⟨loc, (d, .set (fresh0 (!byText cx.w))) :: ar⟩ fun v st1 => ∃ k ar', v = nt k ∧ Put d (.set (fresh0 (!byText cx.w))) (.set (addK (fresh0 (!byText cx.w)) k)) st1.ar ar' ∧ Q (.ref d) ⟨st1.loc, ar'⟩)
    (he : ∀ env, starEach [e] env = (false, eval e env) :: starEach [] env := by walk_at "u") : EV cx fm A (.Set [e] 0 pos) ⟨loc, ar⟩ Q := fun s Qr Er r kk => by
  rw [arm_eval_Set]
  refine wpAny_bind (wpAny_standAt ?_)
  refine wpAny_bind (main_any hc r.h.keep fun b => ?_)
  rw [he, show starEach [] fm.env = [] from rfl, show displayRoad 0 [e] = .oneByOne from rfl]
  unfold setDisplay
  dsimp only
  rw [if_neg (by decide)]
  refine wpAny_bind (wp_newSet ?_)
  dsimp only [List.map, List.length]
  rw [if_neg (by decide)]
  dsimp only [List.findIdx?, List.findIdx?.go, Option.getD, List.take, List.drop, List.map]
  simp only [Bool.false_eq_true, if_false, Nat.zero_add]
  dsimp only [List.take, List.drop, List.map]
  refine wpAny_bind (wpAny_holding ?_)
  have rA : Rel cx fm ⟨loc, (s.heap.objs.size, .set (fresh0 (!byText cx.w))) :: ar⟩ { s with heap := s.heap.push (set0 cx.w) } := r.alloc s.toks (.set (set0_I cx.w)) rfl
  have xA : Ext (fm.mt cx) ar s.heap ((s.heap.objs.size, .set (fresh0 (!byText cx.w))) :: ar) (s.heap.push (set0 cx.w)) := .alloc _ _ r.mt_lt
  generalize s.heap.objs.size = d at rA xA ⊢
  refine wpAny_bind ?_
  unfold evalAll
  refine wpAny_bind (wpAny_bind (h d _ _ Er rA fun v st1 s1 y hv r1 ry x1 => ?_))
  obtain ⟨k, ar', rfl, hp, hq⟩ := hv
  refine wpAny_bind (wpAny_standAt (wpAny_pure ?_))
  unfold evalAll
  refine wpAny_bind (wpAny_holding (wpAny_pure (wpAny_pure ?_)))
  refine wpAny_bind (wpAny_holding ?_)
  rw [if_neg (by decide)]
  rw [List.forIn_cons]
  refine wpAny_bind (wpAny_bind (wpAny_bind ?_))
  cases ry with
  | int i tok =>
  obtain ⟨o, e0, q⟩ := r1.h.objs _ hp.mem
  cases q with
  | set q =>
  unfold setAdd
  refine wpAny_holding ?_
  refine wpAny_bind (wpAny_pyHash_int ?_)
  refine wp_add (s := { s1 with toks := s1.toks + 1 }) e0 q (by cases (!byText cx.w) <;> decide +kernel) (by show 0 + 1 < 4096; omega) fun b h' o' h1 h2 h3 => ?_
  obtain ⟨r2, x2⟩ := r1.set_put (tk := s1.toks + 1) (dr := s1.drawn) hp h1 h2 h3
  refine wpAny_pure ?_
  rw [List.forIn_nil]
  refine wpAny_pure (wpAny_pure ?_)
  exact wpAny_bind (wpAny_pure (wpAny_pure (wpAny_pure (kk _ _ _ _ hq r2 (.ref _) (xA.trans (x1.trans x2))))))
end
end
section
open PySem PySem.W PyProof.Rows PySem.Calls PySem.Spec
set_option maxRecDepth 100000
set_option maxHeartbeats 4000000
theorem slot_sit_next : Slot "set_iterator" "__next__" "set_iterator.__next__" :=
  .of (owner := "set_iterator") (n := "__next__") (by rw [typeLookup_type, builtinLookup_eq_fast]; kernel_rfl) (by decide +kernel) (by decide +kernel) (by decide +kernel)
    (by first | exact .inl (by decide +kernel) | exact .inr (by decide +kernel)) (by rw [isSubtype_type]; kernel_rfl)
theorem slot_sit_iter : Slot "set_iterator" "__iter__" "set_iterator.__iter__" :=
  .of (owner := "set_iterator") (n := "__iter__") (by rw [typeLookup_type, builtinLookup_eq_fast]; kernel_rfl) (by decide +kernel) (by decide +kernel) (by decide +kernel)
    (by first | exact .inl (by decide +kernel) | exact .inr (by decide +kernel)) (by rw [isSubtype_type]; kernel_rfl)
theorem entry_sit_next : entryFor table "set_iterator.__next__" = some Builtin.«set_iterator.__next__» := entryFor_of_tree (by kernel_rfl)
theorem args_sit_next (a : Value) : argsOk "set_iterator.__next__" ⟨[a], []⟩ := by unfold argsOk; kernel_rfl
theorem entry_sit_iter : entryFor table "set_iterator.__iter__" = some Builtin.«dict_keyiterator.__iter__» :=
  entryFor_alias (id' := "dict_keyiterator.__iter__") (by kernel_rfl) rfl (by decide +kernel) (by kernel_rfl)
theorem args_sit_iter (a : Value) : argsOk "set_iterator.__iter__" ⟨[a], []⟩ := by unfold argsOk; kernel_rfl
theorem entry_set_iter : entryFor table "set.__iter__" = some Builtin.«frozenset.__iter__» :=
  entryFor_alias (id' := "frozenset.__iter__") (by kernel_rfl) rfl (by decide +kernel) (by kernel_rfl)

/-- an iterator that is at its end: StopIteration is raised, which its caller knows by its type -/
theorem stop_raised {prog : Program} {w : World} {A : Around} {E : Value → Shared → Prop} {s : Shared} {α : Type} {Q : α → Shared → Prop} (hh : A.handled = none)
    (h : ∀ e h', (∀ b o, s.heap.get? b = some o → h'.get? b = some o) → Shared.TypeIs { s with heap := h' } e "StopIteration" → E e { s with heap := h' }) :
    wpAny (model prog w) A (newExc (.type "StopIteration") [] >>= fun e => (raiseNew e : Sem α)) Q E s := by
  have made : wpAny (model prog w) A (newExc (.type "StopIteration") []) (fun e s' => E e s') E s := by
    have first : firstArgMember (.type "StopIteration") [] = pure Value.none := by simp only [firstArgMember, List.headD_nil, ite_self]; rfl
    unfold newExc newTuple
    exact wpAny_bind (wpAny_newObj_type (wpAny_bind (wpAny_of_eq first (wpAny_newObj_type (h _ _ (kept_push _ (kept_push _ fun _ _ e => e)) ⟨_, Heap.get?_push_size _ rfl, rfl⟩) (by size_fits)))) (by size_fits))
  exact wpAny_bind (wpAny_mono made (fun e s' q => wpAny_raiseNew_none hh q) fun _ _ e => e)
theorem erase_perm {α : Type} {l : List α} {i : Nat} (h : i < l.length) : (l[i] :: l.eraseIdx i).Perm l := by
  rw [List.eraseIdx_eq_take_drop_succ]
  have e : l = l.take i ++ l[i] :: l.drop (i + 1) := by simp
  conv => rhs; rw [e]
  exact List.perm_middle.symm
theorem pick_go {α : Type} (next : Nat → Nat) : ∀ (fuel k : Nat) (left : List α) (out : Array α), left.length = fuel → (pickOrder.go next fuel k left out).toList.Perm (out.toList ++ left)
  | 0, k, left, out, h => by
    have : left = [] := List.length_eq_zero_iff.mp h
    subst this
    simp [pickOrder.go]
  | fuel + 1, k, left, out, h => by
    have hi : next k % left.length < left.length := Nat.mod_lt _ (by omega)
    have e : left[next k % left.length]? = some left[next k % left.length] := by simp [hi]
    unfold pickOrder.go
    rw [e]
    dsimp only
    refine (pick_go next fuel (k + 1) _ _ (by rw [List.length_eraseIdx_of_lt hi, h]; omega)).trans ?_
    rw [Array.toList_push, List.append_assoc]
    exact (erase_perm hi).append_left _
theorem pick_perm {α : Type} (next : Nat → Nat) (xs : Array α) : (pickOrder next xs).toList.Perm xs.toList := by
  unfold pickOrder
  simpa using pick_go next xs.size 0 xs.toList #[] (by simp)
theorem pick_size {α : Type} (next : Nat → Nat) (xs : Array α) : (pickOrder next xs).size = xs.size := by
  have := (pick_perm next xs).length_eq
  simpa using this

/-- the order in which a set is walked -/
noncomputable def walkL (w : World) (a : Addr) (es : Array (Int × Value)) (ep : Nat) : Array (Int × Value) := if byText w = true then pickOrder (w.params.setOrder a ep) es else es
theorem walkL_size (w : World) (a : Addr) (es : Array (Int × Value)) (ep : Nat) : (walkL w a es ep).size = es.size := by
  unfold walkL
  split
  · exact pick_size _ _
  · rfl
theorem walkL_perm (w : World) (a : Addr) (es : Array (Int × Value)) (ep : Nat) : (walkL w a es ep).toList.Perm es.toList := by
  unfold walkL
  split
  · exact pick_perm _ _
  · exact .refl _
end
section
open PySem PySem.W PyProof.Rows PySem.Calls PySem.Spec
set_option maxRecDepth 100000
set_option maxHeartbeats 4000000
noncomputable def risesB (t : SetTable) (n : Nat) : Bool := SetTable.below t.place 0 == 0 && (List.range n).all fun i => SetTable.below t.place (t.place.getD i 0 + 1) == i + 1
/-- a set may be walked -/
structure WalkOk (w : World) (t : SetTable) (n : Nat) : Prop where
  led : byText w = true ∨ t.led = true
  plain : byText w = true ∨ t.plain = true
  rises : byText w = true ∨ risesB t n = true
noncomputable abbrev sitObj (slot i n ep : Nat) (a : Addr) : Obj := { cls := .type "set_iterator", data := .fields #[.int slot 0, .int i 0, .ref a, .int n 0, .int ep 0] }
structure SitSt (w : World) (a I : Addr) (o : Obj) (t : SetTable) (n ep i : Nat) (s : Shared) : Prop where
  set : s.heap.get? a = some o
  it : ∃ slot, s.heap.get? I = some (sitObj slot i n ep a) ∧ (byText w = true ∨ SetTable.below t.place slot = i)
section
variable {prog : Program} {w : World} {A : Around} {E : Value → Shared → Prop} {s : Shared}
theorem sit_next {a I : Addr} {o : Obj} {es : Array (Int × Value)} {ep i : Nat} {t : SetTable} {Q : Option Value → Shared → Prop} (hd : o.data = .set es ep t) (hf : t.fits es.size = true) (W : WalkOk w t es.size) (hne : a ≠ I) (hi : i < es.size)
    (hst : SitSt w a I o t es.size ep i s) (h : ∀ h', SitSt w a I o t es.size ep (i + 1) { s with heap := h' } → (∀ b ob, b ≠ I → s.heap.get? b = some ob → h'.get? b = some ob) → ∀ e, (walkL w a es ep)[i]? = some e → Q (some e.2) { s with heap := h' }) :
    wpAny (model prog w) A (pyNext (.ref I)) Q E s := by
  obtain ⟨ho, slot, hoI, hb⟩ := hst
  have hT : s.TypeIs (.ref I) "set_iterator" := ⟨_, hoI, rfl⟩
  unfold pyNext
  refine wpAny_bind (wpAny_attempt (wpAny_callSpecial?_slot (name := Str.ofString "__next__") hT slot_sit_next
    (wpAny_call_entry slot_sit_next hT entry_sit_next ?_ (args_sit_next _))))
  show wpAny _ _ (fieldsOf (.ref I) >>= _) _ _ s
  refine wpAny_bind (wpAny_fieldsOf hoI rfl ?_)
  show wpAny _ _ (setEntries a >>= _) _ _ s
  refine wpAny_bind (wpAny_setEntries_of ho hd hf ?_)
  rw [if_neg (by simp)]
  show wpAny _ _ (setNext a slot i ep >>= _) _ _ s
  unfold setNext
  refine wpAny_bind (wpAny_bind (wpAny_setState_of ho hd hf ?_))
  refine wpAny_bind (wp_byText ?_)
  have fin : ∀ (next : Nat) (x : Value), (byText w = true ∨ SetTable.below t.place next = i + 1) → (∃ e, (walkL w a es ep)[i]? = some e ∧ x = e.2) →
      wpAny (model prog w) A.in1 (do setField (Value.ref I) 0 (rawInt next); setField (Value.ref I) 1 (rawInt ((i : Int) + 1)); ret x) (fun fin s' => ∃ v, fin = Fin.done (Flow.ret v) ∧ wpAny (model prog w) A (pure (some v)) Q E s')
        (fun e s' => wpAny (model prog w) A (do let __do_lift ← isInstance e (Value.type "StopIteration"); if __do_lift = true then pure none else throw e) Q E s') s := by
    rintro next x hn ⟨e, he, rfl⟩
    refine wpAny_bind (wpAny_setField_rec hoI (by simp) fun h1 ho1 sb1 => ?_)
    refine wpAny_bind (wpAny_setField_rec (s := { s with heap := h1 }) ho1 (by simp) fun h2 ho2 sb2 => ?_)
    refine wpAny_pure ⟨_, rfl, wpAny_pure (h h2 ⟨?_, next, ?_, hn⟩ (fun b ob hb e => (sb2.2 b hb).trans ((sb1.2 b hb).trans e)) e he)⟩
    · exact (sb2.2 a hne).trans ((sb1.2 a hne).trans ho)
    · refine ho2.trans ?_
      simp [sitObj, rawInt]
  have hL : (walkL w a es ep)[i]? = some ((walkL w a es ep)[i]'(by rw [walkL_size]; exact hi)) := by simp [walkL_size, hi]
  split
  · rename_i hbt
    have hbt' : byText w = true := hbt
    rw [if_neg (by simp)]
    unfold setWalk
    refine wpAny_bind (wpAny_bind (wpAny_setState_of ho hd hf ?_))
    refine wpAny_bind (wp_byText ?_)
    rw [if_pos hbt]
    refine wpAny_bind (wpAny_askSetting (wpAny_pure (wpAny_pure ?_)))
    have e1 : pickOrder ((⟨(model prog w).prog, (model prog w).w.params⟩ : Setting).params.setOrder a ep) es = walkL w a es ep := by
      unfold walkL; rw [if_pos hbt']; rfl
    rw [e1, hL]
    exact fin slot _ (.inl hbt') ⟨_, hL, rfl⟩
  · rename_i hbt
    have hbt' : ¬ byText w = true := hbt
    have hp := W.plain.resolve_left hbt'
    have hl := W.led.resolve_left hbt'
    have hr := W.rises.resolve_left hbt'
    have hz : (!t.plain && decide (es.size > 1)) = false := by rw [hp]; rfl
    split
    · rename_i hc
      exact absurd (show (!t.plain && decide (es.size > 1)) = true from hc) (by rw [hz]; nofun)
    · skip
      refine wpAny_bind ?_
      have hz2 : (!t.led && !es.isEmpty) = false := by rw [hl]; rfl
      show wpAny _ _ (if (!t.led && !es.isEmpty) = true then unsupported "set:maker-not-led" else pure ()) _ _ _
      rw [hz2]
      refine wpAny_pure (wpAny_pure ?_)
      rw [hb.resolve_left hbt']
      have hps : t.place.size = es.size := by simp only [SetTable.fits, Bool.and_eq_true, beq_iff_eq] at hf; exact hf.1
      have g1 : es[i]? = some es[i] := by simp [hi]
      have g2 : t.place[i]? = some (t.place.getD i 0) := by simp [hps, hi, Array.getD]
      rw [g1, g2]
      have e2 : walkL w a es ep = es := by unfold walkL; rw [if_neg hbt']
      simp only [risesB, Bool.and_eq_true, List.all_eq_true, beq_iff_eq] at hr
      exact fin (t.place.getD i 0 + 1) _ (.inr (hr.2 i (by simpa using hi))) ⟨es[i], by rw [e2]; exact g1, rfl⟩
end
end
section
open PySem PySem.W PyProof.Rows PySem.Calls PySem.Spec
set_option maxRecDepth 100000
set_option maxHeartbeats 4000000
section
variable {prog : Program} {w : World} {A : Around} {E : Value → Shared → Prop} {s : Shared}
theorem sit_done {a I : Addr} {o : Obj} {es : Array (Int × Value)} {ep : Nat} {t : SetTable} {Q : Option Value → Shared → Prop} (hh : A.handled = none) (hd : o.data = .set es ep t) (hf : t.fits es.size = true) (W : WalkOk w t es.size)
    (hst : SitSt w a I o t es.size ep es.size s) (h : ∀ h', (∀ b ob, b ≠ I → s.heap.get? b = some ob → h'.get? b = some ob) → Q none { s with heap := h' }) :
    wpAny (model prog w) A (pyNext (.ref I)) Q E s := by
  obtain ⟨ho, slot, hoI, hb⟩ := hst
  have hT : s.TypeIs (.ref I) "set_iterator" := ⟨_, hoI, rfl⟩
  unfold pyNext
  refine wpAny_bind (wpAny_attempt (wpAny_callSpecial?_slot (name := Str.ofString "__next__") hT slot_sit_next
    (wpAny_call_entry slot_sit_next hT entry_sit_next ?_ (args_sit_next _))))
  show wpAny _ _ (fieldsOf (.ref I) >>= _) _ _ s
  refine wpAny_bind (wpAny_fieldsOf hoI rfl ?_)
  show wpAny _ _ (setEntries a >>= _) _ _ s
  refine wpAny_bind (wpAny_setEntries_of ho hd hf ?_)
  rw [if_neg (by simp)]
  show wpAny _ _ (setNext a slot es.size ep >>= _) _ _ s
  unfold setNext
  refine wpAny_bind (wpAny_bind (wpAny_setState_of ho hd hf ?_))
  refine wpAny_bind (wp_byText ?_)
  split
  · rename_i hbt
    have hbt' : byText w = true := hbt
    rw [if_neg (by simp)]
    unfold setWalk
    refine wpAny_bind (wpAny_bind (wpAny_setState_of ho hd hf ?_))
    refine wpAny_bind (wp_byText ?_)
    rw [if_pos hbt]
    refine wpAny_bind (wpAny_askSetting (wpAny_pure (wpAny_pure ?_)))
    have e1 : ∀ f, (pickOrder f es)[es.size]? = none := fun f => by simp [pick_size]
    rw [e1]
    show wpAny _ _ (setField (.ref I) 2 .none >>= _) _ _ s
    refine wpAny_bind (wpAny_setField_rec hoI (by simp) fun h1 ho1 sb1 => ?_)
    exact stop_raised hh fun x h2 k2 isStop => wpAny_bind (wpAny_isInstance isStop isSubtype_stop (wpAny_pure (h h2 fun b ob hb e => k2 b ob ((sb1.2 b hb).trans e))))
  · rename_i hbt
    have hbt' : ¬ byText w = true := hbt
    have hp := W.plain.resolve_left hbt'
    have hl := W.led.resolve_left hbt'
    have hz : (!t.plain && decide (es.size > 1)) = false := by rw [hp]; rfl
    split
    · rename_i hc
      exact absurd (show (!t.plain && decide (es.size > 1)) = true from hc) (by rw [hz]; nofun)
    · refine wpAny_bind ?_
      have hz2 : (!t.led && !es.isEmpty) = false := by rw [hl]; rfl
      show wpAny _ _ (if (!t.led && !es.isEmpty) = true then unsupported "set:maker-not-led" else pure ()) _ _ _
      rw [hz2]
      refine wpAny_pure (wpAny_pure ?_)
      rw [hb.resolve_left hbt']
      have g1 : es[es.size]? = none := by simp
      rw [g1]
      show wpAny _ _ (setField (.ref I) 2 .none >>= _) _ _ s
      refine wpAny_bind (wpAny_setField_rec hoI (by simp) fun h1 ho1 sb1 => ?_)
      exact stop_raised hh fun x h2 k2 isStop => wpAny_bind (wpAny_isInstance isStop isSubtype_stop (wpAny_pure (h h2 fun b ob hb e => k2 b ob ((sb1.2 b hb).trans e))))

theorem pyIter_sit {I : Addr} {Q : Value → Shared → Prop} (hT : s.TypeIs (.ref I) "set_iterator") (h : Q (.ref I) s) : wpAny (model prog w) A (pyIter (.ref I)) Q E s := by
  refine wpAny_pyIter_slot hT slot_sit_iter (wpAny_call_entry slot_sit_iter hT entry_sit_iter ?_ (args_sit_iter _))
  show wpAny _ _ (ret (.ref I)) _ _ s
  exact wpAny_pure ⟨_, rfl, "set_iterator", _, hT, slot_sit_next.lookup, h⟩

theorem walks_set {a I : Addr} {o : Obj} {es : Array (Int × Value)} {ep : Nat} {t : SetTable} (hh : A.handled = none) (hd : o.data = .set es ep t) (hf : t.fits es.size = true) (W : WalkOk w t es.size) (hne : a ≠ I) :
    WalksS prog w A I [I, a] [I] (fun x y => y = x) es.size (fun i v => ∃ e, (walkL w a es ep)[i]? = some e ∧ v = e.2) (fun i s => SitSt w a I o t es.size ep i s) where
  sub := fun b hb => by simp at hb; simp [hb]
  grefl := fun _ => rfl
  gtrans := fun _ _ _ x y => y.trans x
  frame := fun i s h' tk st _ hk => by
    obtain ⟨ho, slot, hoI, hb⟩ := st
    exact ⟨hk a (by simp) _ ho, slot, hk I (by simp) _ hoI, hb⟩
  item := fun i s Q E hi st hQ => sit_next hd hf W hne hi st fun h' st' hk e he => hQ _ _ ⟨e, he, rfl⟩ st' ⟨fun b ob hb eb => hk b ob (fun q => hb (by simp [q])) eb, rfl, rfl, rfl, Nat.le_refl _⟩
  done := fun s Q E st hQ => sit_done hh hd hf W st fun h' hk => hQ _ ⟨fun b ob hb eb => hk b ob (fun q => hb (by simp [q])) eb, rfl, rfl, rfl, Nat.le_refl _⟩
  self := fun i s Q E st hQ => by
    obtain ⟨ho, slot, hoI, hb⟩ := st
    exact pyIter_sit ⟨_, hoI, rfl⟩ hQ
end
end
section
open PySem PySem.W PyProof.Rows PySem.Calls PySem.Spec
set_option maxRecDepth 100000
set_option maxHeartbeats 4000000
theorem below_zero (xs : Array Nat) : SetTable.below xs 0 = 0 := by
  unfold SetTable.below
  have : ∀ (f hi : Nat), SetTable.below.go xs 0 f 0 hi = 0 := by
    intro f
    induction f with
    | zero => intro hi; rfl
    | succ f ih =>
      intro hi
      unfold SetTable.below.go
      split
      · dsimp only
        rw [if_neg (by omega)]
        exact ih _
      · rfl
  exact this _ _
section
variable {prog : Program} {w : World} {A : Around} {E : Value → Shared → Prop} {s : Shared}
theorem drawn_no {a : Addr} {o : Obj} {es : Array (Int × Value)} {ep : Nat} {t : SetTable} {Q : Bool → Shared → Prop} (ho : s.heap.get? a = some o) (hd : o.data = .set es ep t) (hf : t.fits es.size = true) (W : WalkOk w t es.size) (h : Q false s) :
    wpAny (model prog w) A (setDrawn a) Q E s := by
  have no : (!byText w && (!t.plain && decide (es.size > 1))) = false := by rcases W.plain with q | q <;> simp [q]
  unfold setDrawn
  refine wpAny_bind (wpAny_setState_of ho hd hf (wpAny_bind (wp_byText (wpAny_pure ?_))))
  show Q (!byText w && (!t.plain && decide (es.size > 1))) s
  exact no ▸ h
theorem pyIter_set {a : Addr} {o : Obj} {es : Array (Int × Value)} {ep : Nat} {t : SetTable} {Q : Value → Shared → Prop} (ho : s.heap.get? a = some o) (hex : o.ExactSet) (hd : o.data = .set es ep t) (hf : t.fits es.size = true) (W : WalkOk w t es.size)
    (h : Q (.ref s.heap.objs.size) { s with heap := s.heap.push (sitObj 0 0 es.size ep a) }) : wpAny (model prog w) A (pyIter (.ref a)) Q E s := by
  have hT : s.TypeIs (.ref a) "set" := ⟨o, ho, hex.1⟩
  refine wpAny_pyIter_slot hT PySem.F.slot_set_iter (wpAny_call_entry PySem.F.slot_set_iter hT entry_set_iter ?_ (PySem.F.args_set_iter_1 _))
  unfold Builtin.«frozenset.__iter__»
  refine wpAny_bind (wpAny_of_eq (a := a) rfl ?_)
  refine wpAny_bind (wpAny_bind (wpAny_setEntries_of ho hd hf (wpAny_pure (wpAny_bind (drawn_no ho hd hf W ?_)))))
  refine wpAny_bind (wpAny_pure (wpAny_bind (wpAny_setEpoch_of ho hd hf (wpAny_bind (wpAny_newObj_type (wpAny_pure ?_) (by size_fits))))))
  exact ⟨_, rfl, "set_iterator", _, ⟨_, Heap.get?_push_size _ rfl, rfl⟩, slot_sit_next.lookup, h⟩

theorem collect_set {a : Addr} {o : Obj} {es : Array (Int × Value)} {ep : Nat} {t : SetTable} {Q : List Value → Shared → Prop} (hh : A.handled = none) (ho : s.heap.get? a = some o) (hex : o.ExactSet) (hd : o.data = .set es ep t) (hf : t.fits es.size = true) (W : WalkOk w t es.size) (hsz : es.size ≤ 1000)
    (h : ∀ s', (∀ b ob, s.heap.get? b = some ob → s'.heap.get? b = some ob) → s'.gens = s.gens → s'.os = s.os → Q ((walkL w a es ep).toList.map (·.2)) s') :
    wpAny (model prog w) A (collect (.ref a)) Q E s := by
  have hT : s.TypeIs (.ref a) "set" := ⟨o, ho, hex.1⟩
  have halt : a < s.heap.objs.size := Heap.lt_size ho
  unfold collect
  refine wpAny_bind (wpAny_runValue (codeAny_builtin PySem.F.entry_proto_collect ?_))
  rw [Around.under_plainId PySem.F.plain_proto_collect _]
  show wpAny _ A.in1 (newList [] >>= fun l => again (.builtin "list.__iadd__" ⟨[l, .ref a], []⟩)) _ _ s
  refine wpAny_bind (wpAny_newObj_type ?_)
  refine wpAny_pure ⟨plainId_quiet PySem.F.plain_list_iadd _, codeAny_builtin PySem.F.entry_list_iadd ?_⟩
  rw [Around.under_plainId PySem.F.plain_list_iadd _]
  have hS₁ : (s.heap.push { cls := .type "list", data := .seq ([] : List Value).toArray }).get? s.heap.objs.size = some { cls := .type "list", data := .seq ([] : List Value).toArray } := Heap.get?_push_size _ rfl
  have ho₁ : (s.heap.push { cls := .type "list", data := .seq ([] : List Value).toArray }).get? a = some o := Heap.get?_push_of_some _ ho
  have hSa : s.heap.objs.size ≠ a := fun e => Nat.lt_irrefl _ (e ▸ halt)
  have h1 : Builtin.List.listSameRef (.ref s.heap.objs.size) (.ref a) = false := by simp [Builtin.List.listSameRef, hSa]
  show wpAny _ A.in1 (Builtin.List.listExtendWith (.ref s.heap.objs.size) (.ref a) (.ref s.heap.objs.size)) _ _ { s with heap := s.heap.push { cls := .type "list", data := .seq ([] : List Value).toArray } }
  unfold Builtin.List.listExtendWith
  refine wpAny_bind (wpAny_typeOf (T := "set") ⟨o, ho₁, hex.1⟩ ?_)
  rw [if_neg (by rw [h1]; decide)]
  refine wpAny_bind (pyIter_set (s := { s with heap := s.heap.push { cls := .type "list", data := .seq ([] : List Value).toArray } }) ho₁ hex hd hf W ?_)
  dsimp only
  refine wpAny_bind (wpAny_holding ?_)
  have hz : (s.heap.push { cls := .type "list", data := .seq ([] : List Value).toArray }).objs.size = s.heap.objs.size + 1 := size_push' ..
  rw [hz]
  have ho₂ : ((s.heap.push { cls := .type "list", data := .seq ([] : List Value).toArray }).push (sitObj 0 0 es.size ep a)).get? a = some o := Heap.get?_push_of_some _ ho₁
  unfold Builtin.List.listLengthHint
  refine wpAny_bind (wpAny_specialOf (T := "set") ⟨o, ho₂, hex.1⟩ PySem.F.slot_set_len.lookup ?_)
  generalize hid : ("set.__len__" : String) = id0
  dsimp only
  rw [show splitId id0 = some ("set", "__len__") from by subst hid; decide +kernel]
  subst hid
  dsimp only
  refine wpAny_bind (wpAny_isInstance (T := "set") (b := true) ⟨o, ho₂, hex.1⟩ sub_set_self ?_)
  rw [if_neg (by decide)]
  refine wpAny_ite_true (by decide +kernel) ?_
  refine wpAny_bind (wpAny_typeOf (T := "set") ⟨o, ho₂, hex.1⟩ ?_)
  refine wpAny_pure ?_
  refine wpAny_ite_true (by decide +kernel) ?_
  refine wpAny_bind (wpAny_rule ?_)
  unfold Builtin.List.listTouch
  have hS₂ : ((s.heap.push { cls := .type "list", data := .seq ([] : List Value).toArray }).push (sitObj 0 0 es.size ep a)).get? s.heap.objs.size = some (seqObj "list" #[] 0) := Heap.get?_push_of_some _ hS₁
  have hI₂ : ((s.heap.push { cls := .type "list", data := .seq ([] : List Value).toArray }).push (sitObj 0 0 es.size ep a)).get? (s.heap.objs.size + 1) = some (sitObj 0 0 es.size ep a) := by
    rw [← hz]; exact Heap.get?_push_size _ rfl
  have hk₂ : ∀ b ob, s.heap.get? b = some ob → b ≠ s.heap.objs.size → ((s.heap.push { cls := .type "list", data := .seq ([] : List Value).toArray }).push (sitObj 0 0 es.size ep a)).get? b = some ob := fun b ob e _ => Heap.get?_push_of_some _ (Heap.get?_push_of_some _ e)
  have hlt : ∀ b ob, s.heap.get? b = some ob → b ≠ s.heap.objs.size := fun b ob e q => Nat.lt_irrefl _ (q ▸ Heap.lt_size e)
  generalize (s.heap.push { cls := .type "list", data := .seq ([] : List Value).toArray }).push (sitObj 0 0 es.size ep a) = H at ho₂ hS₂ hI₂ hk₂ ⊢
  have hIS : s.heap.objs.size + 1 ≠ s.heap.objs.size := Nat.succ_ne_self _
  have haI : a ≠ s.heap.objs.size + 1 := Nat.ne_of_lt (Nat.lt_succ_of_lt halt)
  have hlt2 : ∀ b ob, s.heap.get? b = some ob → b ≠ s.heap.objs.size + 1 := fun b ob e => Nat.ne_of_lt (Nat.lt_succ_of_lt (Heap.lt_size e))
  generalize s.heap.objs.size = S at hSa hS₂ hI₂ hk₂ hlt hIS haI hlt2 ⊢
  refine wpAny_bind (wpAny_bind (listUpdate_at hS₂ rfl ?_ (by decide) (by rw [sizeLine_eq]; decide)))
  obtain ⟨e1, ho1⟩ : ∃ e1, (H.update S (Obj.mapSeq (·.push .none))).get? S = some (seqObj "list" #[.none] e1) := ⟨_, get?_update_seq hS₂ _⟩
  refine listUpdate_at ho1 rfl ?_ (by rw [sizeLine_eq]; decide) (by rw [sizeLine_eq]; decide)
  obtain ⟨e2, ho2⟩ : ∃ e2, ((H.update S (Obj.mapSeq (·.push .none))).update S (Obj.mapSeq (·.pop))).get? S = some (seqObj "list" #[] e2) := ⟨_, get?_update_seq ho1 _⟩
  have hk3 : ∀ b ob, b ≠ S → H.get? b = some ob → ((H.update S (Obj.mapSeq (·.push .none))).update S (Obj.mapSeq (·.pop))).get? b = some ob := fun b ob hb e => by
    rw [Heap.get?_update_ne _ _ _ _ hb, Heap.get?_update_ne _ _ _ _ hb]; exact e
  refine wpAny_pure ⟨plainId_quiet PySem.F.plain_extend_loop _, codeAny_extend_loopS (walks_set (A := A.in1) hh hd hf W haI) (by rw [sizeLine_eq]; omega) S (by simp [hSa]) _ es.size 0 _ _ _ rfl (Nat.zero_le _) ⟨hk3 _ _ (Ne.symm hSa) ho₂, 0, hk3 _ _ hIS hI₂, .inr (below_zero _)⟩ ho2 (ItemsOf.nil _) fun s' acc' c' hm hS' hacc => ?_⟩
  show wpAny _ A (load S >>= _) _ _ s'
  refine wpAny_bind (wpAny_load hS' ?_)
  have hr : acc'.toList = (walkL w a es ep).toList.map (·.2) := by
    apply List.ext_getElem?
    intro j
    rw [List.getElem?_map, Array.getElem?_toList, Array.getElem?_toList]
    cases hj : acc'[j]? with
    | some v =>
      obtain ⟨e, he, rfl⟩ := hacc.2 j v hj
      rw [he]; rfl
    | none =>
      have h1 : acc'.size ≤ j := by simpa using hj
      have h2 : (walkL w a es ep)[j]? = none := by
        rw [Array.getElem?_eq_none_iff, walkL_size, ← hacc.1]; exact h1
      rw [h2]; rfl
  refine wpAny_pure ?_
  rw [hr]
  refine h s' (fun b ob e => hm.heap b ob ?_ (hk3 b ob (hlt b ob e) (hk₂ b ob e (hlt b ob e)))) hm.gens hm.os
  intro hb
  rcases List.mem_cons.mp hb with q | q
  · exact hlt b ob e q
  · exact hlt2 b ob e (List.mem_singleton.mp q)
end
end
section
open PySem PySem.W PyProof.Rows PySem.Calls PySem.Spec
set_option maxRecDepth 100000
set_option maxHeartbeats 4000000
theorem sorted_unique {α : Type} {le : α → α → Prop} (anti : ∀ a b, le a b → le b a → a = b) : ∀ {L M : List α}, L.Pairwise le → M.Pairwise le → L.Perm M → L = M
  | [], M, _, _, p => p.nil_eq
  | a :: L, [], _, _, p => absurd p.length_eq (by simp)
  | a :: L, b :: M, h1, h2, p => by
    have r1 := List.pairwise_cons.mp h1
    have r2 := List.pairwise_cons.mp h2
    have hab : a = b := by
      rcases List.mem_cons.mp (p.mem_iff.mp (List.mem_cons_self (a := a) (l := L))) with e | m
      · exact e
      · rcases List.mem_cons.mp (p.mem_iff.mpr (List.mem_cons_self (a := b) (l := M))) with e | m'
        · exact e.symm
        · exact anti _ _ (r1.1 _ m') (r2.1 _ m)
    subst hab
    rw [sorted_unique anti r1.2 r2.2 (p.cons_inv)]
theorem ints_nat {vs : List Value} {ns : List Int} (h : IntsAre vs ns) (hp : Heap) : ∀ {l : List Nat}, ns = l.map (fun k : Nat => (k : Int)) → VRs hp (l.map nt) vs := by
  induction h with
  | nil => intro l e; cases l with
    | nil => exact .nil
    | cons a l => cases e
  | cons n t r ih => intro l e; cases l with
    | nil => cases e
    | cons a l =>
      simp only [List.map_cons, List.cons.injEq] at e
      obtain ⟨rfl, e⟩ := e
      exact .cons (.int _ _) (ih e)
theorem ints_elems : ∀ {es : List (Int × Value)}, (∀ e ∈ es, OkE e) → IntsAre (es.map (·.2)) ((es.map keyE).map fun k : Nat => (k : Int))
  | [], _ => .nil
  | e :: es, h => by
    obtain ⟨k, t, rfl⟩ := h e (.head _)
    exact .cons _ _ (ints_elems fun e he => h e (.tail _ he))
section
variable {prog : Program} {w : World} {A : Around} {E : Value → Shared → Prop} {s : Shared}
theorem sorted_set {a : Addr} {o : Obj} {x : TS} {Q : Value → Shared → Prop} (hh : A.handled = none) (ho : s.heap.get? a = some o) (hI : SetI o x) (hf : x.1.fits x.2.size = true) (hb : x.2.size < 64) (W : WalkOk w x.1 x.2.size)
    (h : ∀ D (L : List Nat) h' tk dr vs e, L.Perm x.2.toList → L.Pairwise (· ≤ ·) → (∀ b o, s.heap.get? b = some o → h'.get? b = some o) → s.heap.get? D = none → h'.get? D = some (seqObj "list" vs e) → VRs h' (L.map nt) vs.toList → Q (.ref D) { s with heap := h', toks := tk, drawn := dr }) :
    wpAny (model prog w) A (call (.builtin "sorted") [.ref a]) Q E s := by
  obtain ⟨es, ep, hd, hm, hk⟩ := hI.data
  have hsz : es.size = x.2.size := by rw [← hm, Array.size_map]
  have hf' : x.1.fits es.size = true := by rw [hsz]; exact hf
  rw [← hsz] at W
  refine Calls.call_function_entry kind_sorted plain_sorted entry_sorted (args_sorted1 _) ?_
  unfold Builtin.«sorted»
  refine wpAny_bind (m := checkCount "sorted" 1 1 _) (wpAny_pure ?_)
  refine wpAny_bind (collect_set hh ho hI.exact_ hd hf' W (by omega) fun s' hk' hg hos => ?_)
  have hp := walkL_perm w a es ep
  have hlen : ((walkL w a es ep).toList.map (·.2)).length = es.size := by rw [List.length_map, hp.length_eq, Array.length_toList]
  refine wpAny_bind (wpAny_newList ?_ (by rw [hlen, sizeLine_eq]; omega))
  have hIA := ints_elems (es := (walkL w a es ep).toList) fun e he => hk e (hp.mem_iff.mp he)
  have hpk : ((walkL w a es ep).toList.map keyE).Perm x.2.toList := by
    rw [← hm, Array.toList_map]; exact hp.map _
  generalize (walkL w a es ep).toList.map (·.2) = vs at hIA hlen ⊢
  generalize (walkL w a es ep).toList.map keyE = ks at hIA hpk
  have hoL : (s'.heap.push (seqObj "list" vs.toArray 0)).get? s'.heap.objs.size = some (seqObj "list" vs.toArray 0) := Heap.get?_push_size _ rfl
  have hn : s.heap.get? s'.heap.objs.size = none := by
    cases q : s.heap.get? s'.heap.objs.size with
    | none => rfl
    | some o => exact absurd (Heap.lt_size (hk' _ _ q)) (Nat.lt_irrefl _)
  refine wpAny_bind (wpAny_holding (wpAny_call_entry slot_list_sort ⟨_, hoL, rfl⟩ entry_list_sort
    (list_sort_tree (s := { s' with heap := s'.heap.push (seqObj "list" vs.toArray 0) }) hoL hIA (by omega) fun out ns' a1 a2 a3 => ⟨_, rfl, wpAny_pure ⟨_, rfl, ?_⟩⟩) (args_list_sort _)))
  obtain ⟨e, he⟩ := sortedHeap_at (out := out) hoL
  have hold : ∀ b o, s.heap.get? b = some o → (sortedHeap (s'.heap.push (seqObj "list" vs.toArray 0)) s'.heap.objs.size vs out).get? b = some o := fun b o q => by
    have q2 := hk' b o q
    have hlt := Heap.lt_size q2
    rw [sortedHeap_old (Nat.ne_of_lt hlt) (by rw [size_push']; exact Nat.lt_succ_of_lt hlt)]
    exact Heap.get?_push_of_some _ q2
  obtain ⟨H', G', D', T', O'⟩ := s'
  dsimp only at hg hos hn hold he ⊢
  subst hg hos
  have e0 : ns' = (ns'.map Int.toNat).map fun k : Nat => (k : Int) := by
    rw [List.map_map]
    conv => lhs; rw [← List.map_id ns']
    refine List.map_congr_left fun i hi => ?_
    obtain ⟨k, _, rfl⟩ := List.mem_map.mp (a2.mem_iff.mp hi)
    rfl
  refine h _ (ns'.map Int.toNat) _ T' D' out e ?_ ?_ hold hn he (ints_nat a1 _ e0)
  · have := a2.map Int.toNat
    rw [List.map_map] at this
    have e1 : List.map (Int.toNat ∘ fun k : Nat => (k : Int)) ks = ks := by
      conv => rhs; rw [← List.map_id ks]
      exact List.map_congr_left fun k _ => rfl
    rw [e1] at this
    exact this.trans hpk
  · rw [e0] at a3
    refine (List.pairwise_map.mp a3).imp fun h => ?_
    omega
end
section
variable {cx : Cx} {fm : Fm} {A : Around} {Q : V → St → Prop} {loc : Loc} {ar : Ar}
theorem Rel.redrawn {st : St} {s : Shared} {h' : Heap} {tk : Nat} {dr : Drawn} (r : Rel cx fm st { s with heap := h', toks := tk }) : Rel cx fm st { s with heap := h', toks := tk, drawn := dr } :=
  ⟨⟨r.h.gens, r.h.os, r.h.keep, r.h.objs, r.h.off, r.h.nodup, r.h.tabs⟩, r.loc, r.off, r.fn, r.cells, r.globs⟩
theorem B_sortedSet {a : Addr} {x : TS} {L : List Nat} (hA : A.handled = none) (hat : At a (.set x) ar) (hf : x.1.fits x.2.size = true) (hb : x.2.size < 64) (W : WalkOk cx.w x.1 x.2.size) (hL : L.Perm x.2.toList) (hs : L.Pairwise (· ≤ ·))
    (h : ∀ d, Q (.ref d) ⟨loc, (d, .list (L.map nt)) :: ar⟩) : OpN cx fm A (fun xs => call (.builtin "sorted") xs) VR [.ref a] ⟨loc, ar⟩ Q := fun s xs Qr Er r rx kk => by
  cases rx with
  | cons ra rx =>
    cases ra
    cases rx
    obtain ⟨o, e, q⟩ := r.h.setAt hat
    refine sorted_set hA e q hf hb W fun D M h' tk dr vs ep a1 a2 a3 a4 a5 a6 => ?_
    have hML : M = L := sorted_unique (fun a b => Nat.le_antisymm) a2 hs (a1.trans hL.symm)
    subst hML
    obtain ⟨r2, x2⟩ := r.made (tk := tk) (x := .list (M.map nt)) a3 a4 a5 (by
      have := OR.list (n := ep) a6
      rwa [Array.toArray_toList] at this)
    exact kk _ _ _ _ (h D) r2.redrawn (.ref _) x2
end
end
section
open PySem PySem.W PyProof.Rows PySem.Calls PySem.Spec
set_option maxRecDepth 100000
set_option maxHeartbeats 4000000
/-! iterators of lists, in the arena -/
noncomputable abbrev itObj (l : Addr) (i : Nat) : Obj := { cls := .type "list_iterator", data := .fields #[.ref l, .int i 0] }
noncomputable abbrev itEnd (i : Nat) : Obj := { cls := .type "list_iterator", data := .fields #[.none, .int i 0] }
theorem soft_it (l : Addr) (i : Nat) : Soft (itObj l i) := soft_of (vs := #[.ref l, .int i 0]) rfl (by simp)
theorem soft_itEnd (i : Nat) : Soft (itEnd i) := soft_of (vs := #[.none, .int i 0]) rfl (by simp)
section
variable {prog : Program} {w : World} {A : Around} {E : Value → Shared → Prop} {s : Shared}
/-- a list's iterator: it gives the item where it stands, or ends by StopIteration -/
theorem li_body {I l : Addr} {i : Nat} {items : Array Value} {Q : PySem.Fin → Shared → Prop} (hoI : s.heap.get? I = some (itObj l i)) (hl : s.heap.IsList l items)
    (more : ∀ x h', items[i]? = some x → h'.get? I = some (itObj l (i + 1)) → Heap.SameBut I s.heap h' → Q (.done (.ret x)) { s with heap := h' })
    (done : items[i]? = none → A.handled = none ∧ ∀ e h', h'.get? I = some (itEnd i) → (∀ b o, b ≠ I → s.heap.get? b = some o → h'.get? b = some o) → Shared.TypeIs { s with heap := h' } e "StopIteration" → E e { s with heap := h' }) :
    wpAny (model prog w) A (Builtin.«list_iterator.__next__» ⟨[.ref I], []⟩) Q E s := by
  obtain ⟨o, at_, _, n, isSeq⟩ := hl
  refine wpAny_bind (m := field (.ref I) 0) (wpAny_field hoI rfl (x := .ref l) rfl ?_)
  refine wpAny_bind (m := field (.ref I) 1) (wpAny_field hoI rfl (x := .int i 0) rfl (wpAny_bind (m := seqItems? (.ref l)) (wpAny_seqItems at_ isSeq ?_)))
  cases hx : items[i]? with
  | some x =>
    simp only [Int.toNat_natCast, hx]
    exact wpAny_bind (wpAny_setField_rec hoI (by simp) fun h1 ho1 sb1 => wpAny_pure (more x h1 hx (by rw [ho1]; simp [itObj, rawInt]) sb1))
  | none =>
    simp only [Int.toNat_natCast, hx]
    obtain ⟨hh, fin⟩ := done hx
    exact wpAny_bind (wpAny_rule (wpAny_bind (wpAny_setField_rec hoI (by simp) fun h1 ho1 sb1 => stop_raised hh fun x h2 k2 isStop => fin x h2 (k2 I _ (by rw [ho1]; simp [itEnd])) (fun b o hb e => k2 b o ((sb1.2 b hb).trans e)) isStop)))
theorem li_special {I l : Addr} {i : Nat} {items : Array Value} {x : Value} {Q : Option Value → Shared → Prop} (hoI : s.heap.get? I = some (itObj l i)) (hl : s.heap.IsList l items) (hx : items[i]? = some x)
    (hQ : ∀ h', h'.get? I = some (itObj l (i + 1)) → Heap.SameBut I s.heap h' → Q (some x) { s with heap := h' }) : wpAny (model prog w) A (callSpecial? (.ref I) "__next__") Q E s :=
  have isIt : s.TypeIs (.ref I) "list_iterator" := ⟨_, hoI, rfl⟩
  wpAny_callSpecial?_slot (name := Str.ofString "__next__") isIt slot_listiter_next (wpAny_call_entry slot_listiter_next isIt entry_listiter_next
    (li_body hoI hl (fun y h' q c1 c2 => ⟨y, rfl, by rw [hx] at q; cases q; exact hQ h' c1 c2⟩) fun q => by rw [hx] at q; cases q) (args_listiter_next _))
theorem li_item {I l : Addr} {i : Nat} {items : Array Value} {x : Value} {Q : Option Value → Shared → Prop} (hoI : s.heap.get? I = some (itObj l i)) (hl : s.heap.IsList l items) (hx : items[i]? = some x)
    (hQ : ∀ h', h'.get? I = some (itObj l (i + 1)) → Heap.SameBut I s.heap h' → Q (some x) { s with heap := h' }) : wpAny (model prog w) A (pyNext (.ref I)) Q E s := by
  unfold pyNext
  exact wpAny_bind (wpAny_attempt (li_special hoI hl hx fun h' h1 h2 => wpAny_pure (hQ h' h1 h2)))
theorem li_end {I l : Addr} {i : Nat} {items : Array Value} {Q : Option Value → Shared → Prop} (hh : A.handled = none) (hoI : s.heap.get? I = some (itObj l i)) (hl : s.heap.IsList l items) (hx : items[i]? = none)
    (hQ : ∀ h', h'.get? I = some (itEnd i) → (∀ b o, b ≠ I → s.heap.get? b = some o → h'.get? b = some o) → Q none { s with heap := h' }) : wpAny (model prog w) A (pyNext (.ref I)) Q E s := by
  have isIt : s.TypeIs (.ref I) "list_iterator" := ⟨_, hoI, rfl⟩
  unfold pyNext
  exact wpAny_bind (wpAny_attempt (wpAny_callSpecial?_slot (name := Str.ofString "__next__") isIt slot_listiter_next (wpAny_call_entry slot_listiter_next isIt entry_listiter_next
    (li_body hoI hl (fun y h' q => by rw [hx] at q; cases q) fun _ => ⟨hh, fun e h' c1 c2 isStop => wpAny_bind (wpAny_isInstance isStop isSubtype_stop (wpAny_pure (hQ h' c1 c2)))⟩) (args_listiter_next _))))
theorem call_iter_list {l : Addr} {items : Array Value} {Q : Value → Shared → Prop} (hl : s.heap.IsList l items) (h : Q (.ref s.heap.objs.size) { s with heap := s.heap.push (itObj l 0) }) : wpAny (model prog w) A (call (.builtin "iter") [.ref l]) Q E s := by
  refine call_function_entry (by decide +kernel) (by decide +kernel) kdk_entry_iter (kdk_args_iter _) ?_
  unfold Builtin.«iter»
  refine wpAny_bind (m := someArgs "iter" 1 2 _) (wpAny_of_eq (a := [Value.ref l]) (by first | rfl | kernel_rfl) ?_)
  show wpAny _ _ (pyIter (.ref l) >>= _) _ _ _
  exact wpAny_bind (wpAny_pyIter_list hl (wpAny_pure ⟨_, rfl, h⟩))
theorem call_next_list {I l : Addr} {i : Nat} {items : Array Value} {x : Value} {Q : Value → Shared → Prop} (hoI : s.heap.get? I = some (itObj l i)) (hl : s.heap.IsList l items) (hx : items[i]? = some x)
    (hQ : ∀ h', h'.get? I = some (itObj l (i + 1)) → Heap.SameBut I s.heap h' → Q x { s with heap := h' }) : wpAny (model prog w) A (call (.builtin "next") [.ref I]) Q E s := by
  have hT : s.TypeIs (.ref I) "list_iterator" := ⟨_, hoI, rfl⟩
  refine call_function_entry (by decide +kernel) (by decide +kernel) kdk_entry_next (kdk_args_next _) ?_
  unfold Builtin.«next»
  refine wpAny_bind (m := someArgs "next" 1 2 _) (wpAny_of_eq (a := [Value.ref I]) (by first | rfl | kernel_rfl) ?_)
  dsimp only
  refine wpAny_bind (wpAny_specialOf (name := Str.ofString "__next__") hT slot_listiter_next.lookup ?_)
  refine wpAny_ite_split (fun hab => absurd hab (by decide)) (fun _ => ?_)
  exact wpAny_bind (li_special hoI hl hx fun h' h1 h2 => wpAny_pure ⟨_, rfl, hQ h' h1 h2⟩)
end
section
variable {cx : Cx} {fm : Fm} {A : Around} {st : St} {loc : Loc} {ar : Ar}
theorem HRel.rawAt {a : Addr} {x : Obj} {s : Shared} {ar : Ar} (r : HRel cx ar s) (h : At a (.raw x) ar) : s.heap.get? a = some x := by
  obtain ⟨o, e, q⟩ := r.objs _ h.mem
  cases q with
  | raw q => exact e
theorem B_iter {l : Addr} {vs : List V} {Q : V → St → Prop} (hl : At l (.list vs) ar) (h : ∀ d, Q (.ref d) ⟨loc, (d, .raw (itObj l 0)) :: ar⟩) : OpN cx fm A (fun xs => call (.builtin "iter") xs) VR [.ref l] ⟨loc, ar⟩ Q := fun s xs Qr Er r rx kk => by
  cases rx with
  | cons ra rx =>
    cases ra
    cases rx
    obtain ⟨items, n, e, q⟩ := r.h.list hl
    exact call_iter_list (isList_of e) (kk _ _ _ _ (h _) (r.alloc s.toks (.raw (soft_it l 0)) rfl) (.ref _) (.alloc _ _ r.mt_lt))
theorem B_next {I l : Addr} {i : Nat} {vs : List V} {x : V} {ar' : Ar} {Q : V → St → Prop} (hp : Put I (.raw (itObj l i)) (.raw (itObj l (i + 1))) ar ar') (hl : At l (.list vs) ar) (hx : vs[i]? = some x) (h : Q x ⟨loc, ar'⟩) :
    OpN cx fm A (fun xs => call (.builtin "next") xs) VR [.ref I] ⟨loc, ar⟩ Q := fun s xs Qr Er r rx kk => by
  cases rx with
  | cons ra rx =>
    cases ra
    cases rx
    obtain ⟨items, n, e, q⟩ := r.h.list hl
    obtain ⟨y, ey, ry⟩ := q.get hx
    obtain ⟨o, eo, qo⟩ := r.h.objs _ hp.mem
    cases qo with
    | raw _ =>
      refine call_next_list eo (isList_of e) (x := y) (by simpa using ey) fun h' e' hs => ?_
      have stp : Step I s.heap h' := Step.sameBut hs fun o eo' => by rw [show s.heap.get? I = _ from eo] at eo'; cases eo'; exact soft_it _ _
      exact kk _ _ _ _ h (r.put (tk := s.toks) (dr := s.drawn) hp stp e' (.raw (soft_it _ _))) (ry.mono stp.hard) (.put stp hp e')

theorem EX_forI {target iter : PySem.Expr} {body : List Stmt} {pos : Pos} {Q : Fl → St → Prop} (hA : A.handled = none)
    (h : EV cx fm A iter st fun v st1 => ∃ I l vs i0, v = .ref I ∧ i0 ≤ vs.length ∧ ∃ J : Nat → St → Prop, J i0 st1 ∧ (∀ i st2, J i st2 → At I (.raw (itObj l i)) st2.ar ∧ At l (.list vs) st2.ar) ∧
      (∀ i st2, i < vs.length → J i st2 → ∃ ar', Put I (.raw (itObj l i)) (.raw (itObj l (i + 1))) st2.ar ar' ∧ AS cx fm A target (vs.getD i .none) ⟨st2.loc, ar'⟩ fun st3 => EB cx fm A body st3 (Fl.turn Q (J (i + 1)))) ∧
      ∀ st2, J vs.length st2 → ∃ ar', Put I (.raw (itObj l vs.length)) (.raw (itEnd vs.length)) st2.ar ar' ∧ Q .next ⟨st2.loc, ar'⟩)
    (hs : ∀ env x, foldedSetIterable iter env x = pure x := by walk_at "u") : EX cx fm A (.For target iter body [] pos) st Q := fun s Qr Er r k => by
  refine wpAny_For (h s _ _ r fun v st1 s1 x hv r1 rx e1 => ?_) (hs _)
  obtain ⟨I, l, vs, i0, rfl, hi0, J, j0, jc, turn, fin⟩ := hv
  cases rx
  have hoI := r1.h.rawAt (jc _ _ j0).1
  refine wpAny_pyIter_listiter (l := l) (i := i0) ⟨_, hoI, rfl, rfl⟩ ?_
  refine codeAny_forLoop_any (R := fun r s' => match r with | .ok f => Qr f s' | .error e => cameBackBy cx.M A fm.env Er e s')
    (fun m s' => ∃ i st', i ≤ vs.length ∧ m = vs.length + 1 - i ∧ J i st' ∧ Rel cx fm st' s' ∧ Ext (fm.mt cx) st.ar s.heap st'.ar s'.heap) ?_ (vs.length + 1 - i0) ⟨i0, st1, hi0, rfl, j0, r1, e1⟩
  rintro m s' ⟨i, st', hi, rfl, hJ, r', e'⟩
  obtain ⟨hI, hl⟩ := jc _ _ hJ
  obtain ⟨items, n, e, q⟩ := r'.h.list hl
  have hoI' := r'.h.rawAt hI
  by_cases hlt : i < vs.length
  · have hv : vs[i]? = some (vs.getD i .none) := by simp [List.getD_eq_getElem?_getD, hlt]
    obtain ⟨y, ey, ry⟩ := q.get hv
    obtain ⟨ar', hp, hturn⟩ := turn i st' hlt hJ
    refine li_item hoI' (isList_of e) (x := y) (by simpa using ey) fun h' eI' hsb => ?_
    have stp : Step I s'.heap h' := Step.sameBut hsb fun o eo' => by rw [hoI'] at eo'; cases eo'; exact soft_it _ _
    have r2 := r'.put (tk := s'.toks) (dr := s'.drawn) hp stp eI' (.raw (soft_it _ _))
    have e2 : Ext (fm.mt cx) st'.ar s'.heap ar' h' := .put stp hp eI'
    refine go_harmless (s := { s' with heap := h' }) (o := itObj l (i + 1)) eI' rfl (by decide) ?_
    refine hturn _ y _ _ r2 (ry.mono stp.hard) fun _ st3 s3 _ h3 r3 _ e3 => ?_
    refine h3 s3 _ _ r3 fun f st4 s4 g h4 r4 rf e4 => ?_
    have e5 := e'.trans (e2.trans (e3.trans e4))
    cases rf with
    | next => exact ⟨vs.length + 1 - (i + 1), by omega, i + 1, st4, hlt, rfl, h4, r4, e5⟩
    | cont => exact ⟨vs.length + 1 - (i + 1), by omega, i + 1, st4, hlt, rfl, h4, r4, e5⟩
    | brk => exact k _ _ _ _ h4 r4 .next e5
    | ret q => exact k _ _ _ _ h4 r4 (.ret q) e5
  · have : i = vs.length := by omega
    subst this
    obtain ⟨ar', hp, hq⟩ := fin _ hJ
    refine li_end hA hoI' (isList_of e) (by simp [q.length]) fun h' eI' hk => wpAny_execs_nil ?_
    have stp : Step I s'.heap h' := ⟨hk, fun o eo' => by rw [hoI'] at eo'; cases eo'; exact soft_it _ _⟩
    exact k _ _ _ _ hq (r'.put (tk := s'.toks) (dr := s'.drawn) hp stp eI' (.raw (soft_itEnd _))) .next (e'.trans (.put stp hp eI'))
end
end
section
open PySem PySem.W PyProof.Rows PySem.Calls PySem.Spec
set_option maxRecDepth 100000
set_option maxHeartbeats 4000000
theorem pairs_trans {p p' : Program} {w w' : World} {es : List DictEntry} {kvs : List (Int × Value)} (h : Pairs (PySem.intKind p w) es kvs) : Pairs (PySem.intKind p' w') es kvs := by
  induction h with
  | nil => exact .nil
  | cons a b _ ih => exact .cons a b ih
theorem dict_trans {p : Program} {w : World} {o : Obj} {kvs : List (Int × Value)} (h : o.IsDictOf (PySem.intKind p w) kvs) : ∀ (p' : Program) (w' : World), o.IsDictOf (PySem.intKind p' w') kvs := fun p' w' => by
  obtain ⟨es, ep, h1, h2, h3, h4, h5⟩ := h
  exact ⟨es, ep, h1, h2, h3, pairs_trans h4, h5⟩
theorem soft_dict {o : Obj} {m : List (Nat × Nat)} (p : Program) (w : World) (h : DictI o m) : Soft o := by
  obtain ⟨kvs, _, hd⟩ := h
  obtain ⟨es, ep, _, hd, _⟩ := hd p w
  exact ⟨fun items n (q : o.data = .seq items n) => (by rw [hd] at q; cases q), fun vs (q : o.data = .fields vs) => (by rw [hd] at q; cases q)⟩
theorem dict0_I : DictI { cls := .type "dict", data := .dict #[] } [] := ⟨[], .nil, fun p w => ⟨#[], 0, ⟨rfl, rfl, rfl⟩, rfl, fun e he => by simp at he, .nil, by simp⟩⟩
theorem PairsN.at {kvs : List (Int × Value)} {m : List (Nat × Nat)} (h : PairsN kvs m) (k : Nat) : match (m.find? fun p => p.1 = k) with
    | some p => ∃ t, valueAt kvs (k : Int) = some (.int (p.2 : Int) t)
    | none => valueAt kvs (k : Int) = none := by
  induction h with
  | nil => rfl
  | @cons k' v t kvs m r ih =>
    unfold valueAt at ih ⊢
    rw [List.find?_cons, List.find?_cons]
    by_cases e : k' = k
    · subst e
      simp
    · have e2 : ¬ (k' : Int) = (k : Int) := by omega
      simp only [e, e2, decide_false]
      exact ih
theorem PairsN.snoc {kvs : List (Int × Value)} {m : List (Nat × Nat)} {k v : Nat} {t : Tok} (h : PairsN kvs m) : PairsN (kvs ++ [((k : Int), .int (v : Int) t)]) (m ++ [(k, v)]) := by
  induction h with
  | nil => exact .cons .nil
  | cons r ih => exact .cons ih
theorem PairsN.fresh {kvs : List (Int × Value)} {m : List (Nat × Nat)} {k : Nat} (h : PairsN kvs m) (hm : (m.any fun p => p.1 = k) = false) : (kvs.any fun kv => kv.1 = (k : Int)) = false := by
  induction h with
  | nil => rfl
  | @cons k' v t kvs m r ih =>
    rw [List.any_cons, Bool.or_eq_false_iff] at hm ⊢
    exact ⟨by have := of_decide_eq_false hm.1; exact decide_eq_false (by omega), ih hm.2⟩
theorem PairsN.length {kvs : List (Int × Value)} {m : List (Nat × Nat)} (h : PairsN kvs m) : kvs.length = m.length := by
  induction h with
  | nil => rfl
  | cons _ ih => simp [ih]
noncomputable def getM (m : List (Nat × Nat)) (k : Nat) : Option Nat := (m.find? fun p => p.1 = k).map (·.2)

section
variable {cx : Cx} {fm : Fm} {A : Around} {st : St} {s : Shared} {loc : Loc} {ar ar' : Ar}
theorem HRel.dictAt {a : Addr} {m : List (Nat × Nat)} {s : Shared} {ar : Ar} (r : HRel cx ar s) (h : At a (.dict m) ar) : ∃ o, s.heap.get? a = some o ∧ DictI o m := by
  obtain ⟨o, e, q⟩ := r.objs _ h.mem
  cases q with
  | dict q => exact ⟨o, e, q⟩
theorem r_dict0 {pos : Pos} {Q : V → St → Prop} (hlim : cx.base.NoLimit) (h : ∀ d, (d == sysModules) = false → Q (.ref d) ⟨loc, (d, .dict []) :: ar⟩) : EV cx fm A (.Dict [] [] pos) ⟨loc, ar⟩ Q := fun s Qr Er r kk =>
  wpAny_Dict_empty (kk _ _ _ _ (h _ (by rw [beq_eq_false_iff_ne]; exact Nat.ne_of_gt (modules_low (hlim.keeps r.h.keep)))) (r.alloc s.toks (.dict dict0_I) rfl) (.ref _) (.alloc _ _ r.mt_lt))
theorem O_inD {a : Addr} {m : List (Nat × Nat)} {k : Nat} {Q : V → St → Prop} (hat : At a (.dict m) st.ar) (hs : (a == sysModules) = false) (h : Q (.bool (getM m k).isSome) st) :
    Op2 cx fm A (compareOp .In) VR (nt k) (.ref a) st Q := fun s y z Qr Er r ry rz kk => by
  cases ry
  cases rz
  obtain ⟨o, e, kvs, hp, hd⟩ := r.h.dictAt hat
  have hD : s.heap.DictOf (PySem.intKind cx.prog cx.w) a kvs := Heap.dictOf_iff.mpr ⟨o, e, hd _ _⟩
  refine wpAny_in_of (knd := PySem.intKind cx.prog cx.w) (k := (k : Int)) (by rw [isK]; exact decide_eq_true rfl) hs hD.mapOf ?_
  have e2 : (valueAt kvs (k : Int)).isSome = (getM m k).isSome := by
    have := hp.at k
    unfold getM
    cases hf : m.find? fun p => p.1 = k with
    | none => rw [hf] at this; rw [this]; rfl
    | some p => rw [hf] at this; obtain ⟨t, ht⟩ := this; rw [ht]; rfl
  rw [e2]
  exact kk _ _ _ _ h (r.toks _) (.bool _) (.refl ..)
theorem S_dict {v i : PySem.Expr} {a : Addr} {m : List (Nat × Nat)} {k x : Nat} {Q : V → St → Prop} (hat : At a (.dict m) st.ar) (hx : getM m k = some x) (h : Q (nt x) st) (hi : PlainIdx i := by walk_at "u") :
    Op2 cx fm A (subscriptTail v i) VR (.ref a) (nt k) st Q := fun s y z Qr Er r ry rz kk => by
  cases ry
  cases rz
  obtain ⟨o, e, kvs, hp, hd⟩ := r.h.dictAt hat
  have hD : s.heap.DictOf (PySem.intKind cx.prog cx.w) a kvs := Heap.dictOf_iff.mpr ⟨o, e, hd _ _⟩
  obtain ⟨t, ht⟩ : ∃ t, valueAt kvs (k : Int) = some (.int (x : Int) t) := by
    have := hp.at k
    unfold getM at hx
    cases hf : m.find? fun p => p.1 = k with
    | none => rw [hf] at hx; cases hx
    | some p => rw [hf] at hx this; cases hx; exact this
  exact tail_any hD.typeIs slot_dict_getitem.lookup (wpAny_getItem_of (knd := PySem.intKind cx.prog cx.w) (k := (k : Int)) (by rw [isK]; exact decide_eq_true rfl) hD.mapOf ht (kk _ _ _ _ h (r.toks _) (.int _ _) (.refl ..))) (hi _ _ _)
theorem r_setD {a : Addr} {m : List (Nat × Nat)} {k x : Nat} {Q : St → Prop} (hp : Put a (.dict m) (.dict (m ++ [(k, x)])) ar ar') (hnew : (m.any fun p => p.1 = k) = false) (hsz : m.length ≤ 1000) (h : Q ⟨loc, ar'⟩) :
    Op3 cx fm A setItem UR (.ref a) (nt k) (nt x) ⟨loc, ar⟩ (fun _ => Q) := fun s y z u Qr Er r ry rz ru kk => by
  cases ry
  cases rz
  cases ru
  obtain ⟨o, e, q⟩ := r.h.objs _ hp.mem
  cases q with
  | dict q =>
    obtain ⟨kvs, hpr, hd⟩ := id q
    have hD : s.heap.DictOf (PySem.intKind cx.prog cx.w) a kvs := Heap.dictOf_iff.mpr ⟨o, e, hd _ _⟩
    refine wpAny_setItem_pairs (knd := PySem.intKind cx.prog cx.w) (k := (k : Int)) (by rw [isK]; exact decide_eq_true rfl) hD (fun h' hD' hs => ?_) (by rw [hpr.length, sizeLine_eq]; omega)
    have e1 : ∀ v : Value, stored kvs (k : Int) v = kvs ++ [((k : Int), v)] := fun v => by
      unfold stored
      rw [if_neg (by rw [hpr.fresh hnew]; nofun)]
    rw [e1] at hD'
    obtain ⟨o', eo', hd'⟩ := Heap.dictOf_iff.mp hD'
    have stp : Step a s.heap h' := Step.sameBut hs fun o2 e2 => by
      rw [show s.heap.get? a = _ from e] at e2; cases e2; exact soft_dict cx.prog cx.w q
    exact kk () _ _ () h (r.put (tk := s.toks + 1) (dr := s.drawn) hp stp eo' (.dict ⟨_, hpr.snoc, dict_trans hd'⟩)) trivial (.put stp hp eo')
end
end
section
open PySem PySem.W PyProof.Rows PySem.Calls PySem.Spec
set_option maxRecDepth 100000
set_option maxHeartbeats 4000000
section
variable {cx : Cx} {fm : Fm} {A : Around} {st : St}
theorem r_popM {o : PySem.Expr} {apos pos : Pos} {Q : V → St → Prop} (h : EV cx fm A o st fun ov st1 => ∃ a x, ov = .ref a ∧ At a (.set x) st1.ar ∧ OpN cx fm A (fun xs => call (.builtin "set.pop") xs) VR [.ref a] st1 Q)
    (hbase : ∀ env, attributeBase o (Str.ofString "pop") env (eval o env) = eval o env := by walk_at "u") (hline : (apos.endLine == pos.line) = true := by walk_at "u") :
    EV cx fm A (.Call (.Attribute o (Str.ofString "pop") apos) [] [] pos) st Q :=
  EV_meth (T := "set") (id := "set.pop") PySem.F.plainAttrs_set PySem.F.slot_set_pop PySem.F.type_set_pop (h.mono fun v st1 q => by
    obtain ⟨a, x, rfl, hl, q⟩ := q
    exact ⟨.set hl, EVs_nil q⟩) hbase (by intros; with_unfolding_all rfl) hline
theorem r_addM {o e : PySem.Expr} {apos pos : Pos} {Q : V → St → Prop} (h : EV cx fm A o st fun ov st1 => ∃ a x, ov = .ref a ∧ At a (.set x) st1.ar ∧ EV cx fm A e st1 fun v st2 => OpN cx fm A (fun xs => call (.builtin "set.add") xs) VR [.ref a, v] st2 Q)
    (hbase : ∀ env, attributeBase o (Str.ofString "add") env (eval o env) = eval o env := by walk_at "u") (hline : (apos.endLine == pos.line) = true := by walk_at "u")
    (he : ∀ env, starEach [e] env = (false, eval e env) :: starEach [] env := by walk_at "u") (hfew : ∀ env, ((backTo pos (starEach [e] env)).all (fun x => !x.1) && (backToKw pos (keywordEach [] env)).all (fun x => x.1.isSome)
      && decide ([e].length + ([] : List Keyword).length + (if ([] : List Keyword).isEmpty then 0 else 1) < 30)) = true := by walk_at "u") (hn : NoStar [e] := by walk_at "u")
    (hes : ∀ env pos, (∃ e' rest, backTo pos (starEach [e] env) = (false, eval e' env) :: rest) ∨ backTo pos (starEach [e] env) = [] := by walk_at "q") :
    EV cx fm A (.Call (.Attribute o (Str.ofString "add") apos) [e] [] pos) st Q :=
  EV_meth (T := "set") (id := "set.add") PySem.F.plainAttrs_set PySem.F.slot_set_add PySem.F.type_set_add (h.mono fun v st1 q => by
    obtain ⟨a, x, rfl, hl, q⟩ := q
    exact ⟨.set hl, EVs_cons (q.mono fun v st2 q => EVs_nil q) he⟩) hbase hfew hline hn hes
end

/-! all runs of the first loop -/
noncomputable def okT (b : Bool) (x : TS) : Bool := x.1.fits x.2.size && decide (x.2.size < 64) && (x.1.led == b)
noncomputable def allRuns (b : Bool) (fin : TS → Bool) : Nat → TS → TS → TS → Bool
  | 0, _, _, _ => false
  | f + 1, seen, need, ws => okT b seen && okT b need && okT b ws && (if ws.2.size = 0 then fin need else
      (List.range ws.2.size).all fun i => okT b (popK ws i) &&
        (if seen.2.contains (ws.2.getD i 0) = true then allRuns b fin f seen need (popK ws i) else if ws.2.getD i 0 ≤ 1 then allRuns b fin f seen need (popK ws i) else
          okT b (addK (popK ws i) (ws.2.getD i 0 >>> 1)) && allRuns b fin f (addK seen (ws.2.getD i 0)) (addK need (ws.2.getD i 0 >>> 1))
            (if ws.2.getD i 0 &&& 1 = 0 then addK (popK ws i) (ws.2.getD i 0 >>> 1) else addK (addK (popK ws i) (ws.2.getD i 0 >>> 1)) (ws.2.getD i 0 >>> 1 + 1))))
noncomputable def needL : Nat → List Nat
  | 5 => [1, 2]
  | 6 => [1, 3]
  | 7 => [1, 2, 3]
  | 8 => [1, 2, 4]
  | 9 => [1, 2, 4]
  | 10 => [1, 2, 5]
  | 11 => [1, 2, 3, 5]
  | _ => [1, 3, 6]
noncomputable def finN (b : Bool) (span : Nat) (need : TS) : Bool := decide (need.2.size ≠ 0) && (need.1.led == b) && need.1.plain && risesB need.1 need.2.size && (needL span).isPerm need.2.toList
noncomputable def runsN (b : Bool) (span : Nat) : Bool := allRuns b (finN b span) 40 (fresh0 b) (fresh0 b) (addK (fresh0 b) span)
theorem run_t5 : runsN true 5 = true := by decide +kernel
theorem run_t6 : runsN true 6 = true := by decide +kernel
theorem run_t7 : runsN true 7 = true := by decide +kernel
theorem run_t8 : runsN true 8 = true := by decide +kernel
theorem run_t9 : runsN true 9 = true := by decide +kernel
theorem run_t10 : runsN true 10 = true := by decide +kernel
theorem run_t11 : runsN true 11 = true := by decide +kernel
theorem run_t12 : runsN true 12 = true := by decide +kernel
theorem run_f5 : runsN false 5 = true := by decide +kernel
theorem run_f6 : runsN false 6 = true := by decide +kernel
theorem run_f7 : runsN false 7 = true := by decide +kernel
theorem run_f8 : runsN false 8 = true := by decide +kernel
theorem run_f9 : runsN false 9 = true := by decide +kernel
theorem run_f10 : runsN false 10 = true := by decide +kernel
theorem run_f11 : runsN false 11 = true := by decide +kernel
theorem run_f12 : runsN false 12 = true := by decide +kernel
theorem runs_ok {b : Bool} {span : Nat} (h5 : 5 ≤ span) (h12 : span ≤ 12) : runsN b span = true := by
  rcases (show span = 5 ∨ span = 6 ∨ span = 7 ∨ span = 8 ∨ span = 9 ∨ span = 10 ∨ span = 11 ∨ span = 12 by omega) with rfl | rfl | rfl | rfl | rfl | rfl | rfl | rfl
  · cases b; exact run_f5; exact run_t5
  · cases b; exact run_f6; exact run_t6
  · cases b; exact run_f7; exact run_t7
  · cases b; exact run_f8; exact run_t8
  · cases b; exact run_f9; exact run_t9
  · cases b; exact run_f10; exact run_t10
  · cases b; exact run_f11; exact run_t11
  · cases b; exact run_f12; exact run_t12
end
section
set_option maxRecDepth 10000
set_option maxHeartbeats 4000000
section
variable {cx : Cx} {A : Around} {ar : Ar} {Q : V → Ar → Prop}
noncomputable def stepOk (L : List Nat) : Bool := (List.range L.length).all fun i => i == 0 || (decide (2 ≤ L.getD i 0) && decide (L.getD i 0 ≤ 12) && !(L.take i).contains (L.getD i 0) && ((L.take i).contains (L.getD i 0 - 1) || (L.take i).contains (L.getD i 0 >>> 1)))
noncomputable def leB : List Nat → Bool
  | a :: b :: r => decide (a ≤ b) && leB (b :: r)
  | _ => true
theorem needL_all : ((List.range 8).all fun i => stepOk (needL (i + 5)) && decide ((needL (i + 5)).Pairwise (· ≤ ·)) && (needL (i + 5)).head? == some 1 && decide ((needL (i + 5)).length ≤ 10)) = true := by decide +kernel
theorem needL_ok {span : Nat} (h5 : 5 ≤ span) (h12 : span ≤ 12) : ∃ tl, needL span = 1 :: tl ∧ stepOk (1 :: tl) = true ∧ (1 :: tl).Pairwise (· ≤ ·) ∧ (1 :: tl).length ≤ 10 := by
  have := List.all_eq_true.mp needL_all (span - 5) (by rw [List.mem_range]; omega)
  rw [Nat.sub_add_cancel h5, Bool.and_eq_true, Bool.and_eq_true, Bool.and_eq_true, decide_eq_true_iff, decide_eq_true_iff, beq_iff_eq] at this
  obtain ⟨⟨⟨h1, h2⟩, h3⟩, h4⟩ := this
  cases hL : needL span with
  | nil => rw [hL] at h3; cases h3
  | cons a tl =>
    rw [hL] at h1 h2 h3 h4
    cases h3
    exact ⟨tl, rfl, h1, h2, h4⟩
noncomputable abbrev mp (L : List Nat) : List (Nat × Nat) := L.map fun k => (k, 2 ^ k)
theorem getM_mp (L : List Nat) (k : Nat) : getM (mp L) k = if L.contains k = true then some (2 ^ k) else none := by
  unfold getM
  induction L with
  | nil => rfl
  | cons a L ih =>
    simp only [List.map_cons, List.find?_cons, List.contains_cons, Bool.or_eq_true, beq_iff_eq]
    by_cases h : a = k
    · subst h; simp
    · have h2 : ¬ k = a := fun e => h e.symm
      simp only [h, h2, decide_false, false_or]
      exact ih
theorem any_mp {L : List Nat} {k : Nat} (h : ¬ L.contains k = true) : ((mp L).any fun p => p.1 = k) = false := by
  rw [Bool.eq_false_iff]
  intro q
  obtain ⟨p, hp, e⟩ := List.any_eq_true.mp q
  obtain ⟨a, ha, rfl⟩ := List.mem_map.mp hp
  have e2 : a = k := of_decide_eq_true e
  subst e2
  exact h (by simpa using ha)
theorem spec_pow {span n : Nat} (T2 : Tops2 cx ad) (room : Room A (n + 1)) (h5 : 5 ≤ span) (h12 : span ≤ 12) (h : ∀ d, Q (.ref d) ((d, .dict ((needL span).map fun k => (k, 2 ^ k))) :: ar)) : CallT cx A (.ref (ad 1)) [nt span, nt 2, nt 1] ar Q := by
  obtain ⟨fd, f1, f2, f3⟩ := T2.pow
  have hcode : HasCode cx fd.code := by
    obtain ⟨c, o, vs, t, e1, e2, e3, e4⟩ := f1.code
    exact ⟨c, o, vs, e1, e2, e3⟩
  refine CallT_def (n := n) (pv := [(Str.ofString "w", nt span), (Str.ofString "base", nt 2), (Str.ofString "more_than", nt 1), (Str.ofString "show", .bool false)]) (rest := [Str.ofString "seen", Str.ofString "need", Str.ofString "ws", Str.ofString "lo", Str.ofString "d", Str.ofString "it", Str.ofString "first", Str.ofString "this", Str.ofString "hi", Str.ofString "sq"])
    (gl := [(Str.ofString "set", .val (.type "set")), (Str.ofString "iter", .val (.builtin "iter")), (Str.ofString "sorted", .val (.builtin "sorted")), (Str.ofString "next", .val (.builtin "next"))])
    f1 f2.body T2.lim room (fun s xs kp rx => ?_) (show [Str.ofString "w", Str.ofString "base", Str.ofString "more_than", Str.ofString "show", Str.ofString "seen", Str.ofString "need", Str.ofString "ws", Str.ofString "lo", Str.ofString "d", Str.ofString "it", Str.ofString "first", Str.ofString "this", Str.ofString "hi", Str.ofString "sq"].Nodup by decide +kernel)
    (by rw [f2.scope]; exact namesAre.get (show namesAre (defAt 1).scope .local [Str.ofString "w", Str.ofString "base", Str.ofString "more_than", Str.ofString "show", Str.ofString "seen", Str.ofString "need", Str.ofString "ws", Str.ofString "lo", Str.ofString "d", Str.ofString "it", Str.ofString "first", Str.ofString "this", Str.ofString "hi", Str.ofString "sq"] = true by decide +kernel))
    (fun p hp => ⟨T2.gl p ?_, ?_⟩) f2.globals f2.builtins ?_ (by rw [f2.scope]; decide +kernel) (by rw [f2.scope]; decide +kernel) (by rw [f2.scope]; decide +kernel) ?_
  · cases rx with
    | cons r1 rx =>
      cases rx with
      | cons r2 rx =>
        cases rx with
        | cons r3 rx =>
          cases rx
          exact ⟨_, f3 s _ _ _ kp, .cons r1 (.cons r2 (.cons r3 (.cons (.bool _) .nil)))⟩
  · have hg : GlobOk cx ad [(Str.ofString "set", .val (.type "set")), (Str.ofString "iter", .val (.builtin "iter")), (Str.ofString "sorted", .val (.builtin "sorted")), (Str.ofString "next", .val (.builtin "next"))] := by walk_at "aw gl"
    exact hg p hp
  · rw [f2.scope]
    exact namesAre.get (show namesAre (defAt 1).scope .globalImplicit [Str.ofString "set", Str.ofString "iter", Str.ofString "sorted", Str.ofString "next"] = true by decide +kernel) _ (List.mem_map.mpr ⟨p, hp, rfl⟩)
  · rw [f2.scope]
    have : ((defAt 1).scope.names.all fun x => x.2 != .cell) = true := by decide +kernel
    exact fun x hx => by have := List.all_eq_true.mp this x hx; simpa using this
  · intro env A' room' hE
    have hcE : HasCode cx env.code := by rw [hE.code]; exact hcode
    show EB _ _ _ (_ :: _) ⟨[(Str.ofString "w", some (nt span)), (Str.ofString "base", some (nt 2)), (Str.ofString "more_than", some (nt 1)), (Str.ofString "show", some (.bool false)), (Str.ofString "seen", none), (Str.ofString "need", none), (Str.ofString "ws", none), (Str.ofString "lo", none), (Str.ofString "d", none), (Str.ofString "it", none), (Str.ofString "first", none), (Str.ofString "this", none), (Str.ofString "hi", none), (Str.ofString "sq", none)], ar⟩ _
    walk_at "aw"
    refine r_set0 (by (repeat (first | exact Has.head | refine Has.tail ?_)); done) fun a1 => ?_
    walk_at "aw"
    refine r_set0 (by (repeat (first | exact Has.head | refine Has.tail ?_)); done) fun a2 => ?_
    walk_at "aw"
    refine EV_set1 hcE fun a3 => ?_
    walk_at "aw"
    refine ⟨span, _, rfl, .head, ?_⟩
    walk_at "aw"
    have hrun := runs_ok (b := !byText cx.w) h5 h12
    unfold runsN at hrun
    have hbl : ∀ x : TS, x.1.led = (!byText cx.w) → x.1.led = true ∨ byText cx.w = true := fun x e => by
      rw [e]; cases byText cx.w
      · exact .inl rfl
      · exact .inr rfl
    have hok : ∀ x : TS, okT (!byText cx.w) x = true → x.1.fits x.2.size = true ∧ x.2.size < 64 ∧ x.1.led = (!byText cx.w) := fun x e => by
      unfold okT at e
      rw [Bool.and_eq_true, Bool.and_eq_true, beq_iff_eq, decide_eq_true_iff] at e
      exact ⟨e.1.1, e.1.2, e.2⟩
    refine EX_while (fun m st => ∃ (seen need ws : TS) (w : Nat) (lo : Option V), st = ⟨[(Str.ofString "w", some (nt w)), (Str.ofString "base", some (nt 2)), (Str.ofString "more_than", some (nt 1)), (Str.ofString "show", some (.bool false)), (Str.ofString "seen", some (.ref a1)), (Str.ofString "need", some (.ref a2)), (Str.ofString "ws", some (.ref a3)), (Str.ofString "lo", lo), (Str.ofString "d", none), (Str.ofString "it", none), (Str.ofString "first", none), (Str.ofString "this", none), (Str.ofString "hi", none), (Str.ofString "sq", none)], (a3, O.set ws) :: (a2, O.set need) :: (a1, O.set seen) :: ar⟩ ∧ allRuns (!byText cx.w) (finN (!byText cx.w) span) m seen need ws = true) 40 ⟨_, _, _, span, none, rfl, hrun⟩ ?_
    rintro m st ⟨seen, need, ws, w, lo, rfl, hall⟩
    cases m with
    | zero => cases hall
    | succ m =>
    unfold allRuns at hall
    rw [Bool.and_eq_true, Bool.and_eq_true, Bool.and_eq_true] at hall
    obtain ⟨⟨⟨k1, k2⟩, k3⟩, hall⟩ := hall
    obtain ⟨p1, q1, l1⟩ := hok _ k1
    obtain ⟨p2, q2, l2⟩ := hok _ k2
    obtain ⟨p3, q3, l3⟩ := hok _ k3
    walk_at "aw"
    refine T_set .head p3 (by omega) ?_
    refine split_dec (fun hne => ?_) (fun hne => ?_)
    · rw [if_neg hne] at hall
      refine EB_cons ?_
      refine r_assign ?_
      refine r_popM ?_
      walk_at "aw"
      refine r_popS .head p3 (by omega) hne (hbl _ l3) fun i hi => ⟨_, .head, ?_⟩
      have hi2 := List.all_eq_true.mp hall i (List.mem_range.mpr hi)
      generalize ws.2.getD i 0 = x at hi2 ⊢
      generalize popK ws i = ws1 at hi2 ⊢
      rw [Bool.and_eq_true] at hi2
      obtain ⟨k4, hall⟩ := hi2
      obtain ⟨p4, q4, l4⟩ := hok _ k4
      walk_at "aw"
      refine ET_or2 ?_
      walk_at "aw"
      refine O_inS (.tail (.tail .head)) p1 (by omega) ?_
      walk_at "aw"
      by_cases hc : seen.2.contains x = true
      · rw [if_pos hc] at hall ⊢
        walk_at "aw"
        exact ⟨m, by omega, seen, need, ws1, x, lo, rfl, hall⟩
      · rw [if_neg hc] at hall ⊢
        walk_at "aw"
        · rename_i h1
          rw [if_pos h1] at hall
          exact ⟨m, by omega, seen, need, ws1, x, lo, rfl, hall⟩
        · rename_i h1
          rw [if_neg h1, Bool.and_eq_true] at hall
          obtain ⟨k5, hall⟩ := hall
          obtain ⟨p5, q5, l5⟩ := hok _ k5
          refine r_addM ?_
          walk_at "aw"
          refine r_addS (by (repeat (first | exact Put.head | apply Put.tail)); done) p1 (by omega) ?_
          walk_at "aw"
          refine r_addM ?_
          walk_at "aw"
          refine r_addS (by (repeat (first | exact Put.head | apply Put.tail)); done) p2 (by omega) ?_
          walk_at "aw"
          refine r_addM ?_
          walk_at "aw"
          refine r_addS (by (repeat (first | exact Put.head | apply Put.tail)); done) p4 (by omega) ?_
          walk_at "aw"
          · rename_i h2
            rw [if_neg h2] at hall
            refine r_addM ?_
            walk_at "aw"
            refine r_addS (by (repeat (first | exact Put.head | apply Put.tail)); done) p5 (by omega) ?_
            walk_at "aw"
            exact ⟨m, by omega, _, _, _, x, _, rfl, hall⟩
          · rename_i h2
            rw [if_pos h2] at hall
            exact ⟨m, by omega, _, _, _, x, _, rfl, hall⟩
    · have hz : ws.2.size = 0 := Nat.eq_zero_of_not_pos fun q => hne (by omega)
      rw [if_pos hz] at hall
      unfold finN at hall
      rw [Bool.and_eq_true, Bool.and_eq_true, Bool.and_eq_true, Bool.and_eq_true, decide_eq_true_iff, beq_iff_eq] at hall
      obtain ⟨⟨⟨⟨m1, m2⟩, m3⟩, m4⟩, m5⟩ := hall
      walk_at "aw"
      refine r_dict0 T2.lim fun d hsys => ?_
      walk_at "aw"
      refine T_set (.tail (.tail .head)) p2 (by omega) ?_
      rw [if_neg (by simp [m1])]
      obtain ⟨tl, hL, hstep, hpw, hlen⟩ := needL_ok h5 h12
      rw [hL] at m5 h
      walk_at "aw"
      refine B_sortedSet room'.handled (by (repeat (first | exact At.head | refine At.tail ?_)); done) p2 q2 ⟨(hbl _ l2).symm, .inr m3, .inr m4⟩ (List.isPerm_iff.mp m5) hpw fun l => ?_
      walk_at "aw"
      refine B_iter .head fun I => ?_
      walk_at "aw"
      refine B_next .head (.tail .head) (x := nt 1) rfl ?_
      walk_at "aw"
      refine EX_setitem ?_
      walk_at "aw"
      refine r_setD (by (repeat (first | exact Put.head | apply Put.tail)); done) rfl (by decide) ?_
      walk_at "aw"
      refine EX_forI room'.handled ?_
      walk_at "aw"
      refine ⟨I, l, (1 :: tl).map nt, 1, rfl, by simp, fun i st => 1 ≤ i ∧ ∃ u1 u2 u3 u4, st = ⟨[(Str.ofString "w", some (nt w)), (Str.ofString "base", some (nt 2)), (Str.ofString "more_than", some (nt 1)), (Str.ofString "show", some (.bool false)), (Str.ofString "seen", some (.ref a1)), (Str.ofString "need", some (.ref a2)), (Str.ofString "ws", some (.ref a3)), (Str.ofString "lo", u1), (Str.ofString "d", some (.ref d)), (Str.ofString "it", some (.ref I)), (Str.ofString "first", some (nt 1)), (Str.ofString "this", u2), (Str.ofString "hi", u3), (Str.ofString "sq", u4)], (I, O.raw (itObj l i)) :: (l, O.list ((1 :: tl).map nt)) :: (d, O.dict (mp ((1 :: tl).take i))) :: (a3, O.set ws) :: (a2, O.set need) :: (a1, O.set seen) :: ar⟩, ⟨Nat.le_refl _, _, _, _, _, rfl⟩, ?_, ?_, ?_⟩
      · rintro i st ⟨hi1, u1, u2, u3, u4, rfl⟩
        exact ⟨.head, .tail .head⟩
      · rintro i st hi ⟨hi1, u1, u2, u3, u4, rfl⟩
        refine ⟨_, .head, ?_⟩
        rw [getD_ntV hi]
        rw [List.length_map] at hi
        have hk := List.all_eq_true.mp hstep i (List.mem_range.mpr hi)
        rw [Bool.or_eq_true, beq_iff_eq] at hk
        have hk := hk.resolve_left (by omega)
        rw [Bool.and_eq_true, Bool.and_eq_true, Bool.and_eq_true, Bool.or_eq_true, decide_eq_true_iff, decide_eq_true_iff, Bool.not_eq_true'] at hk
        obtain ⟨⟨⟨k2', k12⟩, knew⟩, kin⟩ := hk
        have htk : (1 :: tl).take (i + 1) = (1 :: tl).take i ++ [(1 :: tl).getD i 0] := by
          have e : (1 :: tl)[i]? = some ((1 :: tl).getD i 0) := by rw [List.getD_eq_getElem?_getD, List.getElem?_eq_getElem hi]; rfl
          rw [List.take_add_one, e]
          rfl
        have hlt : ((1 :: tl).take i).length ≤ 10 := by rw [List.length_take]; omega
        rw [show (1 :: tl).length = tl.length + 1 from rfl] at hi hlen
        generalize (1 :: tl).getD i 0 = k at k2' k12 knew kin htk ⊢
        generalize (1 :: tl).take i = L at knew kin hlt htk ⊢
        have hmp : mp ((1 :: tl).take (i + 1)) = mp L ++ [(k, 2 ^ k)] := by rw [htk]; simp [mp]
        have hml : (mp L).length ≤ 1000 := by rw [List.length_map]; omega
        have hnew := any_mp (L := L) (k := k) (by rw [knew]; nofun)
        have b1 : 2 ^ (k >>> 1) < 2 ^ 64 := Nat.pow_lt_pow_right (by decide) (by rw [Nat.shiftRight_eq_div_pow]; omega)
        walk_at "aw"
        refine O_inD (by (repeat (first | exact At.head | refine At.tail ?_)); done) hsys ?_
        by_cases hc : L.contains (k - 1) = true
        · have e1 : (getM (mp L) (k - 1)).isSome = true := by rw [getM_mp, if_pos hc]; rfl
          rw [e1]
          walk_at "aw"
          refine EX_setitem ?_
          walk_at "aw"
          refine S_dict (by (repeat (first | exact At.head | refine At.tail ?_)); done) (by rw [getM_mp, if_pos hc]) ?_
          walk_at "aw"
          have e : 2 ^ (k - 1) * 2 = 2 ^ k := by rw [← Nat.pow_succ]; congr 1; omega
          rw [e]
          refine r_setD (by (repeat (first | exact Put.head | apply Put.tail)); done) hnew hml ?_
          walk_at "aw"
          dsimp only
          rw [hmp]
          exact ⟨by omega, _, _, _, _, rfl⟩
        · have e1 : (getM (mp L) (k - 1)).isSome = false := by rw [getM_mp, if_neg hc]; rfl
          rw [e1]
          have hlo : L.contains (k >>> 1) = true := kin.resolve_left hc
          have hsz : k >>> 1 ≤ k := by rw [Nat.shiftRight_eq_div_pow]; omega
          walk_at "aw"
          refine EX_assert room'.handled ?_
          walk_at "aw"
          refine O_inD (by (repeat (first | exact At.head | refine At.tail ?_)); done) hsys ?_
          have e2 : (getM (mp L) (k >>> 1)).isSome = true := by rw [getM_mp, if_pos hlo]; rfl
          rw [e2]
          walk_at "aw"
          refine S_dict (by (repeat (first | exact At.head | refine At.tail ?_)); done) (by rw [getM_mp, if_pos hlo]) ?_
          walk_at "aw"
          refine S_dict (by (repeat (first | exact At.head | refine At.tail ?_)); done) (by rw [getM_mp, if_pos hlo]) ?_
          walk_at "aw"
          · rename_i h2
            refine EX_assert room'.handled ?_
            walk_at "aw"
            have hk1 : k - k >>> 1 = k >>> 1 + 1 := by rw [Nat.shiftRight_eq_div_pow] at h2 ⊢; omega
            refine ⟨decide_eq_true hk1, ?_⟩
            walk_at "aw"
            refine O_imul (.inl (by decide)) ?_
            walk_at "aw"
            refine EX_setitem ?_
            walk_at "aw"
            have e : 2 ^ (k >>> 1) * 2 ^ (k >>> 1) * 2 = 2 ^ k := by rw [← Nat.pow_add, ← Nat.pow_succ]; congr 1; omega
            rw [e]
            refine r_setD (by (repeat (first | exact Put.head | apply Put.tail)); done) hnew hml ?_
            walk_at "aw"
            dsimp only
            rw [hmp]
            exact ⟨by omega, _, _, _, _, rfl⟩
          · rename_i h2
            refine EX_setitem ?_
            walk_at "aw"
            have e : 2 ^ (k >>> 1) * 2 ^ (k >>> 1) = 2 ^ k := by rw [← Nat.pow_add]; congr 1; omega
            rw [e]
            refine r_setD (by (repeat (first | exact Put.head | apply Put.tail)); done) hnew hml ?_
            walk_at "aw"
            dsimp only
            rw [hmp]
            exact ⟨by omega, _, _, _, _, rfl⟩
      · rintro st ⟨hi1, u1, u2, u3, u4, rfl⟩
        refine ⟨_, .head, ?_⟩
        walk_at "aw"
        rw [List.length_map, List.take_length]
        exact Back_ret (.cons _ (.cons _ (.cons_cons _ (.cons _ (.cons _ (.cons _ (.refl _))))))) (h d)
end
end
section
open PySem PySem.W PyProof.Rows PySem.Calls PySem.Spec
set_option maxRecDepth 100000
set_option maxHeartbeats 4000000
/-! words over a small alphabet -/
noncomputable def wordsOf (al : List Nat) : Nat → List (List Nat)
  | 0 => [[]]
  | n + 1 => (wordsOf al n).flatMap fun r => al.map fun a => a :: r
theorem mem_words {al : List Nat} : ∀ {n : Nat} {l : List Nat}, l.length = n → (∀ c ∈ l, c ∈ al) → l ∈ wordsOf al n
  | 0, l, h, _ => by rw [List.length_eq_zero_iff.mp h]; exact .head _
  | n + 1, [], h, _ => by cases h
  | n + 1, a :: l, h, hc => List.mem_flatMap.mpr ⟨l, mem_words (by simpa using h) fun c q => hc c (.tail _ q), List.mem_map.mpr ⟨a, hc a (.head _), rfl⟩⟩

/-! the rest by a polynomial -/
theorem bits_shl {w k : Nat} (h : 0 < w) : bits (w <<< k) = bits w + k := bits_shift h
theorem bits_xor_ne {a b : Nat} (h : bits a < bits b) : bits (a ^^^ b) = bits b := by
  have hb : 0 < b := Nat.pos_of_ne_zero fun e => by subst e; simp [bits] at h
  have h1 : bits (a ^^^ b) ≤ bits b := bits_xor_le (by omega) (Nat.le_refl _)
  have h2 : bits b ≤ bits (a ^^^ b) := by
    rcases Nat.lt_or_ge (bits (a ^^^ b)) (bits b) with q | q
    · have e : a ^^^ (a ^^^ b) = b := by rw [← Nat.xor_assoc, Nat.xor_self, Nat.zero_xor]
      have := bits_xor_le (a := a) (b := a ^^^ b) (k := bits b - 1) (by omega) (by omega)
      rw [e] at this
      omega
    · exact q
  omega
theorem restN_small {n w : Nat} (hw : 0 < w) (h : bits n < bits w) : restN n w = n := by
  rw [restN_eq hw, if_neg (by omega)]
theorem restN_step {n w : Nat} (hw : 0 < w) (h : bits w ≤ bits n) : restN n w = restN (n ^^^ (w <<< (bits n - bits w))) w := by
  conv => lhs; rw [restN_eq hw, if_pos h]
/-- what is a multiple changes no rest -/
theorem restN_xor {w : Nat} (hw : 0 < w) : ∀ (m x k : Nat), bits x ≤ m → restN (x ^^^ (w <<< k)) w = restN x w := by
  have hbw : 0 < bits w := by rw [bits_pos hw]; omega
  intro m
  induction m with
  | zero =>
    intro x k hx
    have hs := bits_shl (k := k) hw
    have hy : bits (x ^^^ (w <<< k)) = bits w + k := by rw [bits_xor_ne (by omega), hs]
    rw [restN_step hw (by omega), hy]
    congr 1
    rw [show bits w + k - bits w = k by omega, Nat.xor_assoc, Nat.xor_self, Nat.xor_zero]
  | succ m ih =>
    intro x k hx
    have hs := bits_shl (k := k) hw
    rcases Nat.lt_trichotomy (bits x) (bits w + k) with h | h | h
    · have hy : bits (x ^^^ (w <<< k)) = bits w + k := by rw [bits_xor_ne (by omega), hs]
      rw [restN_step hw (by omega), hy]
      congr 1
      rw [show bits w + k - bits w = k by omega, Nat.xor_assoc, Nat.xor_self, Nat.xor_zero]
    · conv => rhs; rw [restN_step hw (by omega)]
      congr 2
      rw [show bits x - bits w = k by omega]
    · have hy : bits (x ^^^ (w <<< k)) = bits x := by rw [Nat.xor_comm, bits_xor_ne (by omega)]
      have hst := bits_step (n := x) hw (by omega)
      rw [restN_step hw (n := x ^^^ (w <<< k)) (by omega), restN_step hw (n := x) (by omega), hy]
      rw [Nat.xor_assoc, Nat.xor_comm (w <<< k), ← Nat.xor_assoc]
      exact ih _ _ (by omega)
theorem xor_mul2 (a b : Nat) : (a ^^^ b) * 2 = (a * 2) ^^^ (b * 2) := by
  have h := Nat.shiftLeft_xor_distrib (a := a) (b := b) (i := 1)
  simpa [Nat.shiftLeft_eq] using h
theorem restN_double {w : Nat} (hw : 0 < w) : ∀ (m x : Nat), bits x ≤ m → restN (restN x w * 2) w = restN (x * 2) w := by
  have hbw : 0 < bits w := by rw [bits_pos hw]; omega
  intro m
  induction m with
  | zero => intro x hx; rw [restN_small hw (n := x) (by omega)]
  | succ m ih =>
    intro x hx
    rcases Nat.lt_or_ge (bits x) (bits w) with h | h
    · rw [restN_small hw (n := x) h]
    · have hst := bits_step (n := x) hw h
      rw [restN_step hw (n := x) h, ih _ (by omega), xor_mul2]
      have e : (w <<< (bits x - bits w)) * 2 = w <<< (bits x - bits w + 1) := by
        rw [Nat.shiftLeft_eq, Nat.shiftLeft_eq, Nat.pow_succ, Nat.mul_assoc]
      rw [e]
      exact restN_xor hw _ _ _ (Nat.le_refl _)
/-- one step, k steps -/
noncomputable def mulx (w n : Nat) : Nat := restN (n * 2) w
noncomputable def mulxK (w : Nat) : Nat → Nat → Nat
  | 0, n => n
  | k + 1, n => mulx w (mulxK w k n)
theorem mulxK_add (w : Nat) (j : Nat) : ∀ (k n : Nat), mulxK w (k + j) n = mulxK w k (mulxK w j n)
  | 0, n => by rw [Nat.zero_add]; rfl
  | k + 1, n => by rw [Nat.add_right_comm]; show mulx w _ = mulx w _; rw [mulxK_add w j k n]
theorem mulx_lt {w : Nat} (hw : 0 < w) (n : Nat) : bits (mulx w n) < bits w := restN_lt hw
theorem mulxK_lt {w : Nat} (hw : 0 < w) {n : Nat} (h : bits n < bits w) : ∀ k, bits (mulxK w k n) < bits w
  | 0 => h
  | k + 1 => mulx_lt hw _
theorem mulxK_pow {w : Nat} (hw : 0 < w) {n : Nat} (h : bits n < bits w) : ∀ k, restN (n * 2 ^ k) w = mulxK w k n
  | 0 => by rw [Nat.pow_zero, Nat.mul_one]; exact restN_small hw h
  | k + 1 => by
    show _ = restN (mulxK w k n * 2) w
    rw [← mulxK_pow hw h k, restN_double hw _ _ (Nat.le_refl _), Nat.pow_succ, Nat.mul_assoc]
theorem lt_of_bits {n k : Nat} (h : bits n ≤ k) : n < 2 ^ k := Nat.lt_of_lt_of_le (lt_bits n) (Nat.pow_le_pow_right (by decide) h)
theorem bits_of_lt {n k : Nat} (h : n < 2 ^ k) : bits n ≤ k := bits_le h
theorem bits_ge {n k : Nat} (h : 2 ^ k ≤ n) : k < bits n := by
  have h1 := lt_bits n
  exact (Nat.pow_lt_pow_iff_right (by decide : 1 < 2)).mp (Nat.lt_of_le_of_lt h h1)
theorem bits_whole {size w : Nat} (h1 : 2 ^ size ≤ w) (h2 : w < 2 ^ (size + 1)) : bits w = size + 1 := by
  have := bits_ge h1
  have := bits_of_lt h2
  omega
/-- lifting up -/
theorem up_mulx {size w n : Nat} (hs : size ≤ 8) (h1 : 2 ^ size ≤ w) (h2 : w < 2 ^ (size + 1)) (hn : n < 2 ^ size) : upN (w <<< (8 - size)) (n <<< (8 - size)) = mulx w n <<< (8 - size) := by
  have hw : 0 < w := Nat.lt_of_lt_of_le (Nat.two_pow_pos _) h1
  have hbw := bits_whole h1 h2
  have e1 : (n <<< (8 - size)) * 2 = (n * 2) <<< (8 - size) := by rw [Nat.shiftLeft_eq, Nat.shiftLeft_eq, Nat.mul_right_comm]
  have e256 : 256 = 2 ^ size * 2 ^ (8 - size) := by rw [← Nat.pow_add, show size + (8 - size) = 8 by omega]
  have hiff : 256 ≤ (n * 2) <<< (8 - size) ↔ 2 ^ size ≤ n * 2 := by
    rw [Nat.shiftLeft_eq, e256]
    exact Nat.mul_le_mul_right_iff (Nat.two_pow_pos _)
  unfold upN mulx
  rw [e1]
  by_cases h : 2 ^ size ≤ n * 2
  · rw [if_pos (hiff.mpr h), ← Nat.shiftLeft_xor_distrib]
    congr 1
    have hb : bits (n * 2) = size + 1 := by
      have a1 := bits_ge h
      have a2 := bits_of_lt (n := n * 2) (k := size + 1) (by rw [Nat.pow_succ]; omega)
      omega
    rw [restN_step hw (by omega), hb, hbw, Nat.sub_self, Nat.shiftLeft_zero]
    exact (restN_small hw (by have := bits_xor_lt (a := n * 2) (b := w) (k := size) hb hbw; omega)).symm
  · rw [if_neg (fun q => h (hiff.mp q))]
    congr 1
    exact (restN_small hw (by have := bits_of_lt (n := n * 2) (k := size) (by omega); omega)).symm
end
section
open PySem PySem.W PyProof.Rows PySem.Calls PySem.Spec
set_option maxRecDepth 100000
set_option maxHeartbeats 4000000
noncomputable def chkM (size : Nat) (F B : List Nat) : Bool := decide (2 ^ size ≤ F.getD size 0) && decide (F.getD size 0 < 2 ^ (size + 1)) && decide (B.getD (size - 1) 0 < 2 ^ 6)
noncomputable def chkC (size : Nat) (F B ms cs : List Nat) : Bool :=
  decide (readN cs F < 2 ^ size) && (readN (nextN ms cs) F == restN (readN cs F * 2) (F.getD size 0)) && (restN (productN (B.getD (size - 1) 0) (readN cs F)) (F.getD size 0) == readN cs.reverse B)
noncomputable def chkA (size : Nat) (m : List Nat) : Bool := chkM size (frontsN m) (frontsN m.reverse) && (wordsOf [120, 88] size).all fun c => chkC size (frontsN m) (frontsN m.reverse) m c
noncomputable def blockA (size k : Nat) : Bool := (((wordsOf [46, 120] size).drop (8 * k)).take 8).all (chkA size)
theorem all_blocks {α : Type} {p : α → Bool} : ∀ (n : Nat) (l : List α), l.length ≤ 8 * n → (∀ k, k < n → ((l.drop (8 * k)).take 8).all p = true) → l.all p = true
  | 0, l, hl, _ => by
    have e : l = [] := List.length_eq_zero_iff.mp (by omega)
    subst e; rfl
  | n + 1, l, hl, h => by
    have h0 := h 0 (by omega)
    rw [Nat.mul_zero, List.drop_zero] at h0
    have h1 := all_blocks n (l.drop 8) (by rw [List.length_drop]; omega) fun k hk => by
      have := h (k + 1) (by omega)
      rw [List.drop_drop]
      rwa [show 8 + 8 * k = 8 * (k + 1) by omega]
    rw [← List.take_append_drop 8 l, List.all_append, h0, h1]; rfl
theorem bA4_0 : blockA 4 0 = true := by decide +kernel
theorem bA4_1 : blockA 4 1 = true := by decide +kernel
theorem bA5_0 : blockA 5 0 = true := by decide +kernel
theorem bA5_1 : blockA 5 1 = true := by decide +kernel
theorem bA5_2 : blockA 5 2 = true := by decide +kernel
theorem bA5_3 : blockA 5 3 = true := by decide +kernel
theorem bA6_0 : blockA 6 0 = true := by decide +kernel
theorem bA6_1 : blockA 6 1 = true := by decide +kernel
theorem bA6_2 : blockA 6 2 = true := by decide +kernel
theorem bA6_3 : blockA 6 3 = true := by decide +kernel
theorem bA6_4 : blockA 6 4 = true := by decide +kernel
theorem bA6_5 : blockA 6 5 = true := by decide +kernel
theorem bA6_6 : blockA 6 6 = true := by decide +kernel
theorem bA6_7 : blockA 6 7 = true := by decide +kernel
theorem allA4 : (wordsOf [46, 120] 4).all (chkA 4) = true := all_blocks 2 _ (by decide +kernel) fun k hk => by
  match k, hk with
  | 0, _ => exact bA4_0
  | 1, _ => exact bA4_1
theorem allA5 : (wordsOf [46, 120] 5).all (chkA 5) = true := all_blocks 4 _ (by decide +kernel) fun k hk => by
  match k, hk with
  | 0, _ => exact bA5_0
  | 1, _ => exact bA5_1
  | 2, _ => exact bA5_2
  | 3, _ => exact bA5_3
theorem allA6 : (wordsOf [46, 120] 6).all (chkA 6) = true := all_blocks 8 _ (by decide +kernel) fun k hk => by
  match k, hk with
  | 0, _ => exact bA6_0
  | 1, _ => exact bA6_1
  | 2, _ => exact bA6_2
  | 3, _ => exact bA6_3
  | 4, _ => exact bA6_4
  | 5, _ => exact bA6_5
  | 6, _ => exact bA6_6
  | 7, _ => exact bA6_7
theorem allA {size : Nat} (h4 : 4 ≤ size) (h6 : size ≤ 6) : (wordsOf [46, 120] size).all (chkA size) = true := by
  rcases (show size = 4 ∨ size = 5 ∨ size = 6 by omega) with rfl | rfl | rfl
  · exact allA4
  · exact allA5
  · exact allA6
structure MarkOk (size : Nat) (m : List Nat) : Prop where
  lo : 2 ^ size ≤ (frontsN m).getD size 0
  hi : (frontsN m).getD size 0 < 2 ^ (size + 1)
  back : (frontsN m.reverse).getD (size - 1) 0 < 2 ^ 6
  row : ∀ c, c.length = size → (∀ x ∈ c, Cell x) → readN c (frontsN m) < 2 ^ size ∧ readN (nextN m c) (frontsN m) = mulx ((frontsN m).getD size 0) (readN c (frontsN m)) ∧
    restN (productN ((frontsN m.reverse).getD (size - 1) 0) (readN c (frontsN m))) ((frontsN m).getD size 0) = readN c.reverse (frontsN m.reverse)
theorem markOk {size : Nat} {m : List Nat} (h4 : 4 ≤ size) (h6 : size ≤ 6) (hl : m.length = size) (hm : ∀ x ∈ m, Mark x) : MarkOk size m := by
  have hA := List.all_eq_true.mp (allA h4 h6) m (mem_words hl fun x hx => by rcases hm x hx with e | e <;> subst e <;> simp)
  unfold chkA at hA
  rw [Bool.and_eq_true] at hA
  obtain ⟨h1, h2⟩ := hA
  unfold chkM at h1
  rw [Bool.and_eq_true, Bool.and_eq_true, decide_eq_true_iff, decide_eq_true_iff, decide_eq_true_iff] at h1
  refine ⟨h1.1.1, h1.1.2, h1.2, fun c hc hx => ?_⟩
  have := List.all_eq_true.mp h2 c (mem_words hc fun x q => by rcases hx x q with e | e <;> subst e <;> simp)
  unfold chkC at this
  rw [Bool.and_eq_true, Bool.and_eq_true, decide_eq_true_iff, beq_iff_eq, beq_iff_eq] at this
  exact ⟨this.1.1, this.1.2, this.2⟩
end
section
open PySem PySem.W PyProof.Rows PySem.Calls PySem.Spec
set_option maxRecDepth 100000
set_option maxHeartbeats 4000000
noncomputable def tab4 : List Key2 := [(16, [120, 46, 46, 120]), (17, [46, 120, 120, 46]), (18, [46, 46, 120, 120]), (18, [120, 120, 46, 46]), (19, [46, 120, 46, 120]), (19, [120, 46, 120, 46]), (21, [46, 46, 46, 46]), (21, [120, 120, 120, 120]), (25, [120, 46, 120, 120]), (25, [120, 120, 46, 120]), (26, [46, 120, 120, 120]), (26, [120, 120, 120, 46]), (29, [46, 46, 46, 120]), (29, [120, 46, 46, 46]), (31, [46, 46, 120, 46]), (31, [46, 120, 46, 46])]
theorem outN_4 : outN 4 = tab4 := by decide +kernel
noncomputable def tab5 : List Key2 := [(32, [120, 120, 46, 120, 120]), (33, [120, 46, 120, 120, 120]), (33, [120, 120, 120, 46, 120]), (34, [46, 46, 46, 46, 46]), (37, [46, 120, 120, 120, 120]), (37, [120, 120, 120, 120, 46]), (41, [46, 46, 120, 120, 46]), (41, [46, 120, 120, 46, 46]), (42, [46, 120, 46, 120, 46]), (42, [120, 46, 46, 46, 120]), (44, [46, 46, 120, 46, 120]), (44, [120, 46, 120, 46, 46]), (45, [46, 120, 46, 46, 120]), (45, [120, 46, 46, 120, 46]), (47, [46, 46, 46, 120, 120]), (47, [120, 120, 46, 46, 46]), (48, [120, 120, 120, 120, 120]), (50, [46, 46, 46, 120, 46]), (50, [46, 120, 46, 46, 46]), (51, [46, 46, 120, 46, 46]), (55, [46, 46, 46, 46, 120]), (55, [120, 46, 46, 46, 46]), (56, [46, 120, 120, 46, 120]), (56, [120, 46, 120, 120, 46]), (57, [46, 120, 46, 120, 120]), (57, [120, 120, 46, 120, 46]), (59, [46, 46, 120, 120, 120]), (59, [120, 120, 120, 46, 46]), (61, [120, 46, 46, 120, 120]), (61, [120, 120, 46, 46, 120]), (63, [46, 120, 120, 120, 46]), (63, [120, 46, 120, 46, 120])]
theorem outN_5 : outN 5 = tab5 := by
  unfold outN; rw [perm5_eq]; decide +kernel
noncomputable def tab6 : List Key2 := [(64, [46, 46, 120, 120, 46, 46]), (67, [46, 46, 46, 120, 120, 46]), (67, [46, 120, 120, 46, 46, 46]), (68, [120, 46, 46, 46, 46, 120]), (69, [46, 120, 46, 46, 120, 46]), (69, [120, 120, 120, 120, 120, 120]), (71, [46, 46, 120, 46, 120, 46]), (71, [46, 120, 46, 120, 46, 46]), (73, [46, 120, 46, 46, 46, 120]), (73, [120, 46, 46, 46, 120, 46]), (74, [46, 46, 120, 46, 46, 120]), (74, [120, 46, 46, 120, 46, 46]), (75, [46, 46, 46, 120, 46, 120]), (75, [120, 46, 120, 46, 46, 46]), (76, [46, 46, 46, 46, 120, 120]), (76, [120, 120, 46, 46, 46, 46]), (80, [46, 120, 120, 120, 120, 46]), (81, [46, 46, 46, 46, 46, 46]), (81, [120, 46, 120, 120, 46, 120]), (82, [120, 46, 120, 46, 120, 120]), (82, [120, 120, 46, 120, 46, 120]), (85, [120, 120, 46, 46, 120, 120]), (87, [120, 46, 46, 120, 120, 120]), (87, [120, 120, 120, 46, 46, 120]), (88, [46, 120, 46, 120, 120, 120]), (88, [120, 120, 120, 46, 120, 46]), (89, [46, 120, 120, 46, 120, 120]), (89, [120, 120, 46, 120, 120, 46]), (91, [46, 120, 120, 120, 46, 120]), (91, [120, 46, 120, 120, 120, 46]), (95, [46, 46, 120, 120, 120, 120]), (95, [120, 120, 120, 120, 46, 46]), (97, [46, 120, 46, 120, 120, 46]), (97, [46, 120, 120, 46, 120, 46]), (99, [120, 46, 46, 46, 120, 120]), (99, [120, 120, 46, 46, 46, 120]), (100, [46, 46, 120, 120, 120, 46]), (100, [46, 120, 120, 120, 46, 46]), (103, [120, 46, 46, 120, 46, 120]), (103, [120, 46, 120, 46, 46, 120]), (104, [46, 120, 46, 46, 120, 120]), (104, [120, 120, 46, 46, 120, 46]), (105, [46, 46, 120, 120, 46, 120]), (105, [120, 46, 120, 120, 46, 46]), (106, [46, 120, 120, 46, 46, 120]), (106, [120, 46, 46, 120, 120, 46]), (107, [46, 46, 120, 46, 120, 120]), (107, [120, 120, 46, 120, 46, 46]), (108, [46, 46, 46, 120, 120, 120]), (108, [120, 120, 120, 46, 46, 46]), (109, [46, 120, 46, 120, 46, 120]), (109, [120, 46, 120, 46, 120, 46]), (115, [46, 46, 46, 46, 46, 120]), (115, [120, 46, 46, 46, 46, 46]), (117, [46, 120, 120, 120, 120, 120]), (117, [120, 120, 120, 120, 120, 46]), (121, [46, 46, 46, 120, 46, 46]), (121, [46, 46, 120, 46, 46, 46]), (121, [120, 120, 46, 120, 120, 120]), (121, [120, 120, 120, 46, 120, 120]), (122, [120, 46, 120, 120, 120, 120]), (122, [120, 120, 120, 120, 46, 120]), (123, [46, 46, 46, 46, 120, 46]), (123, [46, 120, 46, 46, 46, 46])]
theorem outN_6 : outN 6 = tab6 := by
  unfold outN; rw [perm6_eq]; decide +kernel
noncomputable def begN (T : List Key2) (p : Nat) : Nat := bisN true (T.map (·.1)) p
noncomputable def endN (T : List Key2) (p : Nat) : Nat := bisN false (T.map (·.1)) p
noncomputable def tabW (T : List Key2) (p : Nat) : List (List Nat) := ((T.drop (begN T p)).take (endN T p - begN T p)).map (·.2)
noncomputable def noPart (size p : Nat) : Bool := (List.range' 2 (2 ^ (size / 2 + 1) - 2)).all fun part => !decide (restN p part = 0)
noncomputable def chkT (T : List Key2) (size p : Nat) : Bool := decide (begN T p ≤ endN T p) && decide (endN T p ≤ T.length) && (tabW T p).isPerm (ledN size p) && sortedS ((tabW T p).map mkS) && decide ((ledN size p).length < 64) && ((tabW T p).all fun y => y.all (· < 128)) &&
  (if noPart size p = true then decide ((tabW T p).length = 2) && decide (((tabW T p).getD 0 []).reverse = (tabW T p).getD 1 []) else true)
noncomputable def blockT (T : List Key2) (size k : Nat) : Bool := (((List.range (2 ^ size)).drop (8 * k)).take 8).all fun i => chkT T size (2 ^ size + i)
theorem bT4_0 : blockT tab4 4 0 = true := by decide +kernel
theorem bT4_1 : blockT tab4 4 1 = true := by decide +kernel
theorem bT5_0 : blockT tab5 5 0 = true := by decide +kernel
theorem bT5_1 : blockT tab5 5 1 = true := by decide +kernel
theorem bT5_2 : blockT tab5 5 2 = true := by decide +kernel
theorem bT5_3 : blockT tab5 5 3 = true := by decide +kernel
theorem bT6_0 : blockT tab6 6 0 = true := by decide +kernel
theorem bT6_1 : blockT tab6 6 1 = true := by decide +kernel
theorem bT6_2 : blockT tab6 6 2 = true := by decide +kernel
theorem bT6_3 : blockT tab6 6 3 = true := by decide +kernel
theorem bT6_4 : blockT tab6 6 4 = true := by decide +kernel
theorem bT6_5 : blockT tab6 6 5 = true := by decide +kernel
theorem bT6_6 : blockT tab6 6 6 = true := by decide +kernel
theorem bT6_7 : blockT tab6 6 7 = true := by decide +kernel
theorem allT4 : (List.range (2 ^ 4)).all (fun i => chkT tab4 4 (2 ^ 4 + i)) = true := all_blocks 2 _ (by decide +kernel) fun k hk => by
  match k, hk with
  | 0, _ => exact bT4_0
  | 1, _ => exact bT4_1
theorem allT5 : (List.range (2 ^ 5)).all (fun i => chkT tab5 5 (2 ^ 5 + i)) = true := all_blocks 4 _ (by decide +kernel) fun k hk => by
  match k, hk with
  | 0, _ => exact bT5_0
  | 1, _ => exact bT5_1
  | 2, _ => exact bT5_2
  | 3, _ => exact bT5_3
theorem allT6 : (List.range (2 ^ 6)).all (fun i => chkT tab6 6 (2 ^ 6 + i)) = true := all_blocks 8 _ (by decide +kernel) fun k hk => by
  match k, hk with
  | 0, _ => exact bT6_0
  | 1, _ => exact bT6_1
  | 2, _ => exact bT6_2
  | 3, _ => exact bT6_3
  | 4, _ => exact bT6_4
  | 5, _ => exact bT6_5
  | 6, _ => exact bT6_6
  | 7, _ => exact bT6_7
theorem allT {size p : Nat} (h4 : 4 ≤ size) (h6 : size ≤ 6) (h1 : 2 ^ size ≤ p) (h2 : p < 2 ^ (size + 1)) : chkT (outN size) size p = true := by
  have hi : p - 2 ^ size < 2 ^ size := by rw [Nat.pow_succ] at h2; omega
  have e : 2 ^ size + (p - 2 ^ size) = p := by omega
  rcases (show size = 4 ∨ size = 5 ∨ size = 6 by omega) with rfl | rfl | rfl
  · have := List.all_eq_true.mp allT4 _ (List.mem_range.mpr hi)
    rw [e] at this; rw [outN_4]; exact this
  · have := List.all_eq_true.mp allT5 _ (List.mem_range.mpr hi)
    rw [e] at this; rw [outN_5]; exact this
  · have := List.all_eq_true.mp allT6 _ (List.mem_range.mpr hi)
    rw [e] at this; rw [outN_6]; exact this
theorem rising_pairwise : ∀ (p : List Nat) (l : List (List Nat)), risingS (mkS p) (l.map mkS) = true → (p :: l).Pairwise (· ≤ ·)
  | p, [], _ => List.pairwise_singleton _ _
  | p, x :: r, h => by
    rw [List.map_cons, risingS, Bool.and_eq_true, Bool.not_eq_true', ltCps_eq, decide_eq_false_iff_not] at h
    have hx : p ≤ x := List.not_lt.mp h.1
    have ih := rising_pairwise x r h.2
    refine List.pairwise_cons.mpr ⟨fun y hy => ?_, ih⟩
    rcases List.mem_cons.mp hy with rfl | hy
    · exact hx
    · exact List.le_trans hx ((List.pairwise_cons.mp ih).1 y hy)
theorem sortedS_pairwise : ∀ (l : List (List Nat)), sortedS (l.map mkS) = true → l.Pairwise (· ≤ ·)
  | [], _ => .nil
  | x :: r, h => rising_pairwise x r h
theorem sortedS_unique {zs ts : List (List Nat)} (h1 : sortedS (zs.map mkS) = true) (h2 : sortedS (ts.map mkS) = true) (p : zs.Perm ts) : zs = ts :=
  sorted_unique (fun a b => List.le_antisymm) (sortedS_pairwise _ h1) (sortedS_pairwise _ h2) p
structure TabOk' (size p : Nat) : Prop where
  be : begN (outN size) p ≤ endN (outN size) p
  en : endN (outN size) p ≤ (outN size).length
  led : ∀ zs : List (List Nat), zs.Perm (ledN size p) → sortedS (zs.map mkS) = true → tabW (outN size) p = zs
  few : (ledN size p).length < 64
  chars : ∀ y ∈ tabW (outN size) p, ∀ c ∈ y, c < 128
  two : noPart size p = true → (tabW (outN size) p).length = 2 ∧ ((tabW (outN size) p).getD 0 []).reverse = (tabW (outN size) p).getD 1 []
theorem tabOk {size p : Nat} (h4 : 4 ≤ size) (h6 : size ≤ 6) (h1 : 2 ^ size ≤ p) (h2 : p < 2 ^ (size + 1)) : TabOk' size p := by
  have h := allT h4 h6 h1 h2
  unfold chkT at h
  rw [Bool.and_eq_true, Bool.and_eq_true, Bool.and_eq_true, Bool.and_eq_true, Bool.and_eq_true, Bool.and_eq_true, decide_eq_true_iff, decide_eq_true_iff, decide_eq_true_iff] at h
  obtain ⟨⟨⟨⟨⟨⟨a1, a2⟩, a3⟩, a4⟩, a5⟩, a6⟩, a7⟩ := h
  refine ⟨a1, a2, fun zs hz hs => (sortedS_unique hs a4 (hz.trans (List.isPerm_iff.mp a3).symm)).symm, a5, fun y hy c hc => ?_, fun hn => ?_⟩
  · have := List.all_eq_true.mp (List.all_eq_true.mp a6 y hy) c hc
    simpa using this
  · rw [if_pos hn, Bool.and_eq_true, decide_eq_true_iff, decide_eq_true_iff] at a7
    exact a7
end
section
open PySem PySem.W PyProof.Rows PySem.Calls PySem.Spec
set_option maxRecDepth 100000
set_option maxHeartbeats 4000000
theorem str_join_nil : ∀ ys : List (List Nat), Str.join ⟨([] : List Nat).toArray⟩ (ys.map fun y => (⟨y.toArray⟩ : Str)) = ⟨ys.flatten.toArray⟩
  | [] => rfl
  | [x] => by simp [Str.join]
  | x :: y :: r => by
    have ih := str_join_nil (y :: r)
    rw [List.map_cons] at ih ⊢
    show (⟨x.toArray⟩ : Str) ++ ⟨([] : List Nat).toArray⟩ ++ Str.join ⟨([] : List Nat).toArray⟩ (((⟨y.toArray⟩ : Str)) :: r.map fun y => (⟨y.toArray⟩ : Str)) = _
    rw [ih]
    show (⟨(x.toArray ++ ([] : List Nat).toArray) ++ (y :: r).flatten.toArray⟩ : Str) = _
    simp
theorem join_nil (ys : List (List Nat)) : Txt.join ⟨([] : List Nat).toArray⟩ (ys.map fun y => (⟨y.toArray⟩ : Str)) = ⟨ys.flatten.toArray⟩ := by
  show Builtin.Str.glued _ _ = _
  rw [StrLaws.glued_eq_join]
  exact str_join_nil ys
noncomputable def bitsOf (size r : Nat) : List Nat := (digitsN (2 ^ size + r) 1).take size
noncomputable def marksW (size r : Nat) : List Nat := (bitsOf size r).map fun b => [46, 120].getD b 0
noncomputable def cellsW (size r : Nat) : List Nat := (bitsOf size r).map fun b => [120, 88].getD b 0
theorem bits_pow {size r : Nat} (h : r < 2 ^ size) : bits (2 ^ size + r) = size + 1 := bits_whole (by omega) (by rw [Nat.pow_succ]; omega)
theorem bitsOf_len {size r : Nat} (h : r < 2 ^ size) : (bitsOf size r).length = size := by
  unfold bitsOf digitsN
  rw [List.length_take, digs_len, bits_pow h, Nat.div_one]
  omega
theorem bitsOf_lt {size r b : Nat} (h : b ∈ bitsOf size r) : b < 2 := digs_lt (List.mem_of_mem_take h)
theorem marksW_mark {size r : Nat} : ∀ c ∈ marksW size r, Mark c := fun c hc => by
  obtain ⟨b, hb, rfl⟩ := List.mem_map.mp hc
  have := bitsOf_lt hb
  rcases (show b = 0 ∨ b = 1 by omega) with rfl | rfl
  · exact .inl rfl
  · exact .inr rfl
theorem cellsW_cell {size r : Nat} : ∀ c ∈ cellsW size r, Cell c := fun c hc => by
  obtain ⟨b, hb, rfl⟩ := List.mem_map.mp hc
  have := bitsOf_lt hb
  rcases (show b = 0 ∨ b = 1 by omega) with rfl | rfl
  · exact .inr rfl
  · exact .inl rfl
theorem next_cells {ms cs : List Nat} (hl : ms.length = cs.length) (hc : ∀ c ∈ cs, Cell c) : ∀ c ∈ nextN ms cs, Cell c := by
  have : ∀ k, k ≤ cs.length → ∀ c ∈ nextK ms cs k, Cell c := by
    intro k
    induction k with
    | zero => intro _ c h; cases h
    | succ k ih =>
      intro hk c h
      rw [nextK] at h
      rcases List.mem_append.mp h with h | h
      · exact ih (by omega) c h
      · rw [List.mem_singleton] at h
        have hp := price_lt (ms := ms) hc (k := k) (by omega)
        rw [h]
        revert hp
        generalize priceN ms cs k = p
        intro hp
        rcases (show p = 0 ∨ p = 1 ∨ p = 2 ∨ p = 3 by omega) with rfl | rfl | rfl | rfl
        · exact .inr rfl
        · exact .inl rfl
        · exact .inr rfl
        · exact .inl rfl
  exact this _ (by omega)
theorem fronts_len (ms : List Nat) : (frontsN ms).length = ms.length + 1 := by
  unfold frontsN
  rw [List.length_drop, frontsK_len]
  omega
theorem sum_ones (l : List Nat) : (l.map (List.length ∘ fun c => [c])).sum = l.length := by
  induction l with
  | nil => rfl
  | cons a l ih => rw [List.map_cons, List.sum_cons, ih, List.length_cons]; show 1 + _ = _; omega
theorem flat_ones (l : List Nat) : (l.map fun c => [c]).flatten = l := by
  induction l with
  | nil => rfl
  | cons a l ih => simp [ih]
end
section
set_option maxRecDepth 10000
set_option maxHeartbeats 4000000
noncomputable def aheadF : Nat → Nat → List Nat
  | 0, a => [a]
  | f + 1, a => a :: (if a ≤ 1 then [] else aheadF f (a - a >>> 1))
noncomputable def aheads (span : Nat) : List Nat := aheadF 10 span
noncomputable def aheadOk (span : Nat) : Bool := (aheads span).contains span && (aheads span).all fun m => decide (1 ≤ m) && decide (m ≤ 12) && (decide (m ≤ 1) || ((needL span).contains (m >>> 1) && (aheads span).contains (m - m >>> 1)))
theorem aheads_all : ((List.range 8).all fun i => aheadOk (i + 5)) = true := by decide +kernel
theorem aheads_ok {span : Nat} (h5 : 5 ≤ span) (h12 : span ≤ 12) : span ∈ aheads span ∧ ∀ m ∈ aheads span, 1 ≤ m ∧ m ≤ 12 ∧ (m ≤ 1 ∨ ((needL span).contains (m >>> 1) = true ∧ m - m >>> 1 ∈ aheads span)) := by
  have := List.all_eq_true.mp aheads_all (span - 5) (by rw [List.mem_range]; omega)
  rw [Nat.sub_add_cancel h5] at this
  unfold aheadOk at this
  rw [Bool.and_eq_true] at this
  refine ⟨by simpa using this.1, fun m hm => ?_⟩
  have := List.all_eq_true.mp this.2 m hm
  rw [Bool.and_eq_true, Bool.and_eq_true, Bool.or_eq_true, Bool.and_eq_true, decide_eq_true_iff, decide_eq_true_iff, decide_eq_true_iff] at this
  exact ⟨this.1.1, this.1.2, this.2.imp id fun q => ⟨q.1, by simpa using q.2⟩⟩
theorem digs1_len {x m : Nat} : (digitsN x m).length = (bits x + m - 1) / m := digs_len _ _ _
theorem productN_lt {one other : Nat} (h1 : bits one ≤ 6) (h2 : bits other ≤ 6) : productN one other < 2 ^ 12 := by
  have l1 := digitsN_len h1
  have l2 := digitsN_len h2
  have v1 : valN 4 (digitsN one 1) < 2 ^ 24 := Nat.lt_of_lt_of_le (valN_lt (m := 4) (xs := digitsN one 1) fun d hd => Nat.lt_trans (digs_lt hd) (by decide)) (Nat.pow_le_pow_right (by decide) (by omega))
  have v2 : valN 4 (digitsN other 1) < 2 ^ 24 := Nat.lt_of_lt_of_le (valN_lt (m := 4) (xs := digitsN other 1) fun d hd => Nat.lt_trans (digs_lt hd) (by decide)) (Nat.pow_le_pow_right (by decide) (by omega))
  have v3 : wideN one other < 2 ^ 48 := by
    unfold wideN
    rw [show (2 : Nat) ^ 48 = 2 ^ 24 * 2 ^ 24 from rfl]
    exact Nat.mul_lt_mul'' v1 v2
  have b3 : bits (wideN one other) ≤ 48 := bits_le v3
  have l3 : (digitsN (wideN one other) 4).length ≤ 12 := by
    rw [digs1_len]
    have := Nat.div_le_div_right (c := 4) (show bits (wideN one other) + 4 - 1 ≤ 51 by omega)
    omega
  unfold productN
  refine Nat.lt_of_lt_of_le (valN_lt (m := 1) fun d hd => ?_) (Nat.pow_le_pow_right (by decide) (by rw [List.length_map]; omega))
  obtain ⟨e, _, rfl⟩ := List.mem_map.mp hd
  exact Nat.mod_lt _ (by decide)
section
variable {cx : Cx} {A : Around} {ar : Ar} {Q : Fl → St → Prop}
noncomputable abbrev fmL (env : Env) (c1 : Addr) : Fm := ⟨env, [(Str.ofString "_law_draw", .val (.ref (ad 17))), (Str.ofString "_int2digits", .val (.ref (ad 2))), (Str.ofString "_law_fronts", .val (.ref (ad 18))), (Str.ofString "_law_read", .val (.ref (ad 19))), (Str.ofString "range", .val (.type "range")), (Str.ofString "_law_next", .val (.ref (ad 20))), (Str.ofString "_law_up", .val (.ref (ad 21))), (Str.ofString "compute_powers", .val (.ref (ad 1))), (Str.ofString "_law_rest", .val (.ref (ad 22))), (Str.ofString "_law_product", .val (.ref (ad 23))), (Str.ofString "_law_every_row", .val (.ref (ad 24))), (Str.ofString "bisect_left", .val (.ref (ad 6))), (Str.ofString "bisect_right", .val (.ref (ad 5))), (Str.ofString "_law_led_back", .val (.ref (ad 26))), (Str.ofString "len", .val (.builtin "len"))], [(Str.ofString "polynomial", c1)]⟩
noncomputable abbrev bodyL (k : Nat) : List Stmt := (defAt 27).body.drop k
noncomputable abbrev stL (k : Nat) : Stmt := ((defAt 27).body[k]?).getD (.Pass ⟨0, 0, 0, 0⟩)
theorem law2 {env : Env} {c1 sa ls lf lb : Addr} {n size span a b c : Nat} {M C : List Nat} (T2 : Tops2 cx ad) (room : Room A (n + 70)) (h4 : 4 ≤ size) (h6 : size ≤ 6) (h5 : 5 ≤ span) (h12 : span ≤ 12) (lM : M.length = size) (hM : ∀ x ∈ M, Mark x) (lC : C.length = size) (hC : ∀ x ∈ C, Cell x)
    (hrest : ∀ D dp u, EB cx (fmL env c1) A (bodyL 17) ⟨[(Str.ofString "script", some (.ref sa)), (Str.ofString "seeds", some (.ref ls)), (Str.ofString "size", some (nt size)), (Str.ofString "lift", some (nt (8 - size))), (Str.ofString "marks", some (.str M)), (Str.ofString "cells", some (.str D)), (Str.ofString "span", some (nt span)), (Str.ofString "fronts", some (.ref lf)), (Str.ofString "backs", some (.ref lb)), (Str.ofString "whole", some (nt ((frontsN M).getD size 0))), (Str.ofString "number", some (nt (mulxK ((frontsN M).getD size 0) (span - 1) (readN C (frontsN M))))), (Str.ofString "lifted", some (nt (readN D (frontsN M) <<< (8 - size)))), (Str.ofString "step", u), (Str.ofString "powers", some (.ref dp)), (Str.ofString "ahead", some (nt 1)), (Str.ofString "table", none), (Str.ofString "begin", none), (Str.ofString "end", none), (Str.ofString "words", none)], [(dp, O.dict (mp (needL span))), (lb, O.list ((frontsN M.reverse).map nt)), (lf, O.list ((frontsN M).map nt)), (ls, O.list [nt a, nt b, nt c]), (c1, O.cell none)]⟩ Q) :
    EX cx (fmL env c1) A (stL 11) ⟨[(Str.ofString "script", some (.ref sa)), (Str.ofString "seeds", some (.ref ls)), (Str.ofString "size", some (nt size)), (Str.ofString "lift", some (nt (8 - size))), (Str.ofString "marks", some (.str M)), (Str.ofString "cells", some (.str C)), (Str.ofString "span", some (nt span)), (Str.ofString "fronts", some (.ref lf)), (Str.ofString "backs", some (.ref lb)), (Str.ofString "whole", some (nt ((frontsN M).getD size 0))), (Str.ofString "number", some (nt (readN C (frontsN M)))), (Str.ofString "lifted", some (nt (readN C (frontsN M) <<< (8 - size)))), (Str.ofString "step", none), (Str.ofString "powers", none), (Str.ofString "ahead", none), (Str.ofString "table", none), (Str.ofString "begin", none), (Str.ofString "end", none), (Str.ofString "words", none)], [(lb, O.list ((frontsN M.reverse).map nt)), (lf, O.list ((frontsN M).map nt)), (ls, O.list [nt a, nt b, nt c]), (c1, O.cell none)]⟩ (thenB cx (fmL env c1) A (bodyL 12) Q) := by
  have T := T2.toTops
  have r1 : Room A (n + 1) := room.le (by omega)
  have MO := markOk h4 h6 lM hM
  have hfl := fronts_len M
  have hbl := fronts_len M.reverse
  rw [List.length_reverse] at hbl
  have hw0 : 0 < (frontsN M).getD size 0 := Nat.lt_of_lt_of_le (Nat.two_pow_pos _) MO.lo
  have hw7 : (frontsN M).getD size 0 < 2 ^ 7 := Nat.lt_of_lt_of_le MO.hi (Nat.pow_le_pow_right (by decide) (by omega))
  have hw64 : (frontsN M).getD size 0 < 2 ^ 64 := by omega
  have hs6 : 2 ^ size ≤ 2 ^ 6 := Nat.pow_le_pow_right (by decide) h6
  have shl : ∀ x, x < 2 ^ 7 → x <<< (8 - size) < 2 ^ 60 := fun x hx => by
    rw [Nat.shiftLeft_eq]
    have : 2 ^ (8 - size) ≤ 2 ^ 4 := Nat.pow_le_pow_right (by decide) (by omega)
    exact Nat.lt_of_lt_of_le (Nat.mul_lt_mul_of_lt_of_le hx this (Nat.two_pow_pos _)) (by decide)
  show EX _ ⟨_, [(Str.ofString "_law_draw", .val (.ref (ad 17))), (Str.ofString "_int2digits", .val (.ref (ad 2))), (Str.ofString "_law_fronts", .val (.ref (ad 18))), (Str.ofString "_law_read", .val (.ref (ad 19))), (Str.ofString "range", .val (.type "range")), (Str.ofString "_law_next", .val (.ref (ad 20))), (Str.ofString "_law_up", .val (.ref (ad 21))), (Str.ofString "compute_powers", .val (.ref (ad 1))), (Str.ofString "_law_rest", .val (.ref (ad 22))), (Str.ofString "_law_product", .val (.ref (ad 23))), (Str.ofString "_law_every_row", .val (.ref (ad 24))), (Str.ofString "bisect_left", .val (.ref (ad 6))), (Str.ofString "bisect_right", .val (.ref (ad 5))), (Str.ofString "_law_led_back", .val (.ref (ad 26))), (Str.ofString "len", .val (.builtin "len"))], _⟩ _ (.For _ _ _ _ _) _ (thenB _ _ _ (_ :: _) _)
  refine r_for1 room.handled (by (repeat (first | exact Has.head | refine Has.tail ?_)); done) ?_
  walk_at "aw"
  refine ⟨by omega, fun k st => ∃ D u, (D.length = size ∧ (∀ x ∈ D, Cell x) ∧ readN D (frontsN M) = mulxK ((frontsN M).getD size 0) k (readN C (frontsN M))) ∧ st = ⟨[(Str.ofString "script", some (.ref sa)), (Str.ofString "seeds", some (.ref ls)), (Str.ofString "size", some (nt size)), (Str.ofString "lift", some (nt (8 - size))), (Str.ofString "marks", some (.str M)), (Str.ofString "cells", some (.str D)), (Str.ofString "span", some (nt span)), (Str.ofString "fronts", some (.ref lf)), (Str.ofString "backs", some (.ref lb)), (Str.ofString "whole", some (nt ((frontsN M).getD size 0))), (Str.ofString "number", some (nt (readN C (frontsN M)))), (Str.ofString "lifted", some (nt (readN D (frontsN M) <<< (8 - size)))), (Str.ofString "step", u), (Str.ofString "powers", none), (Str.ofString "ahead", none), (Str.ofString "table", none), (Str.ofString "begin", none), (Str.ofString "end", none), (Str.ofString "words", none)], [(lb, O.list ((frontsN M.reverse).map nt)), (lf, O.list ((frontsN M).map nt)), (ls, O.list [nt a, nt b, nt c]), (c1, O.cell none)]⟩, ⟨C, none, ⟨lC, hC, rfl⟩, rfl⟩, ?_, ?_⟩
  · rintro k st hk ⟨D, u, ⟨lD, hD, eD⟩, rfl⟩
    have hr := MO.row D lD hD
    have hN := next_cells (ms := M) (cs := D) (by omega) hD
    have lN : (nextN M D).length = size := by rw [nextK_len]; exact lM
    have hr2 := (MO.row _ lN hN).1
    have hr64 : readN (nextN M D) (frontsN M) < 2 ^ 64 := by omega
    walk_at "aw"
    refine spec_next (n := n) T (room.le (by omega)) (by omega) hD hM (by omega) ?_
    walk_at "aw"
    refine spec_up (n := n) T (room.le (by omega)) (shl _ (by omega)) (shl _ hw7) ?_
    rw [up_mulx (by omega) MO.lo MO.hi hr.1, ← hr.2.1]
    walk_at "aw"
    refine spec_read (n := n) T r1 (by (repeat (first | exact At.head | refine At.tail ?_)); done) (by omega) (by omega) ?_
    walk_at "aw"
    · exact absurd rfl (by assumption)
    · refine ⟨_, _, ⟨lN, hN, ?_⟩, rfl⟩
      rw [hr.2.1, eD]; rfl
  · rintro st ⟨D, u, ⟨lD, hD, eD⟩, rfl⟩
    have hr := MO.row D lD hD
    walk_at "aw"
    obtain ⟨fdp, p1, p2, p3⟩ := T2.pow
    refine EV_callF (fd := fdp) (Has.mem (by (repeat (first | exact Has.head | refine Has.tail ?_)); done)) p1 ?_
    walk_at "aw"
    refine spec_pow (n := n) T2 r1 h5 h12 fun dp => ?_
    walk_at "aw"
    have hn6 : readN C (frontsN M) < 2 ^ size := (MO.row C lC hC).1
    have hbw := bits_whole MO.lo MO.hi
    have hbn : bits (readN C (frontsN M)) < bits ((frontsN M).getD size 0) := by have := bits_of_lt hn6; omega
    have hAll := fun j => mulxK_lt hw0 hbn j
    obtain ⟨ha0, haA⟩ := aheads_ok h5 h12
    refine EX_while (fun m st => ∃ v, (m ∈ aheads span ∧ m ≤ span ∧ v = mulxK ((frontsN M).getD size 0) (span - m) (readN C (frontsN M))) ∧ st = ⟨[(Str.ofString "script", some (.ref sa)), (Str.ofString "seeds", some (.ref ls)), (Str.ofString "size", some (nt size)), (Str.ofString "lift", some (nt (8 - size))), (Str.ofString "marks", some (.str M)), (Str.ofString "cells", some (.str D)), (Str.ofString "span", some (nt span)), (Str.ofString "fronts", some (.ref lf)), (Str.ofString "backs", some (.ref lb)), (Str.ofString "whole", some (nt ((frontsN M).getD size 0))), (Str.ofString "number", some (nt v)), (Str.ofString "lifted", some (nt (readN D (frontsN M) <<< (8 - size)))), (Str.ofString "step", u), (Str.ofString "powers", some (.ref dp)), (Str.ofString "ahead", some (nt m)), (Str.ofString "table", none), (Str.ofString "begin", none), (Str.ofString "end", none), (Str.ofString "words", none)], (dp, O.dict (mp (needL span))) :: [(lb, O.list ((frontsN M.reverse).map nt)), (lf, O.list ((frontsN M).map nt)), (ls, O.list [nt a, nt b, nt c]), (c1, O.cell none)]⟩) span ⟨_, ⟨ha0, Nat.le_refl _, by rw [Nat.sub_self]; rfl⟩, rfl⟩ ?_
    rintro m st ⟨v, ⟨hm, hms, rfl⟩, rfl⟩
    obtain ⟨hm1, hm12, hmA⟩ := haA m hm
    have hv := hAll (span - m)
    have hv6 : mulxK ((frontsN M).getD size 0) (span - m) (readN C (frontsN M)) < 2 ^ 6 := by
      have := lt_of_bits (n := mulxK ((frontsN M).getD size 0) (span - m) (readN C (frontsN M))) (k := size) (by omega)
      omega
    have hv64 : mulxK ((frontsN M).getD size 0) (span - m) (readN C (frontsN M)) < 2 ^ 64 := by omega
    walk_at "aw"
    · rename_i h1
      obtain ⟨hmN, hmR⟩ := hmA.resolve_left (by omega)
      have hle : m >>> 1 ≤ m := by rw [Nat.shiftRight_eq_div_pow]; omega
      have hpos : 1 ≤ m >>> 1 := by rw [Nat.shiftRight_eq_div_pow]; omega
      refine S_dict (by (repeat (first | exact At.head | refine At.tail ?_)); done) (by rw [getM_mp, if_pos hmN]) ?_
      walk_at "aw"
      refine spec_rest (n := n) T r1 ?_ (by omega) hw0 ?_
      · have : 2 ^ (m >>> 1) ≤ 2 ^ 6 := Nat.pow_le_pow_right (by decide) (by rw [Nat.shiftRight_eq_div_pow]; omega)
        exact Nat.lt_of_lt_of_le (Nat.mul_lt_mul_of_lt_of_le hv6 this (Nat.two_pow_pos _)) (by decide)
      rw [mulxK_pow hw0 hv, ← mulxK_add]
      walk_at "aw"
      refine ⟨m - m >>> 1, by omega, _, ⟨hmR, by omega, ?_⟩, rfl⟩
      congr 1
      omega
    · rename_i h1
      have hm1' : m = 1 := by omega
      subst hm1'
      walk_at "aw"
      have hr := MO.row D lD hD
      have e1 : restN (mulxK ((frontsN M).getD size 0) (span - 1) (readN C (frontsN M)) * 2) ((frontsN M).getD size 0) = readN D (frontsN M) := by
        rw [eD]
        conv => rhs; rw [show span = (span - 1) + 1 by omega]
        rfl
      refine spec_rest (n := n) T r1 (by omega) (by omega) hw0 ?_
      rw [e1]
      have hrD : readN D (frontsN M) < 2 ^ 64 := by omega
      walk_at "aw"
      · exact absurd rfl (by assumption)
      · refine S_list (by (repeat (first | exact At.head | refine At.tail ?_)); done) (getD_nt (by omega)) (by omega) ?_
        walk_at "aw"
        rw [Nat.shiftLeft_shiftRight]
        have hbb := bits_of_lt MO.back
        have hbd := bits_of_lt (show readN D (frontsN M) < 2 ^ 6 by omega)
        refine spec_product (n := n) T2 (room.le (by omega)) hbb hbd ?_
        walk_at "aw"
        refine spec_rest (n := n) T r1 (Nat.lt_of_lt_of_le (productN_lt hbb hbd) (by decide)) (by omega) hw0 ?_
        rw [hr.2.2]
        walk_at "aw"
        refine ⟨by omega, ?_⟩
        walk_at "aw"
        refine spec_read (n := n) T r1 (by (repeat (first | exact At.head | refine At.tail ?_)); done) (by rw [List.length_reverse]; omega) (by rw [List.length_reverse]; omega) ?_
        refine O_ne ?_
        refine ⟨_, rfl, ?_⟩
        refine @ite_ndec _ _ _ _ (fun q => absurd rfl q) (fun _ => ?_)
        refine EB_nil ?_
        refine thenB_next ?_
        exact hrest D dp u
end
end
section
set_option maxRecDepth 10000
set_option maxHeartbeats 4000000
theorem LocR.thin {env : Env} {loc loc' : Loc} {h : Heap} (t : loc'.Sublist loc) (r : LocR env loc h) : LocR env loc' h :=
  ⟨r.nodup.sublist (t.map _), fun p hp => r.kinds p (t.subset hp), let ⟨m, hn, hl⟩ := r.ns; ⟨m, hn, fun p hp => hl p (t.subset hp)⟩⟩
/-- dropping locals -/
theorem EB_thin {cx : Cx} {fm : Fm} {A : Around} {b : List Stmt} {loc loc' : Loc} {ar : Ar} {Q : Fl → St → Prop} (t : loc'.Sublist loc) (h : EB cx fm A b ⟨loc', ar⟩ Q) : EB cx fm A b ⟨loc, ar⟩ Q := fun s Qr Er r k =>
  h s Qr Er ⟨r.h, r.loc.thin t, r.off, r.fn, r.cells, r.globs⟩ k
theorem AS_forget {cx : Cx} {fm : Fm} {A : Around} {t : PySem.Expr} {v : V} {loc : Loc} {ar ar' : Ar} {Q : St → Prop} (hs : ar'.Sublist ar) (h : AS cx fm A t v ⟨loc, ar'⟩ Q) : AS cx fm A t v ⟨loc, ar⟩ Q := fun s y Qr Er r ry k =>
  h s y Qr Er (r.sub hs) ry fun b st' s' g hq r' rf e => k b st' s' g hq r' rf (e.left fun p hp => (hs.map _).subset hp)
theorem At.sub {a : Addr} {x : O} {ar ar' : Ar} (h : At a x ar) (hs : ar.Sublist ar') : At a x ar' := by
  induction hs with
  | slnil => exact h
  | cons p _ ih => exact .tail (ih h)
  | cons_cons p _ ih =>
    cases h with
    | head => exact .head
    | tail h => exact .tail (ih h)
theorem outN_lens {size : Nat} (h4 : 4 ≤ size) (h6 : size ≤ 6) : ((outN size).all fun q => decide (q.2.length ≤ 64)) = true := by
  rcases (show size = 4 ∨ size = 5 ∨ size = 6 by omega) with rfl | rfl | rfl
  · rw [outN_4]; decide +kernel
  · rw [outN_5]; decide +kernel
  · rw [outN_6]; decide +kernel
theorem tabW_lens {size p : Nat} (h4 : 4 ≤ size) (h6 : size ≤ 6) : ∀ y ∈ tabW (outN size) p, y.length ≤ 64 := fun y hy => by
  obtain ⟨q, hq, rfl⟩ := List.mem_map.mp hy
  have := List.all_eq_true.mp (outN_lens h4 h6) q (List.mem_of_mem_drop (List.mem_of_mem_take hq))
  exact of_decide_eq_true this
theorem filterMap_if {α β : Type} {P : α → Prop} [DecidablePred P] {f : α → β} : ∀ l : List α, (l.filterMap fun i => if P i then some (f i) else none) = (l.filter fun i => decide (P i)).map f
  | [] => rfl
  | a :: l => by
    by_cases h : P a
    · simp [List.filterMap_cons, List.filter_cons, h, filterMap_if l]
    · simp [List.filterMap_cons, List.filter_cons, h, filterMap_if l]
noncomputable def partsN (size p : Nat) : List Nat := ((List.range (2 ^ (size / 2 + 1) - 2)).filter fun i => decide (restN p (2 + i) = 0)).map (2 + ·)
theorem parts_none {size p : Nat} (h : partsN size p = []) : noPart size p = true := by
  unfold noPart
  refine List.all_eq_true.mpr fun part hp => ?_
  rw [List.mem_range'] at hp
  obtain ⟨i, hi, rfl⟩ := hp
  rw [Bool.not_eq_true', decide_eq_false_iff_not]
  intro e
  have hm : 2 + i ∈ partsN size p := List.mem_map.mpr ⟨i, List.mem_filter.mpr ⟨List.mem_range.mpr hi, by rw [Nat.one_mul] at e; exact decide_eq_true e⟩, rfl⟩
  rw [h] at hm
  cases hm
noncomputable def keyScopeB (scope : Scope) : Bool := namesAre scope .local [Str.ofString "row"] && scope.names.all (fun x => x.2 != .cell) && !scope.isCoroutine && !scope.isGenerator && (scope.kind == .function)
theorem key_ok {cx : Cx} {scope : Scope} {clos : List (Str × Addr)} (h : keyScopeB scope = true) : NestOk cx scope clos [Str.ofString "row"] [] [] [] := by
  unfold keyScopeB at h
  simp only [Bool.and_eq_true, Bool.not_eq_true', beq_iff_eq] at h
  obtain ⟨⟨⟨⟨h1, h2⟩, h3⟩, h4⟩, h5⟩ := h
  exact ⟨by decide +kernel, namesAre.get h1, fun p hp => (nomatch hp), fun p hp => (nomatch hp), fun x hx => by have := List.all_eq_true.mp h2 x hx; simpa using this, h3, h4, h5⟩
section
variable {cx : Cx} {A : Around} {ar : Ar}
theorem spec_key {f : Addr} {o : Obj} {fd : FuncData} {args : Arguments} {scope : Scope} {clos : List (Str × Addr)} {p1 p2 p3 : Pos} {k0 n : Nat} {T : List Key2} (T2 : Tops2 cx ad) (hat : At f (.fn o) ar) (hfd : o.data = .func fd)
    (hn : FnNest fd args (.expr (.Subscript (.Name (Str.ofString "row") p1) (.Constant (.int 0) k0 p2) p3)) scope clos) (hs : keyScopeB scope = true)
    (hb : ∀ (fd : FuncData), fd.params = args → fd.defaults = .none → ∀ x : Value, bindArgs fd ⟨[x], []⟩ = pure [(Str.ofString "row", x)]) :
    ∀ A', Room A' (n + 2) → ∀ (k : Nat) v, (T.map pV)[k]? = some v → CallT cx A' (.ref f) [v] ar fun v ar' => v = nt ((T.map (·.1)).getD k 0) ∧ ar' = ar := by
  intro A' room' k v hv
  rw [List.getElem?_map] at hv
  cases hk : T[k]? with
  | none => rw [hk] at hv; cases hv
  | some q =>
    rw [hk] at hv
    cases hv
    have e : (T.map (·.1)).getD k 0 = q.1 := by rw [List.getD_eq_getElem?_getD, List.getElem?_map, hk]; rfl
    rw [e]
    refine CallT_lam (pv := [(Str.ofString "row", pV q)]) (rest := []) (gl := []) (cl := []) (n := n + 1) hat hfd hn (key_ok hs) T2.lim room' (fun s xs rx => ?_) fun env A'' room'' => ?_
    · cases rx with
      | cons r1 rx =>
        cases rx
        exact ⟨_, hb fd hn.params hn.defaults _, .cons r1 .nil⟩
    · show EV _ _ _ _ ⟨[(Str.ofString "row", some (pV q))], ar⟩ _
      walk_at "aw"
      refine S_tup (k := 0) (x := nt q.1) rfl (by decide) ?_
      exact ⟨ar, .refl _, rfl, rfl⟩
noncomputable abbrev fmM (env : Env) (c1 : Addr) : Fm := ⟨env, [(Str.ofString "_law_draw", .val (.ref (ad 17))), (Str.ofString "_int2digits", .val (.ref (ad 2))), (Str.ofString "_law_fronts", .val (.ref (ad 18))), (Str.ofString "_law_read", .val (.ref (ad 19))), (Str.ofString "range", .val (.type "range")), (Str.ofString "_law_next", .val (.ref (ad 20))), (Str.ofString "_law_up", .val (.ref (ad 21))), (Str.ofString "compute_powers", .val (.ref (ad 1))), (Str.ofString "_law_rest", .val (.ref (ad 22))), (Str.ofString "_law_product", .val (.ref (ad 23))), (Str.ofString "_law_every_row", .val (.ref (ad 24))), (Str.ofString "bisect_left", .val (.ref (ad 6))), (Str.ofString "bisect_right", .val (.ref (ad 5))), (Str.ofString "_law_led_back", .val (.ref (ad 26))), (Str.ofString "len", .val (.builtin "len"))], [(Str.ofString "polynomial", c1)]⟩
theorem law3 {env : Env} {c1 ls : Addr} {n size W a b c : Nat} (T2 : Tops2 cx ad) (room : Room A (n + 70)) (hg : env.globals = mainGlobals) (hb : env.builtins = builtinsNs) (hk1 : env.kindOf (Str.ofString "polynomial") = some .cell) (hcode : ∃ c P, (c, P) ∈ cx.tabs ∧ env.code = .ref c) (hq : env.qual = Str.ofString "law.<locals>.")
    (h4 : 4 ≤ size) (h6 : size ≤ 6) (hW1 : 2 ^ size ≤ W) (hW2 : W < 2 ^ (size + 1)) :
    EB cx (fmM env c1) A ((defAt 27).body.drop 17) ⟨[(Str.ofString "seeds", some (.ref ls)), (Str.ofString "size", some (nt size)), (Str.ofString "whole", some (nt W)), (Str.ofString "table", none), (Str.ofString "begin", none), (Str.ofString "end", none), (Str.ofString "words", none)], [(ls, O.list [nt a, nt b, nt c]), (c1, O.cell none)]⟩ (fun f st => f = .ret (.bool true)) := by
  have T := T2.toTops
  obtain ⟨cc, cP, hT, hce⟩ := hcode
  have hlenO : (outN size).length ≤ 64 := by
    rcases (show size = 4 ∨ size = 5 ∨ size = 6 by omega) with rfl | rfl | rfl
    · rw [outN_4]; decide
    · rw [outN_5]; decide
    · rw [outN_6]; decide
  have r1 : Room A (n + 1) := room.le (by omega)
  have hp0 : 2 ^ size ≠ 0 := Nat.pos_iff_ne_zero.mp (Nat.two_pow_pos _)
  have hs6 : 2 ^ size ≤ 2 ^ 6 := Nat.pow_le_pow_right (by decide) h6
  show EB _ ⟨_, [(Str.ofString "_law_draw", .val (.ref (ad 17))), (Str.ofString "_int2digits", .val (.ref (ad 2))), (Str.ofString "_law_fronts", .val (.ref (ad 18))), (Str.ofString "_law_read", .val (.ref (ad 19))), (Str.ofString "range", .val (.type "range")), (Str.ofString "_law_next", .val (.ref (ad 20))), (Str.ofString "_law_up", .val (.ref (ad 21))), (Str.ofString "compute_powers", .val (.ref (ad 1))), (Str.ofString "_law_rest", .val (.ref (ad 22))), (Str.ofString "_law_product", .val (.ref (ad 23))), (Str.ofString "_law_every_row", .val (.ref (ad 24))), (Str.ofString "bisect_left", .val (.ref (ad 6))), (Str.ofString "bisect_right", .val (.ref (ad 5))), (Str.ofString "_law_led_back", .val (.ref (ad 26))), (Str.ofString "len", .val (.builtin "len"))], _⟩ _ (_ :: _) _ _
  walk_at "aw"
  refine spec_table (n := n) T r1 h4 h6 fun tb => ?_
  walk_at "aw"
  refine r_forL room.handled ?_
  walk_at "aw"
  refine S_list (by (repeat (first | exact At.head | refine At.tail ?_)); done) (x := nt c) rfl (by decide) ?_
  walk_at "aw"
  have hc2 : 2 ^ size ≤ 2 ^ size + c % 2 ^ size ∧ 2 ^ size + c % 2 ^ size < 2 ^ (size + 1) := by
    have := Nat.mod_lt c (Nat.two_pow_pos size)
    rw [Nat.pow_succ]
    omega
  generalize 2 ^ size + c % 2 ^ size = W2 at hc2 ⊢
  refine ⟨by rw [sizeLine_eq]; simp, fun lp => ?_⟩
  refine ⟨lp, [nt W, nt W2], rfl, .head, fun i st => ∃ v ub ue uw ar2, [(lp, O.list [nt W, nt W2]), (tb, O.list ((outN size).map pV)), (c1, O.cell v)].Sublist ar2 ∧ st = ⟨[(Str.ofString "seeds", some (.ref ls)), (Str.ofString "size", some (nt size)), (Str.ofString "whole", some (nt W)), (Str.ofString "table", some (.ref tb)), (Str.ofString "begin", ub), (Str.ofString "end", ue), (Str.ofString "words", uw)], ar2⟩, ⟨none, _, _, _, _, .cons_cons _ (.cons_cons _ (.cons _ (.cons_cons _ .slnil))), rfl⟩, ?_, ?_, ?_⟩
  · rintro i st ⟨v, ub, ue, uw, ar2, hsub, rfl⟩
    exact At.sub .head hsub
  · rintro i st hi ⟨v, ub, ue, uw, ar2, hsub, rfl⟩
    obtain ⟨p, hp, hp1, hp2⟩ : ∃ p, [nt W, nt W2].getD i .none = nt p ∧ 2 ^ size ≤ p ∧ p < 2 ^ (size + 1) := by
      match i, hi with
      | 0, _ => exact ⟨W, rfl, hW1, hW2⟩
      | 1, _ => exact ⟨W2, rfl, hc2.1, hc2.2⟩
    rw [hp]
    have TO := tabOk h4 h6 hp1 hp2
    have hp0' : 0 < p := Nat.lt_of_lt_of_le (Nat.two_pow_pos _) hp1
    have hp7 : p < 2 ^ 7 := Nat.lt_of_lt_of_le hp2 (Nat.pow_le_pow_right (by decide) (by omega))
    refine AS_forget hsub ?_
    walk_at "aw"
    obtain ⟨fl, l1, l2, l3⟩ := T2.bis 6 (.inr rfl)
    refine EV_callK1 (fd := fl) (Has.mem (by (repeat (first | exact Has.head | refine Has.tail ?_)); done)) l1 ?_
    walk_at "aw"
    refine r_lambda T2.nest hT hce hg (ns := [Str.ofString "polynomial"]) rfl (by decide +kernel) (by rw [T2.qual, hq]; decide +kernel) fun la_f la_o la_fd la_h la_n => ?_
    refine spec_bisl (n := n) T2 (room.le (by omega)) (ks := (outN size).map (·.1)) (by (repeat (first | exact At.head | refine At.tail ?_)); done) (by (repeat (first | exact At.head | refine At.tail ?_)); done) la_h (by rw [List.length_map, List.length_map]) (by rw [List.length_map]; omega) (spec_key (n := n) T2 (by (repeat (first | exact At.head | refine At.tail ?_)); done) la_h la_n (by decide +kernel) (by intro fd h1 h2 x; unfold bindArgs; rw [h1, h2]; rfl)) ?_
    walk_at "aw"
    obtain ⟨fr, m1, m2, m3⟩ := T2.bis 5 (.inl rfl)
    refine EV_callK1 (fd := fr) (Has.mem (by (repeat (first | exact Has.head | refine Has.tail ?_)); done)) m1 ?_
    walk_at "aw"
    refine r_lambda T2.nest hT hce hg (ns := [Str.ofString "polynomial"]) rfl (by decide +kernel) (by rw [T2.qual, hq]; decide +kernel) fun lb_f lb_o lb_fd lb_h lb_n => ?_
    refine spec_bisr (n := n) T2 (room.le (by omega)) (ks := (outN size).map (·.1)) (by (repeat (first | exact At.head | refine At.tail ?_)); done) (by (repeat (first | exact At.head | refine At.tail ?_)); done) lb_h (by rw [List.length_map, List.length_map]) (by rw [List.length_map]; omega) (spec_key (n := n) T2 (by (repeat (first | exact At.head | refine At.tail ?_)); done) lb_h lb_n (by decide +kernel) (by intro fd h1 h2 x; unfold bindArgs; rw [h1, h2]; rfl)) ?_
    walk_at "aw"
    have hbe := TO.be
    have hen := TO.en
    have hled := TO.led
    have hchr := TO.chars
    have htwo := TO.two
    have hlens := tabW_lens (p := p) h4 h6
    have htab : tabW (outN size) p = (((outN size).drop (bisN true ((outN size).map (·.1)) p)).take (bisN false ((outN size).map (·.1)) p - bisN true ((outN size).map (·.1)) p)).map (·.2) := rfl
    have hbeg : begN (outN size) p = bisN true ((outN size).map (·.1)) p := rfl
    have hend : endN (outN size) p = bisN false ((outN size).map (·.1)) p := rfl
    rw [hbeg, hend] at hbe
    rw [hend] at hen
    generalize bisN true ((outN size).map (·.1)) p = kb at hbe htab ⊢
    generalize bisN false ((outN size).map (·.1)) p = ke at hbe hen htab ⊢
    refine r_assignC [Str.ofString "row"] [] [] [Str.ofString "polynomial"] [] [] (by decide +kernel) hg hb rfl rfl rfl (fun _ h => nomatch h) (fun _ h => nomatch h) (by (repeat (first | exact Has.head | refine Has.tail ?_)); done) (ei_list room.handled ?_)
    walk_at "aw"
    refine ⟨tb, _, kb, ke, rfl, rfl, rfl, (by (repeat (first | exact At.head | refine At.tail ?_)); done), by rw [List.length_map]; omega, by rw [List.length_map]; omega, hbe, fun e1 => ?_⟩
    have eseg : (((outN size).map pV).drop kb).take (ke - kb) = (((outN size).drop kb).take (ke - kb)).map pV := by rw [← List.map_drop, ← List.map_take]
    rw [eseg]
    have hsegl : (((outN size).drop kb).take (ke - kb)).length ≤ 64 := by rw [List.length_take, List.length_drop]; omega
    generalize ((outN size).drop kb).take (ke - kb) = seg at htab hsegl ⊢
    generalize tabW (outN size) p = TW at htab hled hchr htwo hlens
    subst htab
    refine ⟨e1, _, rfl, .head, fun i => some (.str ((seg.map (·.2)).getD i [])), .head, by rw [List.length_map, sizeLine_eq]; omega, fun i env' hi => turn1 fun u => ?_, fun e2 => ?_⟩
    · dsimp only
      rw [List.length_map] at hi
      have e5 : (seg.map pV).getD i .none = pV seg[i] := by simp [List.getD_eq_getElem?_getD, hi]
      have e6 : (seg.map (·.2)).getD i [] = seg[i].2 := by simp [List.getD_eq_getElem?_getD, hi]
      rw [e5, e6]
      generalize seg[i] = q
      walk_at "aw"
      refine S_tup (k := 1) (x := .str q.2) rfl (by decide) ?_
      walk_at "aw"
      rfl
    have ho : outsOf (fun i => some (V.str ((seg.map (·.2)).getD i []))) (seg.map pV).length = (seg.map (·.2)).map V.str := by
      rw [outs_some, List.length_map]
      apply List.ext_getElem
      · simp
      · intro i h1 h2
        simp at h1
        simp [List.getD_eq_getElem?_getD, h1]
    rw [ho]
    generalize seg.map (·.2) = ws at hled hchr htwo hlens ⊢
    walk_at "aw"
    refine spec_led (n := n) T (room.le (by omega)) h6 hp0' hp7 TO.few fun d zs hz hs => ?_
    rw [← hled zs hz hs]
    refine O_neSL (by (repeat (first | exact At.head | refine At.tail ?_)); done) (by (repeat (first | exact At.head | refine At.tail ?_)); done) hchr hchr (by have := room.units; omega) ?_
    walk_at "aw"
    · exact absurd rfl (by assumption)
    have hpow2 : 2 ≤ 2 ^ (size / 2 + 1) := by
      have : 2 ^ 1 ≤ 2 ^ (size / 2 + 1) := Nat.pow_le_pow_right (by decide) (by omega)
      simpa using this
    have hpow16 : 2 ^ (size / 2 + 1) ≤ 16 := Nat.le_trans (Nat.pow_le_pow_right (by decide) (show size / 2 + 1 ≤ 4 by omega)) (by decide)
    refine r_comp [Str.ofString "part"] [Str.ofString "ISEOF", Str.ofString "_law_rest"] [Str.ofString "polynomial"] [Str.ofString "polynomial"] [(Str.ofString "ISEOF", .val (.ref (ad 11))), (Str.ofString "_law_rest", .val (.ref (ad 22)))] [(Str.ofString "polynomial", c1)] (by decide +kernel) hg hb rfl rfl rfl
      (fun q hq => T.gl q ((show GlobOk cx ad [(Str.ofString "ISEOF", .val (.ref (ad 11))), (Str.ofString "_law_rest", .val (.ref (ad 22)))] by walk_at "aw gl") q hq)) (fun q hq => by rw [List.mem_singleton.mp hq, List.lookup_cons, beq_self_eq_true]) (EI_range2 room.handled (Has.mem (by (repeat (first | exact Has.head | refine Has.tail ?_)); done)) ?_)
    walk_at "aw"
    have e7 : 2 + (2 ^ (size / 2 + 1) - 2) = 2 ^ (size / 2 + 1) := by omega
    refine ⟨2, 2 ^ (size / 2 + 1) - 2, by rw [e7], by omega, fun i => if restN p (2 + i) = 0 then some (nt (2 + i)) else none, trivial, by rw [sizeLine_eq]; omega, fun i env' hi => turn1 fun u => ?_, fun e8 => ?_⟩
    · dsimp only
      walk_at "aw"
      refine spec_rest (n := n) T r1 (by omega) (by omega) (by omega) ?_
      walk_at "aw"
      refine spec_iseof (n := n) T r1 ?_
      walk_at "aw"
      · rw [if_pos (by assumption)]
      · rw [if_neg (by assumption)]
    have hout : outsOf (fun i => if restN p (2 + i) = 0 then some (nt (2 + i)) else none) (2 ^ (size / 2 + 1) - 2) = (partsN size p).map nt := by
      unfold outsOf partsN
      rw [filterMap_if, List.map_map]; rfl
    rw [hout]
    walk_at "aw"
    refine ⟨by rw [sizeLine_eq]; simp, fun e9 => ?_⟩
    refine O_eqL (ns := partsN size p) (ms := []) (by (repeat (first | exact At.head | refine At.tail ?_)); done) (by (repeat (first | exact At.head | refine At.tail ?_)); done) (by have := room.units; omega) ?_
    walk_at "aw"
    refine @split_dec _ _ _ _ (fun hpn => ?_) (fun hpn => ?_)
    · obtain ⟨t1, t2⟩ := htwo (parts_none hpn)
      have hx0 : (ws.map V.str)[0]? = some (.str (ws.getD 0 [])) := by simp [List.getD_eq_getElem?_getD, t1]
      have hx1 : (ws.map V.str)[1]? = some (.str (ws.getD 1 [])) := by simp [List.getD_eq_getElem?_getD, t1]
      have hm0 : ws.getD 0 [] ∈ ws := by simp [List.getD_eq_getElem?_getD, t1]
      have hl0 := hlens _ hm0
      walk_at "aw"
      refine ET_or2 ?_
      walk_at "aw"
      refine B_lenL (by (repeat (first | exact At.head | refine At.tail ?_)); done) (by rw [List.length_map]; omega) ?_
      rw [List.length_map, t1]
      walk_at "aw"
      · exact absurd rfl (by assumption)
      refine S_list (by (repeat (first | exact At.head | refine At.tail ?_)); done) hx0 (by decide) ?_
      walk_at "aw"
      refine ⟨by omega, ?_⟩
      walk_at "aw"
      refine S_list (by (repeat (first | exact At.head | refine At.tail ?_)); done) hx1 (by decide) ?_
      rw [t2]
      walk_at "aw"
      · exact absurd rfl (by assumption)
      · exact ⟨_, _, _, _, _, (by repeat (first | exact .cons_cons _ (.cons_cons _ (.cons_cons _ .slnil)) | refine .cons _ ?_)), rfl⟩
    · walk_at "aw"
      exact ⟨_, _, _, _, _, (by repeat (first | exact .cons_cons _ (.cons_cons _ (.cons_cons _ .slnil)) | refine .cons _ ?_)), rfl⟩
  · rintro st ⟨v, ub, ue, uw, ar2, hsub, rfl⟩
    walk_at "aw"
    refine EV_bool ?_
    walk_at "aw"
    rfl
end
end
section
set_option maxRecDepth 10000
set_option maxHeartbeats 4000000
section
variable {cx : Cx} {A : Around} {ar : Ar}
noncomputable abbrev glLaw : List (Str × V) := [(Str.ofString "_law_draw", .val (.ref (ad 17))), (Str.ofString "_int2digits", .val (.ref (ad 2))), (Str.ofString "_law_fronts", .val (.ref (ad 18))), (Str.ofString "_law_read", .val (.ref (ad 19))), (Str.ofString "range", .val (.type "range")), (Str.ofString "_law_next", .val (.ref (ad 20))), (Str.ofString "_law_up", .val (.ref (ad 21))), (Str.ofString "compute_powers", .val (.ref (ad 1))), (Str.ofString "_law_rest", .val (.ref (ad 22))), (Str.ofString "_law_product", .val (.ref (ad 23))), (Str.ofString "_law_every_row", .val (.ref (ad 24))), (Str.ofString "bisect_left", .val (.ref (ad 6))), (Str.ofString "bisect_right", .val (.ref (ad 5))), (Str.ofString "_law_led_back", .val (.ref (ad 26))), (Str.ofString "len", .val (.builtin "len"))]
theorem law_body {env : Env} {c1 sa : Addr} {items : List Value} {zs : List Int} {n : Nat} (T2 : Tops2 cx ad) (room : Room A (n + 70)) (hg : env.globals = mainGlobals) (hb : env.builtins = builtinsNs) (hk1 : env.kindOf (Str.ofString "polynomial") = some .cell) (hcode : ∃ c P, (c, P) ∈ cx.tabs ∧ env.code = .ref c) (hq : env.qual = Str.ofString "law.<locals>.")
    (hl : cx.base.IsList sa items.toArray) (hI : IntsAre items zs) (hsz : zs.length < 2 ^ 62) :
    EB cx ⟨env, glLaw, [(Str.ofString "polynomial", c1)]⟩ A (defAt 27).body ⟨[(Str.ofString "script", some (.ref sa)), (Str.ofString "seeds", none), (Str.ofString "size", none), (Str.ofString "lift", none), (Str.ofString "marks", none), (Str.ofString "cells", none), (Str.ofString "span", none), (Str.ofString "fronts", none), (Str.ofString "backs", none), (Str.ofString "whole", none), (Str.ofString "number", none), (Str.ofString "lifted", none), (Str.ofString "step", none), (Str.ofString "powers", none), (Str.ofString "ahead", none), (Str.ofString "table", none), (Str.ofString "begin", none), (Str.ofString "end", none), (Str.ofString "words", none)], [(c1, .cell none)]⟩ (fun f st => f = .ret (.bool true)) := by
  have T := T2.toTops
  have r1 : Room A (n + 1) := room.le (by omega)
  show EB _ ⟨_, [(Str.ofString "_law_draw", .val (.ref (ad 17))), (Str.ofString "_int2digits", .val (.ref (ad 2))), (Str.ofString "_law_fronts", .val (.ref (ad 18))), (Str.ofString "_law_read", .val (.ref (ad 19))), (Str.ofString "range", .val (.type "range")), (Str.ofString "_law_next", .val (.ref (ad 20))), (Str.ofString "_law_up", .val (.ref (ad 21))), (Str.ofString "compute_powers", .val (.ref (ad 1))), (Str.ofString "_law_rest", .val (.ref (ad 22))), (Str.ofString "_law_product", .val (.ref (ad 23))), (Str.ofString "_law_every_row", .val (.ref (ad 24))), (Str.ofString "bisect_left", .val (.ref (ad 6))), (Str.ofString "bisect_right", .val (.ref (ad 5))), (Str.ofString "_law_led_back", .val (.ref (ad 26))), (Str.ofString "len", .val (.builtin "len"))], _⟩ _ (_ :: _) _ _
  walk_at "aw"
  refine spec_draw (n := n) T r1 hl hI hsz fun ls a b c => ?_
  walk_at "aw"
  refine S_list (by (repeat (first | exact At.head | refine At.tail ?_)); done) (x := nt a) rfl (by decide) ?_
  walk_at "aw"
  have h4 : 4 ≤ 4 + a % 3 := by omega
  have h6 : 4 + a % 3 ≤ 6 := by omega
  generalize 4 + a % 3 = size at h4 h6 ⊢
  have hp0 : 2 ^ size ≠ 0 := Nat.pos_iff_ne_zero.mp (Nat.two_pow_pos _)
  have hp64 : 2 ^ size ≤ 64 := Nat.le_trans (Nat.pow_le_pow_right (by decide) h6) (by decide)
  walk_at "aw"
  refine r_join ?_
  walk_at "aw"
  refine r_comp [Str.ofString "bit"] [] [] [Str.ofString "polynomial"] [] [] (by decide +kernel) hg hb rfl rfl rfl (fun _ h => nomatch h) (fun _ h => nomatch h) (ei_list room.handled ?_)
  refine r_uptoT ?_
  walk_at "aw"
  refine S_list (by (repeat (first | exact At.head | refine At.tail ?_)); done) (x := nt a) rfl (by decide) ?_
  walk_at "aw"
  have hma : a / 3 % 2 ^ size < 2 ^ size := Nat.mod_lt _ (Nat.two_pow_pos _)
  generalize a / 3 % 2 ^ size = ma at hma ⊢
  refine spec_int2 (n := n) T2 (room.le (by omega)) (by decide) (by decide) (by have := bits_pow hma; omega) fun d1 => ?_
  walk_at "aw"
  have lma := bitsOf_len hma
  have dma : (digitsN (2 ^ size + ma) 1).length = size + 1 := by unfold digitsN; rw [digs_len, bits_pow hma, Nat.div_one, Nat.add_sub_cancel]
  refine ⟨_, _, size, rfl, rfl, (by (repeat (first | exact At.head | refine At.tail ?_)); done), by rw [List.length_map]; omega, by rw [List.length_map]; omega, fun e1 => ?_⟩
  have etk : (List.map nt (digitsN (2 ^ size + ma) 1)).take size = (bitsOf size ma).map nt := by rw [← List.map_take]; rfl
  rw [etk]
  refine ⟨e1, _, rfl, .head, fun i => some (.str [([46, 120] : List Nat).getD ((bitsOf size ma).getD i 0) 0]), .head, by rw [List.length_map, sizeLine_eq]; omega, fun i env' hi => turn1 fun u => ?_, fun e2 => ?_⟩
  · dsimp only
    rw [getD_ntV hi]
    rw [List.length_map] at hi
    have hbl := bitsOf_lt (getD_mem hi)
    walk_at "aw"
    refine S_str (getD_some (l := [46, 120]) hbl) (by omega) ?_
    walk_at "aw"
    rfl
  have ho : outsOf (fun i => some (V.str [([46, 120] : List Nat).getD ((bitsOf size ma).getD i 0) 0])) ((bitsOf size ma).map nt).length = ((marksW size ma).map fun c => [c]).map V.str := by
    rw [outs_some, List.length_map]
    apply List.ext_getElem
    · simp [marksW]
    · intro i h1 h2
      simp at h1
      simp [marksW, List.getD_eq_getElem?_getD, h1]
  rw [ho]
  have lmarksW : (marksW size ma).length = size := by unfold marksW; rw [List.length_map]; exact lma
  refine ⟨e2, (marksW size ma).map fun c => [c], rfl, .head, ?_, join_nil _, ?_⟩
  · rw [List.map_map, List.length_map]
    rw [sum_ones]; omega
  rw [flat_ones]
  walk_at "aw"
  refine r_join ?_
  walk_at "aw"
  refine r_comp [Str.ofString "bit"] [] [] [Str.ofString "polynomial"] [] [] (by decide +kernel) hg hb rfl rfl rfl (fun _ h => nomatch h) (fun _ h => nomatch h) (ei_list room.handled ?_)
  refine r_uptoT ?_
  walk_at "aw"
  refine S_list (by (repeat (first | exact At.head | refine At.tail ?_)); done) (x := nt b) rfl (by decide) ?_
  walk_at "aw"
  have hmb : b % 2 ^ size < 2 ^ size := Nat.mod_lt _ (Nat.two_pow_pos _)
  generalize b % 2 ^ size = mb at hmb ⊢
  refine spec_int2 (n := n) T2 (room.le (by omega)) (by decide) (by decide) (by have := bits_pow hmb; omega) fun d2 => ?_
  walk_at "aw"
  have lmb := bitsOf_len hmb
  have dmb : (digitsN (2 ^ size + mb) 1).length = size + 1 := by unfold digitsN; rw [digs_len, bits_pow hmb, Nat.div_one, Nat.add_sub_cancel]
  refine ⟨_, _, size, rfl, rfl, (by (repeat (first | exact At.head | refine At.tail ?_)); done), by rw [List.length_map]; omega, by rw [List.length_map]; omega, fun e3 => ?_⟩
  have etk : (List.map nt (digitsN (2 ^ size + mb) 1)).take size = (bitsOf size mb).map nt := by rw [← List.map_take]; rfl
  rw [etk]
  refine ⟨e3, _, rfl, .head, fun i => some (.str [([120, 88] : List Nat).getD ((bitsOf size mb).getD i 0) 0]), .head, by rw [List.length_map, sizeLine_eq]; omega, fun i env' hi => turn1 fun u => ?_, fun e4 => ?_⟩
  · dsimp only
    rw [getD_ntV hi]
    rw [List.length_map] at hi
    have hbl := bitsOf_lt (getD_mem hi)
    walk_at "aw"
    refine S_str (getD_some (l := [120, 88]) hbl) (by omega) ?_
    walk_at "aw"
    rfl
  have ho : outsOf (fun i => some (V.str [([120, 88] : List Nat).getD ((bitsOf size mb).getD i 0) 0])) ((bitsOf size mb).map nt).length = ((cellsW size mb).map fun c => [c]).map V.str := by
    rw [outs_some, List.length_map]
    apply List.ext_getElem
    · simp [cellsW]
    · intro i h1 h2
      simp at h1
      simp [cellsW, List.getD_eq_getElem?_getD, h1]
  rw [ho]
  have lcellsW : (cellsW size mb).length = size := by unfold cellsW; rw [List.length_map]; exact lmb
  refine ⟨e4, (cellsW size mb).map fun c => [c], rfl, .head, ?_, join_nil _, ?_⟩
  · rw [List.map_map, List.length_map]
    rw [sum_ones]; omega
  rw [flat_ones]
  walk_at "aw"
  refine S_list (by (repeat (first | exact At.head | refine At.tail ?_)); done) (x := nt b) rfl (by decide) ?_
  walk_at "aw"
  have h5 : 5 ≤ 5 + b / 64 % 8 := by omega
  have h12 : 5 + b / 64 % 8 ≤ 12 := by omega
  generalize 5 + b / 64 % 8 = span at h5 h12 ⊢
  have hmk := marksW_mark (size := size) (r := ma)
  have hcl := cellsW_cell (size := size) (r := mb)
  generalize marksW size ma = M at lmarksW hmk ⊢
  generalize cellsW size mb = C at lcellsW hcl ⊢
  refine spec_fronts (n := n) T r1 hmk (by omega) fun lf => ?_
  walk_at "aw"
  refine ⟨by omega, ?_⟩
  walk_at "aw"
  have hmkr : ∀ c ∈ M.reverse, Mark c := fun c hc => hmk c (List.mem_reverse.mp hc)
  refine spec_fronts (n := n) T r1 hmkr (by rw [List.length_reverse]; omega) fun lb => ?_
  walk_at "aw"
  have MO := markOk h4 h6 lmarksW hmk
  have hfl : size < (frontsN M).length := by rw [fronts_len]; omega
  refine S_list (by (repeat (first | exact At.head | refine At.tail ?_)); done) (getD_nt hfl) (by omega) ?_
  walk_at "aw"
  refine spec_read (n := n) T r1 (by (repeat (first | exact At.head | refine At.tail ?_)); done) (by rw [fronts_len]; omega) (by omega) ?_
  have hr64 : readN C (frontsN M) < 2 ^ 64 := by have := (MO.row C lcellsW hcl).1; omega
  walk_at "aw"
  refine EX_forget (ar' := [(lb, O.list ((frontsN M.reverse).map nt)), (lf, O.list ((frontsN M).map nt)), (ls, O.list [nt a, nt b, nt c]), (c1, O.cell none)]) (.cons_cons _ (.cons_cons _ (.cons _ (.cons _ (.cons _ (.cons _ (.cons _ (.cons _ (.cons_cons _ (.cons_cons _ .slnil)))))))))) ?_
  exact law2 (n := n) (a := a) (b := b) (c := c) T2 room h4 h6 h5 h12 lmarksW hmk lcellsW hcl fun D dp u =>
    EB_forget (.cons _ (.cons _ (.cons _ (.refl _)))) (EB_thin (.cons _ (.cons_cons _ (.cons_cons _ (.cons _ (.cons _ (.cons _ (.cons _ (.cons _ (.cons _ (.cons_cons _ (.cons _ (.cons _ (.cons _ (.cons _ (.cons _ (.refl _)))))))))))))))) (law3 (n := n) (a := a) (b := b) (c := c) T2 room hg hb hk1 hcode hq h4 h6 MO.lo MO.hi))
end
end
section
open PySem PySem.W PyProof.Rows
set_option maxRecDepth 100000
set_option maxHeartbeats 0
noncomputable def viewN : Program := { PySem.Challenge.pw_sn0028_01 with main := { PySem.Challenge.pw_sn0028_01.main with body := PySem.Challenge.pw_sn0028_01.main.body.drop 27 } }
noncomputable def looseN : List Str := [Str.ofString "compute_powers", Str.ofString "_int2digits", Str.ofString "_digits2int", Str.ofString "bisect_right", Str.ofString "bisect_left", Str.ofString "ENDMARKER", Str.ofString "NT_OFFSET", Str.ofString "ISNONTERMINAL", Str.ofString "ISEOF", Str.ofString "_MOVE_COST", Str.ofString "_CASE_COST", Str.ofString "_substitution_cost", Str.ofString "_law_draw", Str.ofString "_law_fronts", Str.ofString "_law_read", Str.ofString "_law_next", Str.ofString "_law_up", Str.ofString "_law_rest", Str.ofString "_law_product", Str.ofString "_law_every_row", Str.ofString "_law_marks", Str.ofString "_law_led_back"]
noncomputable def heapN : Params → Frag := fun P =>
  (nat_lit 3, PySem.Obj.mk (PySem.Value.type "dict") Option.none (PySem.Data.dict #[PySem.DictEntry.mk (PySem.PyData.keyHash P (PySem.Str.ofString "__name__")) (PySem.Value.str (PySem.Str.ofString "__name__") 165) (PySem.Value.str (PySem.Str.ofString "law_sn0028_01") 295), PySem.DictEntry.mk (PySem.PyData.keyHash P (PySem.Str.ofString "__doc__")) (PySem.Value.str (PySem.Str.ofString "__doc__") 166) PySem.Value.none, PySem.DictEntry.mk (PySem.PyData.keyHash P (PySem.Str.ofString "__package__")) (PySem.Value.str (PySem.Str.ofString "__package__") 167) PySem.Value.none, PySem.DictEntry.mk (PySem.PyData.keyHash P (PySem.Str.ofString "__loader__")) (PySem.Value.str (PySem.Str.ofString "__loader__") 168) (PySem.Value.builtin "__main__.__loader__#opaque"), PySem.DictEntry.mk (PySem.PyData.keyHash P (PySem.Str.ofString "__spec__")) (PySem.Value.str (PySem.Str.ofString "__spec__") 169) PySem.Value.none, PySem.DictEntry.mk (PySem.PyData.keyHash P (PySem.Str.ofString "__annotations__")) (PySem.Value.str (PySem.Str.ofString "__annotations__") 170) (PySem.Value.ref 6), PySem.DictEntry.mk (PySem.PyData.keyHash P (PySem.Str.ofString "__builtins__")) (PySem.Value.str (PySem.Str.ofString "__builtins__") 171) (PySem.Value.ref 4), PySem.DictEntry.mk (PySem.PyData.keyHash P (PySem.Str.ofString "__file__")) (PySem.Value.str (PySem.Str.ofString "__file__") 173) (PySem.Value.str (PySem.Str.ofString "/claim/cut.py") 172), PySem.DictEntry.mk (PySem.PyData.keyHash P (PySem.Str.ofString "__cached__")) (PySem.Value.str (PySem.Str.ofString "__cached__") 174) PySem.Value.none, PySem.DictEntry.mk (PySem.PyData.keyHash P (PySem.Str.ofString "compute_powers")) (PySem.Value.str (PySem.Str.ofString "compute_powers") 208) (PySem.Value.ref 22), PySem.DictEntry.mk (PySem.PyData.keyHash P (PySem.Str.ofString "_int2digits")) (PySem.Value.str (PySem.Str.ofString "_int2digits") 219) (PySem.Value.ref 29), PySem.DictEntry.mk (PySem.PyData.keyHash P (PySem.Str.ofString "_digits2int")) (PySem.Value.str (PySem.Str.ofString "_digits2int") 230) (PySem.Value.ref 36), PySem.DictEntry.mk (PySem.PyData.keyHash P (PySem.Str.ofString "bisect_right")) (PySem.Value.str (PySem.Str.ofString "bisect_right") 246) (PySem.Value.ref 45), PySem.DictEntry.mk (PySem.PyData.keyHash P (PySem.Str.ofString "bisect_left")) (PySem.Value.str (PySem.Str.ofString "bisect_left") 260) (PySem.Value.ref 54), PySem.DictEntry.mk (PySem.PyData.keyHash P (PySem.Str.ofString "ENDMARKER")) (PySem.Value.str (PySem.Str.ofString "ENDMARKER") 264) (PySem.Value.int 0 263), PySem.DictEntry.mk (PySem.PyData.keyHash P (PySem.Str.ofString "NT_OFFSET")) (PySem.Value.str (PySem.Str.ofString "NT_OFFSET") 266) (PySem.Value.int 256 265), PySem.DictEntry.mk (PySem.PyData.keyHash P (PySem.Str.ofString "ISNONTERMINAL")) (PySem.Value.str (PySem.Str.ofString "ISNONTERMINAL") 273) (PySem.Value.ref 61), PySem.DictEntry.mk (PySem.PyData.keyHash P (PySem.Str.ofString "ISEOF")) (PySem.Value.str (PySem.Str.ofString "ISEOF") 280) (PySem.Value.ref 68), PySem.DictEntry.mk (PySem.PyData.keyHash P (PySem.Str.ofString "_MOVE_COST")) (PySem.Value.str (PySem.Str.ofString "_MOVE_COST") 284) (PySem.Value.int 2 283), PySem.DictEntry.mk (PySem.PyData.keyHash P (PySem.Str.ofString "_CASE_COST")) (PySem.Value.str (PySem.Str.ofString "_CASE_COST") 286) (PySem.Value.int 1 285), PySem.DictEntry.mk (PySem.PyData.keyHash P (PySem.Str.ofString "_substitution_cost")) (PySem.Value.str (PySem.Str.ofString "_substitution_cost") 294) (PySem.Value.ref 75), PySem.DictEntry.mk (PySem.PyData.keyHash P (PySem.Str.ofString "_law_draw")) (PySem.Value.str (PySem.Str.ofString "_law_draw") 305) (PySem.Value.ref 82), PySem.DictEntry.mk (PySem.PyData.keyHash P (PySem.Str.ofString "_law_fronts")) (PySem.Value.str (PySem.Str.ofString "_law_fronts") 315) (PySem.Value.ref 89), PySem.DictEntry.mk (PySem.PyData.keyHash P (PySem.Str.ofString "_law_read")) (PySem.Value.str (PySem.Str.ofString "_law_read") 325) (PySem.Value.ref 96), PySem.DictEntry.mk (PySem.PyData.keyHash P (PySem.Str.ofString "_law_next")) (PySem.Value.str (PySem.Str.ofString "_law_next") 337) (PySem.Value.ref 103), PySem.DictEntry.mk (PySem.PyData.keyHash P (PySem.Str.ofString "_law_up")) (PySem.Value.str (PySem.Str.ofString "_law_up") 345) (PySem.Value.ref 110), PySem.DictEntry.mk (PySem.PyData.keyHash P (PySem.Str.ofString "_law_rest")) (PySem.Value.str (PySem.Str.ofString "_law_rest") 353) (PySem.Value.ref 117), PySem.DictEntry.mk (PySem.PyData.keyHash P (PySem.Str.ofString "_law_product")) (PySem.Value.str (PySem.Str.ofString "_law_product") 359) (PySem.Value.ref 122), PySem.DictEntry.mk (PySem.PyData.keyHash P (PySem.Str.ofString "_law_every_row")) (PySem.Value.str (PySem.Str.ofString "_law_every_row") 365) (PySem.Value.ref 127), PySem.DictEntry.mk (PySem.PyData.keyHash P (PySem.Str.ofString "_law_marks")) (PySem.Value.str (PySem.Str.ofString "_law_marks") 375) (PySem.Value.ref 134), PySem.DictEntry.mk (PySem.PyData.keyHash P (PySem.Str.ofString "_law_led_back")) (PySem.Value.str (PySem.Str.ofString "_law_led_back") 381) (PySem.Value.ref 139), PySem.DictEntry.mk (PySem.PyData.keyHash P (PySem.Str.ofString "law")) (PySem.Value.str (PySem.Str.ofString "law") 387) (PySem.Value.ref 144)] 32) #[]) ::
  (nat_lit 15, PySem.Obj.mk (PySem.Value.type "tuple") Option.none (PySem.Data.seq #[PySem.Value.bool Bool.false]) #[]) ::
  (nat_lit 22, PySem.Obj.mk (PySem.Value.type "function") (Option.none) (.func (PySem.FuncData.mk (PySem.Str.ofString "compute_powers") (PySem.Str.ofString "compute_powers") (defAt 1).params (.stmts (defAt 1).body) (defAt 1).scope (3) ([]) (PySem.Value.ref 15) (PySem.Value.none) (PySem.Value.none) (PySem.Value.str (PySem.Str.ofString "cpy313._pylong") 187) (Option.none) (PySem.Value.ref 21) (PySem.Value.none) (0))) (#[])) ::
  (nat_lit 29, PySem.Obj.mk (PySem.Value.type "function") (Option.none) (.func (PySem.FuncData.mk (PySem.Str.ofString "_int2digits") (PySem.Str.ofString "_int2digits") (defAt 2).params (.stmts (defAt 2).body) (defAt 2).scope (3) ([]) (PySem.Value.none) (PySem.Value.none) (PySem.Value.none) (PySem.Value.str (PySem.Str.ofString "cpy313._pylong") 187) (Option.none) (PySem.Value.ref 28) (PySem.Value.none) (0))) (#[])) ::
  (nat_lit 36, PySem.Obj.mk (PySem.Value.type "function") (Option.none) (.func (PySem.FuncData.mk (PySem.Str.ofString "_digits2int") (PySem.Str.ofString "_digits2int") (defAt 3).params (.stmts (defAt 3).body) (defAt 3).scope (3) ([]) (PySem.Value.none) (PySem.Value.none) (PySem.Value.none) (PySem.Value.str (PySem.Str.ofString "cpy313._pylong") 187) (Option.none) (PySem.Value.ref 35) (PySem.Value.none) (0))) (#[])) ::
  (nat_lit 37, PySem.Obj.mk (PySem.Value.type "tuple") Option.none (PySem.Data.seq #[PySem.Value.int 0 233, PySem.Value.none]) #[]) ::
  (nat_lit 38, PySem.Obj.mk (PySem.Value.type "dict") Option.none (PySem.Data.dict #[PySem.DictEntry.mk (PySem.PyData.keyHash P (PySem.Str.ofString "key")) (PySem.Value.str (PySem.Str.ofString "key") 234) PySem.Value.none] 1) #[]) ::
  (nat_lit 45, PySem.Obj.mk (PySem.Value.type "function") (Option.none) (.func (PySem.FuncData.mk (PySem.Str.ofString "bisect_right") (PySem.Str.ofString "bisect_right") (defAt 5).params (.stmts (defAt 5).body) (defAt 5).scope (3) ([]) (PySem.Value.ref 37) (PySem.Value.ref 38) (PySem.Value.none) (PySem.Value.str (PySem.Str.ofString "cpy313.bisect") 231) (Option.none) (PySem.Value.ref 44) (PySem.Value.none) (0))) (#[])) ::
  (nat_lit 46, PySem.Obj.mk (PySem.Value.type "tuple") Option.none (PySem.Data.seq #[PySem.Value.int 0 247, PySem.Value.none]) #[]) ::
  (nat_lit 47, PySem.Obj.mk (PySem.Value.type "dict") Option.none (PySem.Data.dict #[PySem.DictEntry.mk (PySem.PyData.keyHash P (PySem.Str.ofString "key")) (PySem.Value.str (PySem.Str.ofString "key") 248) PySem.Value.none] 1) #[]) ::
  (nat_lit 54, PySem.Obj.mk (PySem.Value.type "function") (Option.none) (.func (PySem.FuncData.mk (PySem.Str.ofString "bisect_left") (PySem.Str.ofString "bisect_left") (defAt 6).params (.stmts (defAt 6).body) (defAt 6).scope (3) ([]) (PySem.Value.ref 46) (PySem.Value.ref 47) (PySem.Value.none) (PySem.Value.str (PySem.Str.ofString "cpy313.bisect") 231) (Option.none) (PySem.Value.ref 53) (PySem.Value.none) (0))) (#[])) ::
  (nat_lit 61, PySem.Obj.mk (PySem.Value.type "function") (Option.none) (.func (PySem.FuncData.mk (PySem.Str.ofString "ISNONTERMINAL") (PySem.Str.ofString "ISNONTERMINAL") (defAt 10).params (.stmts (defAt 10).body) (defAt 10).scope (3) ([]) (PySem.Value.none) (PySem.Value.none) (PySem.Value.none) (PySem.Value.str (PySem.Str.ofString "cpy313.token") 261) (Option.none) (PySem.Value.ref 60) (PySem.Value.none) (0))) (#[])) ::
  (nat_lit 68, PySem.Obj.mk (PySem.Value.type "function") (Option.none) (.func (PySem.FuncData.mk (PySem.Str.ofString "ISEOF") (PySem.Str.ofString "ISEOF") (defAt 11).params (.stmts (defAt 11).body) (defAt 11).scope (3) ([]) (PySem.Value.none) (PySem.Value.none) (PySem.Value.none) (PySem.Value.str (PySem.Str.ofString "cpy313.token") 261) (Option.none) (PySem.Value.ref 67) (PySem.Value.none) (0))) (#[])) ::
  (nat_lit 75, PySem.Obj.mk (PySem.Value.type "function") (Option.none) (.func (PySem.FuncData.mk (PySem.Str.ofString "_substitution_cost") (PySem.Str.ofString "_substitution_cost") (defAt 15).params (.stmts (defAt 15).body) (defAt 15).scope (3) ([]) (PySem.Value.none) (PySem.Value.none) (PySem.Value.none) (PySem.Value.str (PySem.Str.ofString "cpy313.traceback") 281) (Option.none) (PySem.Value.ref 74) (PySem.Value.none) (0))) (#[])) ::
  (nat_lit 82, PySem.Obj.mk (PySem.Value.type "function") (Option.none) (.func (PySem.FuncData.mk (PySem.Str.ofString "_law_draw") (PySem.Str.ofString "_law_draw") (defAt 17).params (.stmts (defAt 17).body) (defAt 17).scope (3) ([]) (PySem.Value.none) (PySem.Value.none) (PySem.Value.none) (PySem.Value.str (PySem.Str.ofString "law_sn0028_01") 295) (Option.none) (PySem.Value.ref 81) (PySem.Value.none) (0))) (#[])) ::
  (nat_lit 89, PySem.Obj.mk (PySem.Value.type "function") (Option.none) (.func (PySem.FuncData.mk (PySem.Str.ofString "_law_fronts") (PySem.Str.ofString "_law_fronts") (defAt 18).params (.stmts (defAt 18).body) (defAt 18).scope (3) ([]) (PySem.Value.none) (PySem.Value.none) (PySem.Value.none) (PySem.Value.str (PySem.Str.ofString "law_sn0028_01") 295) (Option.none) (PySem.Value.ref 88) (PySem.Value.none) (0))) (#[])) ::
  (nat_lit 96, PySem.Obj.mk (PySem.Value.type "function") (Option.none) (.func (PySem.FuncData.mk (PySem.Str.ofString "_law_read") (PySem.Str.ofString "_law_read") (defAt 19).params (.stmts (defAt 19).body) (defAt 19).scope (3) ([]) (PySem.Value.none) (PySem.Value.none) (PySem.Value.none) (PySem.Value.str (PySem.Str.ofString "law_sn0028_01") 295) (Option.none) (PySem.Value.ref 95) (PySem.Value.none) (0))) (#[])) ::
  (nat_lit 103, PySem.Obj.mk (PySem.Value.type "function") (Option.none) (.func (PySem.FuncData.mk (PySem.Str.ofString "_law_next") (PySem.Str.ofString "_law_next") (defAt 20).params (.stmts (defAt 20).body) (defAt 20).scope (3) ([]) (PySem.Value.none) (PySem.Value.none) (PySem.Value.none) (PySem.Value.str (PySem.Str.ofString "law_sn0028_01") 295) (Option.none) (PySem.Value.ref 102) (PySem.Value.none) (0))) (#[])) ::
  (nat_lit 110, PySem.Obj.mk (PySem.Value.type "function") (Option.none) (.func (PySem.FuncData.mk (PySem.Str.ofString "_law_up") (PySem.Str.ofString "_law_up") (defAt 21).params (.stmts (defAt 21).body) (defAt 21).scope (3) ([]) (PySem.Value.none) (PySem.Value.none) (PySem.Value.none) (PySem.Value.str (PySem.Str.ofString "law_sn0028_01") 295) (Option.none) (PySem.Value.ref 109) (PySem.Value.none) (0))) (#[])) ::
  (nat_lit 117, PySem.Obj.mk (PySem.Value.type "function") (Option.none) (.func (PySem.FuncData.mk (PySem.Str.ofString "_law_rest") (PySem.Str.ofString "_law_rest") (defAt 22).params (.stmts (defAt 22).body) (defAt 22).scope (3) ([]) (PySem.Value.none) (PySem.Value.none) (PySem.Value.none) (PySem.Value.str (PySem.Str.ofString "law_sn0028_01") 295) (Option.none) (PySem.Value.ref 116) (PySem.Value.none) (0))) (#[])) ::
  (nat_lit 122, PySem.Obj.mk (PySem.Value.type "function") (Option.none) (.func (PySem.FuncData.mk (PySem.Str.ofString "_law_product") (PySem.Str.ofString "_law_product") (defAt 23).params (.stmts (defAt 23).body) (defAt 23).scope (3) ([]) (PySem.Value.none) (PySem.Value.none) (PySem.Value.none) (PySem.Value.str (PySem.Str.ofString "law_sn0028_01") 295) (Option.none) (PySem.Value.ref 121) (PySem.Value.none) (0))) (#[])) ::
  (nat_lit 127, PySem.Obj.mk (PySem.Value.type "function") (Option.none) (.func (PySem.FuncData.mk (PySem.Str.ofString "_law_every_row") (PySem.Str.ofString "_law_every_row") (defAt 24).params (.stmts (defAt 24).body) (defAt 24).scope (3) ([]) (PySem.Value.none) (PySem.Value.none) (PySem.Value.none) (PySem.Value.str (PySem.Str.ofString "law_sn0028_01") 295) (Option.none) (PySem.Value.ref 126) (PySem.Value.none) (0))) (#[])) ::
  (nat_lit 134, PySem.Obj.mk (PySem.Value.type "function") (Option.none) (.func (PySem.FuncData.mk (PySem.Str.ofString "_law_marks") (PySem.Str.ofString "_law_marks") (defAt 25).params (.stmts (defAt 25).body) (defAt 25).scope (3) ([]) (PySem.Value.none) (PySem.Value.none) (PySem.Value.none) (PySem.Value.str (PySem.Str.ofString "law_sn0028_01") 295) (Option.none) (PySem.Value.ref 133) (PySem.Value.none) (0))) (#[])) ::
  (nat_lit 139, PySem.Obj.mk (PySem.Value.type "function") (Option.none) (.func (PySem.FuncData.mk (PySem.Str.ofString "_law_led_back") (PySem.Str.ofString "_law_led_back") (defAt 26).params (.stmts (defAt 26).body) (defAt 26).scope (3) ([]) (PySem.Value.none) (PySem.Value.none) (PySem.Value.none) (PySem.Value.str (PySem.Str.ofString "law_sn0028_01") 295) (Option.none) (PySem.Value.ref 138) (PySem.Value.none) (0))) (#[])) ::
  (nat_lit 144, PySem.Obj.mk (PySem.Value.type "function") (Option.none) (.func (PySem.FuncData.mk (PySem.Str.ofString "law") (PySem.Str.ofString "law") (defAt 27).params (.stmts (defAt 27).body) (defAt 27).scope (3) ([]) (PySem.Value.none) (PySem.Value.none) (PySem.Value.none) (PySem.Value.str (PySem.Str.ofString "law_sn0028_01") 295) (Option.none) (PySem.Value.ref 143) (PySem.Value.none) (0))) (#[])) ::
  (nat_lit 21, PySem.Obj.mk (PySem.Value.type "code") Option.none (PySem.Data.fields #[PySem.Value.str (PySem.Str.ofString "compute_powers") 189, PySem.Value.str (PySem.Str.ofString "compute_powers") 190, PySem.Value.str (PySem.Str.ofString "/claim/cut.py") 191, PySem.Value.int 2 0, PySem.Value.int 4 0, PySem.Value.int 0 0, PySem.Value.int 0 0, PySem.Value.int 3 0, PySem.Value.ref 16, PySem.Value.bool Bool.true, PySem.Value.int 181 0, PySem.Value.ref 17, PySem.Value.none, PySem.Value.ref 18, PySem.Value.ref 19, PySem.Value.ref 20, PySem.Value.int 206 0, PySem.Value.int 2 0, PySem.Value.str (PySem.Str.ofString "/claim/cut.py") 207]) #[]) ::
  (nat_lit 28, PySem.Obj.mk (PySem.Value.type "code") Option.none (PySem.Data.fields #[PySem.Value.str (PySem.Str.ofString "_int2digits") 209, PySem.Value.str (PySem.Str.ofString "_int2digits") 210, PySem.Value.str (PySem.Str.ofString "/claim/cut.py") 211, PySem.Value.int 43 0, PySem.Value.int 2 0, PySem.Value.int 0 0, PySem.Value.int 0 0, PySem.Value.int 3 0, PySem.Value.ref 23, PySem.Value.bool Bool.true, PySem.Value.int 181 0, PySem.Value.ref 24, PySem.Value.none, PySem.Value.ref 25, PySem.Value.ref 26, PySem.Value.ref 27, PySem.Value.int 217 0, PySem.Value.int 43 0, PySem.Value.str (PySem.Str.ofString "/claim/cut.py") 218]) #[]) ::
  (nat_lit 35, PySem.Obj.mk (PySem.Value.type "code") Option.none (PySem.Data.fields #[PySem.Value.str (PySem.Str.ofString "_digits2int") 220, PySem.Value.str (PySem.Str.ofString "_digits2int") 221, PySem.Value.str (PySem.Str.ofString "/claim/cut.py") 222, PySem.Value.int 59 0, PySem.Value.int 2 0, PySem.Value.int 0 0, PySem.Value.int 0 0, PySem.Value.int 3 0, PySem.Value.ref 30, PySem.Value.bool Bool.true, PySem.Value.int 181 0, PySem.Value.ref 31, PySem.Value.none, PySem.Value.ref 32, PySem.Value.ref 33, PySem.Value.ref 34, PySem.Value.int 228 0, PySem.Value.int 59 0, PySem.Value.str (PySem.Str.ofString "/claim/cut.py") 229]) #[]) ::
  (nat_lit 44, PySem.Obj.mk (PySem.Value.type "code") Option.none (PySem.Data.fields #[PySem.Value.str (PySem.Str.ofString "bisect_right") 235, PySem.Value.str (PySem.Str.ofString "bisect_right") 236, PySem.Value.str (PySem.Str.ofString "/claim/cut.py") 237, PySem.Value.int 69 0, PySem.Value.int 4 0, PySem.Value.int 0 0, PySem.Value.int 1 0, PySem.Value.int 3 0, PySem.Value.ref 39, PySem.Value.bool Bool.true, PySem.Value.int 181 0, PySem.Value.ref 40, PySem.Value.none, PySem.Value.ref 41, PySem.Value.ref 42, PySem.Value.ref 43, PySem.Value.int 244 0, PySem.Value.int 69 0, PySem.Value.str (PySem.Str.ofString "/claim/cut.py") 245]) #[]) ::
  (nat_lit 53, PySem.Obj.mk (PySem.Value.type "code") Option.none (PySem.Data.fields #[PySem.Value.str (PySem.Str.ofString "bisect_left") 249, PySem.Value.str (PySem.Str.ofString "bisect_left") 250, PySem.Value.str (PySem.Str.ofString "/claim/cut.py") 251, PySem.Value.int 89 0, PySem.Value.int 4 0, PySem.Value.int 0 0, PySem.Value.int 1 0, PySem.Value.int 3 0, PySem.Value.ref 48, PySem.Value.bool Bool.true, PySem.Value.int 181 0, PySem.Value.ref 49, PySem.Value.none, PySem.Value.ref 50, PySem.Value.ref 51, PySem.Value.ref 52, PySem.Value.int 258 0, PySem.Value.int 89 0, PySem.Value.str (PySem.Str.ofString "/claim/cut.py") 259]) #[]) ::
  (nat_lit 60, PySem.Obj.mk (PySem.Value.type "code") Option.none (PySem.Data.fields #[PySem.Value.str (PySem.Str.ofString "ISNONTERMINAL") 267, PySem.Value.str (PySem.Str.ofString "ISNONTERMINAL") 268, PySem.Value.str (PySem.Str.ofString "/claim/cut.py") 269, PySem.Value.int 112 0, PySem.Value.int 1 0, PySem.Value.int 0 0, PySem.Value.int 0 0, PySem.Value.int 3 0, PySem.Value.ref 55, PySem.Value.bool Bool.true, PySem.Value.int 181 0, PySem.Value.ref 56, PySem.Value.none, PySem.Value.ref 57, PySem.Value.ref 58, PySem.Value.ref 59, PySem.Value.int 271 0, PySem.Value.int 112 0, PySem.Value.str (PySem.Str.ofString "/claim/cut.py") 272]) #[]) ::
  (nat_lit 67, PySem.Obj.mk (PySem.Value.type "code") Option.none (PySem.Data.fields #[PySem.Value.str (PySem.Str.ofString "ISEOF") 274, PySem.Value.str (PySem.Str.ofString "ISEOF") 275, PySem.Value.str (PySem.Str.ofString "/claim/cut.py") 276, PySem.Value.int 114 0, PySem.Value.int 1 0, PySem.Value.int 0 0, PySem.Value.int 0 0, PySem.Value.int 3 0, PySem.Value.ref 62, PySem.Value.bool Bool.true, PySem.Value.int 181 0, PySem.Value.ref 63, PySem.Value.none, PySem.Value.ref 64, PySem.Value.ref 65, PySem.Value.ref 66, PySem.Value.int 278 0, PySem.Value.int 114 0, PySem.Value.str (PySem.Str.ofString "/claim/cut.py") 279]) #[]) ::
  (nat_lit 74, PySem.Obj.mk (PySem.Value.type "code") Option.none (PySem.Data.fields #[PySem.Value.str (PySem.Str.ofString "_substitution_cost") 287, PySem.Value.str (PySem.Str.ofString "_substitution_cost") 288, PySem.Value.str (PySem.Str.ofString "/claim/cut.py") 289, PySem.Value.int 119 0, PySem.Value.int 2 0, PySem.Value.int 0 0, PySem.Value.int 0 0, PySem.Value.int 3 0, PySem.Value.ref 69, PySem.Value.bool Bool.true, PySem.Value.int 181 0, PySem.Value.ref 70, PySem.Value.none, PySem.Value.ref 71, PySem.Value.ref 72, PySem.Value.ref 73, PySem.Value.int 292 0, PySem.Value.int 119 0, PySem.Value.str (PySem.Str.ofString "/claim/cut.py") 293]) #[]) ::
  (nat_lit 81, PySem.Obj.mk (PySem.Value.type "code") Option.none (PySem.Data.fields #[PySem.Value.str (PySem.Str.ofString "_law_draw") 297, PySem.Value.str (PySem.Str.ofString "_law_draw") 298, PySem.Value.str (PySem.Str.ofString "/claim/cut.py") 299, PySem.Value.int 126 0, PySem.Value.int 1 0, PySem.Value.int 0 0, PySem.Value.int 0 0, PySem.Value.int 3 0, PySem.Value.ref 76, PySem.Value.bool Bool.true, PySem.Value.int 181 0, PySem.Value.ref 77, PySem.Value.none, PySem.Value.ref 78, PySem.Value.ref 79, PySem.Value.ref 80, PySem.Value.int 303 0, PySem.Value.int 126 0, PySem.Value.str (PySem.Str.ofString "/claim/cut.py") 304]) #[]) ::
  (nat_lit 88, PySem.Obj.mk (PySem.Value.type "code") Option.none (PySem.Data.fields #[PySem.Value.str (PySem.Str.ofString "_law_fronts") 306, PySem.Value.str (PySem.Str.ofString "_law_fronts") 307, PySem.Value.str (PySem.Str.ofString "/claim/cut.py") 308, PySem.Value.int 131 0, PySem.Value.int 1 0, PySem.Value.int 0 0, PySem.Value.int 0 0, PySem.Value.int 3 0, PySem.Value.ref 83, PySem.Value.bool Bool.true, PySem.Value.int 181 0, PySem.Value.ref 84, PySem.Value.none, PySem.Value.ref 85, PySem.Value.ref 86, PySem.Value.ref 87, PySem.Value.int 313 0, PySem.Value.int 131 0, PySem.Value.str (PySem.Str.ofString "/claim/cut.py") 314]) #[]) ::
  (nat_lit 95, PySem.Obj.mk (PySem.Value.type "code") Option.none (PySem.Data.fields #[PySem.Value.str (PySem.Str.ofString "_law_read") 316, PySem.Value.str (PySem.Str.ofString "_law_read") 317, PySem.Value.str (PySem.Str.ofString "/claim/cut.py") 318, PySem.Value.int 139 0, PySem.Value.int 2 0, PySem.Value.int 0 0, PySem.Value.int 0 0, PySem.Value.int 3 0, PySem.Value.ref 90, PySem.Value.bool Bool.true, PySem.Value.int 181 0, PySem.Value.ref 91, PySem.Value.none, PySem.Value.ref 92, PySem.Value.ref 93, PySem.Value.ref 94, PySem.Value.int 323 0, PySem.Value.int 139 0, PySem.Value.str (PySem.Str.ofString "/claim/cut.py") 324]) #[]) ::
  (nat_lit 102, PySem.Obj.mk (PySem.Value.type "code") Option.none (PySem.Data.fields #[PySem.Value.str (PySem.Str.ofString "_law_next") 326, PySem.Value.str (PySem.Str.ofString "_law_next") 327, PySem.Value.str (PySem.Str.ofString "/claim/cut.py") 328, PySem.Value.int 145 0, PySem.Value.int 2 0, PySem.Value.int 0 0, PySem.Value.int 0 0, PySem.Value.int 3 0, PySem.Value.ref 97, PySem.Value.bool Bool.true, PySem.Value.int 181 0, PySem.Value.ref 98, PySem.Value.none, PySem.Value.ref 99, PySem.Value.ref 100, PySem.Value.ref 101, PySem.Value.int 335 0, PySem.Value.int 145 0, PySem.Value.str (PySem.Str.ofString "/claim/cut.py") 336]) #[]) ::
  (nat_lit 109, PySem.Obj.mk (PySem.Value.type "code") Option.none (PySem.Data.fields #[PySem.Value.str (PySem.Str.ofString "_law_up") 338, PySem.Value.str (PySem.Str.ofString "_law_up") 339, PySem.Value.str (PySem.Str.ofString "/claim/cut.py") 340, PySem.Value.int 153 0, PySem.Value.int 2 0, PySem.Value.int 0 0, PySem.Value.int 0 0, PySem.Value.int 3 0, PySem.Value.ref 104, PySem.Value.bool Bool.true, PySem.Value.int 181 0, PySem.Value.ref 105, PySem.Value.none, PySem.Value.ref 106, PySem.Value.ref 107, PySem.Value.ref 108, PySem.Value.int 343 0, PySem.Value.int 153 0, PySem.Value.str (PySem.Str.ofString "/claim/cut.py") 344]) #[]) ::
  (nat_lit 116, PySem.Obj.mk (PySem.Value.type "code") Option.none (PySem.Data.fields #[PySem.Value.str (PySem.Str.ofString "_law_rest") 346, PySem.Value.str (PySem.Str.ofString "_law_rest") 347, PySem.Value.str (PySem.Str.ofString "/claim/cut.py") 348, PySem.Value.int 158 0, PySem.Value.int 2 0, PySem.Value.int 0 0, PySem.Value.int 0 0, PySem.Value.int 3 0, PySem.Value.ref 111, PySem.Value.bool Bool.true, PySem.Value.int 181 0, PySem.Value.ref 112, PySem.Value.none, PySem.Value.ref 113, PySem.Value.ref 114, PySem.Value.ref 115, PySem.Value.int 351 0, PySem.Value.int 158 0, PySem.Value.str (PySem.Str.ofString "/claim/cut.py") 352]) #[]) ::
  (nat_lit 121, PySem.Obj.mk (PySem.Value.type "code") Option.none (PySem.Data.fields #[PySem.Value.str (PySem.Str.ofString "_law_product") 354, PySem.Value.str (PySem.Str.ofString "_law_product") 355, PySem.Value.str (PySem.Str.ofString "/claim/cut.py") 356, PySem.Value.int 162 0, PySem.Value.int 2 0, PySem.Value.int 0 0, PySem.Value.int 0 0, PySem.Value.int 3 0, PySem.Value.ref 118, PySem.Value.bool Bool.true, PySem.Value.int 181 0, PySem.Value.ref 119, PySem.Value.none, PySem.Value.none, PySem.Value.none, PySem.Value.ref 120, PySem.Value.int 357 0, PySem.Value.int 162 0, PySem.Value.str (PySem.Str.ofString "/claim/cut.py") 358]) #[]) ::
  (nat_lit 126, PySem.Obj.mk (PySem.Value.type "code") Option.none (PySem.Data.fields #[PySem.Value.str (PySem.Str.ofString "_law_every_row") 360, PySem.Value.str (PySem.Str.ofString "_law_every_row") 361, PySem.Value.str (PySem.Str.ofString "/claim/cut.py") 362, PySem.Value.int 165 0, PySem.Value.int 1 0, PySem.Value.int 0 0, PySem.Value.int 0 0, PySem.Value.int 3 0, PySem.Value.ref 123, PySem.Value.bool Bool.true, PySem.Value.int 181 0, PySem.Value.ref 124, PySem.Value.none, PySem.Value.none, PySem.Value.none, PySem.Value.ref 125, PySem.Value.int 363 0, PySem.Value.int 165 0, PySem.Value.str (PySem.Str.ofString "/claim/cut.py") 364]) #[]) ::
  (nat_lit 133, PySem.Obj.mk (PySem.Value.type "code") Option.none (PySem.Data.fields #[PySem.Value.str (PySem.Str.ofString "_law_marks") 366, PySem.Value.str (PySem.Str.ofString "_law_marks") 367, PySem.Value.str (PySem.Str.ofString "/claim/cut.py") 368, PySem.Value.int 174 0, PySem.Value.int 2 0, PySem.Value.int 0 0, PySem.Value.int 0 0, PySem.Value.int 3 0, PySem.Value.ref 128, PySem.Value.bool Bool.true, PySem.Value.int 181 0, PySem.Value.ref 129, PySem.Value.none, PySem.Value.ref 130, PySem.Value.ref 131, PySem.Value.ref 132, PySem.Value.int 373 0, PySem.Value.int 174 0, PySem.Value.str (PySem.Str.ofString "/claim/cut.py") 374]) #[]) ::
  (nat_lit 138, PySem.Obj.mk (PySem.Value.type "code") Option.none (PySem.Data.fields #[PySem.Value.str (PySem.Str.ofString "_law_led_back") 376, PySem.Value.str (PySem.Str.ofString "_law_led_back") 377, PySem.Value.str (PySem.Str.ofString "/claim/cut.py") 378, PySem.Value.int 188 0, PySem.Value.int 2 0, PySem.Value.int 0 0, PySem.Value.int 0 0, PySem.Value.int 3 0, PySem.Value.ref 135, PySem.Value.bool Bool.true, PySem.Value.int 181 0, PySem.Value.ref 136, PySem.Value.none, PySem.Value.none, PySem.Value.none, PySem.Value.ref 137, PySem.Value.int 379 0, PySem.Value.int 188 0, PySem.Value.str (PySem.Str.ofString "/claim/cut.py") 380]) #[]) ::
  (nat_lit 143, PySem.Obj.mk (PySem.Value.type "code") Option.none (PySem.Data.fields #[PySem.Value.str (PySem.Str.ofString "law") 382, PySem.Value.str (PySem.Str.ofString "law") 383, PySem.Value.str (PySem.Str.ofString "/claim/cut.py") 384, PySem.Value.int 202 0, PySem.Value.int 1 0, PySem.Value.int 0 0, PySem.Value.int 0 0, PySem.Value.int 3 0, PySem.Value.ref 140, PySem.Value.bool Bool.true, PySem.Value.int 181 0, PySem.Value.ref 141, PySem.Value.none, PySem.Value.none, PySem.Value.none, PySem.Value.ref 142, PySem.Value.int 385 0, PySem.Value.int 202 0, PySem.Value.str (PySem.Str.ofString "/claim/cut.py") 386]) #[]) ::
  []
noncomputable def addrsN : List Addr := [3, 15, 22, 29, 36, 37, 38, 45, 46, 47, 54, 61, 68, 75, 82, 89, 96, 103, 110, 117, 122, 127, 134, 139, 144, 21, 28, 35, 44, 53, 60, 67, 74, 81, 88, 95, 102, 109, 116, 121, 126, 133, 138, 143]
theorem addrs_ok : ∀ P, addrsN = (heapN P).map (·.1) := fun _ => by kernel_rfl
noncomputable def hookN : Hook := kmHook heapN addrsN addrs_ok [31, 24, 141]
theorem left0 : LeftO PySem.Challenge.rw_sn0028_01.row.prog viewN looseN (fun s => xlAt viewN [] s && recOk (RowW.records PySem.Challenge.rw_sn0028_01.row.toRowW) s) hookN.obs hookN.val 1496 := by
  intro w
  kernel_rfl
theorem said_names : namesResolve PySem.Challenge.rw_sn0028_01.row.prog = true := by kernel_rfl
theorem said_looks : looksOpen PySem.Challenge.rw_sn0028_01.row.prog = true := by
  unfold looksOpen
  rw [said_names]
  kernel_rfl
theorem said_row : PySem.Challenge.rw_sn0028_01.row.wellSaid = true := by
  unfold OpenRow.wellSaid OpenRow.partSaid
  rw [said_looks]
  kernel_rfl
theorem said0 : PySem.Challenge.rw_sn0028_01.wellSaid = true := by
  unfold OpenLaw.wellSaid
  rw [said_row]
  kernel_rfl
end
section
set_option maxRecDepth 100000
set_option maxHeartbeats 8000000

theorem fnK {cx : Cx} {K : Frag} (X : K.In cx.base) {a c : Addr} {o oc : Obj} {fd : FuncData} {vs : Array Value} {t : Tok} (e : K.lookup a = some o) (ed : o.data = .func fd) (ec : fd.code = .ref c)
    (e2 : K.lookup c = some oc) (ev : oc.data = .fields vs) (eq : vs[1]? = some (.str fd.qualname t)) : FnB cx a fd :=
  ⟨⟨o, X _ _ e, ed⟩, ⟨c, oc, vs, t, ec, X _ _ e2, ev, eq⟩⟩

section
variable {cx : Cx} {p : Params} {loose : List Str} {mean : ExcName → Option Value} {mg mb : Str → Option Value}
theorem glK (X : (heapN p).In cx.base) (T : Top topProg loose mean mg mb cx.base) : ∀ q ∈ glAll ad, GlobV cx q.1 q.2 := by
  have f : ∀ {x : Str} {v : Value}, nsIn (heapN p) mainGlobals x = some (some v) → ∀ {u : V}, (∀ h, VR h u v) → GlobV cx x u := fun e _ r => GlobV.glob T.g (mg_of X T.g e) r
  have b : ∀ {x : Str} {v : Value}, nsIn (heapN p) mainGlobals x = some none → x ≠ "__name__" → bootBuiltins x = some v → GlobV cx x (.val v) := fun e hn hv =>
    GlobV.builtin T.g (mg_none_of X T.g e) T.b ((T.builtins _ hn).trans hv)
  repeat' (refine List.forall_mem_cons.mpr ⟨?_, ?_⟩)
  all_goals first
    | exact f (by rfl) (fun h => .val _)
    | exact f (by rfl) (fun h => .int _ _)
    | exact b (by rfl) (by decide +kernel) (by rfl)
    | exact fun _ h => nomatch h

theorem fnN (X : (heapN p).In cx.base) : ∀ k ∈ [2, 3, 10, 11, 15, 17, 18, 19, 20, 21, 22, 23, 24, 25, 26], IsFn cx (ad k) k := by
  repeat' (refine List.forall_mem_cons.mpr ⟨?_, ?_⟩)
  all_goals first
    | exact ⟨_, fnK X (by rfl) rfl rfl (by rfl) rfl rfl, ⟨rfl, rfl, rfl, rfl, rfl, rfl, rfl⟩, rfl, rfl⟩
    | exact fun _ h => nomatch h

theorem codeN (X : (heapN p).In cx.base) (ht : cx.tabs = [(35, 31), (28, 24), (143, 141)]) : ∀ k fd, (k = 2 ∨ k = 3) → FnB cx (ad k) fd → FdIs fd (defAt k) → ∃ c P, (c, P) ∈ cx.tabs ∧ fd.code = .ref c := by
  intro k fd hk hf _
  rw [ht]
  obtain ⟨o, ho, hof⟩ := hf.obj
  rcases hk with rfl | rfl
  · obtain ⟨o', e', fd', hd', hc'⟩ : ∃ o', (heapN p).lookup 29 = some o' ∧ ∃ fd', o'.data = .func fd' ∧ fd'.code = .ref 28 := ⟨_, by rfl, _, rfl, rfl⟩
    have e2 : cx.base.get? 29 = some o := ho
    rw [X _ _ e'] at e2
    cases e2
    rw [hof] at hd'
    have h2 := hc'
    have h1 := hd'
    cases h1
    exact ⟨28, 24, .tail _ (.head _), h2⟩
  · obtain ⟨o', e', fd', hd', hc'⟩ : ∃ o', (heapN p).lookup 36 = some o' ∧ ∃ fd', o'.data = .func fd' ∧ fd'.code = .ref 35 := ⟨_, by rfl, _, rfl, rfl⟩
    have e2 : cx.base.get? 36 = some o := ho
    rw [X _ _ e'] at e2
    cases e2
    rw [hof] at hd'
    have h2 := hc'
    have h1 := hd'
    cases h1
    exact ⟨35, 31, .head _, h2⟩
theorem bisN' (X : (heapN p).In cx.base) : ∀ k, k = 5 ∨ k = 6 → ∃ fd, FnB cx (ad k) fd ∧ FdIs fd (defAt k) ∧ ∀ (s : Shared) (x y z : Value), (∀ b o, cx.base.get? b = some o → s.heap.get? b = some o) →
    ∃ t, BindsTo s fd ⟨[x, y], [(Str.ofString "key", z)]⟩ [(Str.ofString "a", x), (Str.ofString "x", y), (Str.ofString "lo", .int 0 t), (Str.ofString "hi", .none), (Str.ofString "key", z)] := by
  intro k hk
  rcases hk with rfl | rfl
  · refine ⟨_, fnK X (by rfl) rfl rfl (by rfl) rfl rfl, ⟨rfl, rfl, rfl, rfl, rfl, rfl, rfl⟩, fun s x y z hk => ⟨_, kp_binds (X.keeps hk) fun S => rfl⟩⟩
  · refine ⟨_, fnK X (by rfl) rfl rfl (by rfl) rfl rfl, ⟨rfl, rfl, rfl, rfl, rfl, rfl, rfl⟩, fun s x y z hk => ⟨_, kp_binds (X.keeps hk) fun S => rfl⟩⟩
theorem powN' (X : (heapN p).In cx.base) : ∃ fd, FnB cx (ad 1) fd ∧ FdIs fd (defAt 1) ∧ ∀ (s : Shared) (x y z : Value), (∀ b o, cx.base.get? b = some o → s.heap.get? b = some o) →
    BindsTo s fd ⟨[x, y, z], []⟩ [(Str.ofString "w", x), (Str.ofString "base", y), (Str.ofString "more_than", z), (Str.ofString "show", .bool false)] :=
  ⟨_, fnK X (by rfl) rfl rfl (by rfl) rfl rfl, ⟨rfl, rfl, rfl, rfl, rfl, rfl, rfl⟩, fun s x y z hk => kp_binds (X.keeps hk) fun S => rfl⟩
theorem tops2N (X : (heapN p).In cx.base) (T : Top topProg loose mean mg mb cx.base) (ht : cx.tabs = [(35, 31), (28, 24), (143, 141)]) (hq : cx.qual = qualAll)
    (h1 : CodeHd cx.base 35 31) (h2 : CodeHd cx.base 28 24) (h3 : CodeHd cx.base 143 141) : Tops2 cx ad where
  lim := T.nolimit
  gl := glK X T
  fn := fnN X
  nest := ⟨⟨mg, T.g, T.bmain⟩, fun a b e _ => by rw [hq]; unfold qualAll; rw [e], by
    rw [ht]
    exact List.forall_mem_cons.mpr ⟨h1, List.forall_mem_cons.mpr ⟨h2, List.forall_mem_cons.mpr ⟨h3, fun _ h => nomatch h⟩⟩⟩⟩
  qual := fun _ => by rw [hq]
  code := codeN X ht
  bis := bisN' X
  pow := powN' X
end
end
section
set_option maxRecDepth 100000
set_option maxHeartbeats 8000000
theorem notTabs {L : Nat} (l0 : 31 < L ∧ 24 < L ∧ 141 < L) : L ∉ ([31, 24, 141] : List Nat) ∧ L + 1 ∉ ([31, 24, 141] : List Nat) := by
  refine ⟨fun h => ?_, fun h => ?_⟩ <;> simp only [List.mem_cons, List.not_mem_nil, or_false] at h <;> omega

theorem law_ends {w : World} {s₁ : Shared} {h₁ base : Heap} {L : Addr} {dr : Drawn} {tk : Nat} {fa sa : Addr} {items : List Value} {zs : List Int} {ow : Obj} {m : Str → Option Value} {loose : List Str} {mean : ExcName → Option Value} {mg mb : Str → Option Value}
    {Q : Flow → Shared → Prop} {E : Value → Shared → Prop}
    (X : (heapN w.params).In base) (T : Top topProg loose mean mg mb base) (F : Fr base L h₁ m) (hm : m (Str.ofString "script") = some (.ref sa)) (hl : base.IsList sa items.toArray) (hI : IntsAre items zs) (hsz : zs.length < 2 ^ 62)
    (c1 : CodeHd base 35 31) (c2 : CodeHd base 28 24) (c3 : CodeHd base 143 141) (hcell : ow.data = .cell none)
    (N : News base L h₁ [(L + 1, ow), (31, tabObj #[]), (24, tabObj #[]), (141, tabObj #[])]) (l0 : 31 < L ∧ 24 < L ∧ 141 < L)
    (hQ : ∀ s' m', Fr base L s'.heap m' → s'.gens = s₁.gens → s'.os = s₁.os → GrownAll [(35, 31), (28, 24), (143, 141)] s'.heap → Q (.ret (.bool true)) s') :
    wpAny (model PySem.Challenge.rw_sn0028_01.row.prog w) (callerA.deeper (envOfC (Str.ofString "law") (defAt 27).scope L fa (.ref 143))) (execs (defAt 27).body (envOfC (Str.ofString "law") (defAt 27).scope L fa (.ref 143))) Q E
      { heap := h₁, gens := s₁.gens, drawn := dr, toks := tk, os := s₁.os } := by
  let cx : Cx := ⟨PySem.Challenge.rw_sn0028_01.row.prog, w, base, [(35, 31), (28, 24), (143, 141)], qualAll, s₁.gens, s₁.os⟩
  have T2 : Tops2 cx ad := tops2N X T rfl rfl c1 c2 c3
  have room : Room (callerA.deeper (envOfC (Str.ofString "law") (defAt 27).scope L fa (.ref 143))) (0 + 70) := ⟨by show 1 + 300 + 1 + (0 + 70) ≤ 800; omega, by show 4 + 3 + 20 * (0 + 70) ≤ 9000; omega, rfl⟩
  have baseL : base.get? L = none := by
    cases q : base.get? L with
    | none => rfl
    | some o => exact absurd (Nat.lt_of_lt_of_le (Heap.lt_size q) F.above) (Nat.lt_irrefl _)
  have tabOk : ∀ P, News base L h₁ [(P, tabObj #[])] → TabOk cx P h₁ ∧ base.get? P = none := fun P n =>
    ⟨⟨#[], (n _ (.head _)).1, by trivial, fun pos cv q => by cases q⟩, (n _ (.head _)).2.2⟩
  have n31 : News base L h₁ [(31, tabObj #[])] := fun p hp => N p (by cases hp with | head => exact .tail _ (.head _) | tail _ h => exact nomatch h)
  have n24 : News base L h₁ [(24, tabObj #[])] := fun p hp => N p (by cases hp with | head => exact .tail _ (.tail _ (.head _)) | tail _ h => exact nomatch h)
  have n141 : News base L h₁ [(141, tabObj #[])] := fun p hp => N p (by cases hp with | head => exact .tail _ (.tail _ (.tail _ (.head _))) | tail _ h => exact nomatch h)
  have htb : cx.tb = [31, 24, 141] := rfl
  have H : HRel cx [(L + 1, .cell none)] { heap := h₁, gens := s₁.gens, drawn := dr, toks := tk, os := s₁.os } := {
    gens := rfl
    os := rfl
    keep := F.keep
    objs := List.forall_mem_cons.mpr ⟨⟨ow, (N _ (.head _)).1, .cell0 hcell⟩, fun _ h => nomatch h⟩
    off := List.forall_mem_cons.mpr ⟨⟨(N _ (.head _)).2.2, by
      show L + 1 ∉ cx.tb
      rw [htb]
      exact (notTabs l0).2⟩, fun _ h => nomatch h⟩
    nodup := by
      show [L + 1].Nodup
      exact List.nodup_cons.mpr ⟨List.not_mem_nil, List.nodup_nil⟩
    tabs := by
      rw [htb]
      exact List.forall_mem_cons.mpr ⟨tabOk _ n31, List.forall_mem_cons.mpr ⟨tabOk _ n24, List.forall_mem_cons.mpr ⟨tabOk _ n141, fun _ h => nomatch h⟩⟩⟩ }
  refine law_body (cx := cx) (A := callerA.deeper (envOfC (Str.ofString "law") (defAt 27).scope L fa (.ref 143))) (env := envOfC (Str.ofString "law") (defAt 27).scope L fa (.ref 143)) (c1 := L + 1) (n := 0) T2 room rfl rfl (by show (defAt 27).scope.names.lookup _ = _; decide +kernel) ⟨143, 141, .tail _ (.tail _ (.head _)), rfl⟩ (by show Str.ofString "law" ++ Str.ofString ".<locals>." = _; decide +kernel) hl hI hsz
    _ _ _ ⟨H, ⟨?_, ?_, ?_⟩, ⟨?_, ?_, baseL⟩, ?_, ?_, ?_⟩ fun f st' s' fl hf r' rf e' => ?_
  · show List.Nodup [Str.ofString "script", Str.ofString "seeds", Str.ofString "size", Str.ofString "lift", Str.ofString "marks", Str.ofString "cells", Str.ofString "span", Str.ofString "fronts", Str.ofString "backs", Str.ofString "whole", Str.ofString "number", Str.ofString "lifted", Str.ofString "step", Str.ofString "powers", Str.ofString "ahead", Str.ofString "table", Str.ofString "begin", Str.ofString "end", Str.ofString "words"]
    decide +kernel
  · dsimp only
    repeat' (refine List.forall_mem_cons.mpr ⟨by (show (defAt 27).scope.names.lookup _ = some .local); dsimp only; decide +kernel, ?_⟩)
    exact fun _ h => nomatch h
  · refine ⟨m, F.ns, List.forall_mem_cons.mpr ⟨⟨_, hm, .ref _⟩, ?_⟩⟩
    repeat' (refine List.forall_mem_cons.mpr ⟨trivial, ?_⟩)
    exact fun _ h => nomatch h
  · show L ∉ [L + 1]
    simp
  · show L ∉ cx.tb
    rw [htb]
    exact (notTabs l0).1
  · show (defAt 27).scope.kind = .function
    decide +kernel
  · refine List.forall_mem_cons.mpr ⟨⟨?_, .inl ?_⟩, fun _ h => nomatch h⟩
    · show (cellsFrom (L + 1) (defAt 27).scope.names []).lookup _ = _
      rfl
    · show (defAt 27).scope.names.lookup _ = _
      dsimp only
      decide +kernel
  · have hg : ∀ q ∈ glLaw, GlobV cx q.1 q.2 ∧ (defAt 27).scope.names.lookup q.1 = some .globalImplicit := by
      refine fun q hq => ⟨T2.gl q ?_, ?_⟩
      · revert q
        show GlobOk cx ad (glLaw)
        with_reducible (repeat (first | exact GlobOk.nil | refine GlobOk.cons (by (repeat (first | exact Has.head | refine Has.tail ?_)); done) ?_))
      · revert q
        repeat' (refine List.forall_mem_cons.mpr ⟨by dsimp only; decide +kernel, ?_⟩)
        exact fun _ h => nomatch h
    exact fun p hp A s Q E kp k => (hg p hp).1 _ A s Q E (by show (defAt 27).scope.kind = .function; decide +kernel) (hg p hp).2 rfl rfl kp k
  · subst hf
    cases rf with
    | ret rv =>
      cases rv
      obtain ⟨m', hns, _⟩ := r'.loc.ns
      refine hQ s' m' ⟨hns, r'.h.keep, F.above⟩ r'.h.gens r'.h.os ?_
      have ht : ∀ P ∈ cx.tb, GrownAt P s'.heap := fun P hP => by
        obtain ⟨⟨ps, e, _⟩, _⟩ := r'.h.tabs P hP
        exact ⟨ps, e⟩
      exact ⟨ht 31 (.head _), ht 24 (.tail _ (.head _)), ht 141 (.tail _ (.tail _ (.head _))), trivial⟩
end
end Mine
open PySem PySem.W PyProof.Rows PySem.Calls
set_option maxRecDepth 100000 in
set_option maxHeartbeats 8000000 in
theorem PySem.Challenge.cw_sn0028_01_holds : PySem.Challenge.rw_sn0028_01.Holds := by
  w_on
  refine holds_law Mine.said0 fun said => ?_
  refine holds_open (q := Mine.viewN) (loose := Mine.looseN) (Xt := fun s => xlAt Mine.viewN [] s && recOk (RowW.records PySem.Challenge.rw_sn0028_01.row.toRowW) s) (XP := XL Mine.viewN []) (Yf := Mine.hookN.obs) (Ya := Mine.hookN.val) (YP := (kmHook Mine.heapN Mine.addrsN Mine.addrs_ok [31, 24, 141]).says) (N := 1496) Mine.left0 Mine.hookN.of Mine.hookN.keeps (fun s e => xl_of s (Bool.and_eq_true_iff.mp e).1) XL.keeps (by rfl) (by rfl) (by rfl) (fun s e => recFacts_of (Bool.and_eq_true_iff.mp e).2) (by rfl) said (by decide +kernel) ⟨rfl, rfl, rfl, rfl, rfl, by decide +kernel⟩ ?hw ?hc
  case hw => w_witness2
  k_go0
  refine Mine.law_ends (loose := _) (mb := _) (by with_reducible assumption) (by with_reducible assumption) (by with_reducible assumption) (by rfl) (by with_reducible assumption) (by with_reducible assumption) ?_ (by with_reducible assumption) (by with_reducible assumption) (by with_reducible assumption)
    (Eq.trans (by with_reducible assumption) ?_) (by with_reducible assumption) (by with_reducible assumption) ?_
  · omega
  · rfl
  · intro s' m' F2 h2 h3 h4
    refine ⟨?_, h4⟩
    show GoodW _ _ _ _ _ (.ok (.ret (.bool true))) _
    refine goodW_bool F2 (h2.trans (by with_reducible assumption)) (raisesW_false ?_) ?_ h3
    · wrow_none_raised
    · wrow_post
