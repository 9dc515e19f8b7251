import PyProof.Rows.All
import Wide.All
import OpenK.AllK
import Wide.FinOn
import PySem.Challenge.RW_ww0035_04
set_option Elab.async false
set_option linter.all false
set_option maxRecDepth 100000
namespace Mine
section
open PySem PySem.W PySem.Calls PySem.Spec PyProof.Rows
abbrev Led := List (Addr × Obj)
abbrev Vals := List (Option Value)

def vmap (ns : List Str) (vs : Vals) (y : Str) : Option Value := ((ns.zip vs).lookup y).join

theorem vmap_set : ∀ {ns : List Str} {vs : Vals} {i : Nat} {x : Str} {v : Value}, ns.Nodup → ns[i]? = some x → i < vs.length →
    (fun y => if y = x then some v else vmap ns vs y) = vmap ns (vs.set i (some v))
  | [], _, _, _, _, _, h, _ => by simp at h
  | n :: ns, [], _, _, _, _, _, h => absurd h (Nat.not_lt_zero _)
  | n :: ns, u :: vs, 0, x, v, hnd, h, _ => by
    have e : n = x := by simpa using h
    subst e
    funext y
    simp only [vmap, List.set_cons_zero, List.zip_cons_cons, List.lookup_cons]
    by_cases q : y = n
    · subst q; simp
    · have : (y == n) = false := beq_eq_false_iff_ne.mpr q
      simp [q, this]
  | n :: ns, u :: vs, i + 1, x, v, hnd, h, hl => by
    have h' : ns[i]? = some x := by simpa using h
    have ih := vmap_set (v := v) (List.nodup_cons.mp hnd).2 h' (Nat.lt_of_succ_lt_succ hl)
    have hne : n ≠ x := fun e => (List.nodup_cons.mp hnd).1 (e ▸ List.mem_of_getElem? h')
    funext y
    have ihy := congrFun ih y
    simp only [vmap, List.set_cons_succ, List.zip_cons_cons, List.lookup_cons] at ihy ⊢
    by_cases q : y = n
    · subst q; simp [hne]
    · have : (y == n) = false := beq_eq_false_iff_ne.mpr q
      simp only [this]; exact ihy
theorem vmap_get : ∀ {ns : List Str} {vs : Vals} {i : Nat} {x : Str} {v : Option Value}, ns.Nodup → ns[i]? = some x → vs[i]? = some v → vmap ns vs x = v
  | [], _, _, _, _, _, h, _ => by simp at h
  | n :: ns, [], _, _, _, _, _, h => by simp at h
  | n :: ns, u :: vs, 0, x, v, hnd, h, h2 => by
    have e : n = x := by simpa using h
    have e2 : u = v := by simpa using h2
    subst e e2
    simp [vmap]
  | n :: ns, u :: vs, i + 1, x, v, hnd, h, h2 => by
    have h' : ns[i]? = some x := by simpa using h
    have hne : n ≠ x := fun e => (List.nodup_cons.mp hnd).1 (e ▸ List.mem_of_getElem? h')
    have := vmap_get (List.nodup_cons.mp hnd).2 h' (v := v) (vs := vs) (by simpa using h2)
    have q : (x == n) = false := beq_eq_false_iff_ne.mpr (Ne.symm hne)
    simp only [vmap, List.zip_cons_cons, List.lookup_cons, q] at this ⊢
    exact this
theorem vmap_binds {xs : List Str} {vals : List Value} : ∀ {rest : List Str}, (xs ++ rest).Nodup → xs.length = vals.length →
    (fun y => (xs.zip vals).reverse.lookup y) = vmap (xs ++ rest) (vals.map some ++ rest.map fun _ => none) := by
  intro rest hnd hl
  funext y
  induction xs generalizing vals with
  | nil =>
    cases vals with
    | nil =>
      simp only [vmap, List.zip_nil_left, List.reverse_nil, List.lookup_nil, List.nil_append, List.map_nil]
      clear hnd hl
      induction rest with
      | nil => rfl
      | cons r rest ih =>
        simp only [List.map_cons, List.zip_cons_cons, List.lookup_cons]
        cases q : y == r with
        | true => rfl
        | false => simpa [q] using ih
    | cons _ _ => cases hl
  | cons x xs ih =>
    cases vals with
    | nil => cases hl
    | cons v vals =>
      have hnd' := (List.nodup_cons.mp hnd)
      have ih' := ih (vals := vals) hnd'.2 (Nat.succ.inj hl)
      simp only [vmap, List.cons_append, List.map_cons, List.zip_cons_cons, List.reverse_cons, List.lookup_append, List.lookup_cons, List.lookup_nil] at ih' ⊢
      rw [ih']
      by_cases q : y = x
      · subst q
        simp only [beq_self_eq_true, Option.join_some]
        have : (((xs ++ rest).zip (vals.map some ++ rest.map fun _ => none)).lookup y) = none := by
          rw [List.lookup_eq_none_iff]
          intro p hp
          have hm := (List.of_mem_zip hp).1
          simp only [bne_iff_ne, ne_eq]
          rintro rfl
          exact hnd'.1 hm
        rw [this]; rfl
      · have : (y == x) = false := beq_eq_false_iff_ne.mpr q
        simp [this]

structure Fx where
  prog : Program
  w : World
  s : Shared
structure Fm where
  g : Heap
  L : Addr
  ns : List Str
  cs : List (Addr × Obj)

def cellsL : List (Addr × Obj) → Vals → Led
  | c :: cs, v :: vs => (c.1, { c.2 with data := .cell v }) :: cellsL cs vs
  | _, _ => []

structure Rep (f : Fm) (vs cv : Vals) (nw : Led) (h : Heap) : Prop where
  fr : Fr f.g f.L h (vmap f.ns vs)
  news : News f.g f.L h (cellsL f.cs cv ++ nw)
  nd : ((cellsL f.cs cv ++ nw).map (·.1)).Nodup

def Wp {α : Type} (X : Fx) (f : Fm) (A : Around) (t : Sem α) (vs cv : Vals) (nw : Led) (Q : α → Vals → Vals → Led → Prop) : Prop :=
  ∀ F h tk, Rep f vs cv (nw ++ F) h → wpAny (model X.prog X.w) A t
    (fun a s' => ∃ vs' cv' nw' h' tk', Rep f vs' cv' (nw' ++ F) h' ∧ s' = { X.s with heap := h', toks := tk' } ∧ Q a vs' cv' nw') (fun _ _ => False) { X.s with heap := h, toks := tk }

section
variable {α β : Type} {X : Fx} {f : Fm} {A : Around} {vs cv : Vals} {nw : Led}

theorem Rep.get {F : Led} {h : Heap} {a : Addr} {o : Obj} (R : Rep f vs cv (nw ++ F) h) (hm : (a, o) ∈ nw) : h.get? a = some o :=
  (R.news (a, o) (List.mem_append_right _ (List.mem_append_left _ hm))).1

protected theorem Wp.pure {a : α} {Q : α → Vals → Vals → Led → Prop} (h : Q a vs cv nw) : Wp X f A (Pure.pure a) vs cv nw Q :=
  fun _ _ _ R => wpAny_pure ⟨_, _, _, _, _, R, rfl, h⟩
protected theorem Wp.mono {t : Sem α} {Q Q' : α → Vals → Vals → Led → Prop} (h : Wp X f A t vs cv nw Q) (hq : ∀ a vs cv nw, Q a vs cv nw → Q' a vs cv nw) : Wp X f A t vs cv nw Q' :=
  fun F hp tk R => wpAny_mono (h F hp tk R) (fun _ _ ⟨vs', cv', nw', h', tk', R', e, q⟩ => ⟨vs', cv', nw', h', tk', R', e, hq _ _ _ _ q⟩) fun _ _ x => x
protected theorem Wp.bind {m : Sem α} {k : α → Sem β} {Q : β → Vals → Vals → Led → Prop} (h : Wp X f A m vs cv nw fun a vs cv nw => Wp X f A (k a) vs cv nw Q) : Wp X f A (m >>= k) vs cv nw Q :=
  fun F hp tk R => wpAny_bind (wpAny_mono (h F hp tk R) (fun a s' ⟨vs', cv', nw', h', tk', R', e, q⟩ => by subst e; exact q F h' tk' R') fun _ _ x => x)
protected theorem Wp.holding {us : List Value} {m : Sem α} {Q : α → Vals → Vals → Led → Prop} (h : Wp X f A m vs cv nw Q) : Wp X f A (PySem.holding us m) vs cv nw Q :=
  fun F hp tk R => wpAny_holding (h F hp tk R)
protected theorem Wp.standAt {pos : Pos} {Q : Unit → Vals → Vals → Led → Prop} (h : Q () vs cv nw) : Wp X f A (PySem.standAt pos) vs cv nw Q :=
  fun _ _ _ R => wpAny_standAt ⟨_, _, _, _, _, R, rfl, h⟩
protected theorem Wp.of_eq {t t' : Sem α} {Q : α → Vals → Vals → Led → Prop} (e : t = t') (h : Wp X f A t' vs cv nw Q) : Wp X f A t vs cv nw Q := e ▸ h
/-- lift a rule of the library that leaves the heap as it was -/
protected theorem Wp.still {t : Sem α} {Q : α → Vals → Vals → Led → Prop} (a : α → Prop) (ht : ∀ (s : Shared) (Q' : α → Shared → Prop), (∃ F, Rep f vs cv (nw ++ F) s.heap) → (∀ v tk, a v → Q' v { s with toks := tk }) → wpAny (model X.prog X.w) A t Q' (fun _ _ => False) s)
    (h : ∀ v, a v → Q v vs cv nw) : Wp X f A t vs cv nw Q :=
  fun F hp tk R => ht _ _ ⟨F, R⟩ fun v tk' hv => ⟨vs, cv, nw, hp, tk', R, rfl, h v hv⟩

theorem Rep.sub {nw' F : Led} {h : Heap} (R : Rep f vs cv (nw ++ F) h) (hs : ∀ p ∈ nw', p ∈ nw) (hn : (nw'.map (·.1)).Nodup) : Rep f vs cv (nw' ++ F) h := by
  have key : ∀ {a b : Led}, (∀ p ∈ a, p ∈ b) → ∀ q ∈ a.map (·.1), q ∈ b.map (·.1) := fun h q hq => by
    obtain ⟨p, hp, rfl⟩ := List.mem_map.mp hq
    exact List.mem_map.mpr ⟨p, h p hp, rfl⟩
  refine ⟨R.fr, fun p hp => R.news p ?_, ?_⟩
  · rcases List.mem_append.mp hp with h1 | h1
    · exact List.mem_append_left _ h1
    · rcases List.mem_append.mp h1 with h2 | h2
      · exact List.mem_append_right _ (List.mem_append_left _ (hs p h2))
      · exact List.mem_append_right _ (List.mem_append_right _ h2)
  · have nd := R.nd
    simp only [List.map_append, List.nodup_append] at nd ⊢
    refine ⟨nd.1, ⟨hn, nd.2.1.2.1, fun a ha b hb => nd.2.1.2.2 a (key hs a ha) b hb⟩, fun a ha b hb => nd.2.2 a ha b ?_⟩
    rcases List.mem_append.mp hb with h1 | h1
    · exact List.mem_append_left _ (key hs b h1)
    · exact List.mem_append_right _ h1
protected theorem Wp.sub {t : Sem α} {nw' : Led} {Q : α → Vals → Vals → Led → Prop} (hs : ∀ p ∈ nw', p ∈ nw) (hn : (nw.map (·.1)).Nodup → (nw'.map (·.1)).Nodup) (h : Wp X f A t vs cv nw' Q) : Wp X f A t vs cv nw Q := by
  intro F hp tk R
  refine h F hp tk (R.sub hs (hn ?_))
  have nd := R.nd
  simp only [List.map_append, List.nodup_append] at nd
  exact nd.2.1.1
/-- what is not named stays -/
protected theorem Wp.frame {t : Sem α} {G : Led} {Q : α → Vals → Vals → Led → Prop} (h : Wp X f A t vs cv nw Q) : Wp X f A t vs cv (nw ++ G) fun a vs cv nw' => ∃ n, nw' = n ++ G ∧ Q a vs cv n := by
  intro F hp tk R
  rw [List.append_assoc] at R
  refine wpAny_mono (h (G ++ F) hp tk R) (fun a s' ⟨vs', cv', nw', h', tk', R', e, q⟩ => ⟨vs', cv', nw' ++ G, h', tk', by rw [List.append_assoc]; exact R', e, nw', rfl, q⟩) fun _ _ x => x
/-- a new object -/
theorem Rep.push {F : Led} {h : Heap} (R : Rep f vs cv (nw ++ F) h) (o : Obj) (hf : o.isFreed = false := by rfl) : Rep f vs cv ((h.objs.size, o) :: nw ++ F) (h.push o) := by
  have hnew : ∀ p ∈ cellsL f.cs cv ++ (nw ++ F), p.1 ≠ h.objs.size := fun p hp => Nat.ne_of_lt (Heap.lt_size (R.news p hp).1)
  have N := News.push R.fr R.news o hf
  refine ⟨R.fr.push o, fun p hp => N p ?_, ?_⟩
  · rcases List.mem_append.mp hp with h1 | h1
    · exact .tail _ (List.mem_append_left _ h1)
    · rcases List.mem_cons.mp h1 with h2 | h2
      · exact h2 ▸ .head _
      · exact .tail _ (List.mem_append_right _ h2)
  · have nd := R.nd
    simp only [List.cons_append, List.map_append, List.map_cons, List.nodup_append, List.nodup_cons, List.mem_append] at nd ⊢
    refine ⟨nd.1, ⟨?_, nd.2.1⟩, ?_⟩
    · rintro (h1 | h1) <;> obtain ⟨p, hp, e⟩ := List.mem_map.mp h1
      · exact hnew p (List.mem_append_right _ (List.mem_append_left _ hp)) e
      · exact hnew p (List.mem_append_right _ (List.mem_append_right _ hp)) e
    · rintro a ha b hb
      rcases List.mem_cons.mp hb with rfl | hb
      · obtain ⟨p, hp, rfl⟩ := List.mem_map.mp ha
        exact hnew p (List.mem_append_left _ hp)
      · exact nd.2.2 a ha b (List.mem_append.mp hb)
inductive Up (d : Addr) (o o' : Obj) : Led → Led → Prop
  | head {r} : Up d o o' ((d, o) :: r) ((d, o') :: r)
  | tail {p r r'} : Up d o o' r r' → Up d o o' (p :: r) (p :: r')
  | left {a a' b} : Up d o o' a a' → Up d o o' (a ++ b) (a' ++ b)
  | right {a b b'} : Up d o o' b b' → Up d o o' (a ++ b) (a ++ b')
theorem Up.split {d : Addr} {o o' : Obj} {l l' : Led} (u : Up d o o' l l') : ∃ pre post, l = pre ++ (d, o) :: post ∧ l' = pre ++ (d, o') :: post := by
  induction u with
  | head => exact ⟨[], _, rfl, rfl⟩
  | tail _ ih => obtain ⟨a, b, rfl, rfl⟩ := ih; exact ⟨_ :: a, b, rfl, rfl⟩
  | @left _ _ c _ ih => obtain ⟨a, b, rfl, rfl⟩ := ih; exact ⟨a, b ++ c, by simp, by simp⟩
  | @right c _ _ _ ih => obtain ⟨a, b, rfl, rfl⟩ := ih; exact ⟨c ++ a, b, by simp, by simp⟩
theorem Up.mem {d : Addr} {o o' : Obj} {l l' : Led} (u : Up d o o' l l') : (d, o) ∈ l := by obtain ⟨a, b, rfl, _⟩ := u.split; simp
theorem Rep.upd' {h h' : Heap} {d : Addr} {o o' : Obj} {n n' : Led} (R : Rep f vs cv n h) (u : Up d o o' n n') (hs : Heap.SameBut d h h') (ho : h'.get? d = some o') : Rep f vs cv n' h' := by
  obtain ⟨pre, post, rfl, rfl⟩ := u.split
  have D := R.news (d, o) (by simp)
  have nd := R.nd
  have e1 : cellsL f.cs cv ++ (pre ++ (d, o) :: post) = (cellsL f.cs cv ++ pre) ++ (d, o) :: post := by simp
  have e2 : cellsL f.cs cv ++ (pre ++ (d, o') :: post) = (cellsL f.cs cv ++ pre) ++ (d, o') :: post := by simp
  have N := R.news
  rw [e1] at nd N
  have hap : (∀ p ∈ cellsL f.cs cv ++ pre, p.1 ≠ d) ∧ ∀ p ∈ post, p.1 ≠ d := by
    simp only [List.map_append, List.map_cons, List.nodup_append, List.nodup_cons] at nd
    refine ⟨fun p hp e => ?_, fun p hp e => nd.2.1.1 (List.mem_map.mpr ⟨p, hp, e⟩)⟩
    exact nd.2.2 p.1 (by rw [← List.map_append]; exact List.mem_map.mpr ⟨p, hp, rfl⟩) d (.head _) e
  refine ⟨⟨R.fr.ns.sameBut hs (Ne.symm D.2.1), fun b ob e => (hs.2 b fun q => ?_).trans (R.fr.keep b ob e), R.fr.above⟩, ?_, ?_⟩
  · rw [q, D.2.2] at e; cases e
  · rw [e2]; exact N.setAt hap.1 hap.2 hs ho
  · rw [e2]
    have : ((cellsL f.cs cv ++ pre ++ (d, o') :: post).map (·.1)) = ((cellsL f.cs cv ++ pre ++ (d, o) :: post).map (·.1)) := by simp
    rw [this]; exact nd
theorem Rep.upd {h h' : Heap} {F : Led} {d : Addr} {o o' : Obj} {nw' : Led} (R : Rep f vs cv (nw ++ F) h) (u : Up d o o' nw nw') (hs : Heap.SameBut d h h') (ho : h'.get? d = some o') : Rep f vs cv (nw' ++ F) h' :=
  R.upd' (.left u) hs ho
end
end
end Mine
namespace Mine
section
open PySem PySem.W PySem.Calls PySem.Spec PyProof.Rows
section
variable {α β : Type} {X : Fx} {f : Fm} {A : Around} {vs cv : Vals} {nw : Led} {env : Env}

protected theorem Wp.go {t : Sem α} {P : α → Vals → Vals → Led → Prop} {F : Led} {hp : Heap} {tk : Nat} {K : α → Shared → Prop} (h : Wp X f A t vs cv nw P) (R : Rep f vs cv (nw ++ F) hp)
    (k : ∀ a vs' cv' nw' h' tk', Rep f vs' cv' (nw' ++ F) h' → P a vs' cv' nw' → K a { X.s with heap := h', toks := tk' }) :
    wpAny (model X.prog X.w) A t K (fun _ _ => False) { X.s with heap := hp, toks := tk } :=
  wpAny_mono (h F hp tk R) (fun a s' ⟨vs', cv', nw', h', tk', R', e, q⟩ => e ▸ k a vs' cv' nw' h' tk' R' q) fun _ _ x => x

protected theorem Wp.int {i : Int} {k pos} {Q : Value → Vals → Vals → Led → Prop} (h : ∀ t, Q (.int i t) vs cv nw) : Wp X f A (eval (.Constant (.int i) k pos) env) vs cv nw Q :=
  fun F hp tk R => wpAny_Constant_int ⟨_, _, _, _, _, R, rfl, h _⟩
protected theorem Wp.bool {b : Bool} {k pos} {Q : Value → Vals → Vals → Led → Prop} (h : Q (.bool b) vs cv nw) : Wp X f A (eval (.Constant (.bool b) k pos) env) vs cv nw Q :=
  fun F hp tk R => Constant_bool ⟨_, _, _, _, _, R, rfl, h⟩
protected theorem Wp.none {k pos} {Q : Value → Vals → Vals → Led → Prop} (h : Q .none vs cv nw) : Wp X f A (eval (.Constant .none k pos) env) vs cv nw Q :=
  fun F hp tk R => Constant_none ⟨_, _, _, _, _, R, rfl, h⟩

/-- the frame's local names: no name twice -/
structure Fm.Ok (f : Fm) (env : Env) : Prop where
  nd : f.ns.Nodup
  kind : env.scope.kind = .function
  loc : env.locals = f.L

protected theorem Wp.loc {x : Str} {i : Nat} {v : Value} {Q : Value → Vals → Vals → Led → Prop} (O : f.Ok env) (hi : f.ns[i]? = some x) (hl : env.kindOf x = some .local) (hv : vs[i]? = some (some v)) (h : Q v vs cv nw) :
    Wp X f A (loadName env x) vs cv nw Q :=
  fun F hp tk R => wpAny_loadName_local O.kind hl (O.loc ▸ R.fr.ns) (vmap_get O.nd hi hv) ⟨_, _, _, _, _, R, rfl, h⟩
protected theorem Wp.name {x : Str} {pos} {Q : Value → Vals → Vals → Led → Prop} (h : Wp X f A (loadName env x) vs cv nw Q) (hd : (x == ("__debug__" : Str)) = false := by decide) : Wp X f A (eval (.Name x pos) env) vs cv nw Q :=
  fun F hp tk R => wpAny_Name (h F hp tk R) hd
theorem cellsL_get : ∀ {cs : List (Addr × Obj)} {cv : Vals} {i : Nat} {c : Addr} {o : Obj} {v : Option Value}, cs[i]? = some (c, o) → cv[i]? = some v → (c, ({ o with data := .cell v } : Obj)) ∈ cellsL cs cv
  | [], _, _, _, _, _, h, _ => by simp at h
  | _ :: _, [], _, _, _, _, _, h => by simp at h
  | c :: cs, v :: cv, 0, _, _, _, h, h2 => by
    simp only [List.getElem?_cons_zero, Option.some.injEq] at h h2
    subst h h2
    exact .head _
  | c :: cs, v :: cv, i + 1, _, _, _, h, h2 => .tail _ (cellsL_get (by simpa using h) (by simpa using h2))
protected theorem Wp.cell {x : Str} {i : Nat} {c : Addr} {o : Obj} {v : Value} {Q : Value → Vals → Vals → Led → Prop} (O : f.Ok env) (hl : env.kindOf x = some .cell) (hc : env.cells.lookup x = some c) (hi : f.cs[i]? = some (c, o))
    (hv : cv[i]? = some (some v)) (h : Q v vs cv nw) : Wp X f A (loadName env x) vs cv nw Q :=
  fun F hp tk R => wpAny_loadName_cell O.kind hl hc ⟨_, (R.news _ (List.mem_append_left _ (cellsL_get hi hv))).1, rfl⟩ ⟨_, _, _, _, _, R, rfl, h⟩
protected theorem Wp.free {x : Str} {i : Nat} {c : Addr} {o : Obj} {v : Value} {Q : Value → Vals → Vals → Led → Prop} (O : f.Ok env) (hl : env.kindOf x = some .free) (hc : env.cells.lookup x = some c) (hi : f.cs[i]? = some (c, o))
    (hv : cv[i]? = some (some v)) (h : Q v vs cv nw) (hn : (x == ("__classdict__" : Str)) = false := by decide) : Wp X f A (loadName env x) vs cv nw Q :=
  fun F hp tk R => wpAny_loadName_free O.kind hl hc ⟨_, (R.news _ (List.mem_append_left _ (cellsL_get hi hv))).1, rfl⟩ ⟨_, _, _, _, _, R, rfl, h⟩ hn

theorem Rep.setLoc {F : Led} {h h' : Heap} {x : Str} {i : Nat} {v : Value} (R : Rep f vs cv (nw ++ F) h) (hnd : f.ns.Nodup) (hi : f.ns[i]? = some x) (hlt : i < vs.length) (hn : h'.Ns f.L fun y => if y = x then some v else vmap f.ns vs y)
    (hs : Heap.SameBut f.L h h') : Rep f (vs.set i (some v)) cv (nw ++ F) h' := by
  rw [vmap_set hnd hi hlt] at hn
  exact ⟨R.fr.set hn hs, R.news.set hs, R.nd⟩
protected theorem Wp.stLoc {x : Str} {i : Nat} {v : Value} {Q : Unit → Vals → Vals → Led → Prop} (O : f.Ok env) (hi : f.ns[i]? = some x) (hl : env.kindOf x = some .local) (hlt : i < vs.length) (h : Q () (vs.set i (some v)) cv nw) :
    Wp X f A (storeName env x v) vs cv nw Q := by
  intro F hp tk R
  refine wpAny_storeName_local hl (O.loc ▸ R.fr.ns) (fun h' hn hs => ⟨_, _, _, h', _, R.setLoc O.nd hi hlt (O.loc ▸ hn) (O.loc ▸ hs), rfl, h⟩) ?_
  rw [O.kind]; rfl
theorem cellsL_up : ∀ {cs : List (Addr × Obj)} {cv : Vals} {i : Nat} {c : Addr} {o : Obj} {v v' : Option Value}, cs[i]? = some (c, o) → cv[i]? = some v → Up c ({ o with data := .cell v } : Obj) ({ o with data := .cell v' } : Obj) (cellsL cs cv) (cellsL cs (cv.set i v'))
  | [], _, _, _, _, _, _, h, _ => by simp at h
  | _ :: _, [], _, _, _, _, _, _, h => by simp at h
  | c :: cs, v :: cv, 0, _, _, _, _, h, h2 => by
    simp only [List.getElem?_cons_zero, Option.some.injEq] at h h2
    subst h h2
    exact .head
  | c :: cs, v :: cv, i + 1, _, _, _, _, h, h2 => .tail (cellsL_up (by simpa using h) (by simpa using h2))
theorem Rep.setCell {F : Led} {h h' : Heap} {i : Nat} {c : Addr} {o : Obj} {v v' : Option Value} (R : Rep f vs cv (nw ++ F) h) (hi : f.cs[i]? = some (c, o)) (hv : cv[i]? = some v)
    (hs : Heap.SameBut c h h') (ho : h'.get? c = some { o with data := .cell v' }) : Rep f vs (cv.set i v') (nw ++ F) h' := by
  have key : ∀ {a b : Led}, Up c ({ o with data := .cell v } : Obj) ({ o with data := .cell v' } : Obj) a b → (∀ p ∈ a, h.get? p.1 = some p.2 ∧ p.1 ≠ f.L ∧ f.g.get? p.1 = none) → (a.map (·.1)).Nodup →
      (∀ p ∈ b, h'.get? p.1 = some p.2 ∧ p.1 ≠ f.L ∧ f.g.get? p.1 = none) ∧ (b.map (·.1)).Nodup := by
    intro a b u N nd
    obtain ⟨pre, post, rfl, rfl⟩ := u.split
    have hap : (∀ p ∈ pre, p.1 ≠ c) ∧ ∀ p ∈ post, p.1 ≠ c := by
      simp only [List.map_append, List.map_cons, List.nodup_append, List.nodup_cons] at nd
      refine ⟨fun p hp e => nd.2.2 p.1 (List.mem_map.mpr ⟨p, hp, rfl⟩) c (.head _) e, fun p hp e => nd.2.1.1 (List.mem_map.mpr ⟨p, hp, e⟩)⟩
    refine ⟨News.setAt (h₀ := f.g) (L := f.L) N hap.1 hap.2 hs ho, by simpa using nd⟩
  have u := cellsL_up (v' := v') hi hv
  obtain ⟨N', nd'⟩ := key (.left u) R.news R.nd
  have D := R.news _ (List.mem_append_left _ u.mem)
  refine ⟨⟨R.fr.ns.sameBut hs (Ne.symm D.2.1), fun b ob e => (hs.2 b fun q => ?_).trans (R.fr.keep b ob e), R.fr.above⟩, N', nd'⟩
  rw [q, D.2.2] at e; cases e
protected theorem Wp.stCell {x : Str} {i : Nat} {c : Addr} {o : Obj} {v : Value} {v₀ : Option Value} {Q : Unit → Vals → Vals → Led → Prop} (O : f.Ok env) (hl : env.kindOf x = some .cell) (hc : env.cells.lookup x = some c) (hi : f.cs[i]? = some (c, o))
    (hv : cv[i]? = some v₀) (h : Q () vs (cv.set i (some v)) nw) : Wp X f A (storeName env x v) vs cv nw Q := by
  intro F hp tk R
  have D := R.news _ (List.mem_append_left _ (cellsL_get hi hv))
  have e : storeName env x v = cellSet c (some v) := by
    have hk := O.kind
    unfold storeName
    simp only [hl, hk]
    unfold cellOf
    rw [hc]; rfl
  rw [e]
  unfold cellSet
  refine wpAny_bind (wpAny_load D.1 ?_)
  dsimp only
  refine wpAny_update D.1 ⟨_, _, _, _, _, R.setCell (v' := some v) hi hv (Heap.SameBut.update ..) (Heap.get?_update_self _ D.1 rfl), rfl, h⟩

protected theorem Wp.BinOp {l op r pos} {Q : Value → Vals → Vals → Led → Prop} (h : Wp X f A (eval l env) vs cv nw fun a vs cv nw => Wp X f A (eval r env) vs cv nw fun b vs cv nw => Wp X f A (binaryOp op a b) vs cv nw Q) :
    Wp X f A (eval (.BinOp l op r pos) env) vs cv nw Q :=
  fun F hp tk R => wpAny_BinOp (h.go R fun a _ _ _ _ _ R1 h1 => h1.go R1 fun b _ _ _ _ _ R2 h2 => h2 F _ _ R2)
protected theorem Wp.UnaryOp {op x pos} {Q : Value → Vals → Vals → Led → Prop} (h : Wp X f A (eval x env) vs cv nw fun a vs cv nw => Wp X f A (unaryOp op a) vs cv nw Q) : Wp X f A (eval (.UnaryOp op x pos) env) vs cv nw Q :=
  fun F hp tk R => UnaryOp_ (h.go R fun a _ _ _ _ _ R1 h1 => h1 F _ _ R1)
protected theorem Wp.Compare1 {l op r pos} {Q : Value → Vals → Vals → Led → Prop} (h : Wp X f A (eval l env) vs cv nw fun a vs cv nw => Wp X f A (eval r env) vs cv nw fun b vs cv nw => Wp X f A (compareOp op a b) vs cv nw Q)
    (hm : behindInMarks op r = false := by rfl) : Wp X f A (eval (.Compare l [op] [r] pos) env) vs cv nw Q :=
  fun F hp tk R => wpAny_Compare1 (h.go R fun a _ _ _ _ _ R1 h1 => h1.go R1 fun b _ _ _ _ _ R2 h2 => h2 F _ _ R2) hm
protected theorem Wp.isCompare1 {l op r pos whole} {Q : Bool → Vals → Vals → Led → Prop}
    (h : Wp X f A (eval l env) vs cv nw fun a vs cv nw => Wp X f A (eval r env) vs cv nw fun b vs cv nw => Wp X f A (compareOp op a b) vs cv nw fun c vs cv nw => ∃ b, c = .bool b ∧ Q b vs cv nw)
    (hm : behindInMarks op r = false := by rfl) : Wp X f A (isTrue (.Compare l [op] [r] pos) env whole) vs cv nw Q :=
  fun F hp tk R => wpAny_isTrue_Compare1 (h.go R fun a _ _ _ _ _ R1 h1 => h1.go R1 fun b _ _ _ _ _ R2 h2 => h2.go R2 fun c _ _ _ _ _ R3 ⟨b, e, q⟩ => by subst e; exact wpAny_truthy_bool ⟨_, _, _, _, _, R3, rfl, q⟩) hm
protected theorem Wp.isNot {x pos whole} {Q : Bool → Vals → Vals → Led → Prop} (h : Wp X f A (isTrue x env (eval x env)) vs cv nw fun b => Q (!b)) : Wp X f A (isTrue (.UnaryOp .Not x pos) env whole) vs cv nw Q :=
  fun F hp tk R => isTrue_not (h.go R fun a _ _ _ _ _ R1 h1 => ⟨_, _, _, _, _, R1, rfl, h1⟩)
protected theorem Wp.isOrNil {pos whole} {Q : Bool → Vals → Vals → Led → Prop} (h : Q false vs cv nw) : Wp X f A (isTrue (.BoolOp .Or [] pos) env whole) vs cv nw Q :=
  fun F hp tk R => isTrue_or_nil ⟨_, _, _, _, _, R, rfl, h⟩
protected theorem Wp.isOr {x rest pos whole} {Q : Bool → Vals → Vals → Led → Prop}
    (h : Wp X f A (isTrue x env (eval x env)) vs cv nw fun b vs cv nw => if b then Q true vs cv nw else Wp X f A (isTrue (.BoolOp .Or rest pos) env whole) vs cv nw Q) :
    Wp X f A (isTrue (.BoolOp .Or (x :: rest) pos) env whole) vs cv nw Q :=
  fun F hp tk R => isTrue_or (h.go R fun b _ _ _ _ _ R1 h1 => by
    cases b with
    | true => exact ⟨_, _, _, _, _, R1, rfl, h1⟩
    | false => exact h1 F _ _ R1)
protected theorem Wp.isAndNil {pos whole} {Q : Bool → Vals → Vals → Led → Prop} (h : Q true vs cv nw) : Wp X f A (isTrue (.BoolOp .And [] pos) env whole) vs cv nw Q :=
  fun F hp tk R => isTrue_and_nil ⟨_, _, _, _, _, R, rfl, h⟩
protected theorem Wp.isAnd {x rest pos whole} {Q : Bool → Vals → Vals → Led → Prop}
    (h : Wp X f A (isTrue x env (eval x env)) vs cv nw fun b vs cv nw => if b then Wp X f A (isTrue (.BoolOp .And rest pos) env whole) vs cv nw Q else Q false vs cv nw) :
    Wp X f A (isTrue (.BoolOp .And (x :: rest) pos) env whole) vs cv nw Q :=
  fun F hp tk R => isTrue_and (h.go R fun b _ _ _ _ _ R1 h1 => by
    cases b with
    | false => exact ⟨_, _, _, _, _, R1, rfl, h1⟩
    | true => exact h1 F _ _ R1)
protected theorem Wp.isPlain {e : Expr} {whole : Sem Value} {Q : Bool → Vals → Vals → Led → Prop} (h : Wp X f A whole vs cv nw fun v vs cv nw => Wp X f A (truthy v) vs cv nw Q)
    (he : isTrue e env whole = (do let v ← whole; standAt e.pos; PySem.holding [v] (truthy v)) := by rfl) : Wp X f A (isTrue e env whole) vs cv nw Q :=
  fun F hp tk R => isTrue_plain (h.go R fun a _ _ _ _ _ R1 h1 => h1 F _ _ R1) he
protected theorem Wp.truthyBool {b : Bool} {Q : Bool → Vals → Vals → Led → Prop} (h : Q b vs cv nw) : Wp X f A (truthy (.bool b)) vs cv nw Q :=
  fun F hp tk R => wpAny_truthy_bool ⟨_, _, _, _, _, R, rfl, h⟩
protected theorem Wp.IfExp {test body orelse pos} {Q : Value → Vals → Vals → Led → Prop}
    (h : Wp X f A (isTrue test env (eval test env)) vs cv nw fun b vs cv nw => if b then Wp X f A (eval body env) vs cv nw Q else Wp X f A (eval orelse env) vs cv nw Q) :
    Wp X f A (eval (.IfExp test body orelse pos) env) vs cv nw Q :=
  fun F hp tk R => IfExp_ (h.go R fun b _ _ _ _ _ R1 h1 => by cases b <;> exact h1 F _ _ R1)

protected theorem Wp.nil {Q : Flow → Vals → Vals → Led → Prop} (h : Q .next vs cv nw) : Wp X f A (execs [] env) vs cv nw Q :=
  fun F hp tk R => wpAny_execs_nil ⟨_, _, _, _, _, R, rfl, h⟩
protected theorem Wp.cons {st rest} {Q : Flow → Vals → Vals → Led → Prop}
    (h : Wp X f A (exec st env) vs cv nw fun fl vs cv nw => match fl with | .next => Wp X f A (execs rest env) vs cv nw Q | fl => Q fl vs cv nw) : Wp X f A (execs (st :: rest) env) vs cv nw Q :=
  fun F hp tk R => wpAny_execs_cons (h.go R fun fl _ _ _ _ _ R1 h1 => by
    cases fl with
    | next => exact h1 F _ _ R1
    | brk => exact ⟨_, _, _, _, _, R1, rfl, h1⟩
    | cont => exact ⟨_, _, _, _, _, R1, rfl, h1⟩
    | ret v => exact ⟨_, _, _, _, _, R1, rfl, h1⟩)
protected theorem Wp.Assign {x pos' value pos} {Q : Flow → Vals → Vals → Led → Prop} (h : Wp X f A (eval value env) vs cv nw fun v vs cv nw => Wp X f A (storeName env x v) vs cv nw fun _ => Q .next)
    (hs : swapsWith value (some (.Name x pos')) pos.line env = pure false := by rfl) : Wp X f A (exec (.Assign [.Name x pos'] value pos) env) vs cv nw Q :=
  fun F hp tk R => wpAny_Assign_Name (h.go R fun a _ _ _ _ _ R1 h1 => h1.go R1 fun _ _ _ _ _ _ R2 h2 => ⟨_, _, _, _, _, R2, rfl, h2⟩) hs
protected theorem Wp.AssignTup {elts k tpos value pos} {Q : Flow → Vals → Vals → Led → Prop} (h : Wp X f A (eval value env) vs cv nw fun v vs cv nw => Wp X f A (assign (.Tuple elts k tpos) env v) vs cv nw fun _ => Q .next)
    (hs : swapsWithSole [.Tuple elts k tpos] value pos.line env = pure false := by rfl)
    (hw : swappedStores [.Tuple elts k tpos] value env = pure none := by rfl) : Wp X f A (exec (.Assign [.Tuple elts k tpos] value pos) env) vs cv nw Q :=
  fun F hp tk R => Assign_Tuple (h.go R fun a _ _ _ _ _ R1 h1 => h1.go R1 fun _ _ _ _ _ _ R2 h2 => ⟨_, _, _, _, _, R2, rfl, h2⟩) hs hw
protected theorem Wp.AssignTupSw {elts k tpos value pos names} {Q : Flow → Vals → Vals → Led → Prop} (h : Wp X f A (eval value env) vs cv nw fun v vs cv nw => Wp X f A (unpackItems v names.length none) vs cv nw fun items vs cv nw =>
      Wp X f A (assignInOrder (names.reverse.map fun n => bindName env n) items.reverse) vs cv nw fun _ => Q .next)
    (hw : swappedStores [.Tuple elts k tpos] value env = pure (some names))
    (hs : swapsWithSole [.Tuple elts k tpos] value pos.line env = pure false := by rfl) : Wp X f A (exec (.Assign [.Tuple elts k tpos] value pos) env) vs cv nw Q :=
  fun F hp tk R => Assign_Tuple_swapped (h.go R fun a _ _ _ _ _ R1 h1 => h1.go R1 fun _ _ _ _ _ _ R2 h2 => h2.go R2 fun _ _ _ _ _ _ R3 h3 => ⟨_, _, _, _, _, R3, rfl, h3⟩) hs hw
protected theorem Wp.AugName {x pos' op value pos} {Q : Flow → Vals → Vals → Led → Prop} (h : Wp X f A (loadName env x) vs cv nw fun old vs cv nw => Wp X f A (eval value env) vs cv nw fun v vs cv nw => Wp X f A (inplaceOp op old v) vs cv nw fun r vs cv nw =>
      Wp X f A (storeName env x r) vs cv nw fun _ => Q .next) : Wp X f A (exec (.AugAssign (.Name x pos') op value pos) env) vs cv nw Q :=
  fun F hp tk R => wpAny_AugAssign_Name (h.go R fun _ _ _ _ _ _ R1 h1 => h1.go R1 fun _ _ _ _ _ _ R2 h2 => h2.go R2 fun _ _ _ _ _ _ R3 h3 => h3.go R3 fun _ _ _ _ _ _ R4 h4 => ⟨_, _, _, _, _, R4, rfl, h4⟩)
protected theorem Wp.AugSub {o i tpos op value pos} {Q : Flow → Vals → Vals → Led → Prop} (h : Wp X f A (eval o env) vs cv nw fun ov vs cv nw => Wp X f A (eval i env) vs cv nw fun iv vs cv nw => Wp X f A (getItem ov iv) vs cv nw fun old vs cv nw =>
      Wp X f A (eval value env) vs cv nw fun v vs cv nw => Wp X f A (inplaceOp op old v) vs cv nw fun r vs cv nw => Wp X f A (setItem ov iv r) vs cv nw fun _ => Q .next)
    (hi : ∀ ov iv new, augStore i ov iv new = (do PySem.holding [new, ov, iv] (setItem ov iv new); release [new, ov, iv] []; Pure.pure .next) := by intros; rfl) : Wp X f A (exec (.AugAssign (.Subscript o i tpos) op value pos) env) vs cv nw Q :=
  fun F hp tk R => wpAny_AugAssign_SubscriptAny (h.go R fun _ _ _ _ _ _ R1 h1 => h1.go R1 fun _ _ _ _ _ _ R2 h2 => h2.go R2 fun _ _ _ _ _ _ R3 h3 => h3.go R3 fun _ _ _ _ _ _ R4 h4 => h4.go R4 fun _ _ _ _ _ _ R5 h5 => h5.go R5 fun _ _ _ _ _ _ R6 h6 => ⟨_, _, _, _, _, R6, rfl, h6⟩) hi
protected theorem Wp.AugAttr {o attr tpos op value pos} {Q : Flow → Vals → Vals → Led → Prop} (h : Wp X f A (eval o env) vs cv nw fun ov vs cv nw => Wp X f A (getAttr ov attr true) vs cv nw fun old vs cv nw =>
      Wp X f A (eval value env) vs cv nw fun v vs cv nw => Wp X f A (inplaceOp op old v) vs cv nw fun r vs cv nw => Wp X f A (setAttr ov attr r) vs cv nw fun _ => Q .next) : Wp X f A (exec (.AugAssign (.Attribute o attr tpos) op value pos) env) vs cv nw Q :=
  fun F hp tk R => wpAny_AugAssign_AttributeAny (h.go R fun _ _ _ _ _ _ R1 h1 => h1.go R1 fun _ _ _ _ _ _ R2 h2 => h2.go R2 fun _ _ _ _ _ _ R3 h3 => h3.go R3 fun _ _ _ _ _ _ R4 h4 => h4.go R4 fun _ _ _ _ _ _ R5 h5 => ⟨_, _, _, _, _, R5, rfl, h5⟩)
protected theorem Wp.AssignSub {o i pos' value pos} {Q : Flow → Vals → Vals → Led → Prop} (h : Wp X f A (eval value env) vs cv nw fun v vs cv nw => Wp X f A (eval o env) vs cv nw fun ov vs cv nw => Wp X f A (eval i env) vs cv nw fun iv vs cv nw =>
      Wp X f A (setItem ov iv v) vs cv nw fun _ => Q .next) (hs : swapsWith value (some (.Subscript o i pos')) pos.line env = pure false := by rfl) : Wp X f A (exec (.Assign [.Subscript o i pos'] value pos) env) vs cv nw Q :=
  fun F hp tk R => wpAny_Assign_Subscript (h.go R fun _ _ _ _ _ _ R1 h1 => h1.go R1 fun _ _ _ _ _ _ R2 h2 => h2.go R2 fun _ _ _ _ _ _ R3 h3 => h3.go R3 fun _ _ _ _ _ _ R4 h4 => ⟨_, _, _, _, _, R4, rfl, h4⟩) hs
protected theorem Wp.AssignAttr {o attr pos' value pos} {Q : Flow → Vals → Vals → Led → Prop} (h : Wp X f A (eval value env) vs cv nw fun v vs cv nw => Wp X f A (eval o env) vs cv nw fun ov vs cv nw =>
      Wp X f A (setAttr ov attr v) vs cv nw fun _ => Q .next) (hs : swapsWith value (some (.Attribute o attr pos')) pos.line env = Pure.pure false := by rfl) : Wp X f A (exec (.Assign [.Attribute o attr pos'] value pos) env) vs cv nw Q :=
  fun F hp tk R => plainObj_wpAny_Assign_Attribute (h.go R fun _ _ _ _ _ _ R1 h1 => h1.go R1 fun _ _ _ _ _ _ R2 h2 => h2.go R2 fun _ _ _ _ _ _ R3 h3 => ⟨_, _, _, _, _, R3, rfl, h3⟩) hs
protected theorem Wp.ExprSt {e pos} {Q : Flow → Vals → Vals → Led → Prop} (h : Wp X f A (eval e env) vs cv nw fun v vs cv nw => (∀ a, v ≠ .ref a) ∧ Q .next vs cv nw)
    (hi : interactive env = false := by rfl) (hs : swapsWith e Option.none pos.line env = pure false := by rfl) : Wp X f A (exec (.Expr e pos) env) vs cv nw Q :=
  fun F hp tk R => wpAny_Expr (h.go R fun v _ _ _ _ _ R1 h1 => by
    cases v <;> first | exact ⟨_, _, _, _, _, R1, rfl, h1.2⟩ | exact (h1.1 _ rfl).elim) hi hs
protected theorem Wp.Return {e pos} {Q : Flow → Vals → Vals → Led → Prop} (h : Wp X f A (eval e env) vs cv nw fun v => Q (.ret v)) : Wp X f A (exec (.Return (some e) pos) env) vs cv nw Q :=
  fun F hp tk R => wpAny_Return_some (h F hp tk R)
protected theorem Wp.If {test body orelse pos} {Q : Flow → Vals → Vals → Led → Prop}
    (h : Wp X f A (isTrue test env (eval test env)) vs cv nw fun b vs cv nw => if b then Wp X f A (execs body env) vs cv nw Q else Wp X f A (execs orelse env) vs cv nw Q) :
    Wp X f A (exec (.If test body orelse pos) env) vs cv nw Q :=
  fun F hp tk R => wpAny_If (h.go R fun b _ _ _ _ _ R1 h1 => by cases b <;> exact h1 F _ _ R1)
protected theorem Wp.Break {pos} {Q : Flow → Vals → Vals → Led → Prop} (h : Q .brk vs cv nw) : Wp X f A (exec (.Break pos) env) vs cv nw Q :=
  fun F hp tk R => wpAny_Break ⟨_, _, _, _, _, R, rfl, h⟩
protected theorem Wp.bindName {x : Str} {v : Value} {Q : Unit → Vals → Vals → Led → Prop} (h : Wp X f A (storeName env x v) vs cv nw Q) : Wp X f A (PySem.bindName env x v) vs cv nw Q :=
  fun F hp tk R => wpAny_bindName (h F hp tk R)
protected theorem Wp.assignName {x : Str} {pos} {v : Value} {Q : Unit → Vals → Vals → Led → Prop} (h : Wp X f A (storeName env x v) vs cv nw Q) : Wp X f A (assign (.Name x pos) env v) vs cv nw Q :=
  fun F hp tk R => assign_Name (h F hp tk R)
protected theorem Wp.Sub {value slice pos} {Q : Value → Vals → Vals → Led → Prop} (h : Wp X f A (eval value env) vs cv nw fun o vs cv nw => Wp X f A (eval slice env) vs cv nw fun i vs cv nw => Wp X f A (subscriptTail value slice o i) vs cv nw Q) :
    Wp X f A (eval (.Subscript value slice pos) env) vs cv nw Q :=
  fun F hp tk R => Subscript_ (h.go R fun _ _ _ _ _ _ R1 h1 => h1.go R1 fun _ _ _ _ _ _ R2 h2 => h2 F _ _ R2)
end
end
end Mine
namespace Mine
section
open PySem PySem.W PySem.Calls PySem.Spec PyProof.Rows
abbrev lo (its : List Value) (n : Nat) : Obj := listOf its.toArray n
abbrev tu (its : List Value) : Obj := { cls := .type "tuple", data := .seq its.toArray }
/-- an object that stands: made in the call, or older -/
def Has (f : Fm) (nw : Led) (a : Addr) (o : Obj) : Prop := (a, o) ∈ nw ∨ f.g.get? a = some o
theorem Has.mem {f : Fm} {nw : Led} {a : Addr} {o : Obj} (h : (a, o) ∈ nw) : Has f nw a o := .inl h
theorem Has.old {f : Fm} {nw : Led} {a : Addr} {o : Obj} (h : f.g.get? a = some o) : Has f nw a o := .inr h
theorem Has.mono {f : Fm} {nw nw' : Led} {a : Addr} {o : Obj} (h : Has f nw a o) (s : ∀ p ∈ nw, p ∈ nw') : Has f nw' a o := h.imp (s _) id
/-- what the run's top left: the written part, the names -/
structure Bs (K : Frag) (p : Program) (loose : List Str) (mg mb : Str → Option Value) (g : Heap) : Prop where
  kin : K.In g
  top : TopRead p loose mg mb g
theorem Bs.keeps {K : Frag} {p : Program} {loose : List Str} {mg mb : Str → Option Value} {g g' : Heap} (B : Bs K p loose mg mb g) (h : ∀ b o, g.get? b = some o → g'.get? b = some o) : Bs K p loose mg mb g' :=
  ⟨B.kin.keeps h, B.top.keeps h⟩
structure Main (env : Env) : Prop where
  glob : env.globals = mainGlobals
  bns : env.builtins = builtinsNs
section
variable {α β : Type} {X : Fx} {f : Fm} {A : Around} {vs cv : Vals} {nw : Led} {env : Env} {K : Frag} {p : Program} {loose : List Str} {mg mb : Str → Option Value}
theorem Rep.has {F : Led} {h : Heap} {a : Addr} {o : Obj} (R : Rep f vs cv (nw ++ F) h) (H : Has f nw a o) : h.get? a = some o := H.elim R.get (R.fr.keep _ _)
theorem Has.list {F : Led} {h : Heap} {a : Addr} {its : List Value} {n : Nat} (H : Has f nw a (lo its n)) (R : Rep f vs cv (nw ++ F) h) : h.IsList a its.toArray := ⟨_, R.has H, rfl, n, rfl⟩
theorem Rep.kin {F : Led} {h : Heap} (R : Rep f vs cv (nw ++ F) h) (B : Bs K p loose mg mb f.g) : K.In h := B.kin.keeps R.fr.keep

protected theorem Wp.glob {x : Str} {pos} {v : Value} {Q : Value → Vals → Vals → Led → Prop} (O : f.Ok env) (M : Main env) (B : Bs K p loose mg mb f.g) (hx : env.kindOf x = some .globalImplicit) (e : nsIn K mainGlobals x = some (some v)) (h : Q v vs cv nw)
    (hd : (x == ("__debug__" : Str)) = false := by decide) : Wp X f A (eval (.Name x pos) env) vs cv nw Q :=
  fun F hp tk R => Name_function_global O.kind hx (loadGlobal_global (M.glob ▸ B.top.g.keeps R.fr.keep) (mg_of B.kin B.top.g e) ⟨_, _, _, _, _, R, rfl, h⟩) hd
protected theorem Wp.builtin {x : Str} {pos} {v : Value} {Q : Value → Vals → Vals → Led → Prop} (O : f.Ok env) (M : Main env) (B : Bs K p loose mg mb f.g) (hx : env.kindOf x = some .globalImplicit) (e : nsIn K mainGlobals x = some none) (hv : bootBuiltins x = some v) (h : Q v vs cv nw)
    (hn : x ≠ "__name__" := by decide) (hd : (x == ("__debug__" : Str)) = false := by decide) : Wp X f A (eval (.Name x pos) env) vs cv nw Q :=
  fun F hp tk R => Name_function_global O.kind hx (loadGlobal_builtin (M.glob ▸ B.top.g.keeps R.fr.keep) (mg_none_of B.kin B.top.g e) (M.bns ▸ B.top.b.keeps R.fr.keep) ((B.top.builtins x hn).trans hv) ⟨_, _, _, _, _, R, rfl, h⟩) hd

protected theorem Wp.args0 {pos} {Q : List Value → Vals → Vals → Led → Prop} (h : Q [] vs cv nw) : Wp X f A (spliced (backTo pos (starEach [] env))) vs cv nw Q :=
  fun F hp tk R => wpAny_pure ⟨_, _, _, _, _, R, rfl, h⟩
protected theorem Wp.argsCons {pos} {e : Expr} {rest : List Expr} {Q : List Value → Vals → Vals → Led → Prop} (h : Wp X f A (eval e env) vs cv nw fun v vs cv nw => Wp X f A (spliced (backTo pos (starEach rest env))) vs cv nw fun us => Q (v :: us))
    (he : starEach (e :: rest) env = (false, eval e env) :: starEach rest env := by rfl) : Wp X f A (spliced (backTo pos (starEach (e :: rest) env))) vs cv nw Q := by
  rw [he]
  exact fun F hp tk R => spliced_cons (h.go R fun v _ _ _ _ _ R1 h1 => h1.go R1 fun us _ _ _ _ _ R2 h2 => ⟨_, _, _, _, _, R2, rfl, h2⟩)

/-- what may be called without the operands being let go apart -/
def Keep (K : Frag) : Value → Prop
  | .builtin _ => True
  | .type _ => True
  | .ref a => keepIn K (.ref a) = true
  | _ => False
theorem Keep.looks {fv : Value} (k : Keep K fv) (h : Heap) (x : K.In h) : ∃ k, (k = Keeper.frame ∨ k = Keeper.machine ∨ k = Keeper.boundFrame) ∧ Looks (model X.prog X.w) h (keeperOf fv) k := by
  cases fv <;> first | exact k.elim | exact ⟨.machine, .inr (.inl rfl), Looks.of_pure rfl⟩ | exact keeps_K (M := model X.prog X.w) k h x
protected theorem Wp.callWith {pos} {fv : Value} {first : List Value} {es : List Expr} {Q : Value → Vals → Vals → Led → Prop} (B : Bs K p loose mg mb f.g) (k : Keep K fv)
    (h : Wp X f A (spliced (backTo pos (starEach es env))) vs cv nw fun us vs cv nw => Wp X f A (call fv (first ++ us)) vs cv nw Q)
    (he : starEach es env = es.map fun e => (false, eval e env) := by rfl) : Wp X f A (callWith pos fv first (backTo pos (starEach es env)) []) vs cv nw Q := by
  have hany : (backTo pos (starEach es env)).any (·.1) = false := by
    rw [he]; unfold backTo
    induction es with
    | nil => rfl
    | cons e r ih => simp
  intro F hp tk R
  refine callWith_of (P := K.In) (by rw [hany]; rfl) (Keep.looks (X := X) k) ?_
  have fin : wpAny (model X.prog X.w) A (spliced (backTo pos (starEach es env))) (fun us s₁ => K.In s₁.heap ∧ wpAny (model X.prog X.w) A (call fv (first ++ us) []) (fun a s' => ∃ vs' cv' nw' h' tk', Rep f vs' cv' (nw' ++ F) h' ∧ s' = { X.s with heap := h', toks := tk' } ∧ Q a vs' cv' nw') (fun _ _ => False) s₁) (fun _ _ => False) { X.s with heap := hp, toks := tk } :=
    h.go R fun us _ _ _ _ _ R1 h1 => ⟨R1.kin B, h1 F _ _ R1⟩
  cases es with
  | nil => exact evalArgs_nil3 (by
      have := fin
      exact ⟨R.kin B, by
        intro Γ p hΓ
        exact (this Γ p hΓ).2 Γ p hΓ⟩)
  | cons e r =>
    have e1 : backTo pos (starEach (e :: r) env) = (false, eval e env) :: backTo pos (r.map fun e => (false, eval e env)) := by rw [he]; rfl
    rw [e1] at fin ⊢
    exact evalArgs_plain fin
protected theorem Wp.Call {func : Expr} {es : List Expr} {pos} {Q : Value → Vals → Vals → Led → Prop} (h : Wp X f A (eval func env) vs cv nw fun fv vs cv nw => Wp X f A (callWith pos fv [] (backTo pos (starEach es env)) []) vs cv nw Q)
    (he : eval (.Call func es [] pos) env = (do callWith pos (← eval func env) [] (backTo pos (starEach es env)) []) := by rfl) : Wp X f A (eval (.Call func es [] pos) env) vs cv nw Q := by
  rw [he]; exact .bind h
protected theorem Wp.Meth {o : Expr} {name : Str} {apos pos : Pos} {es : List Expr} {pl : Sem Bool} {Q : Value → Vals → Vals → Led → Prop}
    (h : Wp X f A (eval o env) vs cv nw fun ov vs cv nw => Wp X f A (getMethod ov name pl) vs cv nw fun fx vs cv nw => Wp X f A (callWith pos fx.1 fx.2 (backTo pos (starEach es env)) []) vs cv nw Q)
    (he : eval (.Call (.Attribute o name apos) es [] pos) env = (do
      let ov ← eval o env
      PySem.standAt apos.atName
      let (f, first) ← PySem.holding [ov] (getMethod ov name pl)
      callWith pos f first (backTo pos (starEach es env)) []) := by rfl) : Wp X f A (eval (.Call (.Attribute o name apos) es [] pos) env) vs cv nw Q := by
  rw [he]
  exact .bind (h.mono fun ov vs cv nw h1 => .bind (.standAt (.bind (.holding (h1.mono fun fx vs cv nw h2 => h2)))))

-- ints
section
variable {a b : Int} {t u : Tok} {Q : Value → Vals → Vals → Led → Prop}
protected theorem Wp.add (h : ∀ t, Q (.int (a + b) t) vs cv nw) : Wp X f A (binaryOp .Add (.int a t) (.int b u)) vs cv nw Q := fun F hp tk R => PyProof.Rows.add_int ⟨_, _, _, _, _, R, rfl, h _⟩
protected theorem Wp.subt (h : ∀ t, Q (.int (a - b) t) vs cv nw) : Wp X f A (binaryOp .Sub (.int a t) (.int b u)) vs cv nw Q := fun F hp tk R => PyProof.Rows.sub_int ⟨_, _, _, _, _, R, rfl, h _⟩
protected theorem Wp.mul (hm : IntMulOk a b) (h : ∀ t, Q (.int (a * b) t) vs cv nw) : Wp X f A (binaryOp .Mult (.int a t) (.int b u)) vs cv nw Q := fun F hp tk R => PyProof.Rows.mul_int ⟨_, _, _, _, _, R, rfl, h _⟩ hm
protected theorem Wp.fdiv (hb : b ≠ 0) (hs : b.natAbs < 1073741824) (h : ∀ t, Q (.int (a.fdiv b) t) vs cv nw) : Wp X f A (binaryOp .FloorDiv (.int a t) (.int b u)) vs cv nw Q := fun F hp tk R => PyProof.Rows.floordiv_int hb ⟨_, _, _, _, _, R, rfl, h _⟩ (Or.inl (PyProof.noPylong_small hs))
protected theorem Wp.fmod (hb : b ≠ 0) (h : ∀ t, Q (.int (a.fmod b) t) vs cv nw) : Wp X f A (binaryOp .Mod (.int a t) (.int b u)) vs cv nw Q := fun F hp tk R => PyProof.Rows.mod_int' hb ⟨_, _, _, _, _, R, rfl, h _⟩
protected theorem Wp.xor (h : ∀ t, Q (.int (Builtin.bitXor a b) t) vs cv nw) : Wp X f A (binaryOp .BitXor (.int a t) (.int b u)) vs cv nw Q := fun F hp tk R => PyProof.Rows.xor_int ⟨_, _, _, _, _, R, rfl, h _⟩
protected theorem Wp.and (h : ∀ t, Q (.int (Builtin.bitAnd a b) t) vs cv nw) : Wp X f A (binaryOp .BitAnd (.int a t) (.int b u)) vs cv nw Q := fun F hp tk R => PyProof.Rows.and_int ⟨_, _, _, _, _, R, rfl, h _⟩
protected theorem Wp.shr (hn : 0 ≤ b) (h : ∀ t, Q (.int (a.fdiv (2 ^ b.toNat)) t) vs cv nw) : Wp X f A (binaryOp .RShift (.int a t) (.int b u)) vs cv nw Q := fun F hp tk R => PyProof.Rows.rshift_int hn ⟨_, _, _, _, _, R, rfl, h _⟩
protected theorem Wp.pow (hn : 0 ≤ b) (hs : (Builtin.Int.intBits a : Int) * b ≤ 2 ^ 27) (h : ∀ t, Q (.int (a ^ b.toNat) t) vs cv nw) : Wp X f A (binaryOp .Pow (.int a t) (.int b u)) vs cv nw Q := fun F hp tk R => PyProof.Rows.pow_int hn hs ⟨_, _, _, _, _, R, rfl, h _⟩
protected theorem Wp.iadd (h : ∀ t, Q (.int (a + b) t) vs cv nw) : Wp X f A (inplaceOp .Add (.int a t) (.int b u)) vs cv nw Q := fun F hp tk R => PyProof.Rows.iadd_int ⟨_, _, _, _, _, R, rfl, h _⟩
protected theorem Wp.ior (h : ∀ t, Q (.int (Builtin.bitOr a b) t) vs cv nw) : Wp X f A (inplaceOp .BitOr (.int a t) (.int b u)) vs cv nw Q := fun F hp tk R => PyProof.Rows.ior_int ⟨_, _, _, _, _, R, rfl, h _⟩
protected theorem Wp.ixor (h : ∀ t, Q (.int (Builtin.bitXor a b) t) vs cv nw) : Wp X f A (inplaceOp .BitXor (.int a t) (.int b u)) vs cv nw Q := fun F hp tk R => PyProof.Rows.ixor_int ⟨_, _, _, _, _, R, rfl, h _⟩
protected theorem Wp.neg (h : ∀ t, Q (.int (-a) t) vs cv nw) : Wp X f A (unaryOp .USub (.int a t)) vs cv nw Q := fun F hp tk R => PyProof.Rows.neg_int ⟨_, _, _, _, _, R, rfl, h _⟩
protected theorem Wp.lt (h : Q (.bool (decide (a < b))) vs cv nw) : Wp X f A (compareOp .Lt (.int a t) (.int b u)) vs cv nw Q := fun F hp tk R => PyProof.Rows.lt_int ⟨_, _, _, _, _, R, rfl, h⟩
protected theorem Wp.le (h : Q (.bool (decide (a ≤ b))) vs cv nw) : Wp X f A (compareOp .LtE (.int a t) (.int b u)) vs cv nw Q := fun F hp tk R => PyProof.Rows.le_int ⟨_, _, _, _, _, R, rfl, h⟩
protected theorem Wp.gt (h : Q (.bool (decide (b < a))) vs cv nw) : Wp X f A (compareOp .Gt (.int a t) (.int b u)) vs cv nw Q := fun F hp tk R => PyProof.Rows.gt_int ⟨_, _, _, _, _, R, rfl, h⟩
protected theorem Wp.ge (h : Q (.bool (decide (b ≤ a))) vs cv nw) : Wp X f A (compareOp .GtE (.int a t) (.int b u)) vs cv nw Q := fun F hp tk R => PyProof.Rows.ge_int ⟨_, _, _, _, _, R, rfl, h⟩
protected theorem Wp.eq (h : Q (.bool (a == b)) vs cv nw) : Wp X f A (compareOp .Eq (.int a t) (.int b u)) vs cv nw Q := fun F hp tk R => PyProof.Rows.eq_int ⟨_, _, _, _, _, R, rfl, h⟩
protected theorem Wp.ne (h : Q (.bool (a != b)) vs cv nw) : Wp X f A (compareOp .NotEq (.int a t) (.int b u)) vs cv nw Q := fun F hp tk R => PyProof.Rows.ne_int ⟨_, _, _, _, _, R, rfl, h⟩
end
-- lists
section
variable {l : Addr} {its : List Value} {n : Nat} {k : Int} {t : Tok}
theorem fits_line {m : Nat} (h : m ≤ 2 ^ 20) : m ≤ sizeLine := Nat.le_trans h (by decide)
protected theorem Wp.newList {us : List Value} {Q : Value → Vals → Vals → Led → Prop} (h : ∀ l, Q (.ref l) vs cv ((l, lo us 0) :: nw)) (hz : us.length ≤ 2 ^ 20) : Wp X f A (newList us) vs cv nw Q :=
  fun F hp tk R => wpAny_newObj_type ⟨_, _, _, _, _, R.push _, rfl, h _⟩ (by show us.toArray.size ≤ sizeLine; rw [List.size_toArray]; exact fits_line hz)
protected theorem Wp.newTuple {us : List Value} {Q : Value → Vals → Vals → Led → Prop} (h : ∀ l, Q (.ref l) vs cv ((l, tu us) :: nw)) (hz : us.length ≤ 2 ^ 20) : Wp X f A (newTuple us) vs cv nw Q :=
  fun F hp tk R => wpAny_newObj_type ⟨_, _, _, _, _, R.push _, rfl, h _⟩ (by show us.toArray.size ≤ sizeLine; rw [List.size_toArray]; exact fits_line hz)
protected theorem Wp.ListE {es pos} {Q : Value → Vals → Vals → Led → Prop} (h : Wp X f A (spliced (backTo pos (starEach es env))) vs cv nw fun us vs cv nw => Wp X f A (PySem.newList us) vs cv nw Q) : Wp X f A (eval (.List es pos) env) vs cv nw Q :=
  fun F hp tk R => List_ (h.go R fun _ _ _ _ _ _ R1 h1 => h1 F _ _ R1)
protected theorem Wp.TupleE {es k pos} {Q : Value → Vals → Vals → Led → Prop} (h : Wp X f A (spliced (backTo pos (starEach es env))) vs cv nw fun us vs cv nw => Wp X f A (PySem.newTuple us) vs cv nw Q) : Wp X f A (eval (.Tuple es k pos) env) vs cv nw Q :=
  fun F hp tk R => Tuple_ (h.go R fun _ _ _ _ _ _ R1 h1 => h1 F _ _ R1)
protected theorem Wp.len {Q : Value → Vals → Vals → Led → Prop} (H : Has f nw l (lo its n)) (hz : its.length ≤ 2 ^ 20) (h : ∀ t, Q (.int its.length t) vs cv nw) : Wp X f A (call (.builtin "len") [.ref l]) vs cv nw Q :=
  fun F hp tk R => len_list (H.list R) (by rw [List.size_toArray]; omega) ⟨_, _, _, _, _, R, rfl, by rw [List.size_toArray]; exact h _⟩
protected theorem Wp.getI {x : Value} {Q : Value → Vals → Vals → Led → Prop} (H : Has f nw l (lo its n)) (h0 : 0 ≤ k) (hk : k < 2 ^ 63) (hx : its[k.toNat]? = some x) (h : Q x vs cv nw) : Wp X f A (getItem (.ref l) (.int k t)) vs cv nw Q :=
  fun F hp tk R => wpAny_getItem_list (H.list R) h0 hk (by simpa using hx) ⟨_, _, _, _, _, R, rfl, h⟩
protected theorem Wp.getINeg {x : Value} {Q : Value → Vals → Vals → Led → Prop} (H : Has f nw l (lo its n)) (h0 : k < 0) (hk : -(2 ^ 63) ≤ k) (hn : -(its.length : Int) ≤ k) (hx : its[(k + its.length).toNat]? = some x) (h : Q x vs cv nw) : Wp X f A (getItem (.ref l) (.int k t)) vs cv nw Q :=
  fun F hp tk R => wpAny_getItem_list_neg (H.list R) h0 (by simpa using hn) hk (by simpa using hx) ⟨_, _, _, _, _, R, rfl, h⟩
protected theorem Wp.tailL {value slice : Expr} {Q : Value → Vals → Vals → Led → Prop} (H : Has f nw l (lo its n)) (h : Wp X f A (getItem (.ref l) (.int k t)) vs cv nw Q)
    (hs : subscripted slice false (.ref l) (.int k t) = operate [.ref l, .int k t] (getItem (.ref l) (.int k t)) := by rfl) : Wp X f A (subscriptTail value slice (.ref l) (.int k t)) vs cv nw Q :=
  fun F hp tk R => tail_any (H.list R).typeIs slot_list_getitem.lookup (h F _ _ R) hs
protected theorem Wp.setI {v : Value} {nw' : Led} {Q : Unit → Vals → Vals → Led → Prop} (u : Up l (lo its n) (lo (its.set k.toNat v) n) nw nw') (h0 : 0 ≤ k) (hk : k < 2 ^ 63) (hn : k < its.length) (h : Q () vs cv nw') : Wp X f A (setItem (.ref l) (.int k t) v) vs cv nw Q := by
  intro F hp tk R
  have ho := R.get u.mem
  refine ki_setAt ho h0 hk (by simpa using hn) ⟨_, _, _, _, _, R.upd u (Heap.SameBut.update ..) ?_, rfl, h⟩
  have q := PySem.IsL.update (items := its.toArray) (n := n) ho (·.setIfInBounds k.toNat v)
  have e : its.toArray.setIfInBounds k.toNat v = (its.set k.toNat v).toArray := by apply Array.toList_inj.mp; simp
  rw [e] at q
  simpa using q
protected theorem Wp.append {v : Value} {nw' : Led} {Q : Value → Vals → Vals → Led → Prop} (u : Up l (lo its n) (lo (its ++ [v]) (n + 1)) nw nw') (hz : its.length ≤ 2 ^ 20) (h : Q .none vs cv nw') : Wp X f A (call (.builtin "list.append") [.ref l, v]) vs cv nw Q := by
  intro F hp tk R
  exact append_at (n := n) (its := its.toArray) (hsz := by rw [List.size_toArray]; exact fits_line hz) (R.get u.mem) fun h' hs ho => ⟨_, _, _, _, _, R.upd u hs (by simpa using ho), rfl, h⟩
protected theorem Wp.mAppend {Q : Value × List Value → Vals → Vals → Led → Prop} {pl : Sem Bool} (H : Has f nw l (lo its n)) (h : Q (.builtin "list.append", [.ref l]) vs cv nw) : Wp X f A (getMethod (.ref l) "append" pl) vs cv nw Q :=
  fun F hp tk R => getMethod_list_append (R.has H) rfl rfl ⟨_, _, _, _, _, R, rfl, h⟩
protected theorem Wp.concat {b : Addr} {its2 : List Value} {n2 : Nat} {Q : Value → Vals → Vals → Led → Prop} (H : Has f nw l (lo its n)) (H2 : Has f nw b (lo its2 n2)) (hz : its.length + its2.length ≤ 2 ^ 20) (h : ∀ r, Q (.ref r) vs cv ((r, lo (its ++ its2) 0) :: nw)) :
    Wp X f A (binaryOp .Add (.ref l) (.ref b)) vs cv nw Q :=
  fun F hp tk R => PySem.P.add_list (R.has H) (R.has H2) ⟨_, _, _, _, _, (by simpa using R.push (lo (its ++ its2) 0)), rfl, h _⟩ (by simpa using fits_line hz)
end
end
end
end Mine
namespace Mine
section
open PySem PySem.W PySem.Calls PySem.Spec PyProof.Rows
section
variable {α β : Type} {X : Fx} {f : Fm} {A : Around} {vs cv : Vals} {nw : Led} {env : Env} {K : Frag} {p : Program} {loose : List Str} {mg mb : Str → Option Value}

theorem Rep.perm {n n' : Led} {h : Heap} (R : Rep f vs cv n h) (e : n'.Perm n) : Rep f vs cv n' h :=
  ⟨R.fr, fun p hp => R.news p (List.mem_append.mpr ((List.mem_append.mp hp).imp id fun q => (e.mem_iff).mp q)), by
    have : ((cellsL f.cs cv ++ n').map (·.1)).Perm ((cellsL f.cs cv ++ n).map (·.1)) := (e.append_left _).map _
    exact this.nodup_iff.mpr R.nd⟩
/-- many objects at once: those named turn, new ones come -/
theorem Rep.change {e e' x n : Led} {h h' : Heap} (R : Rep f vs cv (e ++ n) h) (hadr : e'.map (·.1) = e.map (·.1))
    (hk : ∀ b o, b ∉ e.map (·.1) → h.get? b = some o → h'.get? b = some o) (he' : ∀ p ∈ e', h'.get? p.1 = some p.2) (hx : ∀ p ∈ x, h'.get? p.1 = some p.2 ∧ h.get? p.1 = none) (hxn : (x.map (·.1)).Nodup) :
    Rep f vs cv (x ++ (e' ++ n)) h' := by
  have inE : ∀ p ∈ e, h.get? p.1 = some p.2 ∧ p.1 ≠ f.L ∧ f.g.get? p.1 = none := fun p hp => R.news p (List.mem_append_right _ (List.mem_append_left _ hp))
  have adr : ∀ b ∈ e.map (·.1), b ≠ f.L ∧ f.g.get? b = none ∧ (∃ o, h.get? b = some o) := fun b hb => by
    obtain ⟨p, hp, rfl⟩ := List.mem_map.mp hb
    exact ⟨(inE p hp).2.1, (inE p hp).2.2, _, (inE p hp).1⟩
  have gk : ∀ b o, f.g.get? b = some o → h'.get? b = some o := fun b o q => hk b o (fun m => by rw [(adr b m).2.1] at q; cases q) (R.fr.keep b o q)
  obtain ⟨oL, es, ep, hL, r⟩ := R.fr.ns
  have hL' := hk f.L oL (fun m => (adr _ m).1 rfl) hL
  have nd := R.nd
  have ndn : ∀ p ∈ cellsL f.cs cv ++ n, p.1 ∉ e.map (·.1) := by
    intro p hp hm
    simp only [List.map_append, List.nodup_append] at nd
    rcases List.mem_append.mp hp with h1 | h1
    · exact nd.2.2 p.1 (List.mem_map.mpr ⟨p, h1, rfl⟩) p.1 (List.mem_append_left _ hm) rfl
    · exact nd.2.1.2.2 p.1 hm p.1 (List.mem_map.mpr ⟨p, h1, rfl⟩) rfl
  refine ⟨⟨⟨oL, es, ep, hL', r⟩, gk, R.fr.above⟩, fun p hp => ?_, ?_⟩
  · have old : ∀ p ∈ cellsL f.cs cv ++ n, h'.get? p.1 = some p.2 ∧ p.1 ≠ f.L ∧ f.g.get? p.1 = none := fun p hp => by
      have := R.news p (by rcases List.mem_append.mp hp with h1 | h1; exact List.mem_append_left _ h1; exact List.mem_append_right _ (List.mem_append_right _ h1))
      exact ⟨hk _ _ (ndn p hp) this.1, this.2⟩
    rcases List.mem_append.mp hp with h1 | h1
    · exact old p (List.mem_append_left _ h1)
    · rcases List.mem_append.mp h1 with h1 | h1
      · refine ⟨(hx p h1).1, fun q => ?_, ?_⟩
        · have := (hx p h1).2; rw [q, hL] at this; cases this
        · cases q : f.g.get? p.1 with
          | none => rfl
          | some o => have := (hx p h1).2; rw [R.fr.keep _ _ q] at this; cases this
      · rcases List.mem_append.mp h1 with h1 | h1
        · have hm : p.1 ∈ e.map (·.1) := hadr ▸ List.mem_map.mpr ⟨p, h1, rfl⟩
          exact ⟨he' p h1, (adr _ hm).1, (adr _ hm).2.1⟩
        · exact old p (List.mem_append_right _ h1)
  · have inOld : ∀ b ∈ (cellsL f.cs cv ++ (e ++ n)).map (·.1), ∃ o, h.get? b = some o := fun b hb => by
      obtain ⟨p, hp, rfl⟩ := List.mem_map.mp hb
      exact ⟨_, (R.news p hp).1⟩
    have e1 : (x ++ (e' ++ n)).map (·.1) = x.map (·.1) ++ (e ++ n).map (·.1) := by simp only [List.map_append, hadr]
    rw [List.map_append, e1]
    rw [List.map_append] at nd inOld
    rw [List.nodup_append] at nd ⊢
    have fresh : ∀ a ∈ x.map (·.1), ∀ o, h.get? a ≠ some o := fun a ha o q => by
      obtain ⟨p, hp, rfl⟩ := List.mem_map.mp ha
      rw [(hx p hp).2] at q; cases q
    refine ⟨nd.1, List.nodup_append.mpr ⟨hxn, nd.2.1, fun a ha b hb q => ?_⟩, fun a ha b hb q => ?_⟩
    · obtain ⟨o, ho⟩ := inOld b (List.mem_append_right _ hb)
      exact fresh a ha o (q ▸ ho)
    · rcases List.mem_append.mp hb with h1 | h1
      · obtain ⟨o, ho⟩ := inOld a (List.mem_append_left _ ha)
        exact fresh b h1 o (q ▸ ho)
      · exact nd.2.2 a ha b h1 q
theorem Rep.drops {e n : Led} {h h' : Heap} (R : Rep f vs cv (e ++ n) h) (hk : ∀ b o, b ∉ e.map (·.1) → h.get? b = some o → h'.get? b = some o) : Rep f vs cv n h' := by
  have adr : ∀ b ∈ e.map (·.1), b ≠ f.L ∧ f.g.get? b = none := fun b hb => by
    obtain ⟨p, hp, rfl⟩ := List.mem_map.mp hb
    exact (R.news p (List.mem_append_right _ (List.mem_append_left _ hp))).2
  have gk : ∀ b o, f.g.get? b = some o → h'.get? b = some o := fun b o q => hk b o (fun m => by rw [(adr b m).2] at q; cases q) (R.fr.keep b o q)
  obtain ⟨oL, es, ep, hL, r⟩ := R.fr.ns
  have nd := R.nd
  simp only [List.map_append, List.nodup_append] at nd
  have ndn : ∀ p ∈ cellsL f.cs cv ++ n, p.1 ∉ e.map (·.1) := by
    intro p hp hm
    rcases List.mem_append.mp hp with h1 | h1
    · exact nd.2.2 p.1 (List.mem_map.mpr ⟨p, h1, rfl⟩) p.1 (List.mem_append_left _ hm) rfl
    · exact nd.2.1.2.2 p.1 hm p.1 (List.mem_map.mpr ⟨p, h1, rfl⟩) rfl
  refine ⟨⟨⟨oL, es, ep, hk f.L oL (fun m => (adr _ m).1 rfl) hL, r⟩, gk, R.fr.above⟩, fun p hp => ?_, ?_⟩
  · have := R.news p (by rcases List.mem_append.mp hp with h1 | h1; exact List.mem_append_left _ h1; exact List.mem_append_right _ (List.mem_append_right _ h1))
    exact ⟨hk _ _ (ndn p hp) this.1, this.2⟩
  · rw [List.map_append, List.nodup_append]
    exact ⟨nd.1, nd.2.1.2.1, fun a ha b hb => nd.2.2 a ha b (List.mem_append_right _ hb)⟩
theorem Rep.grown {x n : Led} {h h' : Heap} (R : Rep f vs cv n h) (hk : ∀ b o, h.get? b = some o → h'.get? b = some o) (hx : ∀ p ∈ x, h'.get? p.1 = some p.2 ∧ h.get? p.1 = none) (hxn : (x.map (·.1)).Nodup) : Rep f vs cv (x ++ n) h' :=
  Rep.change (e := []) (e' := []) R rfl (fun b o _ => hk b o) (fun _ h => nomatch h) hx hxn
theorem Rep.same {n : Led} {h h' : Heap} (R : Rep f vs cv n h) (hk : ∀ b o, h.get? b = some o → h'.get? b = some o) : Rep f vs cv n h' := R.grown (x := []) hk (fun _ h => nomatch h) List.nodup_nil

/-- entering a frame whose local names stand in a new dict; leaving it -/
theorem Rep.enter {n : Led} {h h₁ : Heap} {L' : Addr} {ns : List Str} {vs' : Vals} (R : Rep f vs cv n h) (hL : L' = h.objs.size) (hns : h₁.Ns L' (vmap ns vs')) (hk : ∀ b o, h.get? b = some o → h₁.get? b = some o) :
    ∃ g', (∀ b o, f.g.get? b = some o → g'.get? b = some o) ∧ (∀ b o, g'.get? b = some o → h.get? b = some o) ∧ (∀ b o, h.get? b = some o → b ∉ (cellsL f.cs cv ++ n).map (·.1) → g'.get? b = some o) ∧
      Rep ⟨g', L', ns, []⟩ vs' [] (n ++ cellsL f.cs cv) h₁ := by
  subst hL
  refine ⟨hideAll h ((cellsL f.cs cv ++ n).map (·.1)), fun b o q => ?_, fun b o q => of_hideAll _ q, fun b o q m => hideAll_get _ q m, ⟨⟨hns, fun b o q => hk b o (of_hideAll _ q), Nat.le_of_eq (hideAll_size _ _)⟩, fun p hp => ?_, ?_⟩⟩
  · refine hideAll_get _ (R.fr.keep b o q) fun m => ?_
    obtain ⟨p, hp, e⟩ := List.mem_map.mp m
    have := (R.news p hp).2.2
    rw [e, q] at this; cases this
  · have hp' : p ∈ cellsL f.cs cv ++ n := by
      have : p ∈ n ++ cellsL f.cs cv := by simpa [cellsL] using hp
      rcases List.mem_append.mp this with h1 | h1
      · exact List.mem_append_right _ h1
      · exact List.mem_append_left _ h1
    exact ⟨hk _ _ (R.news p hp').1, Nat.ne_of_lt (Heap.lt_size (R.news p hp').1), hideAll_none _ (List.mem_map_of_mem hp')⟩
  · have : ((cellsL ([] : List (Addr × Obj)) [] ++ (n ++ cellsL f.cs cv)).map (·.1)).Perm ((cellsL f.cs cv ++ n).map (·.1)) := by
      show ((n ++ cellsL f.cs cv).map (·.1)).Perm _
      exact (List.perm_append_comm).map _
    exact this.nodup_iff.mpr R.nd
theorem Rep.leave {n n' : Led} {h h₁ : Heap} {g' : Heap} {L' : Addr} {ns : List Str} {vs' cv' : Vals} {cs' : List (Addr × Obj)} (R : Rep f vs cv n h)
    (kept : ∀ b o, h.get? b = some o → b ∉ (cellsL f.cs cv ++ n).map (·.1) → g'.get? b = some o) (R' : Rep ⟨g', L', ns, cs'⟩ vs' cv' (n' ++ cellsL f.cs cv) h₁) : Rep f vs cv n' h₁ := by
  obtain ⟨oL, es, ep, hL, r⟩ := R.fr.ns
  have nL : f.L ∉ (cellsL f.cs cv ++ n).map (·.1) := fun m => by
    obtain ⟨p, hp, e⟩ := List.mem_map.mp m
    exact (R.news p hp).2.1 e
  have gL := kept _ _ hL nL
  have gg : ∀ b o, f.g.get? b = some o → g'.get? b = some o := fun b o q => kept b o (R.fr.keep b o q) fun m => by
    obtain ⟨p, hp, e⟩ := List.mem_map.mp m
    have := (R.news p hp).2.2
    rw [e, q] at this; cases this
  have nd := R'.nd
  refine ⟨⟨⟨oL, es, ep, R'.fr.keep _ _ gL, r⟩, fun b o q => R'.fr.keep b o (gg b o q), R.fr.above⟩, fun p hp => ?_, ?_⟩
  · have hp' : p ∈ cellsL cs' cv' ++ (n' ++ cellsL f.cs cv) := by
      rcases List.mem_append.mp hp with h1 | h1
      · exact List.mem_append_right _ (List.mem_append_right _ h1)
      · exact List.mem_append_right _ (List.mem_append_left _ h1)
    have N := R'.news p hp'
    refine ⟨N.1, fun q => ?_, ?_⟩
    · have := N.2.2; rw [q, gL] at this; cases this
    · cases q : f.g.get? p.1 with
      | none => rfl
      | some o => have := N.2.2; rw [gg _ _ q] at this; cases this
  · rw [List.map_append, List.nodup_append] at nd
    have : ((cellsL f.cs cv ++ n').map (·.1)).Perm ((n' ++ cellsL f.cs cv).map (·.1)) := (List.perm_append_comm).map _
    exact this.nodup_iff.mpr nd.2.1

abbrev retOf : Flow → Value
  | .ret v => v
  | _ => .none
/-- a call of a def of the text without cells -/
protected theorem Wp.callDef {name qual : Str} {params : Arguments} {body : List Stmt} {scope : Scope} {dV kV doc pm cdv ct oc : Value} {an od : Option Addr} {osl : Array (Option Value)} {fa : Addr} {args : List Value} {xs rest : List Str}
    {Q : Value → Vals → Vals → Led → Prop} (B : Bs K p loose mg mb f.g) (hroom : A.depth < recursionLimit)
    (ho : K.lookup fa = some ⟨oc, od, .func (fnOf name qual params body scope dV kV doc pm an cdv ct), osl⟩) (hcd : codeIn K cdv qual = true)
    (hbind : bindArgs (fnOf name qual params body scope dV kV doc pm an cdv ct) ⟨args, []⟩ = pure (xs.zip args)) (hlen : xs.length = args.length) (hnd : (xs ++ rest).Nodup)
    (hloc : (xs.all fun x => decide (scope.names.lookup x = some .local)) = true) (hcell : (scope.names.all fun x => x.2 != .cell) = true)
    (h : ∀ g' L', (∀ b o, f.g.get? b = some o → g'.get? b = some o) → Bs K p loose mg mb g' →
      Wp X ⟨g', L', xs ++ rest, []⟩ (A.deeper (envOf qual scope L' fa cdv)) (execs body (envOf qual scope L' fa cdv)) (args.map some ++ rest.map fun _ => none) [] nw fun fl _ _ nw' => Q (retOf fl) vs cv nw')
    (hco : scope.isCoroutine = false := by rfl) (hgen : scope.isGenerator = false := by rfl) (hk : scope.kind = .function := by rfl) :
    Wp X f A (call (.ref fa) args) vs cv nw Q := by
  intro F hp tk R
  have hin := R.kin B
  refine wpAny_call (codeAny_call_def (fd := fnOf name qual params body scope dV kV doc pm an cdv ct) (body := body) (binds := xs.zip args) hroom (hin _ _ ho) rfl (B.top.nolimit.keeps R.fr.keep) (codeRec_of hin hcd) rfl (BindsTo.of_eq hbind)
    (fun x hx => by simpa using List.all_eq_true.mp hcell x hx) (fun y hy => by simpa using List.all_eq_true.mp hloc y.1 (List.of_mem_zip hy).1) (fun h₁ hns hk₁ => ?_) hco hgen hk)
  have e := vmap_binds (rest := rest) hnd hlen
  obtain ⟨g', g1, g2, g3, R'⟩ := R.enter rfl (e ▸ hns) hk₁
  rw [List.append_assoc] at R'
  refine wpAny_mono (h g' _ g1 (B.keeps g1) (F ++ cellsL f.cs cv) h₁ _ R') (fun fl s' ⟨vs', cv', nw', h', tk', R'', q, hq⟩ => ?_) fun _ _ x => x.elim
  subst q
  rw [← List.append_assoc] at R''
  exact ⟨_, _, _, _, _, R.leave g3 R'', rfl, hq⟩

theorem bindL_eq (kd : Str → Option NameKind) : ∀ (bs : List (Str × Value)) (m : Str → Option Value), bindL kd bs m = fun y => ((bs.filter fun x => kd x.1 == some .local).reverse.lookup y).or (m y)
  | [], m => by funext y; simp [bindL]
  | (n, v) :: r, m => by
    unfold bindL
    rw [bindL_eq kd r]
    funext y
    by_cases h : kd n = some .local
    · simp only [h, if_true, List.filter_cons, beq_self_eq_true, List.reverse_cons, List.lookup_append, List.lookup_cons, List.lookup_nil]
      by_cases q : y = n
      · subst q; simp
      · have : (y == n) = false := beq_eq_false_iff_ne.mpr q
        simp [q, this]
    · have : (kd n == some .local) = false := beq_eq_false_iff_ne.mpr h
      simp [h, this]
theorem bindC_eq (kd : Str → Option NameKind) : ∀ (bs : List (Str × Value)) (m : Str → Option Value), bindC kd bs m = fun y => ((bs.filter fun x => !(kd x.1 == some .local)).reverse.lookup y).or (m y)
  | [], m => by funext y; simp [bindC]
  | (n, v) :: r, m => by
    unfold bindC
    rw [bindC_eq kd r]
    funext y
    by_cases h : kd n = some .local
    · simp [h]
    · have : (kd n == some .local) = false := beq_eq_false_iff_ne.mpr h
      simp only [h, if_false, this, Bool.not_false, List.filter_cons, if_true, List.reverse_cons, List.lookup_append, List.lookup_cons, List.lookup_nil]
      by_cases q : y = n
      · subst q; simp
      · have : (y == n) = false := beq_eq_false_iff_ne.mpr q
        simp [q, this]
theorem cellsAre_eq {cm : Str → Option Value} : ∀ {ncs : List (Str × Addr)} {cells : Led}, CellsAre cm ncs cells → cells = cellsL cells (ncs.map fun nc => cm nc.1) ∧ cells.map (·.1) = ncs.map (·.2)
  | _, _, .nil => ⟨rfl, rfl⟩
  | _, _, .cons (o := o) h r => by
    obtain ⟨e1, e2⟩ := cellsAre_eq r
    refine ⟨?_, by simp [e2]⟩
    simp only [List.map_cons, cellsL]
    rw [← e1, ← h]
theorem cellsFrom_fst : ∀ (names : List (Str × NameKind)) (n n' : Nat) (acc acc' : List (Str × Addr)), acc.map (·.1) = acc'.map (·.1) → (cellsFrom n names acc).map (·.1) = (cellsFrom n' names acc').map (·.1) := cellsFrom_names
/-- a call of a def of the text with cells -/
protected theorem Wp.callDefC {name qual : Str} {params : Arguments} {body : List Stmt} {scope : Scope} {dV kV doc pm cdv ct oc : Value} {an od : Option Addr} {osl : Array (Option Value)} {fa : Addr} {args la : List Value} {xs lx rest : List Str} {cv₀ : Vals}
    {Q : Value → Vals → Vals → Led → Prop} (B : Bs K p loose mg mb f.g) (hroom : A.depth < recursionLimit)
    (ho : K.lookup fa = some ⟨oc, od, .func (fnOf name qual params body scope dV kV doc pm an cdv ct), osl⟩) (hcd : codeIn K cdv qual = true)
    (hbind : bindArgs (fnOf name qual params body scope dV kV doc pm an cdv ct) ⟨args, []⟩ = pure (xs.zip args))
    (hls : ((xs.zip args).filter fun x => scope.names.lookup x.1 == some .local) = lx.zip la) (hlen : lx.length = la.length) (hnd : (lx ++ rest).Nodup)
    (hcv : (cellsFrom 0 scope.names []).map (fun nc => ((xs.zip args).filter fun x => !(scope.names.lookup x.1 == some .local)).reverse.lookup nc.1) = cv₀)
    (hkind : ((xs.zip args).all fun y => scope.names.lookup y.1 == some .local || scope.names.lookup y.1 == some .cell) = true) (hndc : ((cellsFrom 0 scope.names []).map (·.1)).Nodup)
    (h : ∀ g' L' cs', (∀ b o, f.g.get? b = some o → g'.get? b = some o) → Bs K p loose mg mb g' → cs'.map (·.1) = (cellsFrom (L' + 1) scope.names []).map (·.2) →
      Wp X ⟨g', L', lx ++ rest, cs'⟩ (A.deeper (envOfC qual scope L' fa cdv)) (execs body (envOfC qual scope L' fa cdv)) (la.map some ++ rest.map fun _ => none) cv₀ nw fun fl _ _ nw' => Q (retOf fl) vs cv nw')
    (hco : scope.isCoroutine = false := by rfl) (hgen : scope.isGenerator = false := by rfl) (hk : scope.kind = .function := by rfl) :
    Wp X f A (call (.ref fa) args) vs cv nw Q := by
  intro F hp tk R
  have hin := R.kin B
  refine wpAny_call (codeAny_call_function (fd := fnOf name qual params body scope dV kV doc pm an cdv ct) (body := body) hroom (hin _ _ ho) rfl hco hgen rfl (codeRec_of hin hcd) ((BindsTo.of_eq hbind) _ _ _ _ ?_))
  refine wpAny_newFunctionEnv_cells hk (kindsX hkind _) fun env' he s' x => ?_
  subst he
  refine ⟨(B.top.nolimit.keeps R.fr.keep).keeps x.toInCall.keep, codeAny_func ?_⟩
  obtain ⟨h₁, tk', rfl, _⟩ := x.done
  have hk₁ := x.toInCall.keep
  obtain ⟨cells, NC, Y⟩ := Cl.news (h₀ := hp) (Nat.le_refl _) fun n c hm => ⟨x.cell n c (lookup_of_mem_nodup (cellsFrom_names scope.names 0 (hp.objs.size + 1) [] [] rfl ▸ hndc) hm), x.above n c hm⟩
  obtain ⟨eC, eA⟩ := cellsAre_eq Y
  have ens : bindL (fun n => scope.names.lookup n) (xs.zip args) (fun _ => none) = vmap (lx ++ rest) (la.map some ++ rest.map fun _ => none) := by
    rw [bindL_eq, ← vmap_binds hnd hlen]
    funext y
    rw [hls, Option.or_none]
  have hns : h₁.Ns hp.objs.size (vmap (lx ++ rest) (la.map some ++ rest.map fun _ => none)) := by rw [← ens]; exact x.toInCall.ns
  obtain ⟨g', g1, g2, g3, R'⟩ := R.enter rfl hns hk₁
  have hcells : (cellsFrom (hp.objs.size + 1) scope.names []).map (fun nc => bindC (fun n => scope.names.lookup n) (xs.zip args) (fun _ => none) nc.1) = cv₀ := by
    rw [← hcv, bindC_eq]
    have e := cellsFrom_names scope.names 0 (hp.objs.size + 1) [] [] rfl
    have e1 : ∀ l : List (Str × Addr), l.map (fun nc => (((xs.zip args).filter fun x => !(scope.names.lookup x.1 == some .local)).reverse.lookup nc.1)) = (l.map (·.1)).map fun n => (((xs.zip args).filter fun x => !(scope.names.lookup x.1 == some .local)).reverse.lookup n) := fun l => by simp
    simp only [Option.or_none]
    rw [e1, e1, e]
  have apart : (cells.map (·.1)).Nodup := by
    rw [eA]
    have := x.apart
    rw [List.Nodup, List.pairwise_map]
    exact this.imp fun h => h
  have R'' : Rep ⟨g', hp.objs.size, lx ++ rest, cells⟩ (la.map some ++ rest.map fun _ => none) cv₀ ((nw ++ F) ++ cellsL f.cs cv) h₁ := by
    have eC' : cells = cellsL cells cv₀ := by rw [← hcells]; exact eC
    refine ⟨R'.fr, fun p hp' => ?_, ?_⟩
    · rcases List.mem_append.mp hp' with h1 | h1
      · have h1' : p ∈ cells := by rw [eC']; exact h1
        refine ⟨(NC p h1').1, (NC p h1').2.1, ?_⟩
        cases q : g'.get? p.1 with
        | none => rfl
        | some o => have := g2 _ _ q; rw [(NC p h1').2.2] at this; cases this
      · exact R'.news p (List.mem_append_right _ h1)
    · show ((cellsL cells cv₀ ++ ((nw ++ F) ++ cellsL f.cs cv)).map (·.1)).Nodup
      rw [← eC', List.map_append, List.nodup_append]
      have nd' := R'.nd
      refine ⟨apart, by simpa [cellsL] using nd', fun a ha b hb e => ?_⟩
      obtain ⟨p, hp', rfl⟩ := List.mem_map.mp ha
      obtain ⟨q, hq, rfl⟩ := List.mem_map.mp hb
      have hq' : q ∈ cellsL f.cs cv ++ (nw ++ F) := by
        rcases List.mem_append.mp hq with h1 | h1
        · exact List.mem_append_right _ h1
        · exact List.mem_append_left _ h1
      have := (R.news q hq').1
      rw [← e, (NC p hp').2.2] at this; cases this
  rw [List.append_assoc] at R''
  refine wpAny_mono (h g' _ cells g1 (B.keeps g1) eA (F ++ cellsL f.cs cv) h₁ _ R'') (fun fl s' ⟨vs', cv', nw', h', tk', R3, q, hq⟩ => ?_) fun _ _ x => x.elim
  subst q
  rw [← List.append_assoc] at R3
  exact ⟨_, _, _, _, _, R.leave g3 R3, rfl, hq⟩
end
end
end Mine
namespace Mine
section
open PySem PySem.W PySem.Calls PySem.Spec PyProof.Rows
section
variable {α β : Type} {X : Fx} {f : Fm} {A : Around} {vs cv : Vals} {nw : Led} {env : Env} {K : Frag} {p : Program} {loose : List Str} {mg mb : Str → Option Value}

/-- reorder the ledger -/
protected theorem Wp.perm {t : Sem α} {nw' : Led} {Q : α → Vals → Vals → Led → Prop} (e : nw'.Perm nw) (h : Wp X f A t vs cv nw' Q) : Wp X f A t vs cv nw Q :=
  fun F hp tk R => h F hp tk (R.perm (e.append_right F))

/-- an iterator's protocol: what it yields turn by turn, and the entries it holds for itself -/
structure Its (X : Fx) (A : Around) (tgt : Expr) (it : Value) (n : Nat) (Src : Fm → Led → Prop) (own : Nat → Led → Prop) (P : Nat → Value → Led → Prop) : Prop where
  item : ∀ (f : Fm) (vs cv : Vals) (nw e : Led) (i : Nat), i < n → own i e → Src f nw → Wp X f A (pyNext it) vs cv (e ++ nw) fun r vs' cv' nw' => vs' = vs ∧ cv' = cv ∧ ∃ v, r = some v ∧
    Wp X f A (letOwnedTupleGo tgt it v) vs cv nw' fun _ vs' cv' nw' => vs' = vs ∧ cv' = cv ∧ ∃ e' x, own (i + 1) e' ∧ P i v x ∧ nw' = x ++ (e' ++ nw)
  done : ∀ (f : Fm) (vs cv : Vals) (nw e : Led), own n e → Src f nw → Wp X f A (pyNext it) vs cv (e ++ nw) fun r vs' cv' nw' => vs' = vs ∧ cv' = cv ∧ r = Option.none ∧ nw' = nw
  self : ∀ (f : Fm) (vs cv : Vals) (nw e : Led), own 0 e → Wp X f A (pyIter it) vs cv (e ++ nw) fun r vs' cv' nw' => vs' = vs ∧ cv' = cv ∧ r = it ∧ nw' = e ++ nw
/-- what a for or a comprehension goes over: n items, P of each; nw₁ is what stands beside the iterator -/
def IterOk (X : Fx) (f : Fm) (A : Around) (tgt : Expr) (xv : Value) (vs cv : Vals) (nw nw₁ : Led) (n : Nat) (Src : Fm → Led → Prop) (P : Nat → Value → Led → Prop) : Prop :=
  Wp X f A (pyIter xv) vs cv nw fun it vs' cv' nw' => vs' = vs ∧ cv' = cv ∧ ∃ own e, own 0 e ∧ Its X A tgt it n Src own P ∧ nw' = e ++ nw₁

theorem perm_mid {a b c d : Led} : (a ++ (b ++ c) ++ d).Perm ((a ++ c) ++ (b ++ d)) := by
  have h1 : (a ++ (b ++ c) ++ d) = a ++ (b ++ (c ++ d)) := by simp
  have h2 : ((a ++ c) ++ (b ++ d)) = a ++ (c ++ (b ++ d)) := by simp
  rw [h1, h2]
  refine List.Perm.append_left a ?_
  rw [← List.append_assoc, ← List.append_assoc]
  exact List.perm_append_comm.append_right d

/-- a for over anything that keeps the protocol, by an invariant that is chosen when the thing gone over stands -/
protected theorem Wp.For {target iter : Expr} {body : List Stmt} {pos : Pos} {Q : Flow → Vals → Vals → Led → Prop}
    (h : Wp X f A (eval iter env) vs cv nw fun xv vs cv nw => ∃ (I : Nat → Vals → Vals → Led → Prop) (nw₁ : Led) (n : Nat) (Src : Fm → Led → Prop) (P : Nat → Value → Led → Prop), IterOk X f A target xv vs cv nw nw₁ n Src P ∧ I 0 vs cv nw₁ ∧
      (∀ i vs cv nw, I i vs cv nw → Src f nw) ∧
      (∀ i v x vs cv nw, i < n → P i v x → I i vs cv nw → Wp X f A (assign target env v) vs cv (x ++ nw) fun _ vs cv nw => Wp X f A (execs body env) vs cv nw fun fl vs cv nw =>
        match fl with | .next | .cont => I (i + 1) vs cv nw | .brk => Q .next vs cv nw | .ret v => Q (.ret v) vs cv nw) ∧
      (∀ vs cv nw, I n vs cv nw → Q .next vs cv nw))
    (hs : ∀ x, foldedSetIterable iter env x = Pure.pure x := by intro _; rfl) : Wp X f A (exec (.For target iter body [] pos) env) vs cv nw Q := by
  intro F hp tk R
  refine wpAny_For (h.go R fun xv vs cv nw h1 tk1 R1 hq => ?_) hs
  obtain ⟨I, nw₁, n, Src, P, ok, hI, hS, turn, done⟩ := hq
  refine Wp.go ok R1 fun it vs cv nw h2 tk2 R2 hq => ?_
  obtain ⟨rfl, rfl, own, e, he, D, rfl⟩ := hq
  refine codeAny_forLoop_any (fun k s' => ∃ i e vs cv nw h' tk', k = n + 1 - i ∧ i ≤ n ∧ s' = { X.s with heap := h', toks := tk' } ∧ own i e ∧ I i vs cv nw ∧ Rep f vs cv ((e ++ nw) ++ F) h') ?_ (n + 1) ⟨0, e, vs, cv, nw₁, h2, tk2, rfl, Nat.zero_le _, rfl, he, hI, R2⟩
  rintro k s' ⟨i, e, vs, cv, nw, h', tk', rfl, hi, rfl, he, hI, R3⟩
  by_cases hlt : i < n
  · refine wpAny_mono (E := fun _ _ => False) ((D.item f vs cv nw e i hlt he (hS _ _ _ _ hI)).go R3 fun r vs' cv' nw' h4 tk4 R4 q => ?_) (fun _ _ x => x) fun _ _ x => x.elim
    obtain ⟨rfl, rfl, v, rfl, hgo⟩ := q
    refine wpAny_mono (E := fun _ _ => False) (hgo.go R4 fun _ vs'' cv'' nw'' h5 tk5 R5 q => ?_) (fun _ _ x => x) fun _ _ x => x.elim
    obtain ⟨rfl, rfl, e', x, he', hP, rfl⟩ := q
    have R5' := R5.perm (perm_mid (a := x) (b := e') (c := nw) (d := F)).symm
    refine wpAny_mono (E := fun _ _ => False) ((turn i v x vs'' cv'' nw hlt hP hI).go R5' fun _ vs6 cv6 nw6 h6 tk6 R6 q => ?_) (fun _ _ x => x) fun _ _ x => x.elim
    refine wpAny_mono (E := fun _ _ => False) (q.go R6 fun fl vs7 cv7 nw7 h7 tk7 R7 q => ?_) (fun _ _ x => x) fun _ _ x => x.elim
    have R7' : Rep f vs7 cv7 ((e' ++ nw7) ++ F) h7 := R7.perm (perm_mid (a := []) (b := e') (c := nw7) (d := F))
    have fin : ∀ fl', Q fl' vs7 cv7 nw7 → ∃ vs' cv' nw' h' tk', Rep f vs' cv' (nw' ++ F) h' ∧ ({ X.s with heap := h7, toks := tk7 } : Shared) = { X.s with heap := h', toks := tk' } ∧ Q fl' vs' cv' nw' := fun fl' hq =>
      ⟨vs7, cv7, nw7, h7, tk7, Rep.sub (nw := e' ++ nw7) R7' (fun p hp => List.mem_append_right _ hp) (by
        have := R7'.nd
        simp only [List.map_append, List.nodup_append] at this
        exact this.2.1.1.2.1), rfl, hq⟩
    cases fl with
    | next => exact ⟨n + 1 - (i + 1), by omega, i + 1, e', vs7, cv7, nw7, h7, tk7, rfl, hlt, rfl, he', q, R7'⟩
    | cont => exact ⟨n + 1 - (i + 1), by omega, i + 1, e', vs7, cv7, nw7, h7, tk7, rfl, hlt, rfl, he', q, R7'⟩
    | brk => exact fin _ q
    | ret v => exact fin _ q
  · have hin : i = n := by omega
    subst hin
    refine wpAny_mono (E := fun _ _ => False) ((D.done f vs cv nw e he (hS _ _ _ _ hI)).go R3 fun r vs' cv' nw' h4 tk4 R4 q => ?_) (fun _ _ x => x) fun _ _ x => x.elim
    obtain ⟨rfl, rfl, rfl, rfl⟩ := q
    exact wpAny_execs_nil ⟨_, _, _, _, _, R4, rfl, done _ _ _ hI⟩

/-- a while by an invariant and a measure -/
protected theorem Wp.While {test : Expr} {body : List Stmt} {pos : Pos} {Q : Flow → Vals → Vals → Led → Prop} (I : Nat → Vals → Vals → Led → Prop) (n : Nat) (h0 : I n vs cv nw)
    (turn : ∀ n vs cv nw, I n vs cv nw → Wp X f A (isTrue test env (eval test env)) vs cv nw fun b vs cv nw => if b then Wp X f A (execs body env) vs cv nw fun fl vs cv nw =>
        match fl with | .next | .cont => ∃ m, m < n ∧ I m vs cv nw | .brk => Q .next vs cv nw | .ret v => Q (.ret v) vs cv nw
      else Q .next vs cv nw) : Wp X f A (exec (.While test body [] pos) env) vs cv nw Q := by
  intro F hp tk R
  refine wpAny_While (codeAny_whileLoop (fun k s' => ∃ vs cv nw h' tk', s' = { X.s with heap := h', toks := tk' } ∧ I k vs cv nw ∧ Rep f vs cv (nw ++ F) h') ?_ n ⟨vs, cv, nw, hp, tk, rfl, h0, R⟩)
  rintro k s' ⟨vs, cv, nw, h', tk', rfl, hI, R3⟩
  refine wpAny_mono (E := fun _ _ => False) ((turn k vs cv nw hI).go R3 fun b vs cv nw h4 tk4 R4 q => ?_) (fun _ _ x => x) fun _ _ x => x.elim
  cases b with
  | true =>
    refine wpAny_mono (E := fun _ _ => False) (Wp.go q R4 fun fl vs7 cv7 nw7 h7 tk7 R7 q => ?_) (fun _ _ x => x) fun _ _ x => x.elim
    cases fl with
    | next => obtain ⟨m, hm, hI⟩ := q; exact ⟨m, hm, _, _, _, _, _, rfl, hI, R7⟩
    | cont => obtain ⟨m, hm, hI⟩ := q; exact ⟨m, hm, _, _, _, _, _, rfl, hI, R7⟩
    | brk => exact ⟨_, _, _, _, _, R7, rfl, q⟩
    | ret v => exact ⟨_, _, _, _, _, R7, rfl, q⟩
  | false => exact wpAny_execs_nil ⟨_, _, _, _, _, R4, rfl, q⟩

theorem lotg_name {x : Str} {px : Pos} {it v : Value} {vs cv : Vals} {nw : Led} {Q : Unit → Vals → Vals → Led → Prop} (h : Q () vs cv nw) : Wp X f A (letOwnedTupleGo (.Name x px) it v) vs cv nw Q :=
  fun F hp tk R => wpAny_pure ⟨_, _, _, _, _, R, rfl, h⟩
/-- neither enumerate nor zip -/
theorem lotg_plain {tgt : Expr} {a : Addr} {o : Obj} {n : String} {v : Value} {vs cv : Vals} {nw : Led} {Q : Unit → Vals → Vals → Led → Prop} (ho : (a, o) ∈ nw) (hc : o.cls = .type n)
    (hn : (["enumerate", "zip", "dict_itemiterator", "dict_reverseitemiterator", "odict_iterator", "itertools.zip_longest", "itertools.pairwise"].contains n) = false) (h : Q () vs cv nw) : Wp X f A (letOwnedTupleGo tgt (.ref a) v) vs cv nw Q := by
  intro F hp tk R
  have fin : ∃ vs' cv' nw' h' tk', Rep f vs' cv' (nw' ++ F) h' ∧ ({ X.s with heap := hp, toks := tk } : Shared) = { X.s with heap := h', toks := tk' } ∧ Q () vs' cv' nw' := ⟨_, _, _, _, _, R, rfl, h⟩
  unfold letOwnedTupleGo
  split
  · split
    · rename_i r a' e
      simp only [Prod.mk.injEq, Value.ref.injEq] at e
      obtain ⟨rfl, rfl⟩ := e
      refine wpAny_bind (wpAny_load (R.get ho) ?_)
      split
      · rename_i m vs' e1 e2
        rw [hc] at e1
        cases e1
        rw [hn]
        exact wpAny_pure fin
      · exact wpAny_pure fin
    · exact wpAny_pure fin
  · split
    · rename_i r a' e
      simp only [Prod.mk.injEq, Value.ref.injEq] at e
      obtain ⟨rfl, rfl⟩ := e
      refine wpAny_bind (wpAny_load (R.get ho) ?_)
      split
      · rename_i m vs' e1 e2
        rw [hc] at e1
        cases e1
        rw [hn]
        exact wpAny_pure fin
      · exact wpAny_pure fin
    · exact wpAny_pure fin
  · exact wpAny_pure fin

theorem Rep.enterC {n : Led} {h h₁ : Heap} {L' : Addr} {ns : List Str} {vs' : Vals} (R : Rep f vs cv n h) (hL : L' = h.objs.size) (hns : h₁.Ns L' (vmap ns vs')) (hk : ∀ b o, h.get? b = some o → h₁.get? b = some o) :
    ∃ g', (∀ b o, f.g.get? b = some o → g'.get? b = some o) ∧ (∀ b o, h.get? b = some o → b ∉ (cellsL f.cs cv ++ n).map (·.1) → g'.get? b = some o) ∧ Rep ⟨g', L', ns, f.cs⟩ vs' cv n h₁ := by
  subst hL
  refine ⟨hideAll h ((cellsL f.cs cv ++ n).map (·.1)), fun b o q => ?_, fun b o q m => hideAll_get _ q m, ⟨⟨hns, fun b o q => hk b o (of_hideAll _ q), Nat.le_of_eq (hideAll_size _ _)⟩, fun p hp => ?_, R.nd⟩⟩
  · refine hideAll_get _ (R.fr.keep b o q) fun m => ?_
    obtain ⟨p, hp, e⟩ := List.mem_map.mp m
    have := (R.news p hp).2.2
    rw [e, q] at this; cases this
  · exact ⟨hk _ _ (R.news p hp).1, Nat.ne_of_lt (Heap.lt_size (R.news p hp).1), hideAll_none _ (List.mem_map_of_mem hp)⟩
theorem Rep.leaveC {n n' : Led} {h h₁ h₂ : Heap} {g' : Heap} {C : Addr} {ns : List Str} {vs' cv' : Vals} (R : Rep f vs cv n h)
    (kept : ∀ b o, h.get? b = some o → b ∉ (cellsL f.cs cv ++ n).map (·.1) → g'.get? b = some o) (R' : Rep ⟨g', C, ns, f.cs⟩ vs' cv' n' h₁) (hs : Heap.SameBut C h₁ h₂) : Rep f vs cv' n' h₂ := by
  obtain ⟨oL, es, ep, hL, r⟩ := R.fr.ns
  have nL : f.L ∉ (cellsL f.cs cv ++ n).map (·.1) := fun m => by
    obtain ⟨p, hp, e⟩ := List.mem_map.mp m
    exact (R.news p hp).2.1 e
  have gL := kept _ _ hL nL
  have gg : ∀ b o, f.g.get? b = some o → g'.get? b = some o := fun b o q => kept b o (R.fr.keep b o q) fun m => by
    obtain ⟨p, hp, e⟩ := List.mem_map.mp m
    have := (R.news p hp).2.2
    rw [e, q] at this; cases this
  have gC : ∀ b o, g'.get? b = some o → h₂.get? b = some o := fun b o q => (hs.2 b (Nat.ne_of_lt (Nat.lt_of_lt_of_le (Heap.lt_size q) R'.fr.above))).trans (R'.fr.keep b o q)
  refine ⟨⟨⟨oL, es, ep, gC _ _ gL, r⟩, fun b o q => gC b o (gg b o q), R.fr.above⟩, fun p hp => ?_, R'.nd⟩
  have N := R'.news p hp
  refine ⟨(hs.2 _ N.2.1).trans N.1, fun q => ?_, ?_⟩
  · have := N.2.2; rw [q, gL] at this; cases this
  · cases q : f.g.get? p.1 with
    | none => rfl
    | some o => have := N.2.2; rw [gg _ _ q] at this; cases this

theorem codeAny_compLoop_any {prog : Program} {w : World} {A : Around} {R : Result → Shared → Prop} {s : Shared} {elt target iter : Expr} {ifs : List Expr} {scope : Scope} {pos : Pos} {it acc : Value} {env : Env} (I : Nat → Shared → Prop)
    (turn : ∀ n s, I n s → wpAny (model prog w) A (pyNext it) (fun r s₁ => match r with
      | none => R (.ok .next) s₁
      | some v => wpAny (model prog w) A (letOwnedTupleGo target it v) (fun _ s₁ => wpAny (model prog w) A (assign target env v) (fun _ s₂ =>
          wpAny (model prog w) A (forIn ifs true fun c r => if r = true then do let ok ← isTrue c env (eval c env); pure (ForInStep.yield ok) else pure (ForInStep.yield r)) (fun ok s₃ =>
            if ok = true then wpAny (model prog w) A (eval elt env) (fun x s₄ =>
              wpAny (model prog w) A (call (.builtin "list.append") [acc, x]) (fun _ s₅ => ∃ m, m < n ∧ I m s₅) (fun _ _ => False) s₄) (fun _ _ => False) s₃
            else ∃ m, m < n ∧ I m s₃) (fun _ _ => False) s₂) (fun _ _ => False) s₁) (fun _ _ => False) s₁) (fun _ _ => False) s)
    (n : Nat) (h : I n s) :
    codeAny (model prog w) A (.compLoop (.ListComp elt [⟨target, iter, ifs, 0⟩] scope pos) 0 it acc env) R s := by
  refine codeAny_loop rfl I (fun n s hI => ?_) n h
  show wpAny _ A ((compTurn (.ListComp elt [⟨target, iter, ifs, 0⟩] scope pos) 0 it acc env).onRaise (fun x => do noteFrame x env; theTreesLotGoes x)) _ _ s
  refine wpAny_noted (wpAny_mono (E := fun _ _ => False) ?_ (fun _ _ x => x) fun _ _ x => x.elim)
  rw [compTurn_list]
  refine wpAny_bind (wpAny_standAt (wpAny_bind (wpAny_mono (turn n s hI) (fun r s₁ h₁ => ?_) fun _ _ h' => h')))
  cases r with
  | none => exact wpAny_pure h₁
  | some v =>
    refine wpAny_bind (wpAny_mono h₁ (fun _ s₁ h₁ => ?_) fun _ _ h' => h')
    refine wpAny_bind (wpAny_mono h₁ (fun _ s₂ h₂ => wpAny_bind (wpAny_mono h₂ (fun ok s₃ h₃ => ?_) fun _ _ h' => h')) fun _ _ h' => h')
    cases ok with
    | false => exact wpAny_pure ⟨rfl, h₃⟩
    | true =>
      exact wpAny_bind (wpAny_bind (wpAny_mono h₃ (fun x s₄ h₄ => wpAny_bind (wpAny_mono h₄ (fun _ s₅ h₅ => wpAny_pure (wpAny_pure ⟨rfl, h₅⟩)) fun _ _ h' => h')) fun _ _ h' => h'))

/-- the tests of a comprehension's clause: none or one -/
def ifsOf (ifs : List Expr) (env : Env) : Sem Bool := match ifs with
  | [c] => isTrue c env (eval c env)
  | _ => Pure.pure true

theorem Rep.leaveCC {n n' : Led} {h h₁ : Heap} {g' : Heap} {C : Addr} {ns : List Str} {vs' cv' : Vals} (R : Rep f vs cv n h)
    (kept : ∀ b o, h.get? b = some o → b ∉ (cellsL f.cs cv ++ n).map (·.1) → g'.get? b = some o) (R' : Rep ⟨g', C, ns, f.cs⟩ vs' cv' n' h₁) : ∃ oC, (∀ h₂ : Heap, h₂.get? C = some oC → ∃ m, h₂.Ns C m) ∧ Rep f vs cv' (n' ++ [(C, oC)]) h₁ := by
  obtain ⟨oC, es, ep, hC, r⟩ := R'.fr.ns
  have R₁ := R.leaveC kept R' (Heap.SameBut.refl _ _)
  obtain ⟨oL, esL, epL, hL, rL⟩ := R.fr.ns
  have nL : f.L ∉ (cellsL f.cs cv ++ n).map (·.1) := fun m => by
    obtain ⟨p, hp, e⟩ := List.mem_map.mp m
    exact (R.news p hp).2.1 e
  have gL := kept _ _ hL nL
  have gg : ∀ b o, f.g.get? b = some o → g'.get? b = some o := fun b o q => kept b o (R.fr.keep b o q) fun m => by
    obtain ⟨p, hp, e⟩ := List.mem_map.mp m
    have := (R.news p hp).2.2
    rw [e, q] at this; cases this
  have noC : ∀ o, g'.get? C ≠ some o := fun o q => Nat.lt_irrefl _ (Nat.lt_of_lt_of_le (Heap.lt_size q) R'.fr.above)
  refine ⟨oC, fun h₂ q => ⟨_, oC, es, ep, q, r⟩, R₁.fr, fun p hp => ?_, ?_⟩
  · have hp' : p ∈ cellsL f.cs cv' ++ n' ∨ p = (C, oC) := by
      rcases List.mem_append.mp hp with h1 | h1
      · exact .inl (List.mem_append_left _ h1)
      · rcases List.mem_append.mp h1 with h1 | h1
        · exact .inl (List.mem_append_right _ h1)
        · exact .inr (List.mem_singleton.mp h1)
    rcases hp' with h1 | rfl
    · exact R₁.news p h1
    · refine ⟨hC, fun q => noC _ (q ▸ gL), ?_⟩
      cases q : f.g.get? C with
      | none => rfl
      | some o => exact absurd (gg _ _ q) (noC o)
  · have nd := R'.nd
    have e : (cellsL f.cs cv' ++ (n' ++ [(C, oC)])).map (·.1) = (cellsL f.cs cv' ++ n').map (·.1) ++ [C] := by simp
    rw [e, List.nodup_append]
    refine ⟨nd, List.nodup_cons.mpr ⟨(fun h => nomatch h), List.nodup_nil⟩, fun a ha b hb q => ?_⟩
    rw [List.mem_singleton.mp hb] at q
    obtain ⟨p, hp, rfl⟩ := List.mem_map.mp ha
    exact (R'.news p hp).2.1 q
theorem Rep.drop {C : Addr} {oC : Obj} {n F : Led} {h h₂ : Heap} (R : Rep f vs cv (n ++ ((C, oC) :: F)) h) (hs : Heap.SameBut C h h₂) : Rep f vs cv (n ++ F) h₂ := by
  have R' := R.perm (n' := [(C, oC)] ++ (n ++ F)) (by
    show ((C, oC) :: (n ++ F)).Perm _
    exact List.perm_middle.symm)
  have D := R'.news (C, oC) (by simp)
  have hC := D.1
  have nd := R'.nd
  have ndC : ∀ p ∈ cellsL f.cs cv ++ (n ++ F), p.1 ≠ C := by
    intro p hp e
    simp only [List.map_append, List.map_cons, List.map_nil, List.nodup_append, List.singleton_append, List.nodup_cons, List.mem_append] at nd
    rcases List.mem_append.mp hp with h1 | h1
    · exact nd.2.2 p.1 (List.mem_map.mpr ⟨p, h1, rfl⟩) C (.head _) e
    · exact nd.2.1.1 (by
        rcases List.mem_append.mp h1 with h2 | h2
        · exact .inl (List.mem_map.mpr ⟨p, h2, e⟩)
        · exact .inr (List.mem_map.mpr ⟨p, h2, e⟩))
  refine ⟨⟨R'.fr.ns.sameBut hs (Ne.symm D.2.1), fun b o e => (hs.2 b fun q => ?_).trans (R'.fr.keep b o e), R'.fr.above⟩, fun p hp => ?_, ?_⟩
  · rw [q, D.2.2] at e; cases e
  · have N := R'.news p (by
      rcases List.mem_append.mp hp with h1 | h1
      · exact List.mem_append_left _ h1
      · exact List.mem_append_right _ (.tail _ h1))
    exact ⟨(hs.2 _ (ndC p hp)).trans N.1, N.2⟩
  · simp only [List.map_append, List.map_cons, List.map_nil, List.nodup_append, List.singleton_append, List.nodup_cons] at nd ⊢
    exact ⟨nd.1, nd.2.1.2, fun a ha b hb => nd.2.2 a ha b (.tail _ hb)⟩

/-- a list comprehension of one clause (none or one test), by an invariant over what is gathered -/
protected theorem Wp.comp {elt target iter : Expr} {ifs : List Expr} {scope : Scope} {pos pos' : Pos} {ns : List Str} {cl : List (Str × Addr)} {use : Option (Value → Sem Unit)} {Q : Value → Vals → Vals → Led → Prop}
    (hclos : closureFor scope env = Pure.pure cl) (hcell : (scope.names.all fun x => x.2 != .cell) = true) (hkind : scope.kind = .function)
    (hnames : ∀ y ∈ scope.names, y.2 = .local → scope.names.lookup y.1 = some .local) (hlen : ifs = [] ∨ ∃ c, ifs = [c]) (hnd : ns.Nodup)
    (h : Wp X f A (eval iter env) vs cv nw fun xv vs cv nw => ∃ (I : Nat → List Value → Vals → Led → Prop) (nw₁ : Led) (n : Nat) (Src : Fm → Led → Prop) (P : Nat → Value → Led → Prop), n ≤ 2 ^ 20 ∧ IterOk X f A target xv vs cv nw nw₁ n Src P ∧ I 0 [] cv nw₁ ∧ (∀ i ys cv nw f', I i ys cv nw → (∀ b o, f.g.get? b = some o → f'.g.get? b = some o) → Src f' nw) ∧
      (∀ g' C, (∀ b o, f.g.get? b = some o → g'.get? b = some o) → ∀ i v x ys vs' cv nw, i < n → P i v x → I i ys cv nw → vs'.length = ns.length →
        Wp X ⟨g', C, ns, f.cs⟩ A (assign target (compEnvC scope cl C env) v) vs' cv (x ++ nw) fun _ vs' cv nw => Wp X ⟨g', C, ns, f.cs⟩ A (ifsOf ifs (compEnvC scope cl C env)) vs' cv nw fun ok vs' cv nw =>
          if ok then Wp X ⟨g', C, ns, f.cs⟩ A (eval elt (compEnvC scope cl C env)) vs' cv nw fun y vs' cv nw => vs'.length = ns.length ∧ I (i + 1) (ys ++ [y]) cv nw
          else vs'.length = ns.length ∧ I (i + 1) ys cv nw) ∧
      (∀ l k ys cv nw, I n ys cv nw → match use with
        | none => Q (.ref l) vs cv ((l, lo ys k) :: nw)
        | some u => Wp X f A (u (.ref l)) vs cv ((l, lo ys k) :: nw) fun _ => Q .none))
    (hs : ∀ x, foldedSetIterable iter env x = Pure.pure x) :
    Wp X f A (comprehension (.ListComp elt [⟨target, iter, ifs, 0⟩] scope pos) scope env pos' (newList []) false (eval iter env) use) vs cv nw Q := by
  intro F hp tk R
  refine wpAny_comprehension_free (use := use) rfl hs hclos hkind hnames (h.go R fun xv vs cv nw h1 tk1 R1 q => ?_)
  obtain ⟨I, nw₁, n, Src, P, hn, ok, hI, hS, turn, fin⟩ := q
  refine Wp.go ok R1 fun it vs cv nw h2 tk2 R2 q => ?_
  obtain ⟨rfl, rfl, own, e, he, D, rfl⟩ := q
  refine wpAny_newObj_type ?_ (by show (#[] : Array Value).size ≤ sizeLine; decide)
  dsimp only
  have R3 := R2.push (lo [] 0)
  have R3' : Rep f vs cv ((e ++ nw₁) ++ ((h2.objs.size, lo [] 0) :: F)) (h2.push (lo [] 0)) := R3.perm (by
    show ((e ++ nw₁) ++ ((h2.objs.size, lo [] 0) :: F)).Perm ((h2.objs.size, lo [] 0) :: ((e ++ nw₁) ++ F))
    exact List.perm_middle)
  clear R3
  generalize hacc : h2.objs.size = acc at R3' ⊢
  generalize hH3 : h2.push (lo [] 0) = h3 at R3' ⊢
  refine wpAny_newFunctionEnv (fun x hx => by simpa using List.all_eq_true.mp hcell x hx) (fun x hx => by simp at hx) (fun h₄ hns hsb => ?_) hkind
  have hns' : h₄.Ns h3.objs.size (vmap ns (ns.map fun _ => none)) := by
    have e0 := vmap_binds (xs := []) (vals := []) (rest := ns) (by simpa using hnd) rfl
    simp only [List.zip_nil_left, List.nil_append, List.map_nil] at e0
    rw [← e0]
    exact hns
  have hk₄ : ∀ b o, h3.get? b = some o → h₄.get? b = some o := fun b o q => by
    exact hsb.extBut b o (Nat.ne_of_lt (Heap.lt_size q)) (Heap.get?_push_of_some _ q)
  obtain ⟨g', g1, g3, R4⟩ := R3'.enterC rfl hns' hk₄
  dsimp only at hns hsb ⊢
  generalize hC : h3.objs.size = C at R4 hns hsb hns' ⊢
  have hse : ({ newEnv scope C env.globals cl env.qual none .none (some env) 0 with scope := relabel scope env } : Env) = compEnvC scope cl C env := rfl
  show codeAny _ _ (.compStart _ 0 it (.ref acc) (compEnvC scope cl C env)) _ _
  have loop : ∀ tk5 e5 h5, own 0 e5 → Rep ⟨g', C, ns, f.cs⟩ (ns.map fun _ => none) cv ((e5 ++ nw₁) ++ ((acc, lo [] 0) :: F)) h5 →
      codeAny (model X.prog X.w) A (.compLoop (.ListComp elt [⟨target, iter, ifs, 0⟩] scope pos) 0 it (.ref acc) (compEnvC scope cl C env))
        (compPost (model X.prog X.w) A (fun _ _ => False) use (fun a s' => ∃ vs' cv' nw' h' tk', Rep f vs' cv' (nw' ++ F) h' ∧ s' = { X.s with heap := h', toks := tk' } ∧ Q a vs' cv' nw') (.ref acc) C) { X.s with heap := h5, toks := tk5 } := by
    intro tk5 e5 h5 he5 R5
    refine codeAny_compLoop_any (fun k s' => ∃ i ys e vs' cv nw h' tk' kk, k = n + 1 - i ∧ i ≤ n ∧ ys.length ≤ i ∧ s' = { X.s with heap := h', toks := tk' } ∧ own i e ∧ I i ys cv nw ∧ vs'.length = ns.length ∧
      Rep ⟨g', C, ns, f.cs⟩ vs' cv ((e ++ nw) ++ ((acc, lo ys kk) :: F)) h') ?_ (n + 1) ⟨0, [], e5, _, _, _, h5, tk5, 0, rfl, Nat.zero_le _, Nat.le_refl _, rfl, he5, hI, by simp, R5⟩
    rintro k s' ⟨i, ys, e, vs', cv, nw, h', tk', kk, rfl, hi, hys, rfl, he, hI, hvl, R6⟩
    by_cases hlt : i < n
    · refine (D.item ⟨g', C, ns, f.cs⟩ vs' cv nw e i hlt he (hS _ _ _ _ ⟨g', C, ns, f.cs⟩ hI g1)).go R6 fun r vs'' cv'' nw' h7 tk7 R7 q => ?_
      obtain ⟨rfl, rfl, v, rfl, hgo⟩ := q
      refine hgo.go R7 fun _ vs'' cv'' nw'' h8 tk8 R8 q => ?_
      obtain ⟨rfl, rfl, e', x, he', hP, rfl⟩ := q
      have R8' := R8.perm (perm_mid (a := x) (b := e') (c := nw) (d := (acc, lo ys kk) :: F)).symm
      refine (turn g' C g1 i v x ys vs'' cv'' nw hlt hP hI hvl).go R8' fun _ vs9 cv9 nw9 h9 tk9 R9 q => ?_
      have tests : ∀ {Qt : Bool → Shared → Prop}, wpAny (model X.prog X.w) A (ifsOf ifs (compEnvC scope cl C env)) Qt (fun _ _ => False) { X.s with heap := h9, toks := tk9 } →
          wpAny (model X.prog X.w) A (forIn ifs true fun c r => if r = true then do let ok ← isTrue c (compEnvC scope cl C env) (eval c (compEnvC scope cl C env)); Pure.pure (ForInStep.yield ok) else Pure.pure (ForInStep.yield r)) Qt (fun _ _ => False) { X.s with heap := h9, toks := tk9 } := by
        intro Qt hq
        rcases hlen with rfl | ⟨c, rfl⟩
        · exact fun Γ p hΓ => hq Γ p hΓ
        · exact wpAny_tests_one hq
      refine tests (q.go R9 fun ok vs10 cv10 nw10 h10 tk10 R10 q => ?_)
      have step : ∀ {ys' kk' vs11 cv11 nw11 h11 tk11}, ys'.length ≤ i + 1 → vs11.length = ns.length → I (i + 1) ys' cv11 nw11 → Rep ⟨g', C, ns, f.cs⟩ vs11 cv11 (nw11 ++ (e' ++ ((acc, lo ys' kk') :: F))) h11 →
          ∃ m, m < n + 1 - i ∧ ∃ i ys e vs' cv nw h' tk' kk, m = n + 1 - i ∧ i ≤ n ∧ ys.length ≤ i ∧ ({ X.s with heap := h11, toks := tk11 } : Shared) = { X.s with heap := h', toks := tk' } ∧ own i e ∧ I i ys cv nw ∧ vs'.length = ns.length ∧
            Rep ⟨g', C, ns, f.cs⟩ vs' cv ((e ++ nw) ++ ((acc, lo ys kk) :: F)) h' := fun hy hv hI' R' =>
        ⟨n + 1 - (i + 1), by omega, i + 1, _, e', _, _, _, _, _, _, rfl, hlt, hy, rfl, he', hI', hv, R'.perm (perm_mid (a := []) (b := e') (c := _) (d := (acc, lo _ _) :: F))⟩
      cases ok with
      | false =>
        exact step (Nat.le_succ_of_le hys) q.1 q.2 R10
      | true =>
        refine Wp.go q R10 fun y vs11 cv11 nw11 h11 tk11 R11 q => ?_
        have u : Up acc (lo ys kk) (lo (ys ++ [y]) (kk + 1)) (nw11 ++ (e' ++ ((acc, lo ys kk) :: F))) (nw11 ++ (e' ++ ((acc, lo (ys ++ [y]) (kk + 1)) :: F))) := .right (.right .head)
        have D2 := R11.news _ (List.mem_append_right _ u.mem)
        refine append_at (n := kk) (its := ys.toArray) (hsz := by rw [List.size_toArray]; exact fits_line (Nat.le_trans hys (Nat.le_trans (Nat.le_of_lt hlt) hn))) D2.1 fun h12 hs12 ho12 => ?_
        exact step (by simpa using hys) q.1 q.2 (R11.upd' u hs12 (by simpa using ho12))
    · have hin : i = n := by omega
      subst hin
      refine (D.done ⟨g', C, ns, f.cs⟩ vs' cv nw e he (hS _ _ _ _ ⟨g', C, ns, f.cs⟩ hI g1)).go R6 fun r vs'' cv'' nw' h7 tk7 R7 q => ?_
      obtain ⟨rfl, rfl, rfl, rfl⟩ := q
      have R7' := R7.perm (n' := ((acc, lo ys kk) :: nw') ++ F) List.perm_middle.symm
      have hfin := fin acc kk ys _ _ hI
      cases use with
      | none =>
        obtain ⟨oC, hm, R8⟩ := R3'.leaveCC g3 R7'
        obtain ⟨m, hm'⟩ := hm h7 (R8.news (C, oC) (by simp)).1
        exact ⟨m, hm', fun h8 hs8 => ⟨_, _, _, h8, tk7, R3'.leaveC g3 R7' hs8, rfl, hfin⟩⟩
      | some u =>
        obtain ⟨oC, hm, R8⟩ := R3'.leaveCC g3 R7'
        have R8' : Rep f vs cv'' (((acc, lo ys kk) :: nw') ++ ((C, oC) :: F)) h7 := R8.perm (by
          have : (((acc, lo ys kk) :: nw') ++ ((C, oC) :: F)).Perm ((C, oC) :: (((acc, lo ys kk) :: nw') ++ F)) := List.perm_middle
          refine this.trans ?_
          exact (List.perm_append_comm (l₁ := [(C, oC)]) (l₂ := ((acc, lo ys kk) :: nw') ++ F)))
        show wpAny _ _ _ _ _ _
        refine Wp.go hfin R8' fun _ vs9 cv9 nw9 h9 tk9 R9 q => ?_
        obtain ⟨m, hm'⟩ := hm h9 (R9.news (C, oC) (by simp)).1
        exact ⟨m, hm', fun h10 hs10 => ⟨_, _, _, h10, tk9, R9.drop hs10, rfl, q⟩⟩
  refine codeAny_compStart_list (loop _ e _ he R4) ?_
  refine (wpAny_mono (E := fun _ _ => False) ((D.self ⟨g', C, ns, f.cs⟩ _ cv nw₁ e he).go R4 fun r vs'' cv'' nw' h7 tk7 R7 q => ?_) (fun _ _ x => x) fun _ _ x => x.elim)
  obtain ⟨rfl, rfl, rfl, rfl⟩ := q
  exact loop _ e _ he R7
end
end
end Mine
namespace Mine
section
open PySem PySem.W PySem.Calls PySem.Spec PyProof.Rows
section
variable {α β : Type} {X : Fx} {f : Fm} {A : Around} {vs cv : Vals} {nw : Led} {env : Env} {K : Frag} {p : Program} {loose : List Str} {mg mb : Str → Option Value}

/-- an iterator of one object -/
theorem Its.ofWalks {tgt : Expr} {I : Addr} {fp : List Addr} {n : Nat} {P : Nat → Value → Prop} {St : Nat → Heap → Prop} {S : Nat → Obj → Prop} {Src : Fm → Led → Prop} (W : Walks X.prog X.w A I fp [I] n P St) (ty : String)
    (hst : ∀ i h o f vs cv nw F, S i o → Src f nw → Rep f vs cv (((I, o) :: nw) ++ F) h → St i h) (hst' : ∀ i h, St i h → ∃ o, h.get? I = some o ∧ S i o) (hty : ∀ i o, S i o → o.cls = .type ty)
    (hself : ∀ (f : Fm) vs cv nw o F h, S 0 o → Rep f vs cv (((I, o) :: nw) ++ F) h → ∀ (tk : Nat) (Q : Value → Shared → Prop) (E : Value → Shared → Prop), Q (.ref I) { X.s with heap := h, toks := tk } → wpAny (model X.prog X.w) A (pyIter (.ref I)) Q E { X.s with heap := h, toks := tk })
    (hn : (["enumerate", "zip", "dict_itemiterator", "dict_reverseitemiterator", "odict_iterator", "itertools.zip_longest", "itertools.pairwise"].contains ty) = false) :
    Its X A tgt (.ref I) n Src (fun i e => ∃ o, e = [(I, o)] ∧ S i o) (fun i v x => x = [] ∧ P i v) where
  item := by
    rintro f vs cv nw e i hi ⟨o, rfl, ho⟩ hS F h tk R
    refine W.item i _ _ _ hi (hst _ _ _ _ _ _ _ _ ho hS R) fun v h' tk' hP hst₁ hk => ?_
    obtain ⟨o', ho', hS'⟩ := hst' _ _ hst₁
    have R' := Rep.change (e := [(I, o)]) (e' := [(I, o')]) (x := []) (n := nw ++ F) R rfl (fun b o hb q => hk b o (by simpa using hb) q) (fun p hp => by rw [List.mem_singleton.mp hp]; exact ho') (fun _ h => nomatch h) List.nodup_nil
    refine ⟨_, _, (I, o') :: nw, h', tk', R', rfl, rfl, rfl, v, rfl, ?_⟩
    exact lotg_plain (.head _) (hty _ _ hS') hn ⟨rfl, rfl, [(I, o')], [], ⟨o', rfl, hS'⟩, ⟨rfl, hP⟩, rfl⟩
  done := by
    rintro f vs cv nw e ⟨o, rfl, ho⟩ hS F h tk R
    refine W.done _ _ _ (hst _ _ _ _ _ _ _ _ ho hS R) fun h' tk' hk => ?_
    exact ⟨_, _, nw, h', tk', Rep.drops (e := [(I, o)]) (n := nw ++ F) R (fun b o hb q => hk b o (by simpa using hb) q), rfl, rfl, rfl, rfl, rfl⟩
  self := by
    rintro f vs cv nw e ⟨o, rfl, ho⟩ F h tk R
    exact hself f vs cv nw o F h ho R tk _ _ ⟨_, _, _, _, _, R, rfl, rfl, rfl, rfl, rfl⟩

/-- over a list that stands -/
theorem iterList {tgt : Expr} {l : Addr} {its : List Value} {k : Nat} (hh : A.handled = none) (H : Has f nw l (lo its k)) :
    IterOk X f A tgt (.ref l) vs cv nw nw its.length (fun f nw => Has f nw l (lo its k)) (fun i v x => x = [] ∧ its[i]? = some v) := by
  intro F h tk R
  have hl := H.list R
  refine wpAny_pyIter_list hl ?_
  have hlt : l < h.objs.size := by obtain ⟨o, ho, _⟩ := hl; exact Heap.lt_size ho
  have hne : l ≠ h.objs.size := Nat.ne_of_lt hlt
  have R' := R.push ({ cls := .type "list_iterator", data := .fields #[.ref l, .int 0 0] } : Obj)
  have W := Walks.list (prog := X.prog) (w := X.w) hh h.objs.size l hne its.toArray
  rw [List.size_toArray] at W
  have W' : Walks X.prog X.w A h.objs.size [h.objs.size, l] [h.objs.size] its.length (fun i v => its[i]? = some v) (fun i h' => h'.IsListIter h.objs.size l i ∧ h'.IsList l its.toArray) := by
    refine ⟨W.sub, W.frame, fun i s Q E hi st hQ => W.item i s Q E hi st fun v h' tk hP => hQ v h' tk (by simpa using hP), W.done, W.self⟩
  refine ⟨_, _, _, _, _, R', rfl, rfl, rfl, _, [(h.objs.size, _)], ⟨_, rfl, rfl, rfl⟩, Its.ofWalks (S := fun i o => o.cls = .type "list_iterator" ∧ o.data = .fields #[.ref l, .int i 0]) W' "list_iterator" ?_ ?_ (fun _ _ q => q.1) ?_ (by decide), rfl⟩
  · intro i h' o f vs cv nw F hS hH R
    exact ⟨⟨o, R.get (nw := (h.objs.size, o) :: nw) (.head _), hS.1, hS.2⟩, (hH.mono (nw' := (h.objs.size, o) :: nw) fun _ h => .tail _ h).list R⟩
  · rintro i h' ⟨⟨o, a, b, c⟩, _⟩
    exact ⟨o, a, b, c⟩
  · intro f vs cv nw o F h' hS R tk Q E hQ
    exact wpAny_pyIter_listiter (i := 0) ⟨o, R.get (nw := (h.objs.size, o) :: nw) (.head _), hS.1, hS.2⟩ hQ

/-- a range by ones, written by its ends -/
protected theorem Wp.range1 {n : Int} {t : Tok} {Q : Value → Vals → Vals → Led → Prop} (h : ∀ r u v, Q (.ref r) vs cv ((r, ({ cls := .type "range", data := .fields #[.int 0 u, .int n t, .int 1 v] } : Obj)) :: nw)) :
    Wp X f A (call (.type "range") [.int n t]) vs cv nw Q :=
  fun F hp tk R => call_range_1 ⟨_, _, _, _, _, R.push _, rfl, h _ _ _⟩
protected theorem Wp.range2 {a n : Int} {s t : Tok} {Q : Value → Vals → Vals → Led → Prop} (h : ∀ r v, Q (.ref r) vs cv ((r, ({ cls := .type "range", data := .fields #[.int a s, .int n t, .int 1 v] } : Obj)) :: nw)) :
    Wp X f A (call (.type "range") [.int a s, .int n t]) vs cv nw Q :=
  fun F hp tk R => call_range_2 ⟨_, _, _, _, _, R.push _, rfl, h _ _⟩
theorem iterRange {tgt : Expr} {r : Addr} {a n : Int} {s t v : Tok} (hh : A.handled = none) (H : (r, ({ cls := .type "range", data := .fields #[.int a s, .int n t, .int 1 v] } : Obj)) ∈ nw) (ha : -(2 ^ 62) ≤ a) (ha' : a < 2 ^ 62) (hn : -(2 ^ 62) ≤ n) (hn' : n < 2 ^ 62) :
    IterOk X f A tgt (.ref r) vs cv nw nw (n - a).toNat (fun _ _ => True) (fun i v x => x = [] ∧ ∃ t, v = .int (a + i) t) := by
  intro F h tk R
  refine wpAny_pyIter_range (R.get H) (small_one ha ha' hn hn') ?_
  rw [rangeSize_one]
  have es : (if a < n then n - a else 0) = ((n - a).toNat : Int) := by split <;> omega
  rw [es]
  have R' := R.push ({ cls := .type "range_iterator", data := .fields #[rawInt a, rawInt ((n - a).toNat : Int), rawInt 1] } : Obj)
  have W := Walks.range (prog := X.prog) (w := X.w) hh h.objs.size a 1 (n - a).toNat
  have W' : Walks X.prog X.w A h.objs.size [h.objs.size] [h.objs.size] (n - a).toNat (fun i v => ∃ t, v = .int (a + i) t) (fun i h' => IsRangeIter h' h.objs.size (a + (i : Nat) * 1) (((n - a).toNat : Int) - (i : Nat)) 1) :=
    ⟨W.sub, W.frame, fun i s Q E hi st hQ => W.item i s Q E hi st fun v h' tk hP => hQ v h' tk (by simpa using hP), W.done, W.self⟩
  refine ⟨_, _, _, _, _, R', rfl, rfl, rfl, _, [(h.objs.size, _)], ⟨_, rfl, by simp⟩, Its.ofWalks (St := fun i h' => IsRangeIter h' h.objs.size (a + (i : Nat) * 1) (((n - a).toNat : Int) - (i : Nat)) 1) (P := fun i v => ∃ t, v = .int (a + i) t)
    (S := fun i o => o = { cls := .type "range_iterator", data := .fields #[rawInt (a + (i : Nat) * 1), rawInt (((n - a).toNat : Int) - (i : Nat)), rawInt 1] }) W' "range_iterator" ?_ ?_ ?_ ?_ (by decide), rfl⟩
  · intro i h' o f vs cv nw F hS _ R
    have := R.get (nw := (h.objs.size, o) :: nw) (.head _)
    rw [hS] at this; exact this
  · intro i h' q
    exact ⟨_, q, rfl⟩
  · intro i o q; rw [q]
  · intro f vs cv nw o F h' hS R tk Q E hQ
    have := R.get (nw := (h.objs.size, o) :: nw) (.head _)
    rw [hS] at this
    exact wpAny_pyIter_rangeiter this hQ

/-- over a tuple that stands -/
theorem iterTuple {tgt : Expr} {l : Addr} {its : List Value} (hh : A.handled = none) (H : Has f nw l (tu its)) :
    IterOk X f A tgt (.ref l) vs cv nw nw its.length (fun f nw => Has f nw l (tu its)) (fun i v x => x = [] ∧ its[i]? = some v) := by
  intro F h tk R
  have hl : h.IsTuple l its.toArray := ⟨_, R.has H, rfl, _, rfl⟩
  refine wpAny_pyIter_tuple hl ?_
  have hlt : l < h.objs.size := by obtain ⟨o, ho, _⟩ := hl; exact Heap.lt_size ho
  have hne : l ≠ h.objs.size := Nat.ne_of_lt hlt
  have R' := R.push ({ cls := .type "tuple_iterator", data := .fields #[.ref l, .int 0 0] } : Obj)
  have W := Walks.tuple (prog := X.prog) (w := X.w) hh h.objs.size l hne its.toArray
  rw [List.size_toArray] at W
  have W' : Walks X.prog X.w A h.objs.size [h.objs.size, l] [h.objs.size] its.length (fun i v => its[i]? = some v) (fun i h' => h'.IsTupleIter h.objs.size l i ∧ h'.IsTuple l its.toArray) := by
    refine ⟨W.sub, W.frame, fun i s Q E hi st hQ => W.item i s Q E hi st fun v h' tk hP => hQ v h' tk (by simpa using hP), W.done, W.self⟩
  refine ⟨_, _, _, _, _, R', rfl, rfl, rfl, _, [(h.objs.size, _)], ⟨_, rfl, rfl, rfl⟩, Its.ofWalks (S := fun i o => o.cls = .type "tuple_iterator" ∧ o.data = .fields #[.ref l, .int i 0]) W' "tuple_iterator" ?_ ?_ (fun _ _ q => q.1) ?_ (by decide), rfl⟩
  · intro i h' o f vs cv nw F hS hH R
    exact ⟨⟨o, R.get (nw := (h.objs.size, o) :: nw) (.head _), hS.1, hS.2⟩, ⟨_, R.has (hH.mono (nw' := (h.objs.size, o) :: nw) fun _ h => .tail _ h), rfl, _, rfl⟩⟩
  · rintro i h' ⟨⟨o, a, b, c⟩, _⟩
    exact ⟨o, a, b, c⟩
  · intro f vs cv nw o F h' hS R tk Q E hQ
    exact wpAny_pyIter_tupleiter (i := 0) ⟨o, R.get (nw := (h.objs.size, o) :: nw) (.head _), hS.1, hS.2⟩ hQ
end
end
end Mine
namespace Mine
section
open PySem PySem.W PySem.Calls PySem.Spec PyProof.Rows
section
variable {α β : Type} {X : Fx} {f : Fm} {A : Around} {vs cv : Vals} {nw : Led} {env : Env} {K : Frag} {p : Program} {loose : List Str} {mg mb : Str → Option Value}

/-- a code that gives a value -/
def Cp (X : Fx) (f : Fm) (A : Around) (c : Code) (vs cv : Vals) (nw : Led) (Q : Value → Vals → Vals → Led → Prop) : Prop :=
  ∀ F h tk, Rep f vs cv (nw ++ F) h → codeAny (model X.prog X.w) A c (fun r s' => match r with
    | .ok (.ret v) => ∃ vs' cv' nw' h' tk', Rep f vs' cv' (nw' ++ F) h' ∧ s' = { X.s with heap := h', toks := tk' } ∧ Q v vs' cv' nw'
    | _ => False) { X.s with heap := h, toks := tk }
theorem Cp.call {fv : Value} {args : List Value} {Q : Value → Vals → Vals → Led → Prop} (h : Cp X f A (.call fv ⟨args, []⟩) vs cv nw Q) : Wp X f A (call fv args) vs cv nw Q :=
  fun F hp tk R => wpAny_call (codeAny_mono (h F hp tk R) fun r s' q => by
    rcases r with e | (v | _ | _ | _) <;> first | exact q | exact q.elim)
theorem Cp.mono {c : Code} {Q Q' : Value → Vals → Vals → Led → Prop} (h : Cp X f A c vs cv nw Q) (hq : ∀ v vs cv nw, Q v vs cv nw → Q' v vs cv nw) : Cp X f A c vs cv nw Q' :=
  fun F hp tk R => codeAny_mono (h F hp tk R) fun r s' q => by
    rcases r with e | (_ | _ | _ | v)
    · exact q.elim
    · exact q.elim
    · exact q.elim
    · exact q.elim
    · obtain ⟨a, b, c, d, e, g, i, j⟩ := q
      exact ⟨a, b, c, d, e, g, i, hq _ _ _ _ j⟩

/-- Wp.callDef, at the code's level -/
theorem Cp.def' {name qual : Str} {params : Arguments} {body : List Stmt} {scope : Scope} {dV kV doc pm cdv ct oc : Value} {an od : Option Addr} {osl : Array (Option Value)} {fa : Addr} {args : List Value} {xs rest : List Str}
    {Q : Value → Vals → Vals → Led → Prop} (B : Bs K p loose mg mb f.g) (hroom : A.depth < recursionLimit)
    (ho : K.lookup fa = some ⟨oc, od, .func (fnOf name qual params body scope dV kV doc pm an cdv ct), osl⟩) (hcd : codeIn K cdv qual = true)
    (hbind : bindArgs (fnOf name qual params body scope dV kV doc pm an cdv ct) ⟨args, []⟩ = pure (xs.zip args)) (hlen : xs.length = args.length) (hnd : (xs ++ rest).Nodup)
    (hloc : (xs.all fun x => decide (scope.names.lookup x = some .local)) = true) (hcell : (scope.names.all fun x => x.2 != .cell) = true)
    (h : ∀ g' L', (∀ b o, f.g.get? b = some o → g'.get? b = some o) → Bs K p loose mg mb g' →
      Wp X ⟨g', L', xs ++ rest, []⟩ (A.deeper (envOf qual scope L' fa cdv)) (execs body (envOf qual scope L' fa cdv)) (args.map some ++ rest.map fun _ => none) [] nw fun fl _ _ nw' => Q (retOf fl) vs cv nw')
    (hco : scope.isCoroutine = false := by rfl) (hgen : scope.isGenerator = false := by rfl) (hk : scope.kind = .function := by rfl) :
    Cp X f A (.call (.ref fa) ⟨args, []⟩) vs cv nw Q := by
  intro F hp tk R
  have hin := R.kin B
  refine codeAny_call_def (fd := fnOf name qual params body scope dV kV doc pm an cdv ct) (body := body) (binds := xs.zip args) hroom (hin _ _ ho) rfl (B.top.nolimit.keeps R.fr.keep) (codeRec_of hin hcd) rfl (BindsTo.of_eq hbind)
    (fun x hx => by simpa using List.all_eq_true.mp hcell x hx) (fun y hy => by simpa using List.all_eq_true.mp hloc y.1 (List.of_mem_zip hy).1) (fun h₁ hns hk₁ => ?_) hco hgen hk
  have e := vmap_binds (rest := rest) hnd hlen
  obtain ⟨g', g1, g2, g3, R'⟩ := R.enter rfl (e ▸ hns) hk₁
  rw [List.append_assoc] at R'
  refine wpAny_mono (h g' _ g1 (B.keeps g1) (F ++ cellsL f.cs cv) h₁ _ R') (fun fl s' ⟨vs', cv', nw', h', tk', R'', q, hq⟩ => ?_) fun _ _ x => x.elim
  subst q
  rw [← List.append_assoc] at R''
  exact ⟨_, _, _, _, _, R.leave g3 R'', rfl, hq⟩

theorem instAt {F : Led} {h : Heap} {x C dx : Addr} {es : List DictEntry} {n : Nat} (R : Rep f vs cv (nw ++ F) h) (h1 : Has f nw x (instObj C dx)) (h2 : Has f nw dx (dictOf es n)) : InstAt h x (instObj C dx) C (some (dictOf es n)) :=
  ⟨R.has h1, rfl, rfl, R.has h2⟩
section
variable {x C dx : Addr} {es es' : List DictEntry} {n n' : Nat} {name : Str} {v : Value}
protected theorem Wp.getOwn {expr : Bool} {attr : Option Value} {Q : Value → Vals → Vals → Led → Prop} (B : Bs K p loose mg mb f.g) (h1 : Has f nw x (instObj C dx)) (h2 : Has f nw dx (dictOf es n)) (hg : plainGet K C name = true) (hh : hasDictIn K C = true)
    (ha : findIn K (.ref C) name = some attr) (hn : noGet K attr = true) (hl : getL name es = some (some v)) (hv : handedIn v = true) (h : Q v vs cv nw) : Wp X f A (getAttr (.ref x) name expr) vs cv nw Q :=
  fun F hp tk R => get_own R.fr B.kin (instAt R h1 h2) hg hh ha hn hl hv ⟨_, _, _, _, _, R, rfl, h⟩
protected theorem Wp.methInst {pl : Sem Bool} {fa : Addr} {Q : Value × List Value → Vals → Vals → Led → Prop} (B : Bs K p loose mg mb f.g) (h1 : Has f nw x (instObj C dx)) (h2 : Has f nw dx (dictOf es n)) (hg : plainGet K C name = true)
    (hf : findIn K (.ref C) name = some (some (.ref fa))) (ht : isFn K (.ref fa) = true) (hl : getL name es = some none) (h : Q (.ref fa, [.ref x]) vs cv nw) : Wp X f A (getMethod (.ref x) name pl) vs cv nw Q :=
  fun F hp tk R => method_inst R.fr B.kin (instAt R h1 h2) hg hf ht hl ⟨_, _, _, _, _, R, rfl, h⟩
theorem Up.upd {d : Addr} {o o' : Obj} : ∀ {l l' : Led}, Up d o o' l l' → (l.map (·.1)).Nodup → Upd d o o' l l' := by
  intro l l' u nd
  obtain ⟨pre, post, rfl, rfl⟩ := u.split
  clear u
  induction pre with
  | nil =>
    refine Upd.head fun p hp e => ?_
    exact (List.nodup_cons.mp nd).1 (List.mem_map.mpr ⟨p, hp, e⟩)
  | cons q r ih =>
    have nd' := List.nodup_cons.mp nd
    exact Upd.tail (fun e => nd'.1 (List.mem_map.mpr ⟨(d, o), List.mem_append_right _ (.head _), e.symm⟩)) (ih nd'.2)
protected theorem Wp.setOwn {Q : Unit → Vals → Vals → Led → Prop} (B : Bs K p loose mg mb f.g) (h1 : Has f nw x (instObj C dx)) (hs : findIn K (.ref C) "__setattr__" = some (some (.builtin "object.__setattr__")))
    (hp' : plainOver K C = true) (ht : takerIn K C name = some none) (hh : hasDictIn K C = true) (hl : (getL name es).isSome = true)
    (u : ∀ t, ∃ es' n', (putL name (PyData.keyHash X.w.params name) (.str name t) v es, putN name es n) = (es', n') ∧ es'.length ≤ 1000 ∧ ∃ nw', Up dx (dictOf es n) (dictOf es' n') nw nw' ∧ Q () vs cv nw') :
    Wp X f A (setAttr (.ref x) name v) vs cv nw Q := by
  intro F hp tk R
  obtain ⟨es', n', e, hz, nw', u, hq⟩ := u (tk + 1)
  have U : Upd dx (dictOf es n) (dictOf es' n') (cellsL f.cs cv ++ (nw ++ F)) (cellsL f.cs cv ++ (nw' ++ F)) := Up.upd (.right (.left u)) R.nd
  refine set_dict R.fr B.kin R.news (instAt R h1 (.mem u.mem)) rfl hs hp' ht hh hl e U hz fun h' F' N' => ⟨_, _, _, h', _, ⟨F', N', ?_⟩, rfl, hq⟩
  obtain ⟨pre, post, e1, e2⟩ := u.split
  have : ((cellsL f.cs cv ++ (nw' ++ F)).map (·.1)) = ((cellsL f.cs cv ++ (nw ++ F)).map (·.1)) := by rw [e1, e2]; simp
  rw [this]; exact R.nd
protected theorem Wp.callCls {args : List Value} {fI : Addr} {Q : Value → Vals → Vals → Led → Prop} (B : Bs K p loose mg mb f.g) (hm : makesIn K C = true) (hi : findIn K (.ref C) "__init__" = some (some (.ref fI))) (hf : isFn K (.ref fI) = true)
    (h : ∀ x dx, Cp X f (A.under (.builtin "type.__call__" ⟨.ref C :: args, []⟩)) (.call (.ref fI) ⟨.ref x :: args, []⟩) vs cv ((x, instObj C dx) :: (dx, dictOf [] 0) :: nw) fun v vs cv nw => v = .none ∧ Q (.ref x) vs cv nw) :
    Wp X f A (call (.ref C) args) vs cv nw Q := by
  intro F hp tk R
  refine call_cls R.fr B.kin R.news hm hi hf fun x dx h' F' N' l1 l2 => ?_
  have R' : Rep f vs cv (((x, instObj C dx) :: (dx, dictOf [] 0) :: nw) ++ F) h' := by
    refine ⟨F', fun q hq => N' q ?_, ?_⟩
    · rcases List.mem_append.mp hq with h1 | h1
      · exact .tail _ (.tail _ (List.mem_append_left _ h1))
      · rcases List.mem_cons.mp h1 with rfl | h1
        · exact .head _
        · rcases List.mem_cons.mp h1 with rfl | h1
          · exact .tail _ (.head _)
          · exact .tail _ (.tail _ (List.mem_append_right _ h1))
    · have nd := R.nd
      have e : ((cellsL f.cs cv ++ (((x, instObj C dx) :: (dx, dictOf [] 0) :: nw) ++ F)).map (·.1)).Perm (x :: dx :: (cellsL f.cs cv ++ (nw ++ F)).map (·.1)) := by
        have : (cellsL f.cs cv ++ (((x, instObj C dx) :: (dx, dictOf [] 0) :: nw) ++ F)).Perm ((x, instObj C dx) :: (dx, dictOf [] 0) :: (cellsL f.cs cv ++ (nw ++ F))) :=
          List.perm_middle.trans (List.Perm.cons _ List.perm_middle)
        exact this.map _
      rw [e.nodup_iff]
      have ne : ∀ q ∈ cellsL f.cs cv ++ (nw ++ F), q.1 < dx := fun q hq => l1 q hq
      refine List.nodup_cons.mpr ⟨fun hm => ?_, List.nodup_cons.mpr ⟨fun hm => ?_, nd⟩⟩
      · rcases List.mem_cons.mp hm with h1 | h1
        · exact Nat.lt_irrefl _ (h1 ▸ l2)
        · obtain ⟨q, hq, e⟩ := List.mem_map.mp h1
          exact Nat.lt_irrefl _ (Nat.lt_trans (e ▸ ne q hq : x < dx) l2)
      · obtain ⟨q, hq, e⟩ := List.mem_map.mp hm
        exact Nat.lt_irrefl _ (e ▸ ne q hq : dx < dx)
  refine codeAny_mono (h x dx F h' tk R') fun r s' q => ?_
  rcases r with e | (_ | _ | _ | v)
  · exact q.elim
  · exact q.elim
  · exact q.elim
  · exact q.elim
  · obtain ⟨a, b, c, d, e, g, i, j, k⟩ := q
    exact ⟨j, a, b, c, d, e, g, i, k⟩
protected theorem Wp.lenInst {fa : Addr} {Q : Value → Vals → Vals → Led → Prop} (B : Bs K p loose mg mb f.g) (h1 : Has f nw x (instObj C dx)) (h2 : Has f nw dx (dictOf es n)) (hs : findIn K (.ref C) "__len__" = some (some (.ref fa))) (hf : isFn K (.ref fa) = true)
    (h : Wp X f A.in1 (call (.ref fa) [.ref x]) vs cv nw fun v vs cv nw => ∃ i t, v = .int i t ∧ 0 ≤ i ∧ i < 2 ^ 63 ∧ ∀ t, Q (.int i t) vs cv nw) : Wp X f A (call (.builtin "len") [.ref x]) vs cv nw Q :=
  fun F hp tk R => len_K R.fr B.kin (instAt R h1 h2) hs hf (h.go R fun v _ _ _ _ _ R1 ⟨i, t, e, h0, h1, hq⟩ => by subst e; exact ⟨⟨h0, h1⟩, _, _, _, _, _, R1, rfl, hq _⟩)
protected theorem Wp.subInst {value slice : Expr} {i : Value} {fa : Addr} {Q : Value → Vals → Vals → Led → Prop} (B : Bs K p loose mg mb f.g) (h1 : Has f nw x (instObj C dx)) (h2 : Has f nw dx (dictOf es n)) (hs : findIn K (.ref C) "__getitem__" = some (some (.ref fa))) (hf : fnIn K fa = true) (hfn : isFn K (.ref fa) = true)
    (h : Wp X f A.in1 (call (.ref fa) [.ref x, i]) vs cv nw Q) (hsl : subscripted slice true (.ref x) i = runValue (.builtin "lifetime.subscript" ⟨[.ref x, i], []⟩)) : Wp X f A (subscriptTail value slice (.ref x) i) vs cv nw Q :=
  fun F hp tk R => sub_K R.fr B.kin (instAt R h1 h2) hs hf hfn (h F hp tk R) hsl
/-- a slice of an own instance: its __getitem__ by the plain road -/
protected theorem Wp.opInst {op : Operator} {y dy : Addr} {es2 : List DictEntry} {n2 : Nat} {fa : Addr} {Q : Value → Vals → Vals → Led → Prop} (B : Bs K p loose mg mb f.g) (h1 : Has f nw x (instObj C dx)) (h2 : Has f nw dx (dictOf es n)) (k1 : Has f nw y (instObj C dy)) (k2 : Has f nw dy (dictOf es2 n2))
    (hc : selfFirst K C = true) (hs : findIn K (.ref C) (PySem.dunder op.info.2) = some (some (.ref fa))) (hf : isFn K (.ref fa) = true)
    (h : Wp X f A (call (.ref fa) [.ref x, .ref y]) vs cv nw fun v vs cv nw => v ≠ .notImplemented ∧ Q v vs cv nw) : Wp X f A (binaryOp op (.ref x) (.ref y)) vs cv nw Q :=
  fun F hp tk R => binop_K R.fr B.kin (instAt R h1 h2) (instAt R k1 k2).type hc hs hf (h.go R fun v _ _ _ _ _ R1 h1 => by
    obtain ⟨hne, hq⟩ := h1
    unfold PySem.W.CmpBack
    split
    · exact hne rfl
    · exact ⟨_, _, _, _, _, R1, rfl, hq⟩)
end
end
end
end Mine
namespace Mine
section
open PySem PySem.W PySem.Calls PySem.Spec PyProof.Rows
section
variable {prog : Program} {w : World} 
theorem zip_new_in (a b : Value) : MeetsIn prog w (Builtin.«zip.__new__» ⟨[.type "zip", a, b], []⟩) (fun A R s => 
  wpAny (model prog w) A.in1 (pyIter a) (fun v1 s1 => wpAny (model prog w) A.in1 (pyIter b) (fun v2 s2 => R (.ok (.ret (.ref (s2.heap.objs.size + 2)))) { s2 with heap := ((s2.heap.push (tu [v1, v2])).push (tu [.none, .none])).push { cls := .type "zip", data := .fields #[.none, .bool false, .bool false, .ref s2.heap.objs.size, .ref (s2.heap.objs.size + 1)] } }) (fun e s' => R (.error e) s') s1) (fun e s' => R (.error e) s') s) :=
  .of_wp fun A R s h => by
    obtain ⟨hp, g, d, tk, os⟩ := s
    have hsub := sub_zip
    have ha : ∀ {Q : Value → Shared → Prop}, (∀ v1 s1, wpAny (model prog w) A.in1 (pyIter b) (fun v2 s2 => R (.ok (.ret (.ref (s2.heap.objs.size + 2)))) { s2 with heap := ((s2.heap.push (tu [v1, v2])).push (tu [.none, .none])).push { cls := .type "zip", data := .fields #[.none, .bool false, .bool false, .ref s2.heap.objs.size, .ref (s2.heap.objs.size + 1)] } }) (fun e s' => R (.error e) s') s1 → Q v1 s1) → wpAny (model prog w) A.in1 (pyIter a) Q (fun e s' => R (.error e) s') ⟨hp, g, d, tk, os⟩ := fun k => wpAny_mono h k fun _ _ x => x
    wp_walk using ha
    intro v1 s1 h1
    obtain ⟨hp1, g1, d1, tk1, os1⟩ := s1
    have hb : ∀ {Q : Value → Shared → Prop}, (∀ v2 s2, R (.ok (.ret (.ref (s2.heap.objs.size + 2)))) { s2 with heap := ((s2.heap.push (tu [v1, v2])).push (tu [.none, .none])).push { cls := .type "zip", data := .fields #[.none, .bool false, .bool false, .ref s2.heap.objs.size, .ref (s2.heap.objs.size + 1)] } } → Q v2 s2) → wpAny (model prog w) A.in1 (pyIter b) Q (fun e s' => R (.error e) s') ⟨hp1, g1, d1, tk1, os1⟩ := fun k => wpAny_mono h1 k fun _ _ x => x
    wp_walk using hb
    intro v2 s2 h2
    obtain ⟨hp2, g2, d2, tk2, os2⟩ := s2
    wp_walk
    refine ⟨_, rfl, ?_⟩
    simp only [Heap.size_push]
    exact h2
theorem enum_new_in (a : Value) : MeetsIn prog w (Builtin.«enumerate.__new__» ⟨[.type "enumerate", a], []⟩) (fun A R s => 
  wpAny (model prog w) A.in1 (pyIter a) (fun v1 s1 => R (.ok (.ret (.ref s1.heap.objs.size))) { s1 with heap := s1.heap.push { cls := .type "enumerate", data := .fields #[.none, .bool false, v1, rawInt 0, .none, .none] } }) (fun e s' => R (.error e) s') s) :=
  .of_wp fun A R s h => by
    obtain ⟨hp, g, d, tk, os⟩ := s
    have hsub := sub_enumerate
    have ha : ∀ {Q : Value → Shared → Prop}, (∀ v1 s1, R (.ok (.ret (.ref s1.heap.objs.size))) { s1 with heap := s1.heap.push { cls := .type "enumerate", data := .fields #[.none, .bool false, v1, rawInt 0, .none, .none] } } → Q v1 s1) → wpAny (model prog w) A.in1 (pyIter a) Q (fun e s' => R (.error e) s') ⟨hp, g, d, tk, os⟩ := fun k => wpAny_mono h k fun _ _ x => x
    wp_walk
    refine wpAny_stack_any fun st => wpAny_pure ?_
    split
    · rename_i c _ _ _ _ _
      cases (c == Value.type "enumerate")
      · wp_walk using ha
        intro v1 s1 h1
        obtain ⟨hp1, g1, d1, tk1, os1⟩ := s1
        wp_walk
        exact ⟨_, rfl, h1⟩
      · wp_walk using ha
        intro v1 s1 h1
        obtain ⟨hp1, g1, d1, tk1, os1⟩ := s1
        wp_walk
        exact ⟨_, rfl, h1⟩
    · wp_walk using ha
      intro v1 s1 h1
      obtain ⟨hp1, g1, d1, tk1, os1⟩ := s1
      wp_walk
      exact ⟨_, rfl, h1⟩
end
section
variable {α β : Type} {X : Fx} {f : Fm} {A : Around} {vs cv : Vals} {nw : Led} {env : Env} {K : Frag} {p : Program} {loose : List Str} {mg mb : Str → Option Value}
abbrev zipO (f0 : Value) (TI TO : Addr) : Obj := { cls := .type "zip", dict := none, data := .fields #[f0, .bool false, .bool false, .ref TI, .ref TO], slots := #[] }
abbrev enO (f0 : Value) (it : Addr) (i : Int) (old : Value) : Obj := { cls := .type "enumerate", dict := none, data := .fields #[f0, .bool false, .ref it, rawInt i, .none, old], slots := #[] }
abbrev liO (l : Addr) (i : Nat) : Obj := { cls := .type "list_iterator", data := .fields #[.ref l, .int i 0] }

protected theorem Wp.zip {a b : Value} {Q : Value → Vals → Vals → Led → Prop} (h : Wp X f A.in1.in1 (pyIter a) vs cv nw fun v1 vs cv nw => Wp X f A.in1.in1 (pyIter b) vs cv nw fun v2 vs cv nw =>
    ∀ z TI TO, Q (.ref z) vs cv ((z, zipO .none TI TO) :: (TO, tu [.none, .none]) :: (TI, tu [v1, v2]) :: nw)) : Wp X f A (call (.type "zip") [a, b]) vs cv nw Q := by
  intro G hp tk R
  refine callType_newIn F.called_zip (by decide) (F.typeCall_zip_2 _ _) (F.newCall_zip_2 _ _) (fun obj => F.args_object_init_3 obj _ _) F.entry_zip_new (zip_new_in a b) ?_
  refine wpAny_mono (E := fun _ _ => False) (h.go R fun v1 vs cv nw h1 tk1 R1 hq => ?_) (fun _ _ x => x) fun _ _ x => x.elim
  refine wpAny_mono (E := fun _ _ => False) (hq.go R1 fun v2 vs cv nw h2 tk2 R2 hq => ?_) (fun _ _ x => x) fun _ _ x => x.elim
  have R3 := R2.push (tu [v1, v2])
  have R4 := R3.push (nw := (_, _) :: nw) (tu [.none, .none])
  have R5 := R4.push (nw := (_, _) :: (_, _) :: nw) (zipO .none h2.objs.size (h2.objs.size + 1))
  simp only [Heap.size_push] at R4 R5
  refine ⟨⟨_, Rep.get (nw := (_, _) :: (_, _) :: (_, _) :: nw) R5 (.head _), rfl⟩, ?_⟩
  exact ⟨_, _, _, _, _, R5, rfl, hq _ _ _⟩
protected theorem Wp.enumerate {a : Value} {Q : Value → Vals → Vals → Led → Prop} (h : Wp X f A.in1.in1 (pyIter a) vs cv nw fun v1 vs cv nw => 
    ∀ z, Q (.ref z) vs cv ((z, ({ cls := .type "enumerate", data := .fields #[.none, .bool false, v1, rawInt 0, .none, .none] } : Obj)) :: nw)) : Wp X f A (call (.type "enumerate") [a]) vs cv nw Q := by
  intro G hp tk R
  refine callType_newIn F.called_enumerate (by decide) (F.typeCall_enumerate_1 _) (F.newCall_enumerate_1 _) (fun obj => F.args_object_init_2 obj _) F.entry_enumerate_new (enum_new_in a) ?_
  refine wpAny_mono (E := fun _ _ => False) (h.go R fun v1 vs cv nw h1 tk1 R1 hq => ?_) (fun _ _ x => x) fun _ _ x => x.elim
  have R3 := R1.push ({ cls := .type "enumerate", data := .fields #[.none, .bool false, v1, rawInt 0, .none, .none] } : Obj)
  refine ⟨⟨_, Rep.get (nw := (_, _) :: nw) R3 (.head _), rfl⟩, ?_⟩
  exact ⟨_, _, _, _, _, R3, rfl, hq _⟩
/-- iter(l) of a list -/
protected theorem Wp.iterL {l : Addr} {its : List Value} {k : Nat} {Q : Value → Vals → Vals → Led → Prop} (H : Has f nw l (lo its k)) (h : ∀ i, Q (.ref i) vs cv ((i, liO l 0) :: nw)) : Wp X f A (call (.builtin "iter") [.ref l]) vs cv nw Q := by
  intro F hp tk R
  refine call_function_entry (by decide +kernel) (by decide +kernel) kdk_entry_iter (kdk_args_iter _) ?_
  unfold Builtin.«iter»
  refine wpAny_bind (m := someArgs "iter" 1 2 _) (wpAny_of_eq (a := [Value.ref l]) (by first | rfl | kernel_rfl!) ?_)
  show wpAny _ _ (pyIter (.ref l) >>= _) _ _ _
  refine wpAny_bind (wpAny_pyIter_list (H.list R) ?_)
  exact wpAny_pure ⟨_, rfl, _, _, _, _, _, R.push (liO l 0), rfl, h _⟩
/-- an own instance's __iter__ that gives a list's iterator -/
protected theorem Wp.iterInst {x C dx fa : Addr} {es : List DictEntry} {n : Nat} {Q : Value → Vals → Vals → Led → Prop} (B : Bs K p loose mg mb f.g) (h1 : Has f nw x (instObj C dx)) (h2 : Has f nw dx (dictOf es n)) (hs : findIn K (.ref C) "__iter__" = some (some (.ref fa))) (hf : isFn K (.ref fa) = true)
    (h : Wp X f A (call (.ref fa) [.ref x]) vs cv nw fun v vs cv nw => ∃ i l, v = .ref i ∧ (∃ k, (i, liO l k) ∈ nw) ∧ Q v vs cv nw) : Wp X f A (pyIter (.ref x)) vs cv nw Q :=
  fun F hp tk R => owit_iter R.fr B.kin (instAt R h1 h2) hs hf (h.go R fun v _ _ _ _ _ R1 ⟨i, l, e, ⟨k, hm⟩, hq⟩ => by
    subst e
    exact wpAny_specialOf (name := Str.ofString "__next__") (T := "list_iterator") ⟨_, R1.get hm, rfl⟩ slot_listiter_next.lookup ⟨_, _, _, _, _, R1, rfl, hq⟩)
end
end
end Mine
namespace Mine
section
open PySem PySem.W PySem.Calls PySem.Spec PyProof.Rows
section
variable {α β : Type} {X : Fx} {f : Fm} {A : Around} {vs cv : Vals} {nw : Led} {env : Env}
theorem ne_get {h : Heap} {a b : Addr} {o o' : Obj} (ha : h.get? a = some o) (hb : h.get? b = some o') (hc : o.cls ≠ o'.cls) : a ≠ b := fun e => by
  subst e; rw [ha] at hb; cases hb; exact hc rfl
theorem Rep.nds {n : Led} {h : Heap} (R : Rep f vs cv n h) : (n.map (·.1)).Nodup := by
  have nd := R.nd
  simp only [List.map_append, List.nodup_append] at nd ⊢
  exact nd.2.1

structure LiAt (o : Obj) (l : Addr) (i : Nat) : Prop where
  cls : o.cls = .type "list_iterator"
  data : o.data = .fields #[.ref l, .int i 0]
theorem LiAt.mk' (l : Addr) : LiAt (liO l 0) l 0 := ⟨rfl, rfl⟩
/-- over zip of two lists -/
theorem iterZip {elts : List Expr} {x1} {pos : Pos} {z TO TI i1 i2 l1 l2 : Addr} {its1 its2 : List Value} {k1 k2 : Nat} {nw₁ : Led} (hh : A.handled = none) (hn : nw = (z, zipO .none TI TO) :: (TO, tu [.none, .none]) :: (TI, tu [.ref i1, .ref i2]) :: (i2, liO l2 0) :: (i1, liO l1 0) :: nw₁) :
    IterOk X f A (.Tuple elts x1 pos) (.ref z) vs cv nw nw₁ (min its1.length its2.length) (fun f nw => Has f nw l1 (lo its1 k1) ∧ Has f nw l2 (lo its2 k2))
      (fun i v x => ∃ T a b, v = .ref T ∧ x = [(T, tu [a, b])] ∧ its1[i]? = some a ∧ its2[i]? = some b) := by
  subst hn
  let own : Nat → Led → Prop := fun i e => ∃ a b o1 o2, e = [(z, zipO .none TI TO), (TO, tu [a, b]), (TI, tu [.ref i1, .ref i2]), (i2, o2), (i1, o1)] ∧ LiAt o1 l1 i ∧ LiAt o2 l2 i
  have apart : ∀ {f : Fm} {vs cv nw i e G h}, own i e → Has f nw l1 (lo its1 k1) ∧ Has f nw l2 (lo its2 k2) → Rep f vs cv ((e ++ nw) ++ G) h → ∃ a b, ZipApart z TI TO i1 i2 l1 l2 ∧ IsZip h z TI TO .none ∧ IsPair h TI (.ref i1) (.ref i2) ∧ IsPair h TO a b ∧
      h.IsListIter i1 l1 i ∧ h.IsListIter i2 l2 i ∧ h.IsList l1 its1.toArray ∧ h.IsList l2 its2.toArray := by
    rintro f vs cv nw i e G h ⟨a, b, o1, o2, rfl, w1, w2⟩ ⟨H1, H2⟩ R
    have L1 := (H1.mono (nw' := [(z, zipO .none TI TO), (TO, tu [a, b]), (TI, tu [.ref i1, .ref i2]), (i2, o2), (i1, o1)] ++ nw) fun _ h => List.mem_append_right _ h)
    have L2 := (H2.mono (nw' := [(z, zipO .none TI TO), (TO, tu [a, b]), (TI, tu [.ref i1, .ref i2]), (i2, o2), (i1, o1)] ++ nw) fun _ h => List.mem_append_right _ h)
    have g1 := R.has L1
    have g2 := R.has L2
    have gz := R.get (a := z) (o := zipO .none TI TO) (by simp)
    have gTO := R.get (a := TO) (o := tu [a, b]) (by simp)
    have gTI := R.get (a := TI) (o := tu [.ref i1, .ref i2]) (by simp)
    have gi1 := R.get (a := i1) (o := o1) (by simp)
    have gi2 := R.get (a := i2) (o := o2) (by simp)
    have nd := R.nds
    simp only [List.cons_append, List.nil_append, List.map_cons, List.nodup_cons, List.mem_cons, not_or] at nd
    refine ⟨a, b, ⟨ne_get gTI gz (by simp), ne_get gTO gz (by simp), ne_get gi1 gz (by simp [w1.cls]), ne_get gi2 gz (by simp [w2.cls]), Ne.symm nd.2.1.1, ne_get gTI gi1 (by simp [w1.cls]), ne_get gTI gi2 (by simp [w2.cls]), ne_get gTO gi1 (by simp [w1.cls]), ne_get gTO gi2 (by simp [w2.cls]), Ne.symm nd.2.2.2.1.1,
      ne_get g1 gz (by simp [lo]), ne_get g1 gTO (by simp [lo]), ne_get g1 gi1 (by simp [lo, w1.cls]), ne_get g1 gi2 (by simp [lo, w2.cls]), ne_get g2 gz (by simp [lo]), ne_get g2 gTO (by simp [lo]), ne_get g2 gi1 (by simp [lo, w1.cls]), ne_get g2 gi2 (by simp [lo, w2.cls])⟩,
      gz, gTI, gTO, ⟨o1, gi1, w1.cls, w1.data⟩, ⟨o2, gi2, w2.cls, w2.data⟩, L1.list R, L2.list R⟩
  intro G h tk R
  refine wpAny_pyIter_zip (R.get (a := z) (o := zipO .none TI TO) (by simp)) ⟨vs, cv, _, h, tk, R, rfl, rfl, rfl, own, [(z, zipO .none TI TO), (TO, tu [.none, .none]), (TI, tu [.ref i1, .ref i2]), (i2, liO l2 0), (i1, liO l1 0)], ⟨_, _, _, _, rfl, LiAt.mk' _, LiAt.mk' _⟩, ?_, rfl⟩
  refine ⟨fun f vs cv nw e i hi he hS G h tk R => ?_, fun f vs cv nw e he hS G h tk R => ?_, fun f vs cv nw e he G h tk R => ?_⟩
  · obtain ⟨a, b, D, gz, gTI, gTO, g1, g2, L1, L2⟩ := apart he hS R
    obtain ⟨x, hx⟩ : ∃ x, its1[i]? = some x := ⟨_, List.getElem?_eq_getElem (by omega)⟩
    obtain ⟨y, hy⟩ : ∃ y, its2[i]? = some y := ⟨_, List.getElem?_eq_getElem (by omega)⟩
    refine wpAny_pyNext_zip_item D gz gTI gTO g1 g2 L1 L2 (x := x) (y := y) (by simpa using hx) (by simpa using hy) fun h' z' TO' j1 j2 T' hsz hk => ?_
    obtain ⟨o1', p1, q1, r1⟩ := j1
    obtain ⟨o2', p2, q2, r2⟩ := j2
    obtain ⟨a, b, o1, o2, rfl, w1, w2⟩ := he
    have gT := hk TI _ D.TIz D.TITO D.TIi1 D.TIi2 gTI
    have R' := Rep.change (e := [(z, zipO .none TI TO), (TO, tu [a, b]), (TI, tu [.ref i1, .ref i2]), (i2, o2), (i1, o1)]) (e' := [(z, zipO (rawInt h.objs.size) TI TO), (TO, tu [x, y]), (TI, tu [.ref i1, .ref i2]), (i2, o2'), (i1, o1')]) (x := [(h.objs.size, tu [x, y])]) (n := nw ++ G) (by rw [← List.append_assoc]; exact R) rfl
      (fun b o hb q => by
        simp only [List.map_cons, List.map_nil, List.mem_cons, List.not_mem_nil, or_false, not_or] at hb
        exact hk b o hb.1 hb.2.1 hb.2.2.2.2 hb.2.2.2.1 q)
      (fun p hp => by
        simp only [List.mem_cons, List.not_mem_nil, or_false] at hp
        rcases hp with rfl | rfl | rfl | rfl | rfl
        · exact z'
        · exact TO'
        · exact gT
        · exact p2
        · exact p1)
      (fun p hp => by rw [List.mem_singleton.mp hp]; exact ⟨T', Heap.get?_none_of_le (Nat.le_refl _)⟩) (by simp)
    refine ⟨vs, cv, (h.objs.size, tu [x, y]) :: ([(z, zipO (rawInt h.objs.size) TI TO), (TO, tu [x, y]), (TI, tu [.ref i1, .ref i2]), (i2, o2'), (i1, o1')] ++ nw), h', tk, by simpa using R', rfl, rfl, rfl, _, rfl, ?_⟩
    intro G2 h2 tk2 R2
    refine wpAny_letOwnedTupleGo_zip (R2.get (a := z) (o := zipO (rawInt h.objs.size) TI TO) (by simp)) fun h3 z3 hs3 => ?_
    refine ⟨vs, cv, (h.objs.size, tu [x, y]) :: ([(z, zipO .none TI TO), (TO, tu [x, y]), (TI, tu [.ref i1, .ref i2]), (i2, o2'), (i1, o1')] ++ nw), h3, tk2, R2.upd (.tail (.left .head)) hs3 z3, rfl, rfl, rfl, _, [(h.objs.size, tu [x, y])], ⟨_, _, _, _, rfl, ⟨q1, by simpa using r1⟩, ⟨q2, by simpa using r2⟩⟩, ⟨_, _, _, rfl, rfl, hx, hy⟩, rfl⟩
  · obtain ⟨a, b, D, gz, gTI, gTO, g1, g2, L1, L2⟩ := apart he hS R
    refine wpAny_pyNext_zip_end hh D gz gTI gTO g1 g2 L1 L2 (by
      by_cases c : its1.length ≤ its2.length
      · left; simp [Nat.min_eq_left c]
      · right; simp; omega) fun h' hk => ?_
    obtain ⟨a, b, o1, o2, rfl, w1, w2⟩ := he
    refine ⟨vs, cv, nw, h', tk, Rep.drops (n := nw ++ G) (by rw [← List.append_assoc]; exact R) (fun b o hb q => ?_), rfl, rfl, rfl, rfl, rfl⟩
    simp only [List.map_cons, List.map_nil, List.mem_cons, List.not_mem_nil, or_false, not_or] at hb
    exact hk b o hb.1 hb.2.1 hb.2.2.2.2 hb.2.2.2.1 q
  · obtain ⟨a, b, o1, o2, rfl, w1, w2⟩ := he
    exact wpAny_pyIter_zip (R.get (a := z) (o := zipO .none TI TO) (by simp)) ⟨_, _, _, _, _, R, rfl, rfl, rfl, rfl, rfl⟩

/-- over enumerate of a list -/
theorem iterEnum {elts : List Expr} {x1} {pos : Pos} {z it l : Addr} {its : List Value} {k : Nat} {nw₁ : Led} (hh : A.handled = none) (hn : nw = (z, enO .none it 0 .none) :: (it, liO l 0) :: nw₁) :
    IterOk X f A (.Tuple elts x1 pos) (.ref z) vs cv nw nw₁ its.length (fun f nw => Has f nw l (lo its k))
      (fun i v x => ∃ T t a, v = .ref T ∧ x = [(T, tu [.int i t, a])] ∧ its[i]? = some a) := by
  subst hn
  let own : Nat → Led → Prop := fun i e => ∃ old o1, e = [(z, enO .none it i old), (it, o1)] ∧ LiAt o1 l i
  intro G h tk R
  refine wpAny_pyIter_enum (i := 0) (it := it) (old := .none) (R.get (a := z) (o := enO .none it 0 .none) (by simp)) ⟨vs, cv, _, h, tk, R, rfl, rfl, rfl, own, [(z, enO .none it 0 .none), (it, liO l 0)], ⟨_, _, rfl, LiAt.mk' _⟩, ?_, rfl⟩
  refine ⟨fun f vs cv nw e i hi he hS G h tk R => ?_, fun f vs cv nw e he hS G h tk R => ?_, fun f vs cv nw e he G h tk R => ?_⟩
  · obtain ⟨old, o1, rfl, w1⟩ := he
    obtain ⟨x, hx⟩ : ∃ x, its[i]? = some x := ⟨_, List.getElem?_eq_getElem hi⟩
    have L1 := (hS.mono (nw' := [(z, enO .none it i old), (it, o1)] ++ nw) fun _ h => List.mem_append_right _ h).list R
    have gz := R.get (a := z) (o := enO .none it i old) (by simp)
    have gi := R.get (a := it) (o := o1) (by simp)
    refine wpAny_pyNext_enum_item (i := i) (items := its.toArray) (x := x) gz ⟨o1, gi, w1.cls, w1.data⟩ L1 (by simpa using hx) (ne_get gz gi (by simp [w1.cls])) fun h' e' j1 T' hsz hk => ?_
    obtain ⟨o1', p1, q1, r1⟩ := j1
    have R' := Rep.change (e := [(z, enO .none it i old), (it, o1)]) (e' := [(z, enO (rawInt h.objs.size) it ((i : Int) + 1) x), (it, o1')]) (x := [(h.objs.size, tu [.int i tk, x])]) (n := nw ++ G) (by rw [← List.append_assoc]; exact R) rfl
      (fun b o hb q => by
        simp only [List.map_cons, List.map_nil, List.mem_cons, List.not_mem_nil, or_false, not_or] at hb
        exact hk b o hb.1 hb.2 q)
      (fun p hp => by
        simp only [List.mem_cons, List.not_mem_nil, or_false] at hp
        rcases hp with rfl | rfl
        · exact e'
        · exact p1)
      (fun p hp => by rw [List.mem_singleton.mp hp]; exact ⟨T', Heap.get?_none_of_le (Nat.le_refl _)⟩) (by simp)
    refine ⟨vs, cv, (h.objs.size, tu [.int i tk, x]) :: ([(z, enO (rawInt h.objs.size) it ((i : Int) + 1) x), (it, o1')] ++ nw), h', tk + 1, by simpa using R', rfl, rfl, rfl, _, rfl, ?_⟩
    intro G2 h2 tk2 R2
    refine wpAny_letOwnedTupleGo_enum (e := z) (it := it) (i := (i : Int) + 1) (item := x) (R2.get (a := z) (o := enO (rawInt h.objs.size) it ((i : Int) + 1) x) (by simp)) fun h3 z3 hs3 => ?_
    refine ⟨vs, cv, (h.objs.size, tu [.int i tk, x]) :: ([(z, enO .none it ((i : Int) + 1) x), (it, o1')] ++ nw), h3, tk2, R2.upd (.tail (.left .head)) hs3 z3, rfl, rfl, rfl, _, [(h.objs.size, tu [.int i tk, x])], ⟨x, o1', by push_cast; rfl, ⟨q1, by simpa using r1⟩⟩, ⟨_, _, _, rfl, rfl, hx⟩, rfl⟩
  · obtain ⟨old, o1, rfl, w1⟩ := he
    have L1 := (hS.mono (nw' := [(z, enO .none it its.length old), (it, o1)] ++ nw) fun _ h => List.mem_append_right _ h).list R
    have gz := R.get (a := z) (o := enO .none it its.length old) (by simp)
    have gi := R.get (a := it) (o := o1) (by simp)
    refine wpAny_pyNext_enum_end hh gz ⟨o1, gi, w1.cls, w1.data⟩ L1 (by simp) fun h' hk => ?_
    refine ⟨vs, cv, nw, h', tk, Rep.drops (n := nw ++ G) (by rw [← List.append_assoc]; exact R) (fun b o hb q => ?_), rfl, rfl, rfl, rfl, rfl⟩
    simp only [List.map_cons, List.map_nil, List.mem_cons, List.not_mem_nil, or_false, not_or] at hb
    exact hk b o hb.2 q
  · obtain ⟨old, o1, rfl, w1⟩ := he
    exact wpAny_pyIter_enum (i := (0 : Nat)) (it := it) (old := old) (R.get (a := z) (o := enO .none it (0 : Nat) old) (by simp)) ⟨_, _, _, _, _, R, rfl, rfl, rfl, rfl, rfl⟩
end
end
end Mine
namespace Mine
section
open PySem PySem.W PySem.Calls PySem.Spec PyProof.Rows
section
variable {α β : Type} {X : Fx} {f : Fm} {A : Around} {vs cv : Vals} {nw : Led} {env : Env} {K : Frag} {p : Program} {loose : List Str} {mg mb : Str → Option Value}
/-- room that is left -/
structure Rm (A : Around) (n : Nat) : Prop where
  hh : A.handled = none
  dp : A.depth + n < recursionLimit
  un : A.units + 8 * n < cLine
theorem Rm.in1 {n : Nat} (r : Rm A (n + 1)) : Rm A.in1 n := ⟨r.hh, by have := r.dp; show A.depth + n < _; omega, by have := r.un; show A.units + 1 + 8 * n < _; omega⟩
theorem Rm.deeper {n : Nat} {e : Env} (r : Rm A (n + 1)) : Rm (A.deeper e) n := ⟨r.hh, by have := r.dp; show A.depth + 1 + n < _; omega, by have := r.un; show A.units + 3 + 8 * n < _; omega⟩
theorem Rm.le {n m : Nat} (r : Rm A n) (h : m ≤ n) : Rm A m := ⟨r.hh, by have := r.dp; omega, by have := r.un; omega⟩
theorem Rm.lim {n : Nat} (r : Rm A n) : A.depth < recursionLimit := by have := r.dp; omega
theorem Rm.uns {n : Nat} (r : Rm A n) : A.units < cLine := by have := r.un; omega
theorem Rep.ext {n : Led} {h h' : Heap} (R : Rep f vs cv n h) (e : Heap.ExtBut h.objs.size h h') : Rep f vs cv n h' :=
  R.same fun b o q => e b o (Nat.ne_of_lt (Heap.lt_size q)) q

protected theorem Wp.inNil {ts : List (Value → Sem Unit)} {Q : Unit → Vals → Vals → Led → Prop} (h : Q () vs cv nw) : Wp X f A (assignInOrder ts []) vs cv nw Q := by
  cases ts <;> exact Wp.pure h
protected theorem Wp.inCons {t : Value → Sem Unit} {ts : List (Value → Sem Unit)} {x : Value} {xs : List Value} {Q : Unit → Vals → Vals → Led → Prop} (h : Wp X f A (t x) vs cv nw fun _ vs cv nw => Wp X f A (assignInOrder ts xs) vs cv nw Q) :
    Wp X f A (assignInOrder (t :: ts) (x :: xs)) vs cv nw Q := .bind (.holding h)
protected theorem Wp.assignTuple {elts : List Expr} {x1} {pos : Pos} {T : Addr} {its : List Value} {Q : Unit → Vals → Vals → Led → Prop} (hh : A.handled = none) (H : Has f nw T (tu its)) (hn : (assignEach elts env).length = its.length) (hs : (assignEach elts env).findIdx? (·.1) = none)
    (h : Wp X f A (assignInOrder ((assignEach elts env).map (·.2)) its) vs cv nw Q) : Wp X f A (assign (.Tuple elts x1 pos) env (.ref T)) vs cv nw Q := by
  intro F hp tk R
  exact wpAny_assign_Tuple (items := its.toArray) hh ⟨_, R.has H, rfl, _, rfl⟩ (by simpa using hn) hs fun h' e => h F h' tk (R.ext e)
protected theorem Wp.unpackTup {T : Addr} {its : List Value} {n : Nat} {Q : List Value → Vals → Vals → Led → Prop} (hh : A.handled = none) (H : Has f nw T (tu its)) (hn : its.length = n) (h : Q its vs cv nw) : Wp X f A (unpackItems (.ref T) n none) vs cv nw Q := by
  subst hn
  intro F hp tk R
  have := wpAny_unpackItems_tuple (prog := X.prog) (w := X.w) (E := fun _ _ => False) (s := { X.s with heap := hp, toks := tk }) (t := T) (items := its.toArray) (Q := fun a s' => ∃ vs' cv' nw' h' tk', Rep f vs' cv' (nw' ++ F) h' ∧ s' = { X.s with heap := h', toks := tk' } ∧ Q a vs' cv' nw') hh ⟨_, R.has H, rfl, _, rfl⟩ fun h' e => ⟨_, _, _, _, _, R.ext e, rfl, h⟩
  simpa using this
theorem wpAny_draw_list {prog : Program} {w : World} {A : Around} {E : Value → Shared → Prop} {it t : Addr} {items : Array Value} (hne : t ≠ it) : ∀ (n i : Nat) (s : Shared) (Q : List Value → Shared → Prop), s.heap.IsListIter it t i → s.heap.IsList t items → i + n ≤ items.size →
    (∀ h', h'.IsListIter it t (i + n) → Heap.SameBut it s.heap h' → Q ((items.toList.drop i).take n) { s with heap := h' }) → wpAny (model prog w) A (draw (.ref it) n) Q E s
  | 0, i, s, Q, hit, _, _, hQ => by
    show wpAny _ _ (pure []) Q E s
    exact wpAny_pure (by simpa using hQ s.heap hit (Heap.SameBut.refl ..))
  | n + 1, i, s, Q, hit, ht, hle, hQ => by
    have hlt : i < items.size := by omega
    show wpAny _ _ (pyNext (.ref it) >>= _) Q E s
    refine wpAny_bind (wpAny_pyNext_list_item hit ht (x := items[i]) (by simp [hlt]) fun h₁ hit₁ hs₁ => ?_)
    refine wpAny_bind (wpAny_holding (wpAny_draw_list hne n (i + 1) _ _ hit₁ (ht.extBut hs₁.extBut hne) (by omega) fun h₂ hit₂ hs₂ => wpAny_pure ?_))
    have hd : items.toList.drop i = items[i] :: items.toList.drop (i + 1) := by simp [List.drop_eq_getElem_cons, hlt]
    have := hQ h₂ (by rw [show i + (n + 1) = i + 1 + n by omega]; exact hit₂) (hs₁.trans hs₂)
    rw [hd, List.take_succ_cons] at this
    exact this
protected theorem Wp.unpackL {T : Addr} {its : List Value} {k : Nat} {n : Nat} {Q : List Value → Vals → Vals → Led → Prop} (hh : A.handled = none) (H : Has f nw T (lo its k)) (hn : its.length = n) (h : Q its vs cv nw) : Wp X f A (unpackItems (.ref T) n none) vs cv nw Q := by
  subst hn
  intro F hp tk R
  have ht := H.list R
  have hlt : T ≠ hp.objs.size := by obtain ⟨o, ho, _⟩ := ht; exact Nat.ne_of_lt (Heap.lt_size ho)
  have hit := slot_list_iter.lookup
  unfold unpackItems
  refine wpAny_bind ?_
  unfold notIterableAtAll
  refine wpAny_bind (wpAny_specialOf (s := { X.s with heap := hp, toks := tk }) ht.typeIs hit ?_)
  refine wpAny_pure ?_
  simp only [Bool.false_eq_true, if_false]
  refine wpAny_bind (wpAny_holding (wpAny_pyIter_list ht ?_))
  refine wpAny_bind (wpAny_holding (wpAny_draw_list (items := its.toArray) hlt its.length 0 _ _ ⟨_, Heap.get?_push_size _ rfl, rfl, rfl⟩ (ht.push _) (by simp) fun h₁ hit₁ hs₁ => ?_))
  have hall : List.take its.length (List.drop 0 its.toArray.toList) = its := by simp
  rw [hall]
  rw [if_neg (by simp)]
  have ht₁ : h₁.IsList T its.toArray := (ht.push _).extBut hs₁.extBut hlt
  refine wpAny_bind (wpAny_holding (wpAny_pyNext_list_end hh hit₁ ht₁ (by simp) fun h₂ he₂ => ?_))
  simp only [Option.isSome_none, Bool.false_eq_true, if_false]
  refine wpAny_pure ⟨_, _, _, _, _, R.ext fun b o hb e => he₂ b o hb (hs₁.extBut b o hb (Heap.get?_push_of_some _ e)), rfl, h⟩
protected theorem Wp.assignTupleL {elts : List Expr} {x1} {pos : Pos} {T : Addr} {its : List Value} {k : Nat} {Q : Unit → Vals → Vals → Led → Prop} (hh : A.handled = none) (H : Has f nw T (lo its k)) (hn : its.length = (assignEach elts env).length) (hs : (assignEach elts env).findIdx? (·.1) = none)
    (h : Wp X f A (assignInOrder ((assignEach elts env).map (·.2)) its) vs cv nw Q) : Wp X f A (assign (.Tuple elts x1 pos) env (.ref T)) vs cv nw Q := by
  rw [arm_assign_Tuple]
  refine .bind (.standAt ?_)
  unfold unpack
  rw [hs]
  refine .bind (.holding ?_)
  exact Wp.unpackL hh H hn h

-- slices
abbrev slO (a b c : Value) : Obj := { cls := .type "slice", data := .fields #[a, b, c] }
def pick (its : List Value) (lo hi st : Option Int) : List Value := (slicePick its.toArray lo hi st).toList
protected theorem Wp.SliceE {l u st : Option Expr} {ps : Pos} {Q : Value → Vals → Vals → Led → Prop} (h : Wp X f A (evalPart l env) vs cv nw fun a vs cv nw => Wp X f A (evalPart u env) vs cv nw fun b vs cv nw => Wp X f A (evalPart st env) vs cv nw fun c vs cv nw =>
    ∀ r, Q (.ref r) vs cv ((r, slO a b c) :: nw)) : Wp X f A (eval (.Slice l u st ps) env) vs cv nw Q :=
  fun F hp tk R => wpAny_Slice (h.go R fun a _ _ _ _ _ R1 h1 => h1.go R1 fun b _ _ _ _ _ R2 h2 => h2.go R2 fun c _ _ _ _ _ R3 h3 => ⟨_, _, _, _, _, R3.push (slO a b c), rfl, h3 _⟩)
protected theorem Wp.partNone {Q : Value → Vals → Vals → Led → Prop} (h : Q .none vs cv nw) : Wp X f A (evalPart none env) vs cv nw Q := Wp.pure h
protected theorem Wp.partSome {e : Expr} {Q : Value → Vals → Vals → Led → Prop} (h : Wp X f A (eval e env) vs cv nw Q) : Wp X f A (evalPart (some e) env) vs cv nw Q := h
protected theorem Wp.getSl {l r : Addr} {its : List Value} {k : Nat} {a b c : Value} {lo' hi st : Option Int} {Q : Value → Vals → Vals → Led → Prop} (H : Has f nw l (lo its k)) (S : Has f nw r (slO a b c)) (pa : IsPart a lo') (pb : IsPart b hi) (pc : IsPart c st) (h0 : st ≠ some 0) (hz : its.length ≤ 2 ^ 20)
    (h : ∀ n, Q (.ref n) vs cv ((n, lo (pick its lo' hi st) 0) :: nw)) : Wp X f A (getItem (.ref l) (.ref r)) vs cv nw Q :=
  fun F hp tk R => wpAny_getItem_list_slice (items := its.toArray) (H.list R) ⟨_, R.has S, rfl, rfl⟩ pa pb pc h0 ⟨_, _, _, _, _, (by have := R.push (lo (pick its lo' hi st) 0); unfold pick at this ⊢; simpa using this), rfl, h _⟩ (by rw [List.size_toArray]; exact fits_line hz)
protected theorem Wp.tailSl {value slice : Expr} {l r : Addr} {its : List Value} {k : Nat} {a b c : Value} {ops : List Value} {lo' hi st : Option Int} {Q : Value → Vals → Vals → Led → Prop} (H : Has f nw l (lo its k)) (S : Has f nw r (slO a b c)) (pa : IsPart a lo') (pb : IsPart b hi) (pc : IsPart c st) (h0 : st ≠ some 0) (hz : its.length ≤ 2 ^ 20)
    (h : ∀ n, Q (.ref n) vs cv ((n, lo (pick its lo' hi st) 0) :: nw)) (hs : subscripted slice false (.ref l) (.ref r) = operate ops (getItem (.ref l) (.ref r))) : Wp X f A (subscriptTail value slice (.ref l) (.ref r)) vs cv nw Q :=
  fun F hp tk R => tail_any (H.list R).typeIs slot_list_getitem.lookup (Wp.getSl H S pa pb pc h0 hz h F _ _ R) hs
theorem pick_from (its : List Value) (a : Nat) : pick its (some a) none none = its.drop a := by unfold pick; rw [slicePick_from']
theorem pick_upto (its : List Value) (a : Nat) : pick its none (some a) none = its.take a := by unfold pick; rw [slicePick_upto']
theorem pick_last (its : List Value) (k : Nat) (hk : 1 ≤ k) : pick its (some (-(k : Int))) none none = its.drop (its.length - k) := by unfold pick; rw [slicePick_last _ _ hk]; simp
theorem pick_butLast (its : List Value) (k : Nat) (hk : 1 ≤ k) : pick its none (some (-(k : Int))) none = its.take (its.length - k) := by unfold pick; rw [slicePick_butLast _ _ hk]; simp
theorem pick_length_le (its : List Value) (a b c : Option Int) : (pick its a b c).length ≤ its.length := by
  unfold pick; have := slicePick_size_le its.toArray a b c; simpa using this
protected theorem Wp.mulL {l : Addr} {its : List Value} {k : Nat} {x : Int} {u : Tok} {Q : Value → Vals → Vals → Led → Prop} (H : Has f nw l (lo its k)) (hlo : -(2 ^ 20) ≤ x) (hhi : x ≤ 2 ^ 20) (hz : its.length * x.toNat ≤ 2 ^ 20)
    (h : ∀ n, Q (.ref n) vs cv ((n, lo (List.replicate x.toNat its).flatten 0) :: nw)) : Wp X f A (binaryOp .Mult (.ref l) (.int x u)) vs cv nw Q := by
  intro F hp tk R
  have e : (List.foldl (fun x1 x2 => x1 ++ x2) #[] (List.replicate (if its.toArray.isEmpty = true then 0 else x.toNat) its.toArray)) = ((List.replicate x.toNat its).flatten).toArray := by
    have key : ∀ (n : Nat) (acc : Array Value), List.foldl (fun x1 x2 => x1 ++ x2) acc (List.replicate n its.toArray) = acc ++ ((List.replicate n its).flatten).toArray := by
      intro n
      induction n with
      | zero => intro acc; simp
      | succ n ih => intro acc; rw [List.replicate_succ, List.foldl_cons, ih, List.replicate_succ, List.flatten_cons]; simp [Array.append_assoc]
    rw [key]
    cases its with
    | nil => simp
    | cons a r => simp
  refine mul_list (items := its.toArray) (k := k) R.fr R.news (R.has H) (by omega) (by omega) (by rw [List.size_toArray]; omega) fun h' F' N' => ?_
  rw [e] at N'
  refine ⟨vs, cv, (hp.objs.size, lo (List.replicate x.toNat its).flatten 0) :: nw, h', tk, ⟨F', fun q hq => N' q ?_, ?_⟩, rfl, h _⟩
  · rcases List.mem_append.mp hq with h1 | h1
    · exact .tail _ (List.mem_append_left _ h1)
    · rcases List.mem_cons.mp h1 with rfl | h1
      · exact .head _
      · exact .tail _ (List.mem_append_right _ h1)
  · exact (R.push (lo (List.replicate x.toNat its).flatten 0)).nd
theorem flatten_single {v : Value} : ∀ n : Nat, (List.replicate n [v]).flatten = List.replicate n v
  | 0 => rfl
  | n + 1 => by rw [List.replicate_succ, List.flatten_cons, flatten_single n, List.replicate_succ]; rfl
protected theorem Wp.mExtend {l : Addr} {its : List Value} {n : Nat} {Q : Value × List Value → Vals → Vals → Led → Prop} {pl : Sem Bool} (H : Has f nw l (lo its n)) (h : Q (.builtin "list.extend", [.ref l]) vs cv nw) : Wp X f A (getMethod (.ref l) "extend" pl) vs cv nw Q :=
  fun G hp tk R => getMethod_builtin (H.list R).typeIs F.plainAttrs_list F.slot_list_extend F.type_list_extend (fun b hb => by cases hb; exact ⟨_, R.has H, rfl⟩) ⟨_, _, _, _, _, R, rfl, h⟩
protected theorem Wp.extend {l b : Addr} {its its2 : List Value} {n n2 : Nat} {nw' : Nat → Led} {Q : Value → Vals → Vals → Led → Prop} (u : ∀ n', Up l (lo its n) (lo (its ++ its2) n') nw (nw' n')) (H : Has f nw b (lo its2 n2)) (hz : its.length + its2.length ≤ 2 ^ 20)
    (h : ∀ n', Q .none vs cv (nw' n')) : Wp X f A (call (.builtin "list.extend") [.ref l, .ref b]) vs cv nw Q := by
  intro G hp tk R
  have ho := R.get (u 0).mem
  refine call_meets F.slot_list_extend ⟨_, ho, rfl⟩ F.entry_list_extend (F.args_list_extend_2 _ _) (AutoSeq1.list_extend_list_list_0 l its.toArray n b its2.toArray n2 ?_ ?_ ?_) ⟨ho, R.has H, ?_⟩
  · simp [Builtin.List.listTooLong, sizeLine]; intro _; omega
  · rw [List.size_toArray]; exact fits_line (by omega)
  · simp only [List.size_toArray]; have := fits_line hz; omega
  · have q := PySem.IsL.update (items := its.toArray) (n := n) ho (fun x => x ++ its2.toArray)
    exact ⟨_, _, _, _, _, R.upd (u _) (Heap.SameBut.update ..) (by simpa using q), rfl, h _⟩
protected theorem Wp.max2 {a b : Int} {t u : Tok} {Q : Value → Vals → Vals → Led → Prop} (hh : A.handled = none) (h : ∀ t, Q (.int (max a b) t) vs cv nw) : Wp X f A (call (.builtin "max") [.int a t, .int b u]) vs cv nw Q :=
  fun F hp tk R => max_two_ints hh fun h' tk' hk => ⟨_, _, _, h', tk', R.same hk, rfl, by
    split
    · rename_i c; have e : max a b = b := by omega
      rw [← e]; exact h _
    · rename_i c; have e : max a b = a := by omega
      rw [← e]; exact h _⟩
protected theorem Wp.maxL {l : Addr} {its : List Value} {k : Nat} {ns : List Int} {Q : Value → Vals → Vals → Led → Prop} (hh : A.handled = none) (H : Has f nw l (lo its k)) (hi : IntsAre its ns) (hne : 0 < ns.length)
    (h : ∀ M t, M ∈ ns → (∀ a, a ∈ ns → a ≤ M) → Q (.int M t) vs cv nw) : Wp X f A (call (.builtin "max") [.ref l]) vs cv nw Q :=
  fun F hp tk R => max_list_N hh R.fr R.news (H.list R) hi hne fun h' M t tk' F' N' h1 h2 => ⟨_, _, _, h', tk', ⟨F', N', R.nd⟩, rfl, h M t h1 h2⟩
protected theorem Wp.sumL {l : Addr} {its : List Value} {k : Nat} {ns : List Int} {Q : Value → Vals → Vals → Led → Prop} (hh : A.handled = none) (H : Has f nw l (lo its k)) (hi : IntsAre its ns)
    (h : ∀ t, Q (.int ns.sum t) vs cv nw) : Wp X f A (call (.builtin "sum") [.ref l]) vs cv nw Q := by
  intro F hp tk R
  have hl := H.list R
  obtain ⟨xs, e⟩ := hi.allInts.items
  rw [e] at hl
  refine sum_intListG hh hl fun h' tk' t' hk => ⟨_, _, _, h', tk', R.same hk, rfl, ?_⟩
  have hns : ns = xs.toList.map (·.1) := by
    rw [← hi.numsOf, ← nums_intItems, ← e]
  rw [preSum_eq, List.take_of_length_le (by simp), ← hns]
  exact h _
protected theorem Wp.listL {l : Addr} {its : List Value} {k : Nat} {Q : Value → Vals → Vals → Led → Prop} (H : Has f nw l (lo its k)) (hz : its.length ≤ 2 ^ 20)
    (h : ∀ r c, Q (.ref r) vs cv ((r, lo its c) :: nw)) : Wp X f A (call (.type "list") [.ref l]) vs cv nw Q :=
  fun F hp tk R => call_list_seq (hsz := by rw [List.size_toArray]; exact fits_line hz) l (.inl rfl) (R.has H) rfl rfl fun h' c hk hn =>
    ⟨_, _, (hp.objs.size, lo its c) :: nw, h', tk, Rep.grown (x := [(hp.objs.size, lo its c)]) R hk (fun q hq => by rw [List.mem_singleton.mp hq]; exact ⟨hn, Heap.get?_none_of_le (Nat.le_refl _)⟩) (by simp), rfl, h _ c⟩
protected theorem Wp.truthyL {l : Addr} {its : List Value} {k : Nat} {Q : Bool → Vals → Vals → Led → Prop} (H : Has f nw l (lo its k)) (hz : its.length ≤ 2 ^ 20) (h : Q (!its.isEmpty) vs cv nw) : Wp X f A (truthy (.ref l)) vs cv nw Q :=
  fun F hp tk R => wpAny_truthy_list (H.list R) (by rw [List.size_toArray]; omega) ⟨_, _, _, _, _, R, rfl, by simpa using h⟩
protected theorem Wp.truthyInt {i : Int} {t : Tok} {Q : Bool → Vals → Vals → Led → Prop} (h : Q (i != 0) vs cv nw) : Wp X f A (truthy (.int i t)) vs cv nw Q :=
  fun F hp tk R => PySem.P.truthy_int ⟨_, _, _, _, _, R, rfl, h⟩
-- equality of lists
open PySem.SeqAt in
theorem ints_all {its its2 : List Value} {xs ys : List Int} (h1 : IntsAre its xs) (h2 : IntsAre its2 ys) (hl : its.length = its2.length) : ∃ e : Nat → Bool, (∀ (A : Around) (s : Shared) j (q1 : j < its.toArray.size) (q2 : j < its2.toArray.size), EqAt A s its.toArray[j] its2.toArray[j] (e j)) ∧ (List.range its.toArray.size).all e = decide (xs = ys) := by
  refine ⟨fun j => xs[j]? == ys[j]?, fun A s j q1 q2 => ?_, ?_⟩
  · simp only [List.size_toArray] at q1 q2
    have l1 := h1.length
    have l2 := h2.length
    obtain ⟨t, e1⟩ := h1.get j xs[j] (by simp)
    obtain ⟨u, e2⟩ := h2.get j (ys[j]'(by omega)) (by simp)
    have g1 : its.toArray[j] = .int xs[j] t := by
      rw [List.getElem?_eq_getElem q1] at e1
      simpa using e1
    have g2 : its2.toArray[j] = .int (ys[j]'(by omega)) u := by
      rw [List.getElem?_eq_getElem q2] at e2
      simpa using e2
    rw [g1, g2]
    have : (xs[j]? == ys[j]?) = (xs[j] == ys[j]'(by omega)) := by
      rw [List.getElem?_eq_getElem (by omega), List.getElem?_eq_getElem (by omega)]
      rfl
    show EqAt A s _ _ (xs[j]? == ys[j]?)
    rw [this]
    exact EqAt.int_int _ _ _ _
  · rw [Bool.eq_iff_iff, List.all_eq_true, decide_eq_true_iff]
    have l1 := h1.length
    have l2 := h2.length
    constructor
    · intro h
      apply List.ext_getElem?
      intro i
      by_cases c : i < its.length
      · exact eq_of_beq (h i (by simpa using c))
      · rw [List.getElem?_eq_none (by omega), List.getElem?_eq_none (by omega)]
    · rintro rfl j _
      exact beq_self_eq_true _
open PySem.SeqAt in
theorem ints_rc {A : Around} {s : Shared} {l b : Addr} {its its2 : List Value} {xs ys : List Int} (hu : A.units < cLine) (H1 : s.heap.IsList l its.toArray) (H2 : s.heap.IsList b its2.toArray) (h1 : IntsAre its xs) (h2 : IntsAre its2 ys) : RcAt A s (.ref l) (.ref b) (decide (xs = ys)) := by
  by_cases hl : its.length = its2.length
  · obtain ⟨e, he, ha⟩ := ints_all h1 h2 hl
    have := RcAt.lists (A := A) H1 H2 (by simpa using hl) hu (he A.in1 s)
    rw [ha] at this; exact this
  · have : decide (xs = ys) = false := by
      rw [decide_eq_false_iff_not]; rintro rfl
      exact hl (h1.length.trans h2.length.symm)
    rw [this]
    exact RcAt.lists_lengths H1 H2 (by simpa using hl) hu
open PySem.SeqAt in
theorem ints_rcne {A : Around} {s : Shared} {l b : Addr} {its its2 : List Value} {xs ys : List Int} (hu : A.units < cLine) (H1 : s.heap.IsList l its.toArray) (H2 : s.heap.IsList b its2.toArray) (h1 : IntsAre its xs) (h2 : IntsAre its2 ys) : RcNeAt A s (.ref l) (.ref b) (!decide (xs = ys)) := by
  by_cases hl : its.length = its2.length
  · obtain ⟨e, he, ha⟩ := ints_all h1 h2 hl
    have := RcNeAt.lists (A := A) H1 H2 (by simpa using hl) hu (he A.in1 s)
    rw [ha] at this; exact this
  · have : decide (xs = ys) = false := by
      rw [decide_eq_false_iff_not]; rintro rfl
      exact hl (h1.length.trans h2.length.symm)
    rw [this]
    exact RcNeAt.lists_lengths H1 H2 (by simpa using hl) hu
protected theorem Wp.eqL {l b : Addr} {its its2 : List Value} {k k2 : Nat} {xs ys : List Int} {Q : Value → Vals → Vals → Led → Prop} (hu : A.units < cLine) (H1 : Has f nw l (lo its k)) (H2 : Has f nw b (lo its2 k2)) (h1 : IntsAre its xs) (h2 : IntsAre its2 ys)
    (h : Q (.bool (decide (xs = ys))) vs cv nw) : Wp X f A (compareOp .Eq (.ref l) (.ref b)) vs cv nw Q :=
  fun F hp tk R => ints_rc (s := { X.s with heap := hp, toks := tk }) hu (H1.list R) (H2.list R) h1 h2 _ _ _ _ ⟨_, _, _, _, _, R, rfl, h⟩
protected theorem Wp.neL {l b : Addr} {its its2 : List Value} {k k2 : Nat} {xs ys : List Int} {Q : Value → Vals → Vals → Led → Prop} (hu : A.units < cLine) (H1 : Has f nw l (lo its k)) (H2 : Has f nw b (lo its2 k2)) (h1 : IntsAre its xs) (h2 : IntsAre its2 ys)
    (h : Q (.bool (!decide (xs = ys))) vs cv nw) : Wp X f A (compareOp .NotEq (.ref l) (.ref b)) vs cv nw Q :=
  fun F hp tk R => ints_rcne (s := { X.s with heap := hp, toks := tk }) hu (H1.list R) (H2.list R) h1 h2 _ _ _ _ ⟨_, _, _, _, _, R, rfl, h⟩
-- a dict by ints
protected theorem Wp.inD {d : Addr} {o : Obj} {kvs : List (Int × Value)} {k : Int} {t : Tok} {Q : Value → Vals → Vals → Led → Prop} (H : Has f nw d o) (D : o.IsDictOf (intKind X.prog X.w) kvs) (hd : (d == sysModules) = false) (h : Q (.bool (valueAt kvs k).isSome) vs cv nw) : Wp X f A (compareOp .In (.int k t) (.ref d)) vs cv nw Q :=
  fun F hp tk R => wpAny_in_of (knd := intKind X.prog X.w) (intKind_is _ _ k t) hd (Heap.dictOf_iff.mpr ⟨o, R.has H, D⟩).mapOf ⟨_, _, _, _, _, R, rfl, h⟩
protected theorem Wp.getD {value slice : Expr} {d : Addr} {o : Obj} {kvs : List (Int × Value)} {k : Int} {t : Tok} {v : Value} {Q : Value → Vals → Vals → Led → Prop} (H : Has f nw d o) (D : o.IsDictOf (intKind X.prog X.w) kvs) (hv : valueAt kvs k = some v) (h : Q v vs cv nw)
    (hs : subscripted slice false (.ref d) (.int k t) = operate [.ref d, .int k t] (getItem (.ref d) (.int k t)) := by rfl) : Wp X f A (subscriptTail value slice (.ref d) (.int k t)) vs cv nw Q :=
  fun F hp tk R => tail_any (Heap.dictOf_iff.mpr ⟨o, R.has H, D⟩).typeIs slot_dict_getitem.lookup (wpAny_getItem_of (knd := intKind X.prog X.w) (intKind_is _ _ k t) (Heap.dictOf_iff.mpr ⟨o, R.has H, D⟩).mapOf hv ⟨_, _, _, _, _, R, rfl, h⟩) hs
end
end
end Mine
namespace Mine
section
open PySem PySem.W PySem.Calls PySem.Spec PyProof.Rows
inductive VAt : List Str → Vals → Str → Value → Prop
  | head {x ns v vs} : VAt (x :: ns) (some v :: vs) x v
  | tail {y u ns vs x v} : VAt ns vs x v → VAt (y :: ns) (u :: vs) x v
inductive VSt : List Str → Vals → Str → Value → Vals → Prop
  | head {x ns u v vs} : VSt (x :: ns) (u :: vs) x v (some v :: vs)
  | tail {y u ns vs x v vs'} : VSt ns vs x v vs' → VSt (y :: ns) (u :: vs) x v (u :: vs')
inductive CAt : List (Addr × Obj) → Vals → Addr → Obj → Option Value → Prop
  | head {c o cs v vs} : CAt ((c, o) :: cs) (v :: vs) c o v
  | tail {y u cs vs c o v} : CAt cs vs c o v → CAt (y :: cs) (u :: vs) c o v
inductive CSt : List (Addr × Obj) → Vals → Addr → Obj → Value → Vals → Prop
  | head {c o cs u v vs} : CSt ((c, o) :: cs) (u :: vs) c o v (some v :: vs)
  | tail {y u cs vs c o v vs'} : CSt cs vs c o v vs' → CSt (y :: cs) (u :: vs) c o v (u :: vs')
theorem VAt.get {ns : List Str} {vs : Vals} {x : Str} {v : Value} (h : VAt ns vs x v) : ∃ i : Nat, ns[i]? = some x ∧ vs[i]? = some (some v) := by
  induction h with
  | head => exact ⟨0, rfl, rfl⟩
  | tail _ ih => obtain ⟨i, a, b⟩ := ih; exact ⟨i + 1, by simpa using a, by simpa using b⟩
theorem VSt.get {ns : List Str} {vs vs' : Vals} {x : Str} {v : Value} (h : VSt ns vs x v vs') : ∃ i : Nat, ns[i]? = some x ∧ i < vs.length ∧ vs' = vs.set i (some v) := by
  induction h with
  | head => exact ⟨0, rfl, Nat.succ_pos _, rfl⟩
  | tail _ ih => obtain ⟨i, a, b, c⟩ := ih; exact ⟨i + 1, by simpa using a, Nat.succ_lt_succ b, by simp [c]⟩
theorem CAt.get {cs : List (Addr × Obj)} {vs : Vals} {c : Addr} {o : Obj} {v : Option Value} (h : CAt cs vs c o v) : ∃ i : Nat, cs[i]? = some (c, o) ∧ vs[i]? = some v := by
  induction h with
  | head => exact ⟨0, rfl, rfl⟩
  | tail _ ih => obtain ⟨i, a, b⟩ := ih; exact ⟨i + 1, by simpa using a, by simpa using b⟩
theorem CSt.get {cs : List (Addr × Obj)} {vs vs' : Vals} {c : Addr} {o : Obj} {v : Value} (h : CSt cs vs c o v vs') : ∃ (i : Nat) (u : Option Value), cs[i]? = some (c, o) ∧ vs[i]? = some u ∧ vs' = vs.set i (some v) := by
  induction h with
  | head => exact ⟨0, _, rfl, rfl, rfl⟩
  | tail _ ih => obtain ⟨i, u, a, b, c⟩ := ih; exact ⟨i + 1, u, by simpa using a, by simpa using b, by simp [c]⟩
section
variable {α β : Type} {X : Fx} {f : Fm} {A : Around} {vs cv : Vals} {nw : Led} {env : Env} {K : Frag} {p : Program} {loose : List Str} {mg mb : Str → Option Value}
protected theorem Wp.locA {x : Str} {v : Value} {Q : Value → Vals → Vals → Led → Prop} (O : f.Ok env) (hl : env.kindOf x = some .local) (hv : VAt f.ns vs x v) (h : Q v vs cv nw) : Wp X f A (loadName env x) vs cv nw Q := by
  obtain ⟨i, a, b⟩ := hv.get
  exact Wp.loc O a hl b h
protected theorem Wp.stLocA {x : Str} {v : Value} {vs' : Vals} {Q : Unit → Vals → Vals → Led → Prop} (O : f.Ok env) (hl : env.kindOf x = some .local) (hv : VSt f.ns vs x v vs') (h : Q () vs' cv nw) : Wp X f A (storeName env x v) vs cv nw Q := by
  obtain ⟨i, a, b, rfl⟩ := hv.get
  exact Wp.stLoc O a hl b h
protected theorem Wp.cellA {x : Str} {c : Addr} {o : Obj} {v : Value} {Q : Value → Vals → Vals → Led → Prop} (O : f.Ok env) (hl : env.kindOf x = some .cell) (hc : env.cells.lookup x = some c) (hv : CAt f.cs cv c o (some v)) (h : Q v vs cv nw) : Wp X f A (loadName env x) vs cv nw Q := by
  obtain ⟨i, a, b⟩ := hv.get
  exact Wp.cell O hl hc a b h
protected theorem Wp.freeA {x : Str} {c : Addr} {o : Obj} {v : Value} {Q : Value → Vals → Vals → Led → Prop} (O : f.Ok env) (hl : env.kindOf x = some .free) (hc : env.cells.lookup x = some c) (hv : CAt f.cs cv c o (some v)) (h : Q v vs cv nw) (hn : (x == ("__classdict__" : Str)) = false := by decide) : Wp X f A (loadName env x) vs cv nw Q := by
  obtain ⟨i, a, b⟩ := hv.get
  exact Wp.free O hl hc a b h hn
protected theorem Wp.stCellA {x : Str} {c : Addr} {o : Obj} {v : Value} {cv' : Vals} {Q : Unit → Vals → Vals → Led → Prop} (O : f.Ok env) (hl : env.kindOf x = some .cell) (hc : env.cells.lookup x = some c) (hv : CSt f.cs cv c o v cv') (h : Q () vs cv' nw) : Wp X f A (storeName env x v) vs cv nw Q := by
  obtain ⟨i, u, a, b, rfl⟩ := hv.get
  exact Wp.stCell O hl hc a b h
protected theorem Wp.pass {pos} {Q : Flow → Vals → Vals → Led → Prop} (h : Q .next vs cv nw) : Wp X f A (exec (.Pass pos) env) vs cv nw Q :=
  fun F hp tk R => (by rw [show exec (.Pass pos) env = (do PySem.standAt pos; pure .next) from rfl]; exact wpAny_bind (wpAny_standAt (wpAny_pure ⟨_, _, _, _, _, R, rfl, h⟩)))
end
theorem ifT {b : Bool} {P Q : Prop} (hb : b = true) (h : P) : if b = true then P else Q := by rw [if_pos hb]; exact h
theorem ifF {b : Bool} {P Q : Prop} (hb : b = false) (h : Q) : if b = true then P else Q := by rw [if_neg (by simp [hb])]; exact h
theorem exB {b : Bool} {P : Bool → Prop} (h : P b) : ∃ c, Value.bool b = .bool c ∧ P c := ⟨b, rfl, h⟩
section
variable {α β : Type} {X : Fx} {f : Fm} {A : Around} {vs cv : Vals} {nw : Led} {env : Env}
protected theorem Wp.subI {value slice : Expr} {l : Addr} {its : List Value} {n : Nat} {k : Int} {t : Tok} {ns : List Int} {Q : Value → Vals → Vals → Led → Prop} (H : Has f nw l (lo its n)) (hi : IntsAre its ns) (h0 : 0 ≤ k) (hk : k < ns.length) (hz : ns.length ≤ 2 ^ 20)
    (h : ∀ t, Q (.int (ns.getD k.toNat 0) t) vs cv nw) (hs : subscripted slice false (.ref l) (.int k t) = operate [.ref l, .int k t] (getItem (.ref l) (.int k t)) := by rfl) : Wp X f A (subscriptTail value slice (.ref l) (.int k t)) vs cv nw Q := by
  have e : ns[k.toNat]? = some (ns.getD k.toNat 0) := by
    rw [List.getD_eq_getElem?_getD, List.getElem?_eq_getElem (by omega)]; rfl
  obtain ⟨u, e'⟩ := hi.get _ _ e
  exact Wp.tailL H (Wp.getI H h0 (by omega) e' (h u)) hs
protected theorem Wp.getInt {l : Addr} {its : List Value} {n : Nat} {k : Int} {t : Tok} {ns : List Int} {Q : Value → Vals → Vals → Led → Prop} (H : Has f nw l (lo its n)) (hi : IntsAre its ns) (h0 : 0 ≤ k) (hk : k < ns.length) (hz : ns.length ≤ 2 ^ 20)
    (h : ∀ t, Q (.int (ns.getD k.toNat 0) t) vs cv nw) : Wp X f A (getItem (.ref l) (.int k t)) vs cv nw Q := by
  have e : ns[k.toNat]? = some (ns.getD k.toNat 0) := by
    rw [List.getD_eq_getElem?_getD, List.getElem?_eq_getElem (by omega)]; rfl
  obtain ⟨u, e'⟩ := hi.get _ _ e
  exact Wp.getI H h0 (by omega) e' (h u)
end
def sameInts : List Value → List Int → Bool
  | [], [] => true
  | .int a _ :: vs, b :: ns => a == b && sameInts vs ns
  | _, _ => false
theorem sameInts.are : ∀ {vs : List Value} {ns : List Int}, sameInts vs ns = true → IntsAre vs ns
  | [], [], _ => .nil
  | .int a t :: vs, b :: ns, h => by
    simp only [sameInts, Bool.and_eq_true, beq_iff_eq] at h
    obtain ⟨rfl, h⟩ := h
    exact .cons _ _ (sameInts.are h)
end
end Mine
namespace Mine
section
open PySem PySem.W PySem.Calls PySem.Spec PyProof.Rows
section
variable {α β : Type} {X : Fx} {f : Fm} {A : Around} {vs cv : Vals} {nw : Led} {env : Env} {K : Frag} {p : Program} {loose : List Str} {mg mb : Str → Option Value}
theorem Has.into {a : Addr} {o : Obj} {g' : Heap} {L' : Addr} {ns : List Str} {cs : List (Addr × Obj)} (H : Has f nw a o) (hg : ∀ b o, f.g.get? b = some o → g'.get? b = some o) : Has ⟨g', L', ns, cs⟩ nw a o := H.imp id (hg _ _)
theorem Rm.mkcls {n : Nat} {C : Addr} {args : List Value} (r : Rm A (n + 1)) : Rm (A.under (.builtin "type.__call__" ⟨.ref C :: args, []⟩)) n := by
  have hw : (Code.builtin "type.__call__" ⟨.ref C :: args, []⟩).weight = 1 := rfl
  have hc : (Code.builtin "type.__call__" ⟨.ref C :: args, []⟩).cUnits ≤ 8 := Nat.le_of_ble_eq_true rfl
  exact ⟨r.hh, by have := r.dp; show A.depth + _ + n < _; rw [hw]; omega, by have := r.un; show A.units + _ + 8 * n < _; omega⟩
/-- a call of a def of the text whose defaults are read -/
protected theorem Wp.callDefB {name qual : Str} {params : Arguments} {body : List Stmt} {scope : Scope} {dV kV doc pm cdv ct oc : Value} {an od : Option Addr} {osl : Array (Option Value)} {fa : Addr} {args : List Value} {xs rest : List Str}
    {Q : Value → Vals → Vals → Led → Prop} (B : Bs K p loose mg mb f.g) (hroom : A.depth < recursionLimit)
    (ho : K.lookup fa = some ⟨oc, od, .func (fnOf name qual params body scope dV kV doc pm an cdv ct), osl⟩) (hcd : codeIn K cdv qual = true)
    (hbind : ∀ s : Shared, K.In s.heap → BindsTo s (fnOf name qual params body scope dV kV doc pm an cdv ct) ⟨args, []⟩ (xs.zip args)) (hlen : xs.length = args.length) (hnd : (xs ++ rest).Nodup)
    (hloc : (xs.all fun x => decide (scope.names.lookup x = some .local)) = true) (hcell : (scope.names.all fun x => x.2 != .cell) = true)
    (h : ∀ g' L', (∀ b o, f.g.get? b = some o → g'.get? b = some o) → Bs K p loose mg mb g' →
      Wp X ⟨g', L', xs ++ rest, []⟩ (A.deeper (envOf qual scope L' fa cdv)) (execs body (envOf qual scope L' fa cdv)) (args.map some ++ rest.map fun _ => none) [] nw fun fl _ _ nw' => Q (retOf fl) vs cv nw')
    (hco : scope.isCoroutine = false := by rfl) (hgen : scope.isGenerator = false := by rfl) (hk : scope.kind = .function := by rfl) :
    Wp X f A (call (.ref fa) args) vs cv nw Q := by
  intro F hp tk R
  have hin := R.kin B
  refine wpAny_call (codeAny_call_def (fd := fnOf name qual params body scope dV kV doc pm an cdv ct) (body := body) (binds := xs.zip args) hroom (hin _ _ ho) rfl (B.top.nolimit.keeps R.fr.keep) (codeRec_of hin hcd) rfl (hbind _ hin)
    (fun x hx => by simpa using List.all_eq_true.mp hcell x hx) (fun y hy => by simpa using List.all_eq_true.mp hloc y.1 (List.of_mem_zip hy).1) (fun h₁ hns hk₁ => ?_) hco hgen hk)
  have e := vmap_binds (rest := rest) hnd hlen
  obtain ⟨g', g1, g2, g3, R'⟩ := R.enter rfl (e ▸ hns) hk₁
  rw [List.append_assoc] at R'
  refine wpAny_mono (h g' _ g1 (B.keeps g1) (F ++ cellsL f.cs cv) h₁ _ R') (fun fl s' ⟨vs', cv', nw', h', tk', R'', q, hq⟩ => ?_) fun _ _ x => x.elim
  subst q
  rw [← List.append_assoc] at R''
  exact ⟨_, _, _, _, _, R.leave g3 R'', rfl, hq⟩

protected theorem Wp.nameTl {t : Sem α} {a : Addr × Obj} {Q : α → Vals → Vals → Led → Prop} (h : ∀ b, b = nw → Wp X f A t vs cv (a :: b) Q) : Wp X f A t vs cv (a :: nw) Q := h nw rfl
protected theorem Wp.AttrE {value : Expr} {attr : Str} {pos : Pos} {Q : Value → Vals → Vals → Led → Prop} (h : Wp X f A (eval value env) vs cv nw fun o vs cv nw => Wp X f A (getAttr o attr true) vs cv nw Q)
    (he : eval (.Attribute value attr pos) env = (do
      let o ← eval value env
      PySem.standAt pos.atName
      let r ← PySem.holding [o] (getAttr o attr true)
      letTemporaryGo value o r
      Pure.pure r) := by rfl) : Wp X f A (eval (.Attribute value attr pos) env) vs cv nw Q :=
  fun F hp tk R => Attribute_any_ (h.go R fun o _ _ _ _ _ R1 h1 => h1 F _ _ R1) he
protected theorem Wp.AssignComp {x : Str} {pos' cpos pos : Pos} {elt : Expr} {gens : List Comprehension} {scope : Scope} {Q : Flow → Vals → Vals → Led → Prop}
    (h : Wp X f A (comprehension (.ListComp elt gens scope cpos) scope env (firstIterPos gens cpos) (PySem.newList []) (firstAsync gens) (firstIter gens env) (some (assign (.Name x pos') env))) vs cv nw fun _ => Q .next)
    (hs : swapsWith (.ListComp elt gens scope cpos) (some (.Name x pos')) pos.line env = Pure.pure true) : Wp X f A (exec (.Assign [.Name x pos'] (.ListComp elt gens scope cpos) pos) env) vs cv nw Q := by
  intro F hp tk R
  rw [exec_Assign_Name_used _ _ _ _ hs, arm_evalThenUse_ListComp]
  refine wpAny_bind (wpAny_standAt (wpAny_bind (wpAny_bind ?_)))
  refine wpAny_mono (h F hp tk R) (fun v s' h1 => ?_) fun _ _ x => x
  refine wpAny_pure (wpAny_pure ?_)
  exact h1
theorem csAll {as : List Addr} {cs : List (Addr × Obj)} (h : cs.map (·.1) = as) : ∃ os : List Obj, cs = as.zip os ∧ os.length = as.length := by
  subst h
  refine ⟨cs.map (·.2), ?_, by simp⟩
  induction cs with
  | nil => rfl
  | cons c cs ih =>
    rw [List.map_cons, List.map_cons, List.zip_cons_cons]
    exact congrArg _ ih
theorem os1 {os : List Obj} (h : os.length = 1) : ∃ o, os = [o] := List.length_eq_one_iff.mp h
theorem osS' {os : Vals} {n : Nat} (h : os.length = n + 1) : ∃ o r, os = o :: r ∧ r.length = n := by
  cases os with
  | nil => cases h
  | cons o r => exact ⟨o, r, rfl, Nat.succ.inj h⟩
theorem vs1 {vs : Vals} (h : vs.length = 1) : ∃ a, vs = [a] := List.length_eq_one_iff.mp h
theorem vs2 {vs : Vals} (h : vs.length = 2) : ∃ a b, vs = [a, b] := by
  obtain ⟨a, r, rfl, h1⟩ := osS' h
  obtain ⟨b, rfl⟩ := vs1 h1
  exact ⟨a, b, rfl⟩
theorem osS {os : List Obj} {n : Nat} (h : os.length = n + 1) : ∃ o r, os = o :: r ∧ r.length = n := by
  cases os with
  | nil => cases h
  | cons o r => exact ⟨o, r, rfl, Nat.succ.inj h⟩
protected theorem Wp.assignPair {x y : Str} {px py pos : Pos} {x1} {T : Addr} {u v : Value} {Q : Unit → Vals → Vals → Led → Prop} (hh : A.handled = none) (H : Has f nw T (tu [u, v])) (h : Wp X f A (storeName env x u) vs cv nw fun _ vs cv nw => Wp X f A (storeName env y v) vs cv nw Q) :
    Wp X f A (assign (.Tuple [.Name x px, .Name y py] x1 pos) env (.ref T)) vs cv nw Q :=
  Wp.assignTuple hh H rfl rfl (Wp.inCons (Wp.assignName (h.mono fun _ _ _ _ h2 => Wp.inCons (Wp.assignName (h2.mono fun _ _ _ _ h3 => Wp.inNil h3)))))
protected theorem Wp.subInstSl {x C dx : Addr} {es : List DictEntry} {n : Nat} {value slice : Expr} {i : Value} {fa : Addr} {ops : List Value} {Q : Value → Vals → Vals → Led → Prop} (B : Bs K p loose mg mb f.g) (h1 : Has f nw x (instObj C dx)) (h2 : Has f nw dx (dictOf es n)) (hq : noSeq K C = true) (hs : findIn K (.ref C) "__getitem__" = some (some (.ref fa))) (hf : fnIn K fa = true) (hfn : isFn K (.ref fa) = true)
    (h : Wp X f A (call (.ref fa) [.ref x, i]) vs cv nw Q) (hsl : subscripted slice true (.ref x) i = operate ops (getItem (.ref x) i)) : Wp X f A (subscriptTail value slice (.ref x) i) vs cv nw Q := by
  intro F hp tk R
  have I := instAt R h1 h2
  have X' := R.kin B
  have g : wpAny (model X.prog X.w) A (getItem (.ref x) i) _ (fun _ _ => False) { X.s with heap := hp, toks := tk } := getItem_K R.fr B.kin I hq hs hfn (h F hp tk R)
  unfold fnIn at hf
  split at hf
  · rename_i e
    unfold subscriptTail getitemInPython
    refine wpAny_bind (wpAny_bind (wpAny_bind (I.type.here ((looks_findIn X' hs).here ?_))))
    dsimp only
    refine wpAny_bind (wpAny_load (X' _ _ e) (wpAny_pure ?_))
    dsimp only
    rw [hsl]
    refine wpAny_bind (wpAny_operating (wpAny_mono g (fun v s' z => ?_) fun _ _ z => z))
    exact wpAny_bind (wpAny_letTemporaryGo (wpAny_pure z))
  · cases hf
end
abbrev rgO (a n : Int) (u t v : Tok) : Obj := { cls := .type "range", data := .fields #[.int a u, .int n t, .int 1 v] }
/-- what stood still stands, at the end -/
def Sfx (nw nw' : Led) : Prop := ∃ e, nw' = e ++ nw
theorem Sfx.refl {nw : Led} : Sfx nw nw := ⟨[], rfl⟩
theorem Sfx.cons {nw l : Led} {a : Addr × Obj} (h : Sfx nw l) : Sfx nw (a :: l) := by obtain ⟨e, rfl⟩ := h; exact ⟨a :: e, rfl⟩
theorem Sfx.app {nw l e : Led} (h : Sfx nw l) : Sfx nw (e ++ l) := by obtain ⟨e', rfl⟩ := h; exact ⟨e ++ e', by simp⟩
theorem Sfx.trans {a b c : Led} (h : Sfx a b) (k : Sfx b c) : Sfx a c := by obtain ⟨e, rfl⟩ := h; obtain ⟨e', rfl⟩ := k; exact ⟨e' ++ e, by simp⟩
theorem Sfx.mem {nw nw' : Led} (h : Sfx nw nw') : ∀ p ∈ nw, p ∈ nw' := by obtain ⟨e, rfl⟩ := h; exact fun p hp => List.mem_append_right _ hp

/-- a polynomial's object -/
def PolyIn (C : Addr) (nw : Led) (x : Addr) (ns : List Int) : Prop := ∃ dx l es n its k, (x, instObj C dx) ∈ nw ∧ (dx, dictOf es n) ∈ nw ∧ getL "num" es = some (some (.ref l)) ∧ (l, lo its k) ∈ nw ∧ IntsAre its ns
theorem PolyIn.mono {C x : Addr} {nw nw' : Led} {ns : List Int} (h : PolyIn C nw x ns) (s : ∀ p ∈ nw, p ∈ nw') : PolyIn C nw' x ns := by
  obtain ⟨dx, l, es, n, its, k, a, b, c, d, e⟩ := h
  exact ⟨dx, l, es, n, its, k, s _ a, s _ b, c, s _ d, e⟩
def strip : List Int → List Int
  | [] => []
  | a :: [] => [a]
  | a :: b :: r => if a = 0 then strip (b :: r) else a :: b :: r
theorem strip_drop : ∀ {ns : List Int} {o : Nat}, o < ns.length → (∀ j, j < o → ns.getD j 0 = 0) → (ns.getD o 0 ≠ 0 ∨ o + 1 = ns.length) → ns.drop o = strip ns
  | [], _, h, _, _ => by simp at h
  | [a], o, h, _, _ => by
    have : o = 0 := by simpa using h
    subst this; rfl
  | a :: b :: r, 0, _, _, h => by
    unfold strip
    rcases h with h | h
    · have : a ≠ 0 := by simpa using h
      rw [if_neg this]; rfl
    · simp at h
  | a :: b :: r, o + 1, h, h1, h2 => by
    have ha : a = 0 := by simpa using h1 0 (Nat.succ_pos _)
    unfold strip
    rw [if_pos ha, List.drop_succ_cons]
    refine strip_drop (ns := b :: r) (by simpa using h) (fun j hj => ?_) ?_
    · have := h1 (j + 1) (Nat.succ_lt_succ hj)
      simpa using this
    · rcases h2 with h2 | h2
      · left; simpa using h2
      · right; simpa using h2
end
end Mine
namespace Mine
section
def dbl (x : Nat) : Nat := if x < 128 then 2 * x else (2 * x) ^^^ 285
def tabE : Nat → Nat → List Nat
  | 0, _ => []
  | n + 1, x => x :: tabE n (dbl x)
def EX : List Nat := tabE 256 1
def EXi : List Int := EX.map fun (n : Nat) => (Int.ofNat n)
def LGi : List Int := (List.range 256).map fun n => if n = 0 then 0 else Int.ofNat (EX.idxOf n)
def lg (n : Int) : Int := LGi.getD n.toNat 0
def ex (n : Int) : Int := EXi.getD (n.fmod 255).toNat 0
end
end Mine
namespace Mine
section
open PySem
/-- the pure words of Polynomial's product -/
def rowN (as bs : List Int) (i j : Nat) (num : List Int) : List Int :=
  (List.range j).foldl (fun num j => num.set (i + j) (Builtin.bitXor (num.getD (i + j) 0) (ex (lg (as.getD i 0) + lg (bs.getD j 0))))) num
def allN (as bs : List Int) (i : Nat) (num : List Int) : List Int := (List.range i).foldl (fun num i => rowN as bs i bs.length num) num
def polyMul (as bs : List Int) : List Int := strip (allN as bs as.length (List.replicate (as.length + bs.length - 1) 0))
theorem rowN_succ {as bs : List Int} {i j : Nat} {num : List Int} : rowN as bs i (j + 1) num = (rowN as bs i j num).set (i + j) (Builtin.bitXor ((rowN as bs i j num).getD (i + j) 0) (ex (lg (as.getD i 0) + lg (bs.getD j 0)))) := by
  simp [rowN, List.range_succ, List.foldl_append]
theorem rowN_zero {as bs : List Int} {i : Nat} {num : List Int} : rowN as bs i 0 num = num := rfl
theorem allN_succ {as bs : List Int} {i : Nat} {num : List Int} : allN as bs (i + 1) num = rowN as bs i bs.length (allN as bs i num) := by
  simp [allN, List.range_succ, List.foldl_append]
theorem rowN_length {as bs : List Int} {i j : Nat} {num : List Int} : (rowN as bs i j num).length = num.length := by
  induction j with
  | zero => rfl
  | succ j ih => rw [rowN_succ]; simpa using ih
theorem allN_length {as bs : List Int} {i : Nat} {num : List Int} : (allN as bs i num).length = num.length := by
  induction i with
  | zero => rfl
  | succ j ih => rw [allN_succ, rowN_length, ih]
def Oct (ns : List Int) : Prop := ∀ a ∈ ns, 1 ≤ a ∧ a < 256
theorem Oct.get {ns : List Int} (h : Oct ns) {i : Nat} (hi : i < ns.length) : 1 ≤ ns.getD i 0 ∧ ns.getD i 0 < 256 := by
  rw [List.getD_eq_getElem?_getD, List.getElem?_eq_getElem hi]
  exact h _ (List.getElem_mem hi)
theorem ints_set {its : List Value} {ns : List Int} (h : PyProof.Rows.IntsAre its ns) (i : Nat) (a : Int) (t : Tok) : PyProof.Rows.IntsAre (its.set i (.int a t)) (ns.set i a) := by
  induction h generalizing i with
  | nil => exact .nil
  | cons n u h ih =>
    cases i with
    | zero => exact .cons _ _ h
    | succ i => exact .cons _ _ (ih i)
theorem ints_at {its : List Value} {ns : List Int} (h : PyProof.Rows.IntsAre its ns) {i : Nat} {v : Value} (e : its[i]? = some v) : ∃ t, v = .int (ns.getD i 0) t ∧ i < ns.length := by
  have hl := h.length
  have hi : i < its.length := by
    rcases Nat.lt_or_ge i its.length with q | q
    · exact q
    · rw [List.getElem?_eq_none q] at e; cases e
  have e1 : ns[i]? = some (ns.getD i 0) := by rw [List.getD_eq_getElem?_getD, List.getElem?_eq_getElem (by omega)]; rfl
  obtain ⟨t, e2⟩ := h.get _ _ e1
  rw [e] at e2
  exact ⟨t, Option.some.inj e2, by omega⟩
theorem ints_rep (a : Int) (t : Tok) : ∀ n : Nat, PyProof.Rows.IntsAre (List.replicate n (.int a t)) (List.replicate n a)
  | 0 => .nil
  | n + 1 => .cons _ _ (ints_rep a t n)
end
end Mine
namespace Mine
section
open PySem PyProof.Rows
theorem nat_xor_and (m : Nat) : ∀ n : Nat, (m ^^^ n) + 2 * (m &&& n) = m + n := by
  induction m using Nat.strongRecOn with
  | ind m ih =>
    intro n
    by_cases h0 : m = 0
    · subst h0; simp
    · have ih' := ih (m / 2) (by omega) (n / 2)
      rw [← Nat.xor_div_two, ← Nat.and_div_two] at ih'
      have o1 := @Nat.xor_mod_two_eq_one m n
      have a1 := @Nat.and_mod_two_eq_one m n
      omega
theorem bitXor_nat (a b : Nat) : Builtin.bitXor (a : Int) (b : Int) = ((a ^^^ b : Nat) : Int) := by
  have h := nat_xor_and a b
  rw [bitXor_and, bitAnd_pp (by omega) (by omega)]
  simp only [Int.toNat_natCast]
  omega
def Byte (a : Int) : Prop := 0 ≤ a ∧ a < 256
theorem Byte.nat {a : Int} (h : Byte a) : ∃ n : Nat, a = n ∧ n < 256 := ⟨a.toNat, by have := h.1; omega, by have := h.1; have := h.2; omega⟩
theorem Byte.xor {a b : Int} (ha : Byte a) (hb : Byte b) : Byte (Builtin.bitXor a b) := by
  obtain ⟨m, rfl, hm⟩ := ha.nat
  obtain ⟨n, rfl, hn⟩ := hb.nat
  rw [bitXor_nat]
  have := Nat.xor_lt_two_pow (n := 8) (x := m) (y := n) (by omega) (by omega)
  exact ⟨by omega, by omega⟩
theorem lg_tab : ∀ n ∈ List.range 256, n = 0 ∨ (0 ≤ lg (n : Int) ∧ lg (n : Int) < 255 ∧ ex (lg (n : Int)) = n) := by decide +kernel
theorem ex_tab : ∀ n ∈ List.range 255, 1 ≤ EXi.getD n 0 ∧ EXi.getD n 0 < 256 := by decide +kernel
theorem lg_ok {a : Int} (h1 : 1 ≤ a) (h2 : a < 256) : 0 ≤ lg a ∧ lg a < 255 ∧ ex (lg a) = a := by
  have := lg_tab a.toNat (List.mem_range.mpr (by omega))
  have e : ((a.toNat : Nat) : Int) = a := by omega
  rw [e] at this
  rcases this with h | h
  · omega
  · exact h
theorem ex_ok (i : Int) : 1 ≤ ex i ∧ ex i < 256 := by
  have h0 := Int.fmod_nonneg_of_pos i (b := 255) (by decide)
  have h1 := Int.fmod_lt_of_pos i (b := 255) (by decide)
  exact ex_tab (i.fmod 255).toNat (List.mem_range.mpr (by omega))
theorem ex_byte (i : Int) : Byte (ex i) := ⟨by have := (ex_ok i).1; omega, (ex_ok i).2⟩
def modRow (as bs : List Int) : List Int := List.zipWith (fun a b => Builtin.bitXor a (ex (lg b + (lg (as.getD 0 0) - lg (bs.getD 0 0))))) as bs
def modStep (as bs : List Int) : List Int := strip (modRow as bs ++ as.drop bs.length)
def polyModF : Nat → List Int → List Int → List Int
  | 0, as, _ => as
  | n + 1, as, bs => if as.length < bs.length then as else polyModF n (modStep as bs) bs
structure Md (as bs : List Int) : Prop where
  byt : ∀ a ∈ as, Byte a
  hd : 2 ≤ as.length → as.getD 0 0 ≠ 0
  ne : as ≠ []
  oct : Oct bs
  len : 2 ≤ bs.length
theorem strip_len : ∀ {ns : List Int}, (strip ns).length ≤ ns.length
  | [] => Nat.le_refl _
  | [_] => Nat.le_refl _
  | a :: b :: r => by
    unfold strip
    split
    · exact Nat.le_succ_of_le (strip_len (ns := b :: r))
    · exact Nat.le_refl _
theorem strip_ne : ∀ {ns : List Int}, ns ≠ [] → strip ns ≠ []
  | [], h => h
  | [_], h => h
  | a :: b :: r, _ => by
    unfold strip
    split
    · exact strip_ne (ns := b :: r) (by simp)
    · simp
theorem strip_hd : ∀ {ns : List Int}, 2 ≤ (strip ns).length → (strip ns).getD 0 0 ≠ 0
  | [], h => by simp [strip] at h
  | [_], h => by simp [strip] at h
  | a :: b :: r, h => by
    unfold strip at h ⊢
    split at h
    · rename_i c
      rw [if_pos c]
      exact strip_hd (ns := b :: r) h
    · rename_i c
      rw [if_neg c]
      simpa using c
theorem strip_mem : ∀ {ns : List Int} {a : Int}, a ∈ strip ns → a ∈ ns
  | [], _, h => h
  | [_], _, h => h
  | a :: b :: r, x, h => by
    unfold strip at h
    split at h
    · exact .tail _ (strip_mem (ns := b :: r) h)
    · exact h
theorem strip_lt {a b : Int} {r : List Int} (h : a = 0) : (strip (a :: b :: r)).length < (a :: b :: r).length := by
  unfold strip
  rw [if_pos h]
  exact Nat.lt_succ_of_le (strip_len (ns := b :: r))
theorem modRow_length {as bs : List Int} (h : bs.length ≤ as.length) : (modRow as bs ++ as.drop bs.length).length = as.length := by
  unfold modRow
  simp only [List.length_append, List.length_zipWith, List.length_drop]
  omega
theorem modRow_succ {as bs : List Int} {i : Nat} (h1 : i < as.length) (h2 : i < bs.length) : (modRow as bs).take (i + 1) = (modRow as bs).take i ++ [Builtin.bitXor (as.getD i 0) (ex (lg (bs.getD i 0) + (lg (as.getD 0 0) - lg (bs.getD 0 0))))] := by
  have hil : i < (modRow as bs).length := by unfold modRow; rw [List.length_zipWith]; omega
  rw [List.take_succ_eq_append_getElem hil]
  congr 2
  simp only [modRow, List.getElem_zipWith, List.getD_eq_getElem?_getD, List.getElem?_eq_getElem h1, List.getElem?_eq_getElem h2, Option.getD_some]
theorem Md.step {as bs : List Int} (m : Md as bs) (h : bs.length ≤ as.length) : Md (modStep as bs) bs ∧ (modStep as bs).length < as.length := by
  have hl := m.len
  have hlen := modRow_length h
  have hne : modRow as bs ++ as.drop bs.length ≠ [] := fun c => by rw [c] at hlen; simp at hlen; omega
  refine ⟨⟨fun a ha => ?_, strip_hd, strip_ne hne, m.oct, m.len⟩, ?_⟩
  · have ha := strip_mem ha
    rcases List.mem_append.mp ha with h1 | h1
    · unfold modRow at h1
      rw [List.zipWith_eq_zipWith_take_min, List.mem_iff_getElem] at h1
      obtain ⟨i, hi, e⟩ := h1
      rw [List.getElem_zipWith] at e
      rw [← e]
      refine Byte.xor (m.byt _ ?_) (ex_byte _)
      exact List.mem_of_mem_take (List.getElem_mem _)
    · exact m.byt a (List.mem_of_mem_drop h1)
  · rw [← hlen]
    unfold modStep
    have h0 : as.getD 0 0 ≠ 0 := m.hd (by omega)
    obtain ⟨a, a2, as', rfl⟩ : ∃ a a2 r, as = a :: a2 :: r := by
      rcases as with _ | ⟨a, _ | ⟨a2, r⟩⟩
      · simp only [List.length_nil] at h; omega
      · simp only [List.length_nil, List.length_cons] at h; omega
      · exact ⟨a, a2, r, rfl⟩
    obtain ⟨b, b2, bs', rfl⟩ : ∃ a a2 r, bs = a :: a2 :: r := by
      rcases bs with _ | ⟨a, _ | ⟨a2, r⟩⟩
      · simp at hl
      · simp at hl
      · exact ⟨a, a2, r, rfl⟩
    have ha : Byte a := m.byt a (.head _)
    have hb := m.oct b (.head _)
    have h0' : a ≠ 0 := by simpa using h0
    unfold modRow
    simp only [List.zipWith_cons_cons, List.cons_append]
    refine strip_lt ?_
    have e : lg b + (lg ((a :: a2 :: as').getD 0 0) - lg ((b :: b2 :: bs').getD 0 0)) = lg a := by
      simp only [List.getD_cons_zero]; omega
    rw [e, (lg_ok (by have := ha.1; omega) ha.2).2.2, bitXor_self]
end
end Mine
namespace Mine
section
open PySem PySem.W PyProof.Rows
def bufEs (hb : Int) (tb : Tok) (hl : Int) (tl : Tok) (l : Addr) (v : Value) : List DictEntry := [⟨hb, .str "buffer" tb, .ref l⟩, ⟨hl, .str "length" tl, v⟩]
def pbit (ns : List Int) (m i : Nat) (b : Bool) : List Int :=
  if b then (if i = 0 then ns ++ [0] else ns).set m (Builtin.bitOr ((if i = 0 then ns ++ [0] else ns).getD m 0) ((128 : Int).fdiv (2 ^ i))) else (if i = 0 then ns ++ [0] else ns)
theorem fdiv8 {m i : Nat} (h : i < 8) : ((8 * m + i : Nat) : Int).fdiv 8 = m := by
  rw [Int.fdiv_eq_ediv_of_nonneg _ (by decide)]; omega
theorem fmod8 {m i : Nat} (h : i < 8) : ((8 * m + i : Nat) : Int).fmod 8 = i := by
  rw [Int.fmod_eq_emod_of_nonneg _ (by decide)]; omega
def bitB (o : Int) (i : Nat) : Bool := Builtin.bitAnd (o.fdiv (2 ^ ((8 : Int) - (0 + i) - 1).toNat)) 1 == 1
def pst (ns : List Int) (o : Int) (m : Nat) : Nat → List Int
  | 0 => ns
  | i + 1 => pbit (pst ns o m i) m i (bitB o i)
def cst (o : Int) : Nat → Int
  | 0 => 0
  | i + 1 => if bitB o i then Builtin.bitOr (cst o i) ((128 : Int).fdiv (2 ^ i)) else cst o i
theorem pst_eq {ns : List Int} {o : Int} {m : Nat} (h : ns.length = m) : ∀ i, pst ns o m (i + 1) = ns ++ [cst o (i + 1)]
  | 0 => by
    subst h
    simp only [pst, pbit, cst, if_true]
    cases bitB o 0
    · simp
    · simp [List.set_append]
  | i + 1 => by
    have ih := pst_eq (o := o) h i
    show pbit (pst ns o m (i + 1)) m (i + 1) (bitB o (i + 1)) = _
    rw [ih]
    subst h
    simp only [pbit, if_neg (Nat.succ_ne_zero i)]
    cases h2 : bitB o (i + 1)
    · simp [cst, h2]
    · simp [cst, h2, List.set_append]
theorem pst_len {ns : List Int} {o : Int} {m i : Nat} (h : ns.length = m) : (pst ns o m i).length = if i = 0 then m else m + 1 := by
  cases i with
  | zero => exact h
  | succ i => rw [pst_eq h]; simp [h]
theorem cst_tab : ∀ n ∈ List.range 256, cst (n : Int) 8 = n := by decide +kernel
theorem pst8 {ns : List Int} {o : Int} {m : Nat} (h : ns.length = m) (h0 : 0 ≤ o) (h1 : o < 256) : pst ns o m 8 = ns ++ [o] := by
  rw [pst_eq h]
  have := cst_tab o.toNat (List.mem_range.mpr (by omega))
  rw [show ((o.toNat : Nat) : Int) = o by omega] at this
  rw [this]
end
end Mine
namespace Mine
section
open PySem PySem.W PyProof.Rows
/-- the generator rows -/
def genP : Nat → List Int
  | 0 => [1]
  | i + 1 => polyMul (genP i) [1, ex i]
def lut (e : Nat) : Option (List Int) := match e with
  | 7 => some (genP 7)
  | 10 => some (genP 10)
  | 13 => some (genP 13)
  | 15 => some (genP 15)
  | _ => none
theorem genP_ok : ∀ e ∈ List.range 16, (genP e).length = e + 1 ∧ ∀ a ∈ genP e, (1 ≤ a ∧ a < 256) := by decide +kernel
def Ec (e : Nat) : Prop := 1 ≤ e ∧ (e ≤ 10 ∨ e = 13 ∨ e = 15)
theorem genP_len {e : Nat} (h : e ≤ 15) : (genP e).length = e + 1 := (genP_ok e (List.mem_range.mpr (by omega))).1
theorem genP_oct {e : Nat} (h : e ≤ 15) : Oct (genP e) := (genP_ok e (List.mem_range.mpr (by omega))).2
def remN (dc : List Int) (e : Nat) : List Int := polyModF (dc.length + e + 2) (strip dc ++ List.replicate e 0) (genP e)
def ecAt (m : List Int) (e i : Nat) : Int := if 0 ≤ (i : Int) + ((m.length : Int) - e) then m.getD ((i : Int) + ((m.length : Int) - e)).toNat 0 else 0
def ecw (dc : List Int) (e : Nat) : List Int := (List.range e).map (ecAt (remN dc e) e)
def dcs (oct : List Int) : Nat → List (Nat × Nat) → List (List Int)
  | _, [] => []
  | off, (d, _) :: bl => ((oct.drop off).take d) :: dcs oct (off + d) bl
def ecs (oct : List Int) : Nat → List (Nat × Nat) → List (List Int)
  | _, [] => []
  | off, (d, e) :: bl => ecw ((oct.drop off).take d) e :: ecs oct (off + d) bl
/-- one of each in turn -/
def laid (n : Nat) (ls : List (List Int)) : List Int := (List.range n).flatMap fun i => ls.filterMap fun l => l[i]?
def maxOf (l : List Nat) : Nat := l.foldl max 0
def told (oct : List Int) (bl : List (Nat × Nat)) : List Int := laid (maxOf (bl.map (·.1))) (dcs oct 0 bl) ++ laid (maxOf (bl.map (·.2))) (ecs oct 0 bl)
def NestIn (e : Led) : List Value → List (List Int) → Prop
  | [], [] => True
  | v :: r, xs :: xss => (∃ l its k, v = .ref l ∧ (l, lo its k) ∈ e ∧ IntsAre its xs) ∧ NestIn e r xss
  | _, _ => False
theorem NestIn.mono {e e' : Led} (s : ∀ p ∈ e, p ∈ e') : ∀ {its : List Value} {xss : List (List Int)}, NestIn e its xss → NestIn e' its xss
  | [], [], _ => trivial
  | _ :: _, _ :: _, ⟨⟨l, i, k, h1, h2, h3⟩, r⟩ => ⟨⟨l, i, k, h1, s _ h2, h3⟩, NestIn.mono s r⟩
theorem NestIn.snoc {e : Led} {l : Addr} {i : List Value} {k : Nat} {xs : List Int} (h2 : (l, lo i k) ∈ e) (h3 : IntsAre i xs) : ∀ {its : List Value} {xss : List (List Int)}, NestIn e its xss → NestIn e (its ++ [.ref l]) (xss ++ [xs])
  | [], [], _ => ⟨⟨l, i, k, rfl, h2, h3⟩, trivial⟩
  | _ :: _, _ :: _, ⟨h, r⟩ => ⟨h, NestIn.snoc h2 h3 r⟩
theorem NestIn.length {e : Led} : ∀ {its : List Value} {xss : List (List Int)}, NestIn e its xss → its.length = xss.length
  | [], [], _ => rfl
  | _ :: _, _ :: _, ⟨_, r⟩ => by simp [NestIn.length r]
theorem NestIn.get {e : Led} : ∀ {its : List Value} {xss : List (List Int)} {j : Nat} {v : Value}, NestIn e its xss → its[j]? = some v → ∃ l i k xs, v = .ref l ∧ (l, lo i k) ∈ e ∧ IntsAre i xs ∧ xss[j]? = some xs
  | [], [], _, _, _, h => by simp at h
  | _ :: _, xs :: _, 0, _, ⟨⟨l, i, k, h1, h2, h3⟩, _⟩, h => ⟨l, i, k, xs, by simpa using (Option.some.inj (by simpa using h)).symm.trans h1, h2, h3, rfl⟩
  | _ :: _, _ :: _, j + 1, _, ⟨_, r⟩, h => by
    obtain ⟨l, i, k, xs, a, b, c, d⟩ := NestIn.get (j := j) r (by simpa using h)
    exact ⟨l, i, k, xs, a, b, c, by simpa using d⟩
theorem and255 {a : Int} (h : Byte a) : Builtin.bitAnd 255 a = a := by
  obtain ⟨n, rfl, hn⟩ := h.nat
  rw [bitAnd_pp (by decide) (by omega)]
  have : (255 : Int).toNat &&& ((n : Int)).toNat = n := by
    rw [Int.toNat_natCast, Nat.and_comm]
    exact (Nat.and_two_pow_sub_one_eq_mod n 8).trans (Nat.mod_eq_of_lt hn)
  rw [this]
theorem dcs_take {oct : List Int} : ∀ {bl : List (Nat × Nat)} {off i d e : Nat}, bl[i]? = some (d, e) → (dcs oct off bl).take (i + 1) = (dcs oct off bl).take i ++ [(oct.drop (off + ((bl.map (·.1)).take i).sum)).take d]
  | [], _, _, _, _, h => by simp at h
  | (d, e) :: bl, off, 0, _, _, h => by
    simp only [List.getElem?_cons_zero, Option.some.injEq, Prod.mk.injEq] at h
    obtain ⟨rfl, rfl⟩ := h
    simp [dcs]
  | (d0, e0) :: bl, off, i + 1, d, e, h => by
    have ih := dcs_take (oct := oct) (bl := bl) (off := off + d0) (i := i) (d := d) (e := e) (by simpa using h)
    simp only [dcs, List.take_succ_cons, ih, List.map_cons, List.sum_cons, List.cons_append, Nat.add_assoc]
theorem ecs_take {oct : List Int} : ∀ {bl : List (Nat × Nat)} {off i d e : Nat}, bl[i]? = some (d, e) → (ecs oct off bl).take (i + 1) = (ecs oct off bl).take i ++ [ecw ((oct.drop (off + ((bl.map (·.1)).take i).sum)).take d) e]
  | [], _, _, _, _, h => by simp at h
  | (d, e) :: bl, off, 0, _, _, h => by
    simp only [List.getElem?_cons_zero, Option.some.injEq, Prod.mk.injEq] at h
    obtain ⟨rfl, rfl⟩ := h
    simp [ecs]
  | (d0, e0) :: bl, off, i + 1, d, e, h => by
    have ih := ecs_take (oct := oct) (bl := bl) (off := off + d0) (i := i) (d := d) (e := e) (by simpa using h)
    simp only [ecs, List.take_succ_cons, ih, List.map_cons, List.sum_cons, List.cons_append, Nat.add_assoc]
theorem dcs_length {oct : List Int} : ∀ {bl : List (Nat × Nat)} {off : Nat}, (dcs oct off bl).length = bl.length
  | [], _ => rfl
  | (_, _) :: bl, _ => by simp [dcs, dcs_length (bl := bl)]
theorem ecs_length {oct : List Int} : ∀ {bl : List (Nat × Nat)} {off : Nat}, (ecs oct off bl).length = bl.length
  | [], _ => rfl
  | (_, _) :: bl, _ => by simp [ecs, ecs_length (bl := bl)]
theorem maxOf_snoc (l : List Nat) (a : Nat) : maxOf (l ++ [a]) = max (maxOf l) a := by simp [maxOf, List.foldl_append]
theorem take_snoc {α : Type} {l : List α} {i : Nat} {a : α} (h : l[i]? = some a) : l.take (i + 1) = l.take i ++ [a] := by
  rw [List.take_add_one, h]; rfl
theorem sum_snoc {l : List Nat} {i a : Nat} (h : l[i]? = some a) : (l.take (i + 1)).sum = (l.take i).sum + a := by
  rw [take_snoc h]; simp
theorem sum_le {l : List Nat} {i a : Nat} (h : l[i]? = some a) : (l.take i).sum + a ≤ l.sum := by
  rw [← sum_snoc h]
  have e := List.take_append_drop (i + 1) l
  have : (l.take (i + 1)).sum + (l.drop (i + 1)).sum = l.sum := by rw [← List.sum_append, e]
  omega
end
end Mine
namespace Mine
section
open PySem PySem.W PyProof.Rows
theorem dtake {oct : List Int} {off d j : Nat} (h1 : j < d) (h2 : off + j < oct.length) : ((oct.drop off).take d).take (j + 1) = ((oct.drop off).take d).take j ++ [oct.getD (off + j) 0] := by
  refine take_snoc ?_
  rw [List.getElem?_take_of_lt h1, List.getElem?_drop, List.getD_eq_getElem?_getD, List.getElem?_eq_getElem h2]
  rfl
theorem strip_hd_nz : ∀ {ns : List Int}, (∃ a ∈ ns, a ≠ 0) → (strip ns).getD 0 0 ≠ 0
  | [], h => by obtain ⟨a, h, _⟩ := h; cases h
  | [x], h => by
    obtain ⟨a, h, h2⟩ := h
    have : a = x := by simpa using h
    subst this; simpa [strip] using h2
  | a :: b :: r, h => by
    unfold strip
    by_cases c : a = 0
    · rw [if_pos c]
      refine strip_hd_nz (ns := b :: r) ?_
      obtain ⟨x, hx, h2⟩ := h
      rcases List.mem_cons.mp hx with rfl | hx
      · exact absurd c h2
      · exact ⟨x, hx, h2⟩
    · rw [if_neg c]; simpa using c
theorem raw_md {dc : List Int} {e : Nat} (hb : ∀ a ∈ dc, Byte a) (hn : ∃ a ∈ dc, a ≠ 0) (h1 : 1 ≤ e) (h2 : e ≤ 15) : Md (strip dc ++ List.replicate e 0) (genP e) := by
  have hne : dc ≠ [] := by rintro rfl; obtain ⟨a, h, _⟩ := hn; cases h
  have hsn := strip_ne hne
  refine ⟨fun a ha => ?_, fun _ => ?_, ?_, genP_oct h2, by rw [genP_len h2]; omega⟩
  · rcases List.mem_append.mp ha with h | h
    · exact hb a (strip_mem h)
    · rw [(List.mem_replicate.mp h).2]; exact ⟨by decide, by decide⟩
  · have := strip_hd_nz hn
    cases hs : strip dc with
    | nil => exact absurd hs hsn
    | cons x r => rw [hs] at this; simpa using this
  · intro c
    exact hsn (List.append_eq_nil_iff.mp c).1
theorem polyModF_len : ∀ {n : Nat} {as bs : List Int}, Md as bs → (polyModF n as bs).length ≤ as.length
  | 0, _, _, _ => Nat.le_refl _
  | n + 1, as, bs, h => by
    unfold polyModF
    split
    · exact Nat.le_refl _
    · rename_i c
      have s := h.step (by omega)
      exact Nat.le_trans (polyModF_len s.1) (Nat.le_of_lt s.2)
theorem remN_len {dc : List Int} {e : Nat} (hb : ∀ a ∈ dc, Byte a) (hn : ∃ a ∈ dc, a ≠ 0) (h1 : 1 ≤ e) (h2 : e ≤ 15) : (remN dc e).length ≤ dc.length + e := by
  have := polyModF_len (n := dc.length + e + 2) (raw_md hb hn h1 h2)
  have s := strip_len (ns := dc)
  unfold remN
  simp only [List.length_append, List.length_replicate] at this
  omega
theorem ecw_take {dc : List Int} {e i : Nat} (h : i < e) : (ecw dc e).take (i + 1) = (ecw dc e).take i ++ [ecAt (remN dc e) e i] := by
  refine take_snoc ?_
  unfold ecw
  rw [List.getElem?_map, List.getElem?_range h]
  rfl
theorem dcs_get {oct : List Int} : ∀ {bl : List (Nat × Nat)} {off i d e : Nat}, bl[i]? = some (d, e) → (oct.drop (off + ((bl.map (·.1)).take i).sum)).take d ∈ dcs oct off bl
  | [], _, _, _, _, h => by simp at h
  | (d, e) :: bl, off, 0, _, _, h => by
    simp only [List.getElem?_cons_zero, Option.some.injEq, Prod.mk.injEq] at h
    obtain ⟨rfl, rfl⟩ := h
    simp [dcs]
  | (d0, e0) :: bl, off, i + 1, d, e, h => by
    have ih := dcs_get (oct := oct) (bl := bl) (off := off + d0) (i := i) (d := d) (e := e) (by simpa using h)
    simp only [dcs, List.map_cons, List.take_succ_cons, List.sum_cons, ← Nat.add_assoc]
    exact .tail _ ih
theorem strip_oct : ∀ {ns : List Int}, Oct ns → strip ns = ns
  | [], _ => rfl
  | [_], _ => rfl
  | a :: b :: r, h => by
    have := (h a (.head _)).1
    unfold strip
    rw [if_neg (by omega)]
theorem lut_eq {e : Nat} {ns : List Int} (h : lut e = some ns) : ns = genP e := by
  unfold lut at h
  split at h
  · exact (Option.some.inj h).symm
  · exact (Option.some.inj h).symm
  · exact (Option.some.inj h).symm
  · exact (Option.some.inj h).symm
  · exact absurd h (by simp)
theorem genP_ne {e : Nat} (h : e ≤ 15) : genP e ≠ [] := fun c => by
  have := genP_len h
  rw [c] at this; cases this
theorem pairOct (i : Int) : Oct [1, ex i] := fun a ha => by
  rcases List.mem_cons.mp ha with rfl | ha
  · decide
  · rw [List.mem_singleton.mp ha]; exact ex_ok i
theorem laid_succ {n : Nat} {ls : List (List Int)} : laid (n + 1) ls = laid n ls ++ ls.filterMap fun l => l[n]? := by
  unfold laid
  rw [List.range_succ, List.flatMap_append]
  simp
theorem fm_snoc {ls : List (List Int)} {j i : Nat} {xs : List Int} (h : ls[j]? = some xs) : (ls.take (j + 1)).filterMap (fun l => l[i]?) = (ls.take j).filterMap (fun l => l[i]?) ++ (xs[i]?).toList := by
  rw [take_snoc h, List.filterMap_append]
  cases c : xs[i]? <;> simp [c]
theorem dcs_mem_len {oct : List Int} : ∀ {bl : List (Nat × Nat)} {off : Nat} {xs : List Int}, xs ∈ dcs oct off bl → xs.length ≤ oct.length
  | [], _, _, h => by cases h
  | (d, e) :: bl, off, xs, h => by
    rcases List.mem_cons.mp h with rfl | h
    · rw [List.length_take, List.length_drop]; omega
    · exact dcs_mem_len h
theorem ecs_mem_len {oct : List Int} : ∀ {bl : List (Nat × Nat)} {off : Nat} {xs : List Int}, (∀ p ∈ bl, p.2 ≤ 15) → xs ∈ ecs oct off bl → xs.length ≤ 15
  | [], _, _, _, h => by cases h
  | (d, e) :: bl, off, xs, hb, h => by
    rcases List.mem_cons.mp h with rfl | h
    · have := hb (d, e) (.head _)
      simpa [ecw] using this
    · exact ecs_mem_len (fun p hp => hb p (.tail _ hp)) h
theorem maxOf_le {c : Nat} : ∀ {l : List Nat}, (∀ a ∈ l, a ≤ c) → maxOf l ≤ c := by
  intro l h
  unfold maxOf
  have key : ∀ (l : List Nat) (b : Nat), b ≤ c → (∀ a ∈ l, a ≤ c) → l.foldl max b ≤ c := by
    intro l
    induction l with
    | nil => intro b hb _; exact hb
    | cons a r ih => intro b hb h; exact ih _ (Nat.max_le.mpr ⟨hb, h a (.head _)⟩) fun x hx => h x (.tail _ hx)
  exact key l 0 (Nat.zero_le _) h
end
end Mine
namespace Mine
section
open PySem PySem.W PySem.Calls PySem.Spec PyProof.Rows
section
variable {α β : Type} {X : Fx} {f : Fm} {A : Around} {vs cv : Vals} {nw : Led} {env : Env} {K : Frag} {p : Program} {loose : List Str} {mg mb : Str → Option Value}
-- a tuple by a place
protected theorem Wp.getT {l : Addr} {its : List Value} {k : Int} {t : Tok} {x : Value} {Q : Value → Vals → Vals → Led → Prop} (H : Has f nw l (tu its)) (h0 : 0 ≤ k) (hk : k < 2 ^ 63) (hx : its[k.toNat]? = some x) (h : Q x vs cv nw) : Wp X f A (getItem (.ref l) (.int k t)) vs cv nw Q := by
  intro F hp tk R
  have ht : IsTup hp l its.toArray := ⟨_, R.has H, rfl, _, rfl⟩
  have hlt : k.toNat < its.length := by
    rcases Nat.lt_or_ge k.toNat its.length with c | c
    · exact c
    · rw [List.getElem?_eq_none c] at hx; exact absurd hx (by simp)
  refine getItem_tuple ht (by omega) hk (seqIndex_of (n := its.toArray.size) h0 (by simp; omega)) (x := x) (by simpa using hx) ⟨_, _, _, _, _, R, rfl, h⟩
protected theorem Wp.tailT {value slice : Expr} {l : Addr} {its : List Value} {k : Int} {t : Tok} {x : Value} {Q : Value → Vals → Vals → Led → Prop} (H : Has f nw l (tu its)) (h0 : 0 ≤ k) (hk : k < 2 ^ 63) (hx : its[k.toNat]? = some x) (h : Q x vs cv nw)
    (hs : subscripted slice false (.ref l) (.int k t) = operate [.ref l, .int k t] (getItem (.ref l) (.int k t)) := by rfl) : Wp X f A (subscriptTail value slice (.ref l) (.int k t)) vs cv nw Q :=
  fun F hp tk R => tail_any (T := "tuple") (Heap.IsTuple.typeIs ⟨_, R.has H, rfl, _, rfl⟩) slot_tuple_getitem.lookup (Wp.getT H h0 hk hx h F _ _ R) hs
-- equality of lists of int lists
theorem pick_rev (its : List Value) : pick its none none (some (-1)) = its.reverse := by unfold pick; rw [krv_pick]
open PySem.SeqAt in
theorem nest_all {A : Around} {s : Shared} (hu : A.in1.units + 64 < cLine) {e : Led} (hE : ∀ p ∈ e, s.heap.get? p.1 = some p.2) {its its2 : List Value} {xss yss : List (List Int)} (h1 : NestIn e its xss) (h2 : NestIn e its2 yss) (hl : its.length = its2.length) :
    ∃ ev : Nat → Bool, (∀ j (q1 : j < its.toArray.size) (q2 : j < its2.toArray.size), EqAt A.in1 s its.toArray[j] its2.toArray[j] (ev j)) ∧ (List.range its.toArray.size).all ev = decide (xss = yss) := by
  have l1 := h1.length
  have l2 := h2.length
  refine ⟨fun j => decide (xss[j]? = yss[j]?), fun j q1 q2 => ?_, ?_⟩
  · simp only [List.size_toArray] at q1 q2
    obtain ⟨a, i, k, xs, e1, m1, I1, g1⟩ := h1.get (j := j) (v := its[j]) (by simp)
    obtain ⟨b, i2, k2, ys, e2, m2, I2, g2⟩ := h2.get (j := j) (v := its2[j]) (by simp)
    simp only [List.getElem_toArray]
    rw [e1, e2]
    have : decide (xss[j]? = yss[j]?) = decide (xs = ys) := by rw [g1, g2]; simp
    rw [this]
    exact keq_ints ⟨_, hE _ m1, rfl, k, rfl⟩ I1 ⟨_, hE _ m2, rfl, k2, rfl⟩ I2 hu
  · rw [Bool.eq_iff_iff, List.all_eq_true, decide_eq_true_iff]
    constructor
    · intro h
      apply List.ext_getElem?
      intro i
      by_cases c : i < its.length
      · simpa using h i (by simpa using c)
      · rw [List.getElem?_eq_none (by omega), List.getElem?_eq_none (by omega)]
    · rintro rfl j _
      simp
open PySem.SeqAt in
theorem nest_rc {A : Around} {s : Shared} {e : Led} {l b : Addr} {its its2 : List Value} {xss yss : List (List Int)} (hu : A.in1.units + 64 < cLine) (hE : ∀ p ∈ e, s.heap.get? p.1 = some p.2) (H1 : s.heap.IsList l its.toArray) (H2 : s.heap.IsList b its2.toArray) (h1 : NestIn e its xss) (h2 : NestIn e its2 yss) : RcAt A s (.ref l) (.ref b) (decide (xss = yss)) := by
  have hu' : A.units < cLine := by have : A.in1.units = A.units + 1 := rfl; omega
  by_cases hl : its.length = its2.length
  · obtain ⟨ev, he, ha⟩ := nest_all hu hE h1 h2 hl
    have := RcAt.lists (A := A) H1 H2 (by simpa using hl) hu' he
    rw [ha] at this; exact this
  · have : decide (xss = yss) = false := by
      rw [decide_eq_false_iff_not]; rintro rfl
      exact hl (h1.length.trans h2.length.symm)
    rw [this]
    exact RcAt.lists_lengths H1 H2 (by simpa using hl) hu'
open PySem.SeqAt in
theorem nest_rcne {A : Around} {s : Shared} {e : Led} {l b : Addr} {its its2 : List Value} {xss yss : List (List Int)} (hu : A.in1.units + 64 < cLine) (hE : ∀ p ∈ e, s.heap.get? p.1 = some p.2) (H1 : s.heap.IsList l its.toArray) (H2 : s.heap.IsList b its2.toArray) (h1 : NestIn e its xss) (h2 : NestIn e its2 yss) : RcNeAt A s (.ref l) (.ref b) (!decide (xss = yss)) := by
  have hu' : A.units < cLine := by have : A.in1.units = A.units + 1 := rfl; omega
  by_cases hl : its.length = its2.length
  · obtain ⟨ev, he, ha⟩ := nest_all hu hE h1 h2 hl
    have := RcNeAt.lists (A := A) H1 H2 (by simpa using hl) hu' he
    rw [ha] at this; exact this
  · have : decide (xss = yss) = false := by
      rw [decide_eq_false_iff_not]; rintro rfl
      exact hl (h1.length.trans h2.length.symm)
    rw [this]
    exact RcNeAt.lists_lengths H1 H2 (by simpa using hl) hu'
protected theorem Wp.eqN {l b : Addr} {its its2 : List Value} {k k2 : Nat} {xss yss : List (List Int)} {Q : Value → Vals → Vals → Led → Prop} (hu : A.in1.units + 64 < cLine) (H1 : Has f nw l (lo its k)) (H2 : Has f nw b (lo its2 k2)) (h1 : NestIn nw its xss) (h2 : NestIn nw its2 yss)
    (h : Q (.bool (decide (xss = yss))) vs cv nw) : Wp X f A (compareOp .Eq (.ref l) (.ref b)) vs cv nw Q :=
  fun F hp tk R => nest_rc (s := { X.s with heap := hp, toks := tk }) hu (fun p hp => R.get hp) (H1.list R) (H2.list R) h1 h2 _ _ _ _ ⟨_, _, _, _, _, R, rfl, h⟩
protected theorem Wp.neN {l b : Addr} {its its2 : List Value} {k k2 : Nat} {xss yss : List (List Int)} {Q : Value → Vals → Vals → Led → Prop} (hu : A.in1.units + 64 < cLine) (H1 : Has f nw l (lo its k)) (H2 : Has f nw b (lo its2 k2)) (h1 : NestIn nw its xss) (h2 : NestIn nw its2 yss)
    (h : Q (.bool (!decide (xss = yss))) vs cv nw) : Wp X f A (compareOp .NotEq (.ref l) (.ref b)) vs cv nw Q :=
  fun F hp tk R => nest_rcne (s := { X.s with heap := hp, toks := tk }) hu (fun p hp => R.get hp) (H1.list R) (H2.list R) h1 h2 _ _ _ _ ⟨_, _, _, _, _, R, rfl, h⟩
end
-- a list of lists that are written to
abbrev Inn := List (Addr × List Value × Nat)
def innL (q : Inn) : Led := q.map fun x => (x.1, lo x.2.1 x.2.2)
def innV (q : Inn) : List Value := q.map fun x => .ref x.1
def InnAre : Inn → List (List Int) → Prop
  | [], [] => True
  | (_, v, _) :: r, xs :: xss => IntsAre v xs ∧ InnAre r xss
  | _, _ => False
theorem InnAre.length : ∀ {q : Inn} {xss : List (List Int)}, InnAre q xss → q.length = xss.length
  | [], [], _ => rfl
  | (_, _, _) :: _, _ :: _, ⟨_, r⟩ => by simp [InnAre.length r]
theorem InnAre.get : ∀ {q : Inn} {xss : List (List Int)} {j : Nat}, InnAre q xss → j < q.length → ∃ a v k xs, q[j]? = some (a, v, k) ∧ xss[j]? = some xs ∧ IntsAre v xs
  | [], _, _, _, h => by simp at h
  | (a, v, k) :: _, xs :: _, 0, ⟨h, _⟩, _ => ⟨a, v, k, xs, rfl, rfl, h⟩
  | (_, _, _) :: _, _ :: _, j + 1, ⟨_, r⟩, h => by
    obtain ⟨a, v, k, xs, g1, g2, g3⟩ := InnAre.get (j := j) r (by simpa using h)
    exact ⟨a, v, k, xs, by simpa using g1, by simpa using g2, g3⟩
theorem InnAre.set {a : Addr} {v : List Value} {k : Nat} {xs : List Int} (hv : IntsAre v xs) : ∀ {q : Inn} {xss : List (List Int)} {j : Nat}, InnAre q xss → InnAre (q.set j (a, v, k)) (xss.set j xs)
  | [], [], _, _ => trivial
  | (_, _, _) :: _, _ :: _, 0, ⟨_, r⟩ => ⟨hv, r⟩
  | (_, _, _) :: _, _ :: _, j + 1, ⟨h, r⟩ => ⟨h, InnAre.set hv r⟩
theorem innV_set {a : Addr} {v v' : List Value} {k k' : Nat} : ∀ {q : Inn} {j : Nat}, q[j]? = some (a, v, k) → innV (q.set j (a, v', k')) = innV q
  | [], _, h => by simp at h
  | x :: _, 0, h => by
    have : x = (a, v, k) := by simpa using h
    subst this; rfl
  | x :: r, j + 1, h => by
    have := innV_set (v' := v') (k' := k') (q := r) (j := j) (by simpa using h)
    unfold innV at this ⊢
    rw [List.set_cons_succ, List.map_cons, List.map_cons, this]
theorem inn_up {a : Addr} {v v' : List Value} {k k' : Nat} : ∀ {q : Inn} {j : Nat}, q[j]? = some (a, v, k) → Up a (lo v k) (lo v' k') (innL q) (innL (q.set j (a, v', k')))
  | [], _, h => by simp at h
  | x :: _, 0, h => by
    have : x = (a, v, k) := by simpa using h
    subst this; exact .head
  | x :: r, j + 1, h => .tail (inn_up (q := r) (j := j) (by simpa using h))
theorem inn_mem {a : Addr} {v : List Value} {k : Nat} {q : Inn} {j : Nat} (h : q[j]? = some (a, v, k)) : (a, lo v k) ∈ innL q :=
  List.mem_map.mpr ⟨_, List.mem_of_getElem? h, rfl⟩
theorem innV_get {a : Addr} {v : List Value} {k : Nat} {q : Inn} {j : Nat} (h : q[j]? = some (a, v, k)) : (innV q)[j]? = some (.ref a) := by
  unfold innV; rw [List.getElem?_map, h]; rfl
theorem innV_len {q : Inn} : (innV q).length = q.length := List.length_map _
theorem InnAre.nest {nw : Led} : ∀ {q : Inn} {xss : List (List Int)}, InnAre q xss → (∀ p ∈ innL q, p ∈ nw) → NestIn nw (innV q) xss
  | [], [], _, _ => trivial
  | (a, v, k) :: r, xs :: xss, ⟨h, t⟩, s => ⟨⟨a, v, k, rfl, s _ (.head _), h⟩, InnAre.nest t fun p hp => s _ (.tail _ hp)⟩
theorem innL_rev (q : Inn) : (innL q.reverse).Perm (innL q) := by unfold innL; rw [List.map_reverse]; exact List.reverse_perm _
theorem innV_rev (q : Inn) : innV q.reverse = (innV q).reverse := by unfold innV; rw [List.map_reverse]
theorem InnAre.nils : ∀ (q : Inn), (∀ x ∈ q, x.2.1 = []) → InnAre q (List.replicate q.length [])
  | [], _ => trivial
  | (a, v, k) :: r, h => ⟨by have : v = [] := h (a, v, k) (.head _); rw [this]; exact .nil, InnAre.nils r fun x hx => h x (.tail _ hx)⟩
theorem NestIn.rev {nw : Led} {its : List Value} {xss : List (List Int)} (h : NestIn nw its xss) : NestIn nw its.reverse xss.reverse := by
  induction its generalizing xss with
  | nil => cases xss with
    | nil => exact h
    | cons _ _ => exact h.elim
  | cons v r ih => cases xss with
    | nil => exact h.elim
    | cons xs xr =>
      obtain ⟨⟨l, i, k, rfl, h2, h3⟩, hr⟩ := h
      rw [List.reverse_cons, List.reverse_cons]
      exact NestIn.snoc h2 h3 (ih hr)
end
end Mine
namespace Mine
section
open PySem PySem.W PyProof.Rows
def TupIn (nw : Led) : List Value → List (Nat × Nat) → Prop
  | [], [] => True
  | v :: r, (d, e) :: bl => (∃ T t u, v = .ref T ∧ (T, tu [.int d t, .int e u]) ∈ nw) ∧ TupIn nw r bl
  | _, _ => False
theorem TupIn.mono {e e' : Led} (s : ∀ p ∈ e, p ∈ e') : ∀ {its : List Value} {bl : List (Nat × Nat)}, TupIn e its bl → TupIn e' its bl
  | [], [], _ => trivial
  | _ :: _, (_, _) :: _, ⟨⟨l, i, k, h1, h2⟩, r⟩ => ⟨⟨l, i, k, h1, s _ h2⟩, TupIn.mono s r⟩
theorem TupIn.length {nw : Led} : ∀ {its : List Value} {bl : List (Nat × Nat)}, TupIn nw its bl → its.length = bl.length
  | [], [], _ => rfl
  | _ :: _, (_, _) :: _, ⟨_, r⟩ => by simp [TupIn.length r]
theorem TupIn.get {nw : Led} : ∀ {its : List Value} {bl : List (Nat × Nat)} {j : Nat} {v : Value}, TupIn nw its bl → its[j]? = some v → ∃ T t u d e, v = .ref T ∧ (T, tu [.int (d : Nat) t, .int (e : Nat) u]) ∈ nw ∧ bl[j]? = some (d, e)
  | [], [], _, _, _, h => by simp at h
  | _ :: _, (d, e) :: _, 0, _, ⟨⟨x, t, u, h1, h2⟩, _⟩, h => ⟨x, t, u, d, e, (Option.some.inj (by simpa using h)).symm.trans h1, h2, rfl⟩
  | _ :: _, (_, _) :: _, j + 1, _, ⟨_, r⟩, h => by
    obtain ⟨x, t, u, d, e, a, b, c⟩ := TupIn.get (j := j) r (by simpa using h)
    exact ⟨x, t, u, d, e, a, b, by simpa using c⟩
-- laying and taking apart (law 04)
/-- the lists under way: base, then the first words of ls -/
def mid (base ls : List (List Int)) (k n : Nat) : List (List Int) := (List.range ls.length).map fun j => base.getD j [] ++ (ls.getD j []).take (if j < n then k + 1 else k)
theorem mid_len {base ls : List (List Int)} {k n : Nat} : (mid base ls k n).length = ls.length := by simp [mid]
theorem mid_get {base ls : List (List Int)} {k n j : Nat} (h : j < ls.length) : (mid base ls k n)[j]? = some (base.getD j [] ++ (ls.getD j []).take (if j < n then k + 1 else k)) := by
  unfold mid; rw [List.getElem?_map, List.getElem?_range h]; rfl
theorem mid_round {base ls : List (List Int)} {k n : Nat} (h : ls.length ≤ n) : mid base ls k n = mid base ls (k + 1) 0 := by
  unfold mid
  refine List.map_congr_left fun j hj => ?_
  have := List.mem_range.mp hj
  rw [if_pos (by omega), if_neg (by omega)]
theorem mid_skip {base ls : List (List Int)} {k n : Nat} {l : List Int} (hn : ls[n]? = some l) (h : l.length ≤ k) : mid base ls k (n + 1) = mid base ls k n := by
  unfold mid
  refine List.map_congr_left fun j hj => ?_
  by_cases c : j = n
  · subst c
    rw [if_pos (by omega), if_neg (by omega)]
    have : ls.getD j [] = l := by rw [List.getD_eq_getElem?_getD, hn]; rfl
    rw [this, List.take_of_length_le h, List.take_of_length_le (by omega)]
  · by_cases c2 : j < n
    · rw [if_pos (by omega), if_pos c2]
    · rw [if_neg (by omega), if_neg c2]
theorem mid_put {base ls : List (List Int)} {k n : Nat} {l : List Int} {x : Int} (hn : ls[n]? = some l) (hx : l[k]? = some x) :
    mid base ls k (n + 1) = (mid base ls k n).set n ((base.getD n [] ++ l.take k) ++ [x]) := by
  have hl : n < ls.length := by
    rcases Nat.lt_or_ge n ls.length with c | c
    · exact c
    · rw [List.getElem?_eq_none c] at hn; exact absurd hn (by simp)
  apply List.ext_getElem?
  intro j
  by_cases c : j < ls.length
  · rw [mid_get c]
    by_cases e : j = n
    · subst e
      rw [List.getElem?_set_self (by rw [mid_len]; exact hl), if_pos (by omega)]
      have : ls.getD j [] = l := by rw [List.getD_eq_getElem?_getD, hn]; rfl
      rw [this, take_snoc hx, List.append_assoc]
    · rw [List.getElem?_set_ne (by omega), mid_get c]
      by_cases c2 : j < n
      · rw [if_pos (by omega), if_pos c2]
      · rw [if_neg (by omega), if_neg c2]
  · rw [List.getElem?_eq_none (by rw [mid_len]; omega), List.getElem?_eq_none (by rw [List.length_set, mid_len]; omega)]
theorem mid_at {base ls : List (List Int)} {k n : Nat} {l : List Int} (hn : ls[n]? = some l) : (mid base ls k n)[n]? = some (base.getD n [] ++ l.take k) := by
  have hl : n < ls.length := by
    rcases Nat.lt_or_ge n ls.length with c | c
    · exact c
    · rw [List.getElem?_eq_none c] at hn; exact absurd hn (by simp)
  rw [mid_get hl, if_neg (by omega)]
  have : ls.getD n [] = l := by rw [List.getD_eq_getElem?_getD, hn]; rfl
  rw [this]
theorem mid_zero {base ls : List (List Int)} (h : base.length = ls.length) : mid base ls 0 0 = base := by
  apply List.ext_getElem?
  intro j
  by_cases c : j < ls.length
  · rw [mid_get c, if_neg (by omega), List.take_zero, List.append_nil, List.getD_eq_getElem?_getD, List.getElem?_eq_getElem (by omega)]; rfl
  · rw [List.getElem?_eq_none (by rw [mid_len]; omega), List.getElem?_eq_none (by omega)]
theorem mid_all {base ls : List (List Int)} {M : Nat} (h : base.length = ls.length) (hM : ∀ l ∈ ls, l.length ≤ M) : mid base ls M 0 = List.zipWith (· ++ ·) base ls := by
  apply List.ext_getElem?
  intro j
  by_cases c : j < ls.length
  · rw [mid_get c, if_neg (by omega), List.getElem?_zipWith, List.getElem?_eq_getElem c, List.getElem?_eq_getElem (show j < base.length by omega), List.getD_eq_getElem?_getD, List.getD_eq_getElem?_getD, List.getElem?_eq_getElem c, List.getElem?_eq_getElem (show j < base.length by omega)]
    show some (base[j] ++ ls[j].take M) = some (base[j] ++ ls[j])
    rw [List.take_of_length_le (hM _ (List.getElem_mem _))]
  · rw [List.getElem?_eq_none (by rw [mid_len]; omega), List.getElem?_eq_none (by rw [List.length_zipWith]; omega)]
/-- how many words lie ahead of round k's block n -/
def ahead (ls : List (List Int)) (k n : Nat) : Nat := (laid k ls).length + ((ls.take n).filterMap fun l => l[k]?).length
theorem ahead_zero {ls : List (List Int)} : ahead ls 0 0 = 0 := by simp [ahead, laid]
theorem ahead_round {ls : List (List Int)} {k n : Nat} (h : ls.length ≤ n) : ahead ls k n = ahead ls (k + 1) 0 := by
  unfold ahead
  rw [List.take_of_length_le h, laid_succ]
  simp
theorem ahead_skip {ls : List (List Int)} {k n : Nat} {l : List Int} (hn : ls[n]? = some l) (h : l.length ≤ k) : ahead ls k (n + 1) = ahead ls k n := by
  unfold ahead
  rw [fm_snoc hn, List.getElem?_eq_none h]
  simp
theorem ahead_put {ls : List (List Int)} {k n : Nat} {l : List Int} (hn : ls[n]? = some l) (h : k < l.length) : ahead ls k (n + 1) = ahead ls k n + 1 := by
  unfold ahead
  rw [fm_snoc hn, List.getElem?_eq_getElem h]
  simp; omega
theorem laid_pre {ls : List (List Int)} {k M : Nat} (h : k ≤ M) : ∃ r, laid M ls = laid k ls ++ r := by
  induction M with
  | zero => have : k = 0 := by omega
            subst this; exact ⟨[], by simp⟩
  | succ M ih =>
    by_cases c : k = M + 1
    · subst c; exact ⟨[], by simp⟩
    · obtain ⟨r, e⟩ := ih (by omega)
      exact ⟨r ++ _, by rw [laid_succ, e, List.append_assoc]⟩
theorem laid_at {ls : List (List Int)} {k n M : Nat} {l : List Int} {x : Int} (hM : k < M) (hn : ls[n]? = some l) (hx : l[k]? = some x) : (laid M ls)[ahead ls k n]? = some x := by
  obtain ⟨r, e⟩ := laid_pre (ls := ls) (k := k + 1) (M := M) (by omega)
  have hd : ls = ls.take n ++ l :: ls.drop (n + 1) := by
    have := List.take_append_drop (n + 1) ls
    rw [take_snoc hn, List.append_assoc] at this
    exact this.symm
  have e2 : (ls.filterMap fun l => l[k]?) = ((ls.take n).filterMap fun l => l[k]?) ++ x :: ((ls.drop (n + 1)).filterMap fun l => l[k]?) := by
    conv => lhs; rw [hd]
    rw [List.filterMap_append, List.filterMap_cons, hx]
  rw [e, laid_succ, e2, ahead]
  rw [List.append_assoc, List.append_assoc, List.getElem?_append_right (by omega), List.getElem?_append_right (by omega)]
  simp
theorem maxOf_mem {l : List Nat} {M : Nat} (h1 : M ∈ l) (h2 : ∀ a ∈ l, a ≤ M) : M = maxOf l := by
  have a : maxOf l ≤ M := maxOf_le h2
  have b : M ≤ maxOf l := by
    have key : ∀ (l : List Nat) (c x : Nat), (x ∈ l ∨ x ≤ c) → x ≤ l.foldl max c := by
      intro l
      induction l with
      | nil => intro c x h; rcases h with h | h
               · cases h
               · exact h
      | cons y r ih =>
        intro c x h
        refine ih (max c y) x ?_
        rcases h with h | h
        · rcases List.mem_cons.mp h with rfl | h
          · exact .inr (Nat.le_max_right _ _)
          · exact .inl h
        · exact .inr (Nat.le_trans h (Nat.le_max_left _ _))
    exact key l 0 M (.inl h1)
  omega
theorem maxOf_ge {l : List Nat} {x : Nat} (h : x ∈ l) : x ≤ maxOf l := by
  have key : ∀ (l : List Nat) (c x : Nat), (x ∈ l ∨ x ≤ c) → x ≤ l.foldl max c := by
    intro l
    induction l with
    | nil => intro c x h; rcases h with h | h
             · cases h
             · exact h
    | cons y r ih =>
      intro c x h
      refine ih (max c y) x ?_
      rcases h with h | h
      · rcases List.mem_cons.mp h with rfl | h
        · exact .inr (Nat.le_max_right _ _)
        · exact .inl h
      · exact .inr (Nat.le_trans h (Nat.le_max_left _ _))
  exact key l 0 x (.inl h)
theorem laid_len_ahead {ls : List (List Int)} {M : Nat} : (laid M ls).length = ahead ls M 0 := by simp [ahead]
-- one block alone
theorem laid_one {l : List Int} : ∀ M, laid M [l] = l.take M
  | 0 => by simp [laid]
  | M + 1 => by
    rw [laid_succ, laid_one M]
    by_cases c : M < l.length
    · rw [take_snoc (List.getElem?_eq_getElem c)]
      simp [List.getElem?_eq_getElem c]
    · rw [List.take_of_length_le (by omega), List.take_of_length_le (by omega)]
      simp [List.getElem?_eq_none (Nat.le_of_not_lt c)]
theorem ecw_len {dc : List Int} {e : Nat} : (ecw dc e).length = e := by simp [ecw]
theorem told_one {m : List Int} {e : Nat} : told m [(m.length, e)] = m ++ ecw m e := by
  have h1 : maxOf ([(m.length, e)].map (·.1)) = m.length := by simp [maxOf]
  have h2 : maxOf ([(m.length, e)].map (·.2)) = e := by simp [maxOf]
  unfold told
  rw [h1, h2]
  simp only [dcs, ecs]
  rw [laid_one, laid_one, List.drop_zero, List.take_length, List.take_length, List.take_of_length_le (by rw [ecw_len]; omega)]
/-- the blocks' own words -/
def alones : List (List Int) → List (Nat × Nat) → List (List Int)
  | m :: ms, (_, e) :: bl => (m ++ ecw m e) :: alones ms bl
  | _, _ => []
def Fits : List (List Int) → List (Nat × Nat) → Prop
  | [], [] => True
  | m :: ms, (d, _) :: bl => m.length = d ∧ Fits ms bl
  | _, _ => False
theorem dcs_fit : ∀ {ms : List (List Int)} {bl : List (Nat × Nat)} {pre : List Int}, Fits ms bl → dcs (pre ++ ms.flatten) pre.length bl = ms
  | [], [], _, _ => rfl
  | m :: ms, (d, e) :: bl, pre, h0 => by
    obtain ⟨h1, h⟩ := h0
    subst h1
    have ih := dcs_fit (pre := pre ++ m) h
    rw [List.length_append, List.append_assoc] at ih
    simp only [dcs, List.flatten_cons]
    rw [ih, List.drop_left, List.take_left]
theorem ecs_fit : ∀ {ms : List (List Int)} {bl : List (Nat × Nat)} {pre : List Int}, Fits ms bl → List.zipWith (· ++ ·) ms (ecs (pre ++ ms.flatten) pre.length bl) = alones ms bl
  | [], [], _, _ => rfl
  | m :: ms, (d, e) :: bl, pre, h0 => by
    obtain ⟨h1, h⟩ := h0
    subst h1
    have ih := ecs_fit (pre := pre ++ m) h
    rw [List.length_append, List.append_assoc] at ih
    simp only [ecs, List.flatten_cons, alones]
    rw [List.zipWith_cons_cons, ih, List.drop_left, List.take_left]
theorem ecs_lens {oct : List Int} : ∀ {bl : List (Nat × Nat)} {off : Nat}, (ecs oct off bl).map (·.length) = bl.map (·.2)
  | [], _ => rfl
  | (_, _) :: bl, _ => by simp [ecs, ecw_len, ecs_lens (bl := bl)]
theorem Fits.lens : ∀ {ms : List (List Int)} {bl : List (Nat × Nat)}, Fits ms bl → ms.map (·.length) = bl.map (·.1)
  | [], [], _ => rfl
  | _ :: _, (_, _) :: _, ⟨rfl, h⟩ => by simp [h.lens]
theorem Fits.sum : ∀ {ms : List (List Int)} {bl : List (Nat × Nat)}, Fits ms bl → (bl.map (·.1)).sum = ms.flatten.length
  | [], [], _ => rfl
  | m :: _, (_, _) :: _, ⟨rfl, h⟩ => by simp [h.sum]
theorem Fits.length {ms : List (List Int)} {bl : List (Nat × Nat)} (h : Fits ms bl) : ms.length = bl.length := by simpa using congrArg List.length h.lens
theorem Fits.snoc {m : List Int} {d e : Nat} (hm : m.length = d) : ∀ {ms : List (List Int)} {bl : List (Nat × Nat)}, Fits ms bl → Fits (ms ++ [m]) (bl ++ [(d, e)])
  | [], [], _ => ⟨hm, trivial⟩
  | _ :: _, (_, _) :: _, ⟨h, r⟩ => ⟨h, Fits.snoc hm r⟩
theorem Fits.rev {ms : List (List Int)} {bl : List (Nat × Nat)} (h : Fits ms bl) : Fits ms.reverse bl.reverse := by
  induction ms generalizing bl with
  | nil => cases bl with
    | nil => exact trivial
    | cons _ _ => exact h.elim
  | cons m ms ih => cases bl with
    | nil => exact h.elim
    | cons b bl =>
      obtain ⟨d, e⟩ := b
      obtain ⟨h1, h2⟩ := h
      rw [List.reverse_cons, List.reverse_cons]
      exact Fits.snoc h1 (ih h2)
theorem alones_snoc {m : List Int} {d e : Nat} : ∀ {ms : List (List Int)} {bl : List (Nat × Nat)}, ms.length = bl.length → alones (ms ++ [m]) (bl ++ [(d, e)]) = alones ms bl ++ [m ++ ecw m e]
  | [], [], _ => rfl
  | _ :: ms, (_, _) :: bl, h => by simp [alones, alones_snoc (ms := ms) (bl := bl) (by simpa using h)]
theorem alones_rev : ∀ {ms : List (List Int)} {bl : List (Nat × Nat)}, ms.length = bl.length → alones ms.reverse bl.reverse = (alones ms bl).reverse
  | [], [], _ => rfl
  | m :: ms, (d, e) :: bl, h => by
    have h' : ms.length = bl.length := by simpa using h
    rw [List.reverse_cons, List.reverse_cons, alones_snoc (by simpa using h'), alones_rev h']
    simp [alones]
theorem Fits.get : ∀ {ms : List (List Int)} {bl : List (Nat × Nat)} {n : Nat}, Fits ms bl → n < bl.length → ∃ m e, ms[n]? = some m ∧ bl[n]? = some (m.length, e) ∧ (alones ms bl)[n]? = some (m ++ ecw m e)
  | [], [], _, _, h => by simp at h
  | m :: ms, (d, e) :: bl, 0, h0, _ => by
    obtain ⟨h1, h⟩ := h0
    subst h1
    exact ⟨m, e, rfl, rfl, rfl⟩
  | m :: ms, (d, e) :: bl, n + 1, ⟨_, h⟩, hn => by
    obtain ⟨m', e', a, b, c⟩ := h.get (n := n) (by simpa using hn)
    exact ⟨m', e', by simpa using a, by simpa using b, by simpa [alones] using c⟩
theorem alones_len : ∀ {ms : List (List Int)} {bl : List (Nat × Nat)}, ms.length = bl.length → (alones ms bl).length = bl.length
  | [], [], _ => rfl
  | _ :: ms, (_, _) :: bl, h => by simp [alones, alones_len (ms := ms) (bl := bl) (by simpa using h)]
theorem fm_len {ls : List (List Int)} {k : Nat} : (ls.filterMap fun l => l[k]?).length = (ls.map fun l => if k < l.length then 1 else 0).sum := by
  induction ls with
  | nil => rfl
  | cons l r ih =>
    rw [List.filterMap_cons, List.map_cons, List.sum_cons, ← ih]
    by_cases c : k < l.length
    · rw [List.getElem?_eq_getElem c, if_pos c]; simp; omega
    · rw [List.getElem?_eq_none (Nat.le_of_not_lt c), if_neg c]; simp
theorem laid_len {ls : List (List Int)} : ∀ M, (laid M ls).length = (ls.map fun l => min M l.length).sum
  | 0 => by
    have : (ls.map fun l : List Int => min 0 l.length) = ls.map fun _ => 0 := List.map_congr_left fun l _ => by simp
    rw [this]
    clear this
    induction ls with
    | nil => rfl
    | cons _ _ ih => simpa [laid] using ih
  | M + 1 => by
    rw [laid_succ, List.length_append, laid_len M, fm_len]
    induction ls with
    | nil => rfl
    | cons l r ih =>
      simp only [List.map_cons, List.sum_cons]
      have : min (M + 1) l.length = min M l.length + (if M < l.length then 1 else 0) := by split <;> omega
      rw [this]
      omega
theorem laid_full {ls : List (List Int)} {M : Nat} (h : ∀ l ∈ ls, l.length ≤ M) : (laid M ls).length = (ls.map (·.length)).sum := by
  rw [laid_len]
  congr 1
  exact List.map_congr_left fun l hl => Nat.min_eq_right (h l hl)
theorem told_len {ms : List (List Int)} {bl : List (Nat × Nat)} (h : Fits ms bl) : (told ms.flatten bl).length = (bl.map fun b => b.1 + b.2).sum := by
  have e1 : dcs ms.flatten 0 bl = ms := by simpa using dcs_fit (pre := []) h
  unfold told
  rw [List.length_append, e1, laid_full, laid_full, h.lens, ecs_lens]
  · induction bl generalizing ms with
    | nil => rfl
    | cons b bl ih =>
      cases ms with
      | nil => exact h.elim
      | cons m ms =>
        obtain ⟨d, e⟩ := b
        have e1 : dcs ms.flatten 0 bl = ms := by simpa using dcs_fit (pre := []) h.2
        have := ih h.2 e1
        simp only [List.map_cons, List.sum_cons]
        omega
  · intro l hl
    have : l.length ∈ (ecs ms.flatten 0 bl).map (·.length) := List.mem_map.mpr ⟨l, hl, rfl⟩
    rw [ecs_lens] at this
    exact maxOf_ge this
  · intro l hl
    have : l.length ∈ ms.map (·.length) := List.mem_map.mpr ⟨l, hl, rfl⟩
    rw [h.lens] at this
    exact maxOf_ge this
end
end Mine
namespace Mine
section
open PySem PySem.W PySem.Calls PySem.Spec PyProof.Rows
theorem top_go {α : Type} {prog : Program} {w : World} {s : Shared} {A : Around} {t : Sem α} {g h₁ : Heap} {L tk₁ : Nat} {kd : Str → Option NameKind} {bs : List (Str × Value)} {ncs : List (Str × Addr)} {cells : Led} {lx rest : List Str} {la : List Value} {cv₀ : Vals}
    {R : α → Shared → Prop} {E : Value → Shared → Prop} (F : Fr g L h₁ (bindL kd bs fun _ => none)) (N : News g L h₁ cells) (Y : CellsAre (bindC kd bs fun _ => none) ncs cells)
    (hcv : ncs.map (fun nc : Str × Addr => bindC kd bs (fun _ => none) nc.1) = cv₀) (hl : (bs.filter fun x : Str × Value => kd x.1 == some .local) = lx.zip la) (hlen : lx.length = la.length) (hnd : (lx ++ rest).Nodup) (hnc : (cells.map (·.1)).Nodup)
    {Q : α → Vals → Vals → Led → Prop} (hq : ∀ a vs cv nw h' tk', Rep ⟨g, L, lx ++ rest, cells⟩ vs cv nw h' → Q a vs cv nw → R a { s with heap := h', toks := tk' })
    (wp : Wp ⟨prog, w, s⟩ ⟨g, L, lx ++ rest, cells⟩ A t (la.map some ++ rest.map fun _ => none) cv₀ [] Q) : wpAny (model prog w) A t R E { s with heap := h₁, toks := tk₁ } := by
  have ens : bindL kd bs (fun _ => none) = vmap (lx ++ rest) (la.map some ++ rest.map fun _ => none) := by
    rw [bindL_eq, ← vmap_binds hnd hlen]
    funext y
    rw [hl, Option.or_none]
  obtain ⟨eC, _⟩ := cellsAre_eq Y
  rw [hcv] at eC
  have R0 : Rep ⟨g, L, lx ++ rest, cells⟩ (la.map some ++ rest.map fun _ => none) cv₀ ([] ++ []) h₁ := by
    refine ⟨ens ▸ F, ?_, ?_⟩
    · show News g L h₁ (cellsL cells cv₀ ++ ([] : Led))
      rw [List.append_nil, ← eC]; exact N
    · show ((cellsL cells cv₀ ++ [] : Led).map fun x : Addr × Obj => x.1).Nodup
      rw [List.append_nil, ← eC]; exact hnc
  refine wpAny_mono (wp [] h₁ tk₁ R0) (fun a s' ⟨vs', cv', nw', h', tk', R', e, q⟩ => ?_) fun _ _ x => x.elim
  subst e
  rw [List.append_nil] at R'
  exact hq _ _ _ _ _ _ R' q
section
variable {X : Fx} {f : Fm} {A : Around} {vs cv : Vals} {nw : Led}
/-- a list that was there before -/
def Old (f : Fm) (l : Addr) (its : List Value) : Prop := f.g.IsList l its.toArray
theorem Old.list {l : Addr} {its : List Value} {F : Led} {h : Heap} (H : Old f l its) (R : Rep f vs cv (nw ++ F) h) : h.IsList l its.toArray := by
  obtain ⟨o, a, b⟩ := H
  exact ⟨o, R.fr.keep _ _ a, b⟩
protected theorem Wp.lenO {l : Addr} {its : List Value} {Q : Value → Vals → Vals → Led → Prop} (H : Old f l its) (hz : its.length ≤ 2 ^ 20) (h : ∀ t, Q (.int its.length t) vs cv nw) : Wp X f A (call (.builtin "len") [.ref l]) vs cv nw Q :=
  fun F hp tk R => len_list (H.list R) (by rw [List.size_toArray]; omega) ⟨_, _, _, _, _, R, rfl, by rw [List.size_toArray]; exact h _⟩
protected theorem Wp.subO {value slice : Expr} {l : Addr} {its : List Value} {k : Int} {t : Tok} {x : Value} {Q : Value → Vals → Vals → Led → Prop} (H : Old f l its) (h0 : 0 ≤ k) (hk : k < 2 ^ 63) (hx : its[k.toNat]? = some x) (h : Q x vs cv nw)
    (hs : subscripted slice false (.ref l) (.int k t) = operate [.ref l, .int k t] (getItem (.ref l) (.int k t)) := by rfl) : Wp X f A (subscriptTail value slice (.ref l) (.int k t)) vs cv nw Q :=
  fun F hp tk R => tail_any (H.list R).typeIs slot_list_getitem.lookup (wpAny_getItem_list (H.list R) h0 hk (by simpa using hx) ⟨_, _, _, _, _, R, rfl, h⟩) hs
protected theorem Wp.tailSlO {value slice : Expr} {l r : Addr} {its : List Value} {a b c : Value} {ops : List Value} {lo' hi st : Option Int} {Q : Value → Vals → Vals → Led → Prop} (H : Old f l its) (S : Has f nw r (slO a b c)) (pa : IsPart a lo') (pb : IsPart b hi) (pc : IsPart c st) (h0 : st ≠ some 0) (hz : its.length ≤ 2 ^ 20)
    (h : ∀ n, Q (.ref n) vs cv ((n, lo (pick its lo' hi st) 0) :: nw)) (hs : subscripted slice false (.ref l) (.ref r) = operate ops (getItem (.ref l) (.ref r))) : Wp X f A (subscriptTail value slice (.ref l) (.ref r)) vs cv nw Q :=
  fun F hp tk R => tail_any (H.list R).typeIs slot_list_getitem.lookup (wpAny_getItem_list_slice (items := its.toArray) (H.list R) ⟨_, R.has S, rfl, rfl⟩ pa pb pc h0 ⟨_, _, _, _, _, (by have := R.push (lo (pick its lo' hi st) 0); unfold pick at this ⊢; simpa using this), rfl, h _⟩ (by rw [List.size_toArray]; exact fits_line hz)) hs
end
/-- what a def's frame of the text says -/
theorem lookup_inv {K : Frag} {fa : Addr} {name qual name' qual' : Str} {params params' : Arguments} {body body' : List Stmt} {scope scope' : Scope} {dV kV doc pm cdv ct oc dV' kV' doc' pm' cdv' ct' oc' : Value} {an od an' od' : Option Addr} {osl osl' : Array (Option Value)}
    {P : List Stmt → Scope → Prop}
    (h1 : K.lookup fa = some ⟨oc, od, .func (fnOf name qual params body scope dV kV doc pm an cdv ct), osl⟩)
    (h2 : K.lookup fa = some ⟨oc', od', .func (fnOf name' qual' params' body' scope' dV' kV' doc' pm' an' cdv' ct'), osl'⟩) (h : P body' scope') : P body scope := by
  rw [h1] at h2
  have e1 := Option.some.inj h2
  have e2 : Data.func (fnOf name qual params body scope dV kV doc pm an cdv ct) = .func (fnOf name' qual' params' body' scope' dV' kV' doc' pm' an' cdv' ct') := congrArg Obj.data e1
  have e3 := Data.func.inj e2
  have e4 : body = body' := by simpa [fnOf] using congrArg (fun x => x.body) e3
  have e5 : scope = scope' := by simpa [fnOf] using congrArg (fun x => x.scope) e3
  subst e4 e5
  exact h
end
end Mine
open PySem PySem.W PyProof.Rows
namespace Mine
set_option maxHeartbeats 8000000 in
open_top hd for PySem.Challenge.rw_ww0035_04
end Mine
namespace Mine
open PySem PySem.W PySem.Calls PySem.Spec PyProof.Rows
-- kO: the frame's facts; kI: a K-fact; tb_rel: a step; one_item: entering a def
local macro_rules | `(tactic| top_strB) => `(tactic| first | assumption | exact ⟨by dsimp only; decide, rfl, rfl⟩)
local macro_rules | `(tactic| fin_places) => `(tactic| first | exact .head | ((first | apply VAt.tail | apply VSt.tail | apply CAt.tail | apply CSt.tail); fin_places))
local macro_rules | `(tactic| tb_rel) => `(tactic| (first
  | ((with_reducible refine' Wp.cons ?_))
  | ((with_reducible refine' Wp.nil ?_))
  | ((with_reducible refine' Wp.If ?_))
  | ((with_reducible refine' Wp.Return ?_))
  | ((with_reducible refine' Wp.isCompare1 ?_ ?q1); (case q1 => exact rfl))
  | ((with_reducible refine' Wp.isNot ?_))
  | ((with_reducible refine' Wp.isOr ?_))
  | ((with_reducible refine' Wp.isOrNil ?_))
  | ((with_reducible refine' Wp.isAnd ?_))
  | ((with_reducible refine' Wp.isAndNil ?_))
  | ((with_reducible refine' Wp.isPlain ?_ ?q1); (case q1 => exact rfl))
  | ((with_reducible refine' Wp.BinOp ?_))
  | ((with_reducible refine' Wp.UnaryOp ?_))
  | ((with_reducible refine' Wp.Compare1 ?_ ?q1); (case q1 => exact rfl))
  | ((with_reducible refine' Wp.IfExp ?_))
  | ((with_reducible refine' Wp.int ?_); intro t_)
  | ((with_reducible refine' Wp.bool ?_))
  | ((with_reducible refine' Wp.none ?_))
  | ((with_reducible refine' Wp.Sub ?_))
  | ((with_reducible refine' Wp.SliceE ?_))
  | ((with_reducible refine' Wp.partNone ?_))
  | ((with_reducible refine' Wp.partSome ?_))
  | ((with_reducible refine' Wp.AssignComp ?_ ?q1); (case q1 => exact rfl))
  | ((with_reducible refine' Wp.Assign ?_ ?q1); (case q1 => exact rfl))
  | ((with_reducible refine' Wp.AugName ?_))
  | ((with_reducible refine' Wp.AugAttr ?_))
  | ((with_reducible refine' Wp.AugSub ?_ ?q1); (case q1 => intros; exact rfl))
  | ((with_reducible refine' Wp.AssignSub ?_ ?q1); (case q1 => exact rfl))
  | ((with_reducible refine' Wp.AssignAttr ?_ ?q1); (case q1 => exact rfl))
  | ((with_reducible refine' Wp.ExprSt ?_ ?q1 ?q2); (case q1 => exact rfl); (case q2 => exact rfl))
  | ((with_reducible refine' Wp.Break ?_))
  | ((with_reducible refine' Wp.Meth ?_ ?q1); (case q1 => exact rfl))
  | ((with_reducible refine' Wp.Call ?_ ?q1); (case q1 => exact rfl))
  | ((with_reducible refine' Wp.AttrE ?_ ?q1); (case q1 => exact rfl))
  | ((with_reducible refine' Wp.ListE ?_))
  | ((with_reducible refine' Wp.TupleE ?_))
  | ((with_reducible refine' Wp.args0 ?_))
  | ((with_reducible refine' Wp.argsCons ?_ ?q1); (case q1 => exact rfl))
  | ((with_reducible refine' Wp.callWith ?q1 ?k ?_ ?q2); (case q1 => assumption); (case q2 => exact rfl); (case k => first | trivial | (show keepIn _ _ = true; k_is)))
  | ((with_reducible refine' Wp.bindName ?_))
  | ((with_reducible refine' Wp.assignName ?_))
  | ((with_reducible refine' Wp.assignPair ?q1 ?q2 ?_); (case q1 => assumption); (case q2 => exact .inl (by one_item)))
  | ((with_reducible refine' Wp.name ?_ ?q1); (case q1 => decide); (with_reducible refine' Wp.locA ?q2 ?q3 ?h ?_); (case q2 => top_strB); (case q3 => exact rfl); (case h => fin_places))
  | ((with_reducible refine' Wp.locA ?q1 ?q2 ?h ?_); (case q1 => top_strB); (case q2 => exact rfl); (case h => fin_places))
  | ((with_reducible refine' Wp.stLocA ?q1 ?q2 ?h ?_); (case q1 => top_strB); (case q2 => exact rfl); (case h => fin_places))
  | ((with_reducible refine' Wp.name ?_ ?q1); (case q1 => decide); (with_reducible refine' Wp.cellA ?q2 ?q3 ?q4 ?h ?_); (case q2 => top_strB); (case q3 => exact rfl); (case q4 => exact rfl); (case h => fin_places))
  | ((with_reducible refine' Wp.cellA ?q1 ?q2 ?q3 ?h ?_); (case q1 => top_strB); (case q2 => exact rfl); (case q3 => exact rfl); (case h => fin_places))
  | ((with_reducible refine' Wp.name ?_ ?q1); (case q1 => decide); (with_reducible refine' Wp.freeA ?q2 ?q3 ?q4 ?h ?_ ?q5); (case q2 => top_strB); (case q3 => exact rfl); (case q4 => exact rfl); (case q5 => decide); (case h => fin_places))
  | ((with_reducible refine' Wp.stCellA ?q1 ?q2 ?q3 ?h ?_); (case q1 => top_strB); (case q2 => exact rfl); (case q3 => exact rfl); (case h => fin_places))
  | ((with_reducible refine' Wp.glob ?q1 ?qm ?q2 ?q3 ?e ?_ ?q4); (case q1 => top_strB); (case qm => exact ⟨rfl, rfl⟩); (case q2 => assumption); (case q3 => exact rfl); (case q4 => decide); (case e => k_is))
  | ((with_reducible refine' Wp.builtin ?q1 ?qm ?q2 ?q3 ?e ?v ?_ ?q4 ?q5); (case q1 => top_strB); (case qm => exact ⟨rfl, rfl⟩); (case q2 => assumption); (case q3 => exact rfl); (case q4 => decide); (case q5 => decide); (case e => k_is); (case v => boot_by_name))
  | ((with_reducible refine' Wp.newList ?_ ?q1); (case q1 => exact Nat.le_of_ble_eq_true rfl); intro l_)
  | ((with_reducible refine' Wp.newTuple ?_ ?q1); (case q1 => exact Nat.le_of_ble_eq_true rfl); intro l_)
  | ((with_reducible refine' Wp.lt ?_))
  | ((with_reducible refine' Wp.le ?_))
  | ((with_reducible refine' Wp.gt ?_))
  | ((with_reducible refine' Wp.ge ?_))
  | ((with_reducible refine' Wp.eq ?_))
  | ((with_reducible refine' Wp.ne ?_))
  | ((with_reducible refine' Wp.add ?_); intro t_)
  | ((with_reducible refine' Wp.subt ?_); intro t_)
  | ((with_reducible refine' Wp.xor ?_); intro t_)
  | ((with_reducible refine' Wp.and ?_); intro t_)
  | ((with_reducible refine' Wp.iadd ?_); intro t_)
  | ((with_reducible refine' Wp.ior ?_); intro t_)
  | ((with_reducible refine' Wp.ixor ?_); intro t_)
  | ((with_reducible refine' Wp.neg ?_); intro t_)
  | ((with_reducible refine' exB ?_))
  | ((with_reducible refine' ifF (decide_eq_false ?q1) ?_); (case q1 => omega))
  | ((with_reducible refine' ifT (decide_eq_true ?q1) ?_); (case q1 => omega))
  | ((with_reducible refine' Wp.truthyBool ?_))
  | ((with_reducible refine' Wp.truthyInt ?_))
  ); try dsimp only)

local macro_rules | `(tactic| one_item) => `(tactic| first
  | assumption
  | exact List.Mem.head _
  | (refine' List.Mem.tail _ ?_; one_item)
  | (refine' List.mem_append_right _ ?_; one_item)
  | (refine' List.mem_append_left _ ?_; one_item))
local macro_rules | `(tactic| k_intsEnd) => `(tactic| first
  | assumption
  | exact Has.mem (by one_item)
  | exact Has.mono (by assumption) (by (intro _ _; one_item)))
local macro_rules | `(tactic| l_intsW) => `(tactic| first
  | exact Up.head
  | (apply Up.tail; l_intsW)
  | (apply Up.right; l_intsW)
  | (apply Up.left; l_intsW))
local macro_rules | `(tactic| units_room) => `(tactic| first
  | assumption
  | exact Sfx.refl
  | (apply Sfx.cons; units_room)
  | (apply Sfx.app; units_room)
  | exact Sfx.trans (by assumption) (by assumption))
local macro_rules | `(tactic| o_shape) => `(tactic| first
  | assumption
  | exact PolyIn.mono (by assumption) (by (intro _ hp_; one_item)))

section
open PySem PySem.W PySem.Calls PySem.Spec PyProof.Rows
variable {X : Fx} {f : Fm} {A : Around} {vs cv : Vals} {nw : Led} {p : Program} {loose : List Str} {mg mb : Str → Option Value}

theorem LGk (w : World) : ∃ its, (Mine.hd.heap_39 w.params).lookup 108 = some (lo its 0) ∧ IntsAre its LGi := ⟨_, rfl, sameInts.are (by kernel_rfl)⟩
theorem EXk (w : World) : ∃ its, (Mine.hd.heap_39 w.params).lookup 107 = some (lo its 0) ∧ IntsAre its EXi := ⟨_, rfl, sameInts.are (by kernel_rfl)⟩
theorem glog_ok {n : Int} {t : Tok} {Q : Value → Vals → Vals → Led → Prop} (B : Bs (Mine.hd.heap_39 X.w.params) p loose mg mb f.g) (r : Rm A 3) (h1 : 1 ≤ n) (h2 : n < 256) (h : ∀ t, Q (.int (lg n) t) vs cv nw) : 
    Wp X f A (call (.ref 115) [.int n t]) vs cv nw Q := by
  refine' Wp.callDef (xs := ["n"]) (rest := []) (by assumption) (Rm.lim (by assumption)) ?k1 ?k2 ?k3 ?k4 ?k5 ?k6 ?k7 ?_ ?c1 ?c2 ?c3
  case k1 => k_is
  case k2 => k_is
  case k3 => exact rfl
  case k4 => exact rfl
  case k5 => decide
  case k6 => exact rfl
  case k7 => exact rfl
  case c1 => exact rfl
  case c2 => exact rfl
  case c3 => exact rfl
  intro g' L' hg' B'
  simp only [List.cons_append, List.nil_append, List.map_cons, List.map_nil]
  repeat tb_rel
  obtain ⟨its, e1, e2⟩ := LGk X.w
  refine Wp.subI (.old (B'.kin _ _ e1)) e2 (by omega) (by rw [show LGi.length = 256 by decide]; omega) (by decide) ?_
  intro t
  exact h t
theorem gexp_ok {n : Int} {t : Tok} {Q : Value → Vals → Vals → Led → Prop} (B : Bs (Mine.hd.heap_39 X.w.params) p loose mg mb f.g) (r : Rm A 3) (h : ∀ t, Q (.int (ex n) t) vs cv nw) : 
    Wp X f A (call (.ref 122) [.int n t]) vs cv nw Q := by
  refine' Wp.callDef (xs := ["n"]) (rest := []) (by assumption) (Rm.lim (by assumption)) ?k1 ?k2 ?k3 ?k4 ?k5 ?k6 ?k7 ?_ ?c1 ?c2 ?c3
  case k1 => k_is
  case k2 => k_is
  case k3 => exact rfl
  case k4 => exact rfl
  case k5 => decide
  case k6 => exact rfl
  case k7 => exact rfl
  case c1 => exact rfl
  case c2 => exact rfl
  case c3 => exact rfl
  intro g' L' hg' B'
  simp only [List.cons_append, List.nil_append, List.map_cons, List.map_nil]
  repeat tb_rel
  refine Wp.fmod (by decide) ?_
  intro t
  obtain ⟨its, e1, e2⟩ := EXk X.w
  have h0 := Int.fmod_nonneg_of_pos n (b := 255) (by decide)
  have h1 := Int.fmod_lt_of_pos n (b := 255) (by decide)
  refine Wp.subI (.old (B'.kin _ _ e1)) e2 h0 (by rw [show EXi.length = 256 by decide]; omega) (by decide) ?_
  intro t
  exact h t
end
section
open PySem PySem.W PySem.Calls PySem.Spec PyProof.Rows
variable {X : Fx} {f : Fm} {A : Around} {vs cv : Vals} {nw : Led} {p : Program} {loose : List Str} {mg mb : Str → Option Value}

theorem poly_len {x : Addr} {ns : List Int} {Q : Value → Vals → Vals → Led → Prop} (B : Bs (Mine.hd.heap_39 X.w.params) p loose mg mb f.g) (r : Rm A 4) (P : PolyIn 172 nw x ns) (hz : ns.length ≤ 2 ^ 20) (h : ∀ t, Q (.int ns.length t) vs cv nw) :
    Wp X f A (call (.builtin "len") [.ref x]) vs cv nw Q := by
  obtain ⟨dx, l, es, n, its, k, h1, h2, hl, h3, hi⟩ := P
  have r1 := r.in1
  refine' Wp.lenInst B (.mem h1) (.mem h2) ?k1 ?k2 ?_
  case k1 => k_is
  case k2 => k_is
  refine' Wp.callDef (xs := ["self"]) (rest := []) (by assumption) (Rm.lim (by assumption)) ?k1 ?k2 ?k3 ?k4 ?k5 ?k6 ?k7 ?_ ?c1 ?c2 ?c3
  case k1 => k_is
  case k2 => k_is
  case k3 => exact rfl
  case k4 => exact rfl
  case k5 => decide
  case k6 => exact rfl
  case k7 => exact rfl
  case c1 => exact rfl
  case c2 => exact rfl
  case c3 => exact rfl
  intro g' L' hg' B'
  simp only [List.cons_append, List.nil_append, List.map_cons, List.map_nil]
  repeat tb_rel
  refine' Wp.getOwn (by assumption) (.mem h1) (.mem h2) ?g1 ?g2 ?g3 ?g4 hl (by rfl) ?_
  case g1 => k_is
  case g2 => k_is
  case g3 => k_is
  case g4 => k_is
  repeat tb_rel
  refine Wp.len (.mem h3) (by rw [hi.length]; exact hz) ?_
  intro t
  rw [hi.length]
  refine ⟨_, _, rfl, by omega, by omega, h⟩
theorem poly_get {x : Addr} {ns : List Int} {i : Int} {t : Tok} {value slice : Expr} {Q : Value → Vals → Vals → Led → Prop} (B : Bs (Mine.hd.heap_39 X.w.params) p loose mg mb f.g) (r : Rm A 4) (P : PolyIn 172 nw x ns) (hz : ns.length ≤ 2 ^ 20) (h0 : 0 ≤ i) (hlt : i < ns.length)
    (h : ∀ t, Q (.int (ns.getD i.toNat 0) t) vs cv nw) (hs : subscripted slice true (.ref x) (.int i t) = runValue (.builtin "lifetime.subscript" ⟨[.ref x, .int i t], []⟩)) :
    Wp X f A (subscriptTail value slice (.ref x) (.int i t)) vs cv nw Q := by
  obtain ⟨dx, l, es, n, its, k, h1, h2, hl, h3, hi⟩ := P
  have r1 := r.in1
  refine' Wp.subInst B (.mem h1) (.mem h2) ?k1 ?k2 ?k3 ?_ hs
  case k1 => k_is
  case k2 => k_is
  case k3 => k_is
  refine' Wp.callDef (xs := ["self", "index"]) (rest := []) (by assumption) (Rm.lim (by assumption)) ?k1 ?k2 ?k3 ?k4 ?k5 ?k6 ?k7 ?_ ?c1 ?c2 ?c3
  case k1 => k_is
  case k2 => k_is
  case k3 => exact rfl
  case k4 => exact rfl
  case k5 => decide
  case k6 => exact rfl
  case k7 => exact rfl
  case c1 => exact rfl
  case c2 => exact rfl
  case c3 => exact rfl
  intro g' L' hg' B'
  simp only [List.cons_append, List.nil_append, List.map_cons, List.map_nil]
  repeat tb_rel
  refine' Wp.getOwn (by assumption) (.mem h1) (.mem h2) ?g1 ?g2 ?g3 ?g4 hl (by rfl) ?_
  case g1 => k_is
  case g2 => k_is
  case g3 => k_is
  case g4 => k_is
  repeat tb_rel
  refine' Wp.subI (.mem h3) hi h0 hlt hz (fun t => h t) ?hs
  case hs => exact rfl
theorem poly_slice {x s : Addr} {ns : List Int} {a b c : Value} {lo' hi' st : Option Int} {ops : List Value} {value slice : Expr} {Q : Value → Vals → Vals → Led → Prop} (B : Bs (Mine.hd.heap_39 X.w.params) p loose mg mb f.g) (r : Rm A 4) (P : PolyIn 172 nw x ns) (S : (s, slO a b c) ∈ nw) (pa : IsPart a lo') (pb : IsPart b hi') (pc : IsPart c st) (h0 : st ≠ some 0) (hz : ns.length ≤ 2 ^ 20)
    (h : ∀ n its, IntsAre its ns → Q (.ref n) vs cv ((n, lo (pick its lo' hi' st) 0) :: nw)) (hs : subscripted slice true (.ref x) (.ref s) = operate ops (getItem (.ref x) (.ref s))) :
    Wp X f A (subscriptTail value slice (.ref x) (.ref s)) vs cv nw Q := by
  obtain ⟨dx, l, es, n, its, k, h1, h2, hl, h3, hi⟩ := P
  refine' Wp.subInstSl B (.mem h1) (.mem h2) ?k0 ?k1 ?k2 ?k3 ?_ hs
  case k0 => k_is
  case k1 => k_is
  case k2 => k_is
  case k3 => k_is
  refine' Wp.callDef (xs := ["self", "index"]) (rest := []) (by assumption) (Rm.lim (by assumption)) ?k1 ?k2 ?k3 ?k4 ?k5 ?k6 ?k7 ?_ ?c1 ?c2 ?c3
  case k1 => k_is
  case k2 => k_is
  case k3 => exact rfl
  case k4 => exact rfl
  case k5 => decide
  case k6 => exact rfl
  case k7 => exact rfl
  case c1 => exact rfl
  case c2 => exact rfl
  case c3 => exact rfl
  intro g' L' hg' B'
  simp only [List.cons_append, List.nil_append, List.map_cons, List.map_nil]
  repeat tb_rel
  refine' Wp.getOwn (by assumption) (.mem h1) (.mem h2) ?g1 ?g2 ?g3 ?g4 hl (by rfl) ?_
  case g1 => k_is
  case g2 => k_is
  case g3 => k_is
  case g4 => k_is
  repeat tb_rel
  refine' Wp.tailSl (ops := [.ref l, .ref s]) (.mem h3) (.mem S) pa pb pc h0 (by rw [hi.length]; exact hz) (fun n => h n its hi) ?hs
  case hs => exact rfl
theorem poly_iter {x dx l : Addr} {es : List DictEntry} {n : Nat} {its : List Value} {k : Nat} {Q : Value → Vals → Vals → Led → Prop} (B : Bs (Mine.hd.heap_39 X.w.params) p loose mg mb f.g) (r : Rm A 4) (h1 : (x, instObj 172 dx) ∈ nw) (h2 : (dx, dictOf es n) ∈ nw) (hl : getL "num" es = some (some (.ref l))) (h3 : (l, lo its k) ∈ nw)
    (h : ∀ i, Q (.ref i) vs cv ((i, liO l 0) :: nw)) :
    Wp X f A (pyIter (.ref x)) vs cv nw Q := by
  refine' Wp.iterInst B (.mem h1) (.mem h2) ?k1 ?k2 ?_
  case k1 => k_is
  case k2 => k_is
  refine' Wp.callDef (xs := ["self"]) (rest := []) (by assumption) (Rm.lim (by assumption)) ?k1 ?k2 ?k3 ?k4 ?k5 ?k6 ?k7 ?_ ?c1 ?c2 ?c3
  case k1 => k_is
  case k2 => k_is
  case k3 => exact rfl
  case k4 => exact rfl
  case k5 => decide
  case k6 => exact rfl
  case k7 => exact rfl
  case c1 => exact rfl
  case c2 => exact rfl
  case c3 => exact rfl
  intro g' L' hg' B'
  simp only [List.cons_append, List.nil_append, List.map_cons, List.map_nil]
  repeat tb_rel
  refine' Wp.getOwn (by assumption) (.mem h1) (.mem h2) ?g1 ?g2 ?g3 ?g4 hl (by rfl) ?_
  case g1 => k_is
  case g2 => k_is
  case g3 => k_is
  case g4 => k_is
  repeat tb_rel
  refine Wp.iterL (.mem h3) fun i => ⟨i, l, rfl, ⟨0, .head _⟩, h i⟩
end
section
open PySem PySem.W PySem.Calls PySem.Spec PyProof.Rows
variable {X : Fx} {f : Fm} {A : Around} {vs cv : Vals} {nw : Led} {p : Program} {loose : List Str} {mg mb : Str → Option Value}

theorem poly_new {l : Addr} {its : List Value} {k : Nat} {ns : List Int} {s : Int} {t : Tok} {Q : Value → Vals → Vals → Led → Prop} (B : Bs (Mine.hd.heap_39 X.w.params) p loose mg mb f.g) (r : Rm A 6) (H : Has f nw l (lo its k)) (hi : IntsAre its ns) (hne : ns ≠ []) (hz : ns.length ≤ 2 ^ 18) (hs0 : 0 ≤ s) (hs1 : s ≤ 2 ^ 18)
    (h : ∀ x nw', Sfx nw nw' → PolyIn 172 nw' x (strip ns ++ List.replicate s.toNat 0) → Q (.ref x) vs cv nw') : Wp X f A (call (.ref 172) [.ref l, .int s t]) vs cv nw Q := by
  have hpos : 0 < ns.length := by cases ns with | nil => exact absurd rfl hne | cons _ _ => simp
  have hil := hi.length
  refine' Wp.callCls B ?k1 ?k2 ?k3 ?_
  case k1 => k_is
  case k2 => k_is
  case k3 => k_is
  intro x dx
  have r1 := r.mkcls (C := 172) (args := [.ref l, .int s t])
  refine' Cp.def' (xs := ["self", "num", "shift"]) (rest := ["offset"]) (by assumption) (Rm.lim (by assumption)) ?k1 ?k2 ?k3 ?k4 ?k5 ?k6 ?k7 ?_ ?c1 ?c2 ?c3
  case k1 => k_is
  case k2 => k_is
  case k3 => exact rfl
  case k4 => exact rfl
  case k5 => decide
  case k6 => exact rfl
  case k7 => exact rfl
  case c1 => exact rfl
  case c2 => exact rfl
  case c3 => exact rfl
  intro g' L' hg' B'
  simp only [List.cons_append, List.nil_append, List.map_cons, List.map_nil]

  have H' : Has _ ((x, instObj 172 dx) :: (dx, dictOf [] 0) :: nw) l (lo its k) := (H.mono (fun p hp => .tail _ (.tail _ hp))).into (L' := L') (ns := ["self", "num", "shift", "offset"]) (cs := []) hg'
  repeat tb_rel
  refine Wp.truthyL H' (by omega) ?_
  refine ifF (by cases its with | nil => simp at hil; omega | cons _ _ => rfl) ?_
  repeat tb_rel
  refine Wp.mono (Q := fun fl vs' cv' nw' => fl = .next ∧ ∃ (o : Nat) (e : Led) (t3 : Tok), vs' = [some (.ref x), some (.ref l), some (.int s t), some (.int o t3)] ∧ cv' = [] ∧ nw' = e ++ (x, instObj 172 dx) :: (dx, dictOf [] 0) :: nw ∧ ns.drop o = strip ns) ?loop ?rest
  case loop =>
    refine' Wp.For ?_ ?hs
    case hs => (intro _; rfl)

    repeat tb_rel
    refine Wp.len H' (by omega) ?_
    intro t2
    try dsimp only
    repeat tb_rel
    refine Wp.range1 ?_
    intro rg u v
    refine ⟨fun i vs' cv' nw' => ∃ (o : Nat) (t3 : Tok), vs' = [some (.ref x), some (.ref l), some (.int s t), some (.int o t3)] ∧ cv' = [] ∧ nw' = (rg, rgO 0 its.length u t2 v) :: (x, instObj 172 dx) :: (dx, dictOf [] 0) :: nw ∧ (∀ j < i, ns.getD j 0 = 0) ∧ ((i = 0 ∧ o = 0) ∨ o + 1 = i),
      _, _, _, _, iterRange r1.deeper.hh (.head _) (by omega) (by omega) (by omega) (by omega), ⟨0, _, rfl, rfl, rfl, by intro j hj; omega, .inl ⟨rfl, rfl⟩⟩, fun _ _ _ _ _ => trivial, ?_, ?_⟩
    · rintro i v' x' vs' cv' nw' hi' ⟨rfl, t4, rfl⟩ ⟨o, t3, rfl, rfl, rfl, hz', ho⟩
      have hlt : i < ns.length := by omega
      repeat tb_rel
      refine' Wp.subI (H'.mono fun p hp => .tail _ hp) hi (by omega) (by omega) (by omega) ?_ ?hs
      case hs => rfl
      intro t5
      repeat tb_rel
      have e0 : ((0 : Int) + i).toNat = i := by omega
      rw [e0]
      by_cases c : ns.getD i 0 = 0
      · refine ifF (by rw [c]; rfl) ?_
        repeat tb_rel
        refine ⟨i, t4, by simp, rfl, rfl, fun j hj => ?_, .inr rfl⟩
        by_cases q : j = i
        · rw [q]; exact c
        · exact hz' j (by omega)
      · refine ifT (by simpa using c) ?_
        repeat tb_rel
        exact ⟨rfl, i, [_], t4, by simp, rfl, rfl, strip_drop hlt hz' (.inl c)⟩
    · rintro vs' cv' nw' ⟨o, t3, rfl, rfl, rfl, hz', ho⟩
      refine ⟨rfl, o, [_], t3, rfl, rfl, rfl, strip_drop (by omega) (fun j hj => hz' j (by omega)) (.inr (by omega))⟩
  case rest =>
    rintro fl vs' cv' nw' ⟨rfl, o, e, t3, rfl, rfl, rfl, hd⟩
    repeat tb_rel
    intro sl
    refine' Wp.tailSl (ops := [.ref sl, .ref l]) (H'.mono ?s1) (.mem (.head _)) (.int _ _) .none .none (by simp) (by omega) ?_ ?hs
    case s1 => (intro p hp; one_item)
    case hs => rfl
    intro c
    rw [pick_from]
    repeat tb_rel
    refine Wp.mulL (.mem (.head _)) (by omega) (by omega) (by simp; omega) ?_
    intro m
    rw [flatten_single]
    have hl1 : (List.drop o its).length ≤ its.length := by simp
    refine Wp.concat (.mem (by one_item)) (.mem (by one_item)) (by simp; omega) ?_
    intro w'
    repeat tb_rel
    refine' Wp.setOwn (es := []) (n := 0) (dx := dx) (by assumption) (.mem (by one_item)) ?g1 ?g2 ?g3 ?g4 (by rfl) ?_
    case g1 => k_is
    case g2 => k_is
    case g3 => k_is
    case g4 => k_is
    intro t5
    refine ⟨_, _, rfl, Nat.le_of_ble_eq_true rfl, _, (by l_intsW), ?_⟩
    repeat tb_rel
    refine ⟨rfl, h x _ (by units_room) ?_⟩
    refine ⟨dx, w', _, _, _, _, by one_item, by one_item, rfl, by one_item, ?_⟩
    rw [← hd]
    have z0 : ∀ (t : Tok) (n : Nat), IntsAre (List.replicate n (.int 0 t)) (List.replicate n 0) := fun t n => by
      induction n with
      | zero => exact .nil
      | succ n ih => exact .cons _ _ ih
    exact (hi.drop o).append (z0 _ _)
end
section
open PySem PySem.W PySem.Calls PySem.Spec PyProof.Rows
variable {X : Fx} {f : Fm} {A : Around} {vs cv : Vals} {nw : Led} {p : Program} {loose : List Str} {mg mb : Str → Option Value}

theorem poly_mul {x y : Addr} {as bs : List Int} {Q : Value → Vals → Vals → Led → Prop} (B : Bs (Mine.hd.heap_39 X.w.params) p loose mg mb f.g) (r : Rm A 9) (Px : PolyIn 172 nw x as) (Py : PolyIn 172 nw y bs) (ha : Oct as) (hb : Oct bs) (hane : as ≠ []) (hbne : bs ≠ []) (hz : as.length ≤ 2 ^ 16) (hz2 : bs.length ≤ 2 ^ 16)
    (h : ∀ z nw', Sfx nw nw' → PolyIn 172 nw' z (polyMul as bs) → Q (.ref z) vs cv nw') : Wp X f A (binaryOp .Mult (.ref x) (.ref y)) vs cv nw Q := by
  have hpa : 0 < as.length := by cases as with | nil => exact absurd rfl hane | cons _ _ => simp
  have hpb : 0 < bs.length := by cases bs with | nil => exact absurd rfl hbne | cons _ _ => simp
  have Px' := Px
  have Py' := Py
  obtain ⟨dx, lx, ex_, nx, ix, kx, hx1, hx2, hxl, hx3, hxi⟩ := Px'
  obtain ⟨dy, ly, ey, ny, iy, ky, hy1, hy2, hyl, hy3, hyi⟩ := Py'
  refine' Wp.opInst (op := .Mult) B (.mem hx1) (.mem hx2) (.mem hy1) (.mem hy2) ?k1 ?k2 ?k3 ?_
  case k1 => k_is
  case k2 => k_is
  case k3 => k_is
  refine' Wp.callDef (xs := ["self", "other"]) (rest := ["num", "i", "item", "j", "other_item"]) (by assumption) (Rm.lim (by assumption)) ?k1 ?k2 ?k3 ?k4 ?k5 ?k6 ?k7 ?_ ?c1 ?c2 ?c3
  case k1 => k_is
  case k2 => k_is
  case k3 => exact rfl
  case k4 => exact rfl
  case k5 => decide
  case k6 => exact rfl
  case k7 => exact rfl
  case c1 => exact rfl
  case c2 => exact rfl
  case c3 => exact rfl
  intro g' L' hg' B'
  simp only [List.cons_append, List.nil_append, List.map_cons, List.map_nil]

  have r1 := fun e => r.deeper (e := e)
  have hh := r.hh
  repeat tb_rel
  refine poly_len (ns := as) B' (r1 _ |>.le (by omega)) (by o_shape) (by omega) ?_
  intro t1
  repeat tb_rel
  refine poly_len (ns := bs) B' (r1 _ |>.le (by omega)) (by o_shape) (by omega) ?_
  intro t2
  repeat tb_rel
  refine Wp.mulL (.mem (.head _)) (by omega) (by omega) (by simp; omega) ?_
  intro l
  rw [flatten_single]
  repeat tb_rel
  generalize hN : ((as.length : Int) + bs.length - 1).toNat = N
  have hN' : N = as.length + bs.length - 1 := by omega
  refine Wp.mono (Q := fun fl vs' cv' nw' => fl = .next ∧ ∃ (e e2 : Led) (it : List Value) (k : Nat) (v1 v2 v3 v4 : Option Value), vs' = [some (.ref x), some (.ref y), some (.ref l), v1, v2, v3, v4] ∧ cv' = [] ∧ nw' = e ++ (l, lo it k) :: (e2 ++ nw) ∧ IntsAre it (allN as bs as.length (List.replicate N 0))) ?loop ?rest
  case loop =>
    refine' Wp.For ?_ ?hs
    case hs => (intro _; rfl)

    repeat tb_rel
    refine Wp.enumerate ?_
    refine poly_iter B' (r1 _ |>.in1.in1.le (by omega)) (by one_item) (by one_item) hxl (by one_item) ?_
    intro li z
    refine ⟨fun i vs' cv' nw' => ∃ (e e2 : Led) (it : List Value) (k : Nat) (v1 v2 v3 v4 : Option Value), vs' = [some (.ref x), some (.ref y), some (.ref l), v1, v2, v3, v4] ∧ cv' = [] ∧ nw' = e ++ (l, lo it k) :: (e2 ++ nw) ∧ IntsAre it (allN as bs i (List.replicate N 0)),
      _, _, _, _, iterEnum (its := ix) (k := kx) hh rfl, ⟨[], [_], _, _, _, _, _, _, rfl, rfl, rfl, ints_rep _ _ _⟩, ?_, ?_, ?_⟩
    · rintro i vs' cv' nw' ⟨e, e2, it, k, v1, v2, v3, v4, rfl, rfl, rfl, hit⟩
      exact .mem (by one_item)
    · rintro i v x' vs' cv' nw' hi' ⟨T, ti, a, rfl, rfl, ha'⟩ ⟨e, e2, it, k, v1, v2, v3, v4, rfl, rfl, rfl, hit⟩
      obtain ⟨ta, rfl, hlt⟩ := ints_at hxi ha'
      repeat tb_rel
      refine Wp.mono (Q := fun fl vs' cv' nw' => fl = .next ∧ ∃ (e e2 : Led) (it : List Value) (k : Nat) (v3 v4 : Option Value), vs' = [some (.ref x), some (.ref y), some (.ref l), some (.int i ti), some (.int (as.getD i 0) ta), v3, v4] ∧ cv' = [] ∧ nw' = e ++ (l, lo it k) :: (e2 ++ nw) ∧ IntsAre it (rowN as bs i bs.length (allN as bs i (List.replicate N 0)))) ?loop2 ?rest2
      case loop2 =>
        refine' Wp.For ?_ ?hs
        case hs => (intro _; rfl)

        repeat tb_rel
        refine Wp.enumerate ?_
        refine poly_iter B' (r1 _ |>.in1.in1.le (by omega)) (by one_item) (by one_item) hyl (by one_item) ?_
        intro li2 z2
        refine ⟨fun j vs' cv' nw' => ∃ (e e2 : Led) (it : List Value) (k : Nat) (v3 v4 : Option Value), vs' = [some (.ref x), some (.ref y), some (.ref l), some (.int i ti), some (.int (as.getD i 0) ta), v3, v4] ∧ cv' = [] ∧ nw' = e ++ (l, lo it k) :: (e2 ++ nw) ∧ IntsAre it (rowN as bs i j (allN as bs i (List.replicate N 0))),
          _, _, _, _, iterEnum (its := iy) (k := ky) hh rfl, ⟨(T, _) :: e, e2, _, _, _, _, rfl, rfl, rfl, hit⟩, ?_, ?_, ?_⟩
        · rintro j vs' cv' nw' ⟨e, e2, it, k, v3, v4, rfl, rfl, rfl, hit⟩
          exact .mem (by one_item)
        · rintro j v x' vs' cv' nw' hj' ⟨T2, tj, b, rfl, rfl, hb'⟩ ⟨e, e2, it, k, v3, v4, rfl, rfl, rfl, hit⟩
          obtain ⟨tb, rfl, hltj⟩ := ints_at hyi hb'
          have hlen : (rowN as bs i j (allN as bs i (List.replicate N 0))).length = N := by rw [rowN_length, allN_length, List.length_replicate]
          repeat tb_rel
          have e0 : ((i : Int) + j).toNat = i + j := by omega
          refine Wp.getInt (.mem (by one_item)) hit (by omega) (by omega) (by omega) ?_
          intro t7
          repeat tb_rel
          refine glog_ok B' (r1 _ |>.le (by omega)) (ha.get hlt).1 (ha.get hlt).2 ?_
          intro t8
          repeat tb_rel
          refine glog_ok B' (r1 _ |>.le (by omega)) (hb.get hltj).1 (hb.get hltj).2 ?_
          intro t9
          repeat tb_rel
          refine gexp_ok B' (r1 _ |>.le (by omega)) ?_
          intro t10
          repeat tb_rel
          refine Wp.setI (by l_intsW) (by omega) (by omega) (by have := hit.length; omega) ?_
          repeat tb_rel
          refine ⟨(T2, _) :: e, e2, _, k, _, _, rfl, rfl, rfl, ?_⟩
          rw [rowN_succ, e0]
          exact ints_set hit _ _ _
        · rintro vs' cv' nw' ⟨e, e2, it, k, v3, v4, rfl, rfl, rfl, hit⟩
          rw [hyi.length] at hit
          exact ⟨rfl, e, e2, it, k, v3, v4, rfl, rfl, rfl, hit⟩
      case rest2 =>
        rintro fl vs' cv' nw' ⟨rfl, e, e2, it, k, v3, v4, rfl, rfl, rfl, hit⟩
        repeat tb_rel
        exact ⟨e, e2, it, k, _, _, v3, v4, rfl, rfl, rfl, by rw [allN_succ]; exact hit⟩
    · rintro vs' cv' nw' ⟨e, e2, it, k, v1, v2, v3, v4, rfl, rfl, rfl, hit⟩
      rw [hxi.length] at hit
      exact ⟨rfl, e, e2, it, k, v1, v2, v3, v4, rfl, rfl, rfl, hit⟩
  case rest =>
    rintro fl vs' cv' nw' ⟨rfl, e, e2, it, k, v1, v2, v3, v4, rfl, rfl, rfl, hit⟩
    repeat tb_rel
    refine poly_new B' (r1 _ |>.le (by omega)) (.mem (by one_item)) hit (by intro c; have := congrArg List.length c; rw [allN_length, List.length_replicate] at this; simp at this; omega) (by rw [allN_length, List.length_replicate]; omega) (by decide) (by decide) ?_
    rintro z nw' hs P
    refine ⟨(fun c => nomatch c), h z nw' (Sfx.trans (by units_room) hs) ?_⟩
    rw [hN'] at P
    simpa [polyMul] using P
end
section
open PySem PySem.W PySem.Calls PySem.Spec PyProof.Rows
variable {X : Fx} {f : Fm} {A : Around} {vs cv : Vals} {nw : Led} {p : Program} {loose : List Str} {mg mb : Str → Option Value}

set_option maxHeartbeats 1000000 in
theorem poly_mod {y : Addr} {bs : List Int} : ∀ (n : Nat) {f : Fm} {A : Around} {vs cv : Vals} {nw : Led} {x : Addr} {as : List Int} {Q : Value → Vals → Vals → Led → Prop} (B : Bs (Mine.hd.heap_39 X.w.params) p loose mg mb f.g) (r : Rm A (4 * n + 9)) (Px : PolyIn 172 nw x as) (Py : PolyIn 172 nw y bs) (hm : Md as bs) (hz : as.length ≤ 2 ^ 16) (hz2 : bs.length ≤ 2 ^ 16) (hn : as.length ≤ n)
    (h : ∀ z nw', Sfx nw nw' → PolyIn 172 nw' z (polyModF n as bs) → Q (.ref z) vs cv nw'), Wp X f A (binaryOp .Mod (.ref x) (.ref y)) vs cv nw Q := by
  intro n
  induction n
  case zero =>
    intro f A vs cv nw x as Q B r Px Py hm hz hz2 hn h
    exact (hm.ne (List.length_eq_zero_iff.mp (by omega))).elim
  rename_i n ih
  intro f A vs cv nw x as Q B r Px Py hm hz hz2 hn h
  have Px' := Px
  have Py' := Py
  obtain ⟨dx, lx, ex_, nx, ix, kx, hx1, hx2, hxl, hx3, hxi⟩ := Px'
  obtain ⟨dy, ly, ey, ny, iy, ky, hy1, hy2, hyl, hy3, hyi⟩ := Py'
  have hbl := hm.len
  have hal : 0 < as.length := List.length_pos_iff.mpr hm.ne
  refine' Wp.opInst (op := .Mod) B (.mem hx1) (.mem hx2) (.mem hy1) (.mem hy2) ?k1 ?k2 ?k3 ?_
  case k1 => k_is
  case k2 => k_is
  case k3 => k_is
  refine' Wp.callDefC (xs := ["self", "other"]) (args := [.ref x, .ref y]) (lx := ["self", "other"]) (la := [.ref x, .ref y]) (rest := ["difference", "num"]) (cv₀ := [none]) (by assumption) (Rm.lim (by assumption)) ?k1 ?k2 ?k3 ?k4 ?k5 ?k6 ?k7 ?k8 ?k9 ?_ ?c1 ?c2 ?c3
  case k1 => k_is
  case k2 => k_is
  case k3 => exact rfl
  case k4 => exact rfl
  case k5 => exact rfl
  case k6 => decide
  case k7 => exact rfl
  case k8 => exact rfl
  case k9 => decide
  case c1 => exact rfl
  case c2 => exact rfl
  case c3 => exact rfl
  intro g' L' cs' hg' B' hcs
  simp only [List.cons_append, List.nil_append, List.map_cons, List.map_nil]

  have hcs : cs'.map (·.1) = [L' + 1] := hcs
  obtain ⟨os, rfl, ho⟩ := csAll hcs
  obtain ⟨o, rfl⟩ := os1 ho
  clear ho hcs
  simp only [List.zip_cons_cons, List.zip_nil_left]
  have r1 := fun e => r.deeper (e := e)
  have hh := r.hh
  repeat tb_rel
  refine poly_len (ns := as) B' (r1 _ |>.le (by omega)) (by o_shape) (by omega) ?_
  intro t1
  repeat tb_rel
  refine poly_len (ns := bs) B' (r1 _ |>.le (by omega)) (by o_shape) (by omega) ?_
  intro t2
  by_cases hlt : as.length < bs.length
  · repeat tb_rel
    refine ⟨(fun c => nomatch c), h x nw Sfx.refl ?_⟩
    unfold polyModF
    rw [if_pos hlt]
    exact Px
  repeat tb_rel
  have ha0 : 1 ≤ as.getD 0 0 ∧ as.getD 0 0 < 256 := by
    have h1 := hm.hd (by omega)
    have h2 := hm.byt (as.getD 0 0) (by rw [List.getD_eq_getElem?_getD, List.getElem?_eq_getElem hal]; exact List.getElem_mem _)
    have h3 := h2.1
    have h4 := h2.2
    omega
  have hb0 := hm.oct.get (i := 0) (by omega)
  refine' poly_get (ns := as) B' (r1 _ |>.le (by omega)) (by o_shape) (by omega) (by omega) (by omega) ?_ ?hs1
  case hs1 => rfl
  intro t3
  repeat tb_rel
  refine glog_ok B' (r1 _ |>.le (by omega)) ha0.1 ha0.2 ?_
  intro t4
  repeat tb_rel
  refine' poly_get (ns := bs) B' (r1 _ |>.le (by omega)) (by o_shape) (by omega) (by omega) (by omega) ?_ ?hs2
  case hs2 => rfl
  intro t5
  repeat tb_rel
  refine glog_ok B' (r1 _ |>.le (by omega)) hb0.1 hb0.2 ?_
  intro t6
  repeat tb_rel
  refine' Wp.comp (ns := ["item", "other_item"]) ?hclos ?hcell ?hkind ?hnames ?hlen ?hnd ?_ ?hfs
  case hclos => exact rfl
  case hcell => exact rfl
  case hkind => exact rfl
  case hnames => decide
  case hlen => exact .inl rfl
  case hnd => decide
  case hfs => (intro _; rfl)

  repeat tb_rel
  refine Wp.zip ?_
  refine poly_iter B' (r1 _ |>.in1.in1.le (by omega)) hx1 hx2 hxl hx3 ?_
  intro i1
  refine poly_iter B' (r1 _ |>.in1.in1.le (by omega)) (by one_item) (by one_item) hyl (by one_item) ?_
  intro i2 z TI TO
  have hrl : (modRow as bs).length = min as.length bs.length := by unfold modRow; rw [List.length_zipWith]
  refine ⟨fun i ys cv' nw' => (∃ t, cv' = [some (.int (lg (as.getD 0 0) - lg (bs.getD 0 0)) t)]) ∧ Sfx nw nw' ∧ IntsAre ys ((modRow as bs).take i),
    _, _, _, _, ?_, iterZip (its1 := ix) (its2 := iy) (k1 := kx) (k2 := ky) hh rfl, ⟨⟨_, rfl⟩, Sfx.refl, .nil⟩, ?_, ?_, ?_⟩
  · rw [hxi.length, hyi.length]; omega
  · rintro i ys cv' nw' f' ⟨_, hs, _⟩ _
    exact ⟨.mem (hs.mem _ hx3), .mem (hs.mem _ hy3)⟩
  · rintro g2 C hg2 i v x' ys vs' cv' nw' hi' ⟨T, a, b, rfl, rfl, ha', hb'⟩ ⟨⟨t7, rfl⟩, hs, hys⟩ hvl
    obtain ⟨ta, rfl, hla⟩ := ints_at hxi ha'
    obtain ⟨tb, rfl, hlb⟩ := ints_at hyi hb'
    obtain ⟨v1, v2, rfl⟩ := vs2 hvl
    have B2 := B'.keeps hg2
    repeat tb_rel
    refine Wp.pure ?_
    refine ifT rfl ?_
    repeat tb_rel
    refine glog_ok B2 (r1 _ |>.le (by omega)) (hm.oct.get hlb).1 (hm.oct.get hlb).2 ?_
    intro t8
    repeat tb_rel
    refine gexp_ok B2 (r1 _ |>.le (by omega)) ?_
    intro t9
    repeat tb_rel
    refine ⟨rfl, ⟨_, rfl⟩, Sfx.trans hs (by units_room), ?_⟩
    rw [modRow_succ hla hlb]
    exact hys.append (.cons _ _ .nil)
  · rintro l k ys cv' nw' ⟨⟨t7, rfl⟩, hs, hys⟩
    rw [List.take_of_length_le (by rw [hrl, hxi.length, hyi.length]; omega)] at hys
    obtain ⟨e, rfl⟩ := hs
    repeat tb_rel
    have hlen3 := modRow_length (as := as) (bs := bs) (by omega)
    have hne3 : modRow as bs ++ as.drop bs.length ≠ [] := fun c => by rw [c] at hlen3; simp only [List.length_nil] at hlen3; omega
    by_cases hd : as.length = bs.length
    · refine ifF (by rw [hd]; simp) ?_
      have HI : IntsAre ys (modRow as bs ++ as.drop bs.length) := by
        rw [List.drop_of_length_le (by omega), List.append_nil]; exact hys

      repeat tb_rel
      refine poly_new B' (r1 _ |>.le (by omega)) (.mem (by one_item)) HI hne3 (by rw [hlen3]; omega) (by decide) (by decide) ?_
      rintro p3 _ ⟨e3, rfl⟩ P3
      repeat tb_rel
      have em : strip (modRow as bs ++ as.drop bs.length) ++ List.replicate (Int.toNat 0) 0 = modStep as bs := List.append_nil _
      rw [em] at P3
      refine ih B' (r1 _ |>.le (by omega)) P3 (by o_shape) (hm.step (by omega)).1 (by have := (hm.step (bs := bs) (by omega)).2; omega) hz2 (by have := (hm.step (bs := bs) (by omega)).2; omega) ?_
      rintro z3 nw3 hs3 Pz
      refine ⟨(fun c => nomatch c), h z3 nw3 (Sfx.trans (by units_room) hs3) ?_⟩
      unfold polyModF
      rw [if_neg hlt]
      exact Pz
    · refine ifT (bne_iff_ne.mpr (by omega)) ?_
      repeat tb_rel
      refine Wp.mExtend (.mem (.head _)) ?_
      repeat tb_rel
      intro rs
      refine' poly_slice (ns := as) B' (r1 _ |>.le (by omega)) (by o_shape) (.head _) (.int _ _) .none .none (by simp) (by omega) ?_ ?hs9
      case hs9 => rfl
      intro n9 its9 hi9
      have e9 : (-((as.length : Int) - bs.length)) = -((as.length - bs.length : Nat) : Int) := by omega
      rw [e9, pick_last _ _ (by omega)]
      repeat tb_rel
      have hyl9 := hys.length
      refine Wp.extend (fun n' => by l_intsW) (.mem (.head _)) (by rw [hyl9, hrl, List.length_drop, hi9.length]; omega) ?_
      intro n10
      refine ⟨(fun _ c => nomatch c), ?_⟩
      have HI : IntsAre (ys ++ its9.drop (its9.length - (as.length - bs.length))) (modRow as bs ++ as.drop bs.length) := by
        rw [hi9.length, show as.length - (as.length - bs.length) = bs.length by omega]
        exact hys.append (hi9.drop _)

      repeat tb_rel
      refine poly_new B' (r1 _ |>.le (by omega)) (.mem (by one_item)) HI hne3 (by rw [hlen3]; omega) (by decide) (by decide) ?_
      rintro p3 _ ⟨e3, rfl⟩ P3
      repeat tb_rel
      have em : strip (modRow as bs ++ as.drop bs.length) ++ List.replicate (Int.toNat 0) 0 = modStep as bs := List.append_nil _
      rw [em] at P3
      refine ih B' (r1 _ |>.le (by omega)) P3 (by o_shape) (hm.step (by omega)).1 (by have := (hm.step (bs := bs) (by omega)).2; omega) hz2 (by have := (hm.step (bs := bs) (by omega)).2; omega) ?_
      rintro z3 nw3 hs3 Pz
      refine ⟨(fun c => nomatch c), h z3 nw3 (Sfx.trans (by units_room) hs3) ?_⟩
      unfold polyModF
      rw [if_neg hlt]
      exact Pz
end
section
open PySem PySem.W PySem.Calls PySem.Spec PyProof.Rows
variable {X : Fx} {f : Fm} {A : Around} {vs cv : Vals} {nw : Led} {p : Program} {loose : List Str} {mg mb : Str → Option Value}

theorem buf_new {Q : Value → Vals → Vals → Led → Prop} (B : Bs (Mine.hd.heap_39 X.w.params) p loose mg mb f.g) (r : Rm A 6)
    (h : ∀ x dx l hb tb hl tl t n, Q (.ref x) vs cv ((l, lo [] 0) :: (x, instObj 297 dx) :: (dx, dictOf (bufEs hb tb hl tl l (.int 0 t)) n) :: nw)) : Wp X f A (call (.ref 297) []) vs cv nw Q := by
  refine' Wp.callCls B ?k1 ?k2 ?k3 ?_
  case k1 => k_is
  case k2 => k_is
  case k3 => k_is
  intro x dx
  have r1 := r.mkcls (C := 297) (args := [])
  refine' Cp.def' (xs := ["self"]) (rest := []) (by assumption) (Rm.lim (by assumption)) ?k1 ?k2 ?k3 ?k4 ?k5 ?k6 ?k7 ?_ ?c1 ?c2 ?c3
  case k1 => k_is
  case k2 => k_is
  case k3 => exact rfl
  case k4 => exact rfl
  case k5 => decide
  case k6 => exact rfl
  case k7 => exact rfl
  case c1 => exact rfl
  case c2 => exact rfl
  case c3 => exact rfl
  intro g' L' hg' B'
  simp only [List.cons_append, List.nil_append, List.map_cons, List.map_nil]

  repeat tb_rel
  refine' Wp.setOwn (es := []) (n := 0) (dx := dx) (by assumption) (.mem (by one_item)) ?g1 ?g2 ?g3 ?g4 (by rfl) ?_
  case g1 => k_is
  case g2 => k_is
  case g3 => k_is
  case g4 => k_is
  intro ts_
  refine ⟨_, _, rfl, Nat.le_of_ble_eq_true rfl, _, (by l_intsW), ?_⟩

  repeat tb_rel
  rename_i la ta
  refine' Wp.setOwn (es := putL "buffer" (PyData.keyHash X.w.params "buffer") (.str "buffer" ts_) (.ref la) []) (n := putN "buffer" [] 0) (dx := dx) (by assumption) (.mem (by one_item)) ?g1 ?g2 ?g3 ?g4 (by rfl) ?_
  case g1 => k_is
  case g2 => k_is
  case g3 => k_is
  case g4 => k_is
  intro ts_
  refine ⟨_, _, rfl, Nat.le_of_ble_eq_true rfl, _, (by l_intsW), ?_⟩

  repeat tb_rel
  exact ⟨rfl, h _ _ _ _ _ _ _ _ _⟩

set_option maxHeartbeats 1000000 in
theorem put_bit_ok {x dx l : Addr} {hb hl : Int} {tb tl t : Tok} {n k m i : Nat} {its : List Value} {ns : List Int} {b : Bool} {e rest : Led} {Q : Value → Vals → Vals → Led → Prop} (B : Bs (Mine.hd.heap_39 X.w.params) p loose mg mb f.g) (r : Rm A 3)
    (hx : (x, instObj 297 dx) ∈ rest) (hi : IntsAre its ns) (hi8 : i < 8) (hlen : ns.length = if i = 0 then m else m + 1) (hz : m ≤ 2 ^ 16)
    (h : ∀ e2 its' k' t', IntsAre its' (pbit ns m i b) → Q .none vs cv (e2 ++ (dx, dictOf (bufEs hb tb hl tl l (.int ((8 * m + i : Nat) + 1) t')) n) :: (l, lo its' k') :: rest)) :
    Wp X f A (call (.ref 294) [.ref x, .bool b]) vs cv (e ++ (dx, dictOf (bufEs hb tb hl tl l (.int (8 * m + i : Nat) t)) n) :: (l, lo its k) :: rest) Q := by
  refine' Wp.callDef (xs := ["self", "bit"]) (rest := ["buf_index"]) (by assumption) (Rm.lim (by assumption)) ?k1 ?k2 ?k3 ?k4 ?k5 ?k6 ?k7 ?_ ?c1 ?c2 ?c3
  case k1 => k_is
  case k2 => k_is
  case k3 => exact rfl
  case k4 => exact rfl
  case k5 => decide
  case k6 => exact rfl
  case k7 => exact rfl
  case c1 => exact rfl
  case c2 => exact rfl
  case c3 => exact rfl
  intro g' L' hg' B'
  simp only [List.cons_append, List.nil_append, List.map_cons, List.map_nil]

  have e1 := fdiv8 (m := m) hi8
  have e2 := fmod8 (m := m) hi8
  have hil := hi.length
  cases b <;> by_cases hq : i = 0
  · have hi0 : i = 0 := hq
    rw [if_pos hi0] at hlen
    repeat tb_rel
    refine' Wp.getOwn (by assumption) (.mem (by one_item)) (.mem (by one_item)) ?g1 ?g2 ?g3 ?g4 (by rfl) (by rfl) ?_
    case g1 => k_is
    case g2 => k_is
    case g3 => k_is
    case g4 => k_is
    repeat tb_rel
    refine Wp.fdiv (by decide) (by decide) ?_
    intro t1
    rw [e1]
    repeat tb_rel
    refine' Wp.getOwn (by assumption) (.mem (by one_item)) (.mem (by one_item)) ?g1 ?g2 ?g3 ?g4 (by rfl) (by rfl) ?_
    case g1 => k_is
    case g2 => k_is
    case g3 => k_is
    case g4 => k_is
    repeat tb_rel
    refine Wp.len (.mem (by one_item)) (by omega) ?_
    intro t2
    repeat tb_rel
    refine' Wp.getOwn (by assumption) (.mem (by one_item)) (.mem (by one_item)) ?g1 ?g2 ?g3 ?g4 (by rfl) (by rfl) ?_
    case g1 => k_is
    case g2 => k_is
    case g3 => k_is
    case g4 => k_is
    repeat tb_rel
    refine Wp.mAppend (.mem (by one_item)) ?_
    repeat tb_rel
    refine Wp.append (by l_intsW) (by omega) ?_
    refine ⟨(fun _ c => nomatch c), ?_⟩
    repeat tb_rel
    refine ifF rfl ?_
    repeat tb_rel
    refine' Wp.getOwn (by assumption) (.mem (by one_item)) (.mem (by one_item)) ?g1 ?g2 ?g3 ?g4 (by rfl) (by rfl) ?_
    case g1 => k_is
    case g2 => k_is
    case g3 => k_is
    case g4 => k_is
    repeat tb_rel
    refine' Wp.setOwn (es := bufEs hb tb hl tl l (.int (8 * m + i : Nat) t)) (n := n) (dx := dx) (by assumption) (.mem (by one_item)) ?g1 ?g2 ?g3 ?g4 (by rfl) ?_
    case g1 => k_is
    case g2 => k_is
    case g3 => k_is
    case g4 => k_is
    intro ts_
    refine ⟨_, _, rfl, Nat.le_of_ble_eq_true rfl, _, (by l_intsW), ?_⟩
    repeat tb_rel
    refine h e _ _ _ ?_
    unfold pbit
    simp only [if_pos hi0]
    rw [if_neg (by decide)]
    exact (hi.append (.cons 0 _ .nil))
  · have hi0 : i ≠ 0 := hq
    rw [if_neg hi0] at hlen
    repeat tb_rel
    refine' Wp.getOwn (by assumption) (.mem (by one_item)) (.mem (by one_item)) ?g1 ?g2 ?g3 ?g4 (by rfl) (by rfl) ?_
    case g1 => k_is
    case g2 => k_is
    case g3 => k_is
    case g4 => k_is
    repeat tb_rel
    refine Wp.fdiv (by decide) (by decide) ?_
    intro t1
    rw [e1]
    repeat tb_rel
    refine' Wp.getOwn (by assumption) (.mem (by one_item)) (.mem (by one_item)) ?g1 ?g2 ?g3 ?g4 (by rfl) (by rfl) ?_
    case g1 => k_is
    case g2 => k_is
    case g3 => k_is
    case g4 => k_is
    repeat tb_rel
    refine Wp.len (.mem (by one_item)) (by omega) ?_
    intro t2
    repeat tb_rel
    refine ifF rfl ?_
    repeat tb_rel
    refine' Wp.getOwn (by assumption) (.mem (by one_item)) (.mem (by one_item)) ?g1 ?g2 ?g3 ?g4 (by rfl) (by rfl) ?_
    case g1 => k_is
    case g2 => k_is
    case g3 => k_is
    case g4 => k_is
    repeat tb_rel
    refine' Wp.setOwn (es := bufEs hb tb hl tl l (.int (8 * m + i : Nat) t)) (n := n) (dx := dx) (by assumption) (.mem (by one_item)) ?g1 ?g2 ?g3 ?g4 (by rfl) ?_
    case g1 => k_is
    case g2 => k_is
    case g3 => k_is
    case g4 => k_is
    intro ts_
    refine ⟨_, _, rfl, Nat.le_of_ble_eq_true rfl, _, (by l_intsW), ?_⟩
    repeat tb_rel
    refine h e _ _ _ ?_
    unfold pbit
    simp only [if_neg hi0]
    rw [if_neg (by decide)]
    exact hi
  · have hi0 : i = 0 := hq
    rw [if_pos hi0] at hlen
    repeat tb_rel
    refine' Wp.getOwn (by assumption) (.mem (by one_item)) (.mem (by one_item)) ?g1 ?g2 ?g3 ?g4 (by rfl) (by rfl) ?_
    case g1 => k_is
    case g2 => k_is
    case g3 => k_is
    case g4 => k_is
    repeat tb_rel
    refine Wp.fdiv (by decide) (by decide) ?_
    intro t1
    rw [e1]
    repeat tb_rel
    refine' Wp.getOwn (by assumption) (.mem (by one_item)) (.mem (by one_item)) ?g1 ?g2 ?g3 ?g4 (by rfl) (by rfl) ?_
    case g1 => k_is
    case g2 => k_is
    case g3 => k_is
    case g4 => k_is
    repeat tb_rel
    refine Wp.len (.mem (by one_item)) (by omega) ?_
    intro t2
    repeat tb_rel
    refine' Wp.getOwn (by assumption) (.mem (by one_item)) (.mem (by one_item)) ?g1 ?g2 ?g3 ?g4 (by rfl) (by rfl) ?_
    case g1 => k_is
    case g2 => k_is
    case g3 => k_is
    case g4 => k_is
    repeat tb_rel
    refine Wp.mAppend (.mem (by one_item)) ?_
    repeat tb_rel
    refine Wp.append (by l_intsW) (by omega) ?_
    refine ⟨(fun _ c => nomatch c), ?_⟩
    repeat tb_rel
    refine ifT rfl ?_
    repeat tb_rel
    refine' Wp.getOwn (by assumption) (.mem (by one_item)) (.mem (by one_item)) ?g1 ?g2 ?g3 ?g4 (by rfl) (by rfl) ?_
    case g1 => k_is
    case g2 => k_is
    case g3 => k_is
    case g4 => k_is
    repeat tb_rel
    refine Wp.getInt (.mem (by one_item)) (hi.append (.cons 0 _ .nil)) (by omega) (by simp only [List.length_append, List.length_cons, List.length_nil]; omega) (by simp only [List.length_append, List.length_cons, List.length_nil]; omega) ?_
    intro t3
    repeat tb_rel
    refine' Wp.getOwn (by assumption) (.mem (by one_item)) (.mem (by one_item)) ?g1 ?g2 ?g3 ?g4 (by rfl) (by rfl) ?_
    case g1 => k_is
    case g2 => k_is
    case g3 => k_is
    case g4 => k_is
    repeat tb_rel
    refine Wp.fmod (by decide) ?_
    intro t4
    rw [e2]
    refine Wp.shr (by omega) ?_
    intro t5
    repeat tb_rel
    refine Wp.setI (by l_intsW) (by omega) (by omega) (by simp only [List.length_append, List.length_cons, List.length_nil]; omega) ?_
    repeat tb_rel
    refine' Wp.getOwn (by assumption) (.mem (by one_item)) (.mem (by one_item)) ?g1 ?g2 ?g3 ?g4 (by rfl) (by rfl) ?_
    case g1 => k_is
    case g2 => k_is
    case g3 => k_is
    case g4 => k_is
    repeat tb_rel
    refine' Wp.setOwn (es := bufEs hb tb hl tl l (.int (8 * m + i : Nat) t)) (n := n) (dx := dx) (by assumption) (.mem (by one_item)) ?g1 ?g2 ?g3 ?g4 (by rfl) ?_
    case g1 => k_is
    case g2 => k_is
    case g3 => k_is
    case g4 => k_is
    intro ts_
    refine ⟨_, _, rfl, Nat.le_of_ble_eq_true rfl, _, (by l_intsW), ?_⟩
    repeat tb_rel
    refine h e _ _ _ ?_
    unfold pbit
    simp only [if_pos hi0, if_true]
    exact ints_set (hi.append (.cons 0 _ .nil)) _ _ _
  · have hi0 : i ≠ 0 := hq
    rw [if_neg hi0] at hlen
    repeat tb_rel
    refine' Wp.getOwn (by assumption) (.mem (by one_item)) (.mem (by one_item)) ?g1 ?g2 ?g3 ?g4 (by rfl) (by rfl) ?_
    case g1 => k_is
    case g2 => k_is
    case g3 => k_is
    case g4 => k_is
    repeat tb_rel
    refine Wp.fdiv (by decide) (by decide) ?_
    intro t1
    rw [e1]
    repeat tb_rel
    refine' Wp.getOwn (by assumption) (.mem (by one_item)) (.mem (by one_item)) ?g1 ?g2 ?g3 ?g4 (by rfl) (by rfl) ?_
    case g1 => k_is
    case g2 => k_is
    case g3 => k_is
    case g4 => k_is
    repeat tb_rel
    refine Wp.len (.mem (by one_item)) (by omega) ?_
    intro t2
    repeat tb_rel
    refine ifT rfl ?_
    repeat tb_rel
    refine' Wp.getOwn (by assumption) (.mem (by one_item)) (.mem (by one_item)) ?g1 ?g2 ?g3 ?g4 (by rfl) (by rfl) ?_
    case g1 => k_is
    case g2 => k_is
    case g3 => k_is
    case g4 => k_is
    repeat tb_rel
    refine Wp.getInt (.mem (by one_item)) hi (by omega) (by omega) (by omega) ?_
    intro t3
    repeat tb_rel
    refine' Wp.getOwn (by assumption) (.mem (by one_item)) (.mem (by one_item)) ?g1 ?g2 ?g3 ?g4 (by rfl) (by rfl) ?_
    case g1 => k_is
    case g2 => k_is
    case g3 => k_is
    case g4 => k_is
    repeat tb_rel
    refine Wp.fmod (by decide) ?_
    intro t4
    rw [e2]
    refine Wp.shr (by omega) ?_
    intro t5
    repeat tb_rel
    refine Wp.setI (by l_intsW) (by omega) (by omega) (by omega) ?_
    repeat tb_rel
    refine' Wp.getOwn (by assumption) (.mem (by one_item)) (.mem (by one_item)) ?g1 ?g2 ?g3 ?g4 (by rfl) (by rfl) ?_
    case g1 => k_is
    case g2 => k_is
    case g3 => k_is
    case g4 => k_is
    repeat tb_rel
    refine' Wp.setOwn (es := bufEs hb tb hl tl l (.int (8 * m + i : Nat) t)) (n := n) (dx := dx) (by assumption) (.mem (by one_item)) ?g1 ?g2 ?g3 ?g4 (by rfl) ?_
    case g1 => k_is
    case g2 => k_is
    case g3 => k_is
    case g4 => k_is
    intro ts_
    refine ⟨_, _, rfl, Nat.le_of_ble_eq_true rfl, _, (by l_intsW), ?_⟩
    repeat tb_rel
    refine h e _ _ _ ?_
    unfold pbit
    simp only [if_neg hi0, if_true]
    exact ints_set hi _ _ _
end
section
open PySem PySem.W PySem.Calls PySem.Spec PyProof.Rows
variable {X : Fx} {f : Fm} {A : Around} {vs cv : Vals} {nw : Led} {p : Program} {loose : List Str} {mg mb : Str → Option Value}

theorem put_ok {x dx l : Addr} {hb hl : Int} {tb tl t t1 t2 : Tok} {n k m : Nat} {its : List Value} {ns : List Int} {o : Int} {e rest : Led} {Q : Value → Vals → Vals → Led → Prop} (B : Bs (Mine.hd.heap_39 X.w.params) p loose mg mb f.g) (r : Rm A 5)
    (hx : (x, instObj 297 dx) ∈ rest) (hi : IntsAre its ns) (hlen : ns.length = m) (h0 : 0 ≤ o) (h1 : o < 256) (hz : m ≤ 2 ^ 16)
    (h : ∀ e2 its' k' t', IntsAre its' (ns ++ [o]) → Q .none vs cv (e2 ++ (dx, dictOf (bufEs hb tb hl tl l (.int (8 * (m + 1) : Nat) t')) n) :: (l, lo its' k') :: rest)) :
    Wp X f A (call (.ref 280) [.ref x, .int o t1, .int 8 t2]) vs cv (e ++ (dx, dictOf (bufEs hb tb hl tl l (.int (8 * m : Nat) t)) n) :: (l, lo its k) :: rest) Q := by
  refine' Wp.callDef (xs := ["self", "num", "length"]) (rest := ["i"]) (by assumption) (Rm.lim (by assumption)) ?k1 ?k2 ?k3 ?k4 ?k5 ?k6 ?k7 ?_ ?c1 ?c2 ?c3
  case k1 => k_is
  case k2 => k_is
  case k3 => exact rfl
  case k4 => exact rfl
  case k5 => decide
  case k6 => exact rfl
  case k7 => exact rfl
  case c1 => exact rfl
  case c2 => exact rfl
  case c3 => exact rfl
  intro g' L' hg' B'
  simp only [List.cons_append, List.nil_append, List.map_cons, List.map_nil]

  have r1 := fun e => r.deeper (e := e)
  have hh := r.hh
  repeat tb_rel
  refine' Wp.For ?_ ?hs
  case hs => (intro _; rfl)

  repeat tb_rel
  refine Wp.range1 ?_
  intro rg u v
  refine ⟨fun i vs' cv' nw' => ∃ (e : Led) (its' : List Value) (k' : Nat) (t' : Tok) (v1 : Option Value), vs' = [some (.ref x), some (.int o t1), some (.int 8 t2), v1] ∧ cv' = [] ∧ nw' = e ++ (dx, dictOf (bufEs hb tb hl tl l (.int (8 * m + i : Nat) t')) n) :: (l, lo its' k') :: rest ∧ IntsAre its' (pst ns o m i),
    _, _, _, _, iterRange hh (.head _) (by omega) (by omega) (by omega) (by omega), ⟨(rg, _) :: e, its, k, t, _, rfl, rfl, rfl, hi⟩, fun _ _ _ _ _ => trivial, ?_, ?_⟩
  · rintro i v' x' vs' cv' nw' hi' ⟨rfl, t4, rfl⟩ ⟨e, its', k', t', v1, rfl, rfl, rfl, hI⟩
    have hi8 : i < 8 := by omega
    repeat tb_rel
    refine' Wp.methInst (by assumption) (.mem (by one_item)) (.mem (by one_item)) ?g1 ?g2 ?g3 (by rfl) ?_
    case g1 => k_is
    case g2 => k_is
    case g3 => k_is
    repeat tb_rel
    refine Wp.shr (by omega) ?_
    intro t5
    repeat tb_rel
    refine put_bit_ok (e := e) B' (r1 _ |>.le (by omega)) hx hI hi8 (pst_len hlen) hz ?_
    intro e2 its2 k2 t6 hI2
    refine ⟨(fun _ c => nomatch c), ?_⟩
    repeat tb_rel
    exact ⟨e2, its2, k2, t6, _, rfl, rfl, rfl, hI2⟩
  · rintro vs' cv' nw' ⟨e, its', k', t', v1, rfl, rfl, rfl, hI⟩
    repeat tb_rel
    have h8 := pst8 hlen h0 h1
    exact h e its' k' t' (h8 ▸ hI)
end
section
open PySem PySem.W PySem.Calls PySem.Spec PyProof.Rows
variable {X : Fx} {f : Fm} {A : Around} {vs cv : Vals} {nw : Led} {p : Program} {loose : List Str} {mg mb : Str → Option Value}

section
variable {prog : Program} {w : World} {h : Heap}
theorem k1 (X : (Mine.hd.heap_39 w.params).In h) : Looks (model prog w) h (Bind.madeBy (.ref 244)) none := Looks.of_peek X (by kernel_rfl)
theorem k2 (X : (Mine.hd.heap_39 w.params).In h) : Looks (model prog w) h (Bind.madeHere "tuple.__new__" (.ref 244)) () := Looks.of_peek X (by kernel_rfl)
theorem k3 (X : (Mine.hd.heap_39 w.params).In h) : Looks (model prog w) h (isSubtype (.ref 244) (.type "tuple")) true := Looks.of_peek X (by kernel_rfl)
theorem k4 (X : (Mine.hd.heap_39 w.params).In h) : Looks (model prog w) h (isSubtype (.ref 244) (.ref 244)) true := Looks.of_peek X (by kernel_rfl)
theorem k5 (X : (Mine.hd.heap_39 w.params).In h) (it : Value) : Looks (model prog w) h (checkBuiltinCall "tuple.__new__" ⟨[.ref 244, it], []⟩) () := Looks.of_peek X (by kernel_rfl)
theorem k6 (X : (Mine.hd.heap_39 w.params).In h) : Looks (model prog w) h (typeLookup (.ref 244) "__init__") (some (.builtin "object.__init__")) := Looks.of_peek X (by kernel_rfl)
theorem k7 (X : (Mine.hd.heap_39 w.params).In h) : Looks (model prog w) h (specialOf (.ref 244) "__call__") (some (.builtin "type.__call__")) := Looks.of_peek X (by kernel_rfl)
theorem k8 (X : (Mine.hd.heap_39 w.params).In h) : Looks (model prog w) h (isInstance (.ref 244) (.type "type")) true := Looks.of_peek X (by kernel_rfl)
theorem k9 (X : (Mine.hd.heap_39 w.params).In h) : Looks (model prog w) h (mroOf (.ref 244)) [.ref 244, .type "tuple", .type "object"] := Looks.of_peek X (by kernel_rfl)
theorem k12 (X : (Mine.hd.heap_39 w.params).In h) : Looks (model prog w) h (isType (.ref 244)) true := Looks.of_peek X (by kernel_rfl)
theorem k13 (X : (Mine.hd.heap_39 w.params).In h) : Looks (model prog w) h (isSubtype (.ref 244) (.type "object")) true := Looks.of_peek X (by kernel_rfl)
end
abbrev rsObj (d : Addr) (a b : Value) : Obj := { cls := .ref 244, dict := some d, data := .seq #[a, b] }
theorem tup_new {T : Addr} {a b : Value} {Q : Value → Vals → Vals → Led → Prop} (B : Bs (Mine.hd.heap_39 X.w.params) p loose mg mb f.g) (H : (T, tu [a, b]) ∈ nw)
    (h : ∀ x d, Q (.ref x) vs cv ((x, rsObj d a b) :: (d, emptyDict) :: nw)) : Wp X f A (call (.builtin "tuple.__new__") [.ref 244, .ref T]) vs cv nw Q := by
  intro G hp tk R
  have XK := R.kin B
  have hT := R.get H
  have l1 := k12 (prog := X.prog) XK
  have l2 := k3 (prog := X.prog) XK
  have l3 := k2 (prog := X.prog) XK
  have l4 := k6 (prog := X.prog) XK
  have l5 := k5 (prog := X.prog) XK (.ref T)
  refine wpAny_call (codeAny_call_builtin_at (Code.quiet_builtin _ (by decide +kernel)) PySem.F.entry_tuple_new (l5.at ?_))
  unfold Builtin.«tuple.__new__»
  have hcol : ∀ (A' : Around) (Q' : List Value → Shared → Prop) (E' : Value → Shared → Prop), (∀ h', (∀ b o, hp.get? b = some o → h'.get? b = some o) → Q' [a, b] { X.s with heap := h', toks := tk }) →
      wpAny (model X.prog X.w) A' (collect (.ref T)) Q' E' { X.s with heap := hp, toks := tk } := fun A' Q' E' hq => wpAny_collect_seq T (.inr rfl) hT rfl rfl hq (Nat.le_of_ble_eq_true rfl)
  repeat (first | (refine hcol _ _ _ ?_) | lk)
  intro h' hk
  have R' := R.same hk
  have R2 := R'.push (nw := nw) emptyDict
  have R3 := R2.push (nw := (_, _) :: nw) (rsObj h'.objs.size a b)
  simp only [Heap.size_push] at R3
  have XK3 := R3.kin (nw := (_, _) :: (_, _) :: nw) B
  obtain ⟨oc, od, cd, sl, hC, hdel⟩ : ∃ oc od cd sl, (Mine.hd.heap_39 X.w.params).lookup 244 = some ⟨oc, od, .cls cd, sl⟩ ∧ cd.hasDel = false := ⟨_, _, _, _, rfl, rfl⟩
  have g244 := XK3 _ _ hC
  refine wpAny_bind (wpAny_pure ?_)
  refine wpAny_bind (wpAny_alloc ?_)
  refine wpAny_bind ?_
  unfold newObj
  dsimp only
  refine wpAny_bind ?_
  refine wpAny_alloc ?_
  dsimp only
  unfold classHasDel
  refine wpAny_bind (wpAny_bind (wpAny_load g244 (wpAny_pure ?_)))
  rw [hdel]
  simp only [Heap.size_push]
  exact wpAny_pure (wpAny_pure ⟨vs, cv, _, _, tk, R3, rfl, h _ _⟩)
theorem rs_call {u v : Value} {Q : Value → Vals → Vals → Led → Prop} (B : Bs (Mine.hd.heap_39 X.w.params) p loose mg mb f.g)
    (h : Wp X f (A.under (.builtin "type.__call__" ⟨[.ref 244, u, v], []⟩)) (call (.ref 194) [.ref 244, u, v]) vs cv nw fun r vs cv nw => ∃ x d a b, r = .ref x ∧ (x, rsObj d a b) ∈ nw ∧ Q r vs cv nw) :
    Wp X f A (call (.ref 244) [u, v]) vs cv nw Q := by
  intro G hp tk R
  have XK := R.kin B
  obtain ⟨oc, od, cd, sl, hC⟩ : ∃ oc od cd sl, (Mine.hd.heap_39 X.w.params).lookup 244 = some ⟨oc, od, .cls cd, sl⟩ := ⟨_, _, _, _, rfl⟩
  have g244 := XK _ _ hC
  have m1 := k7 (prog := X.prog) XK
  have m2 := k8 (prog := X.prog) XK
  have m3 := k9 (prog := X.prog) XK
  have m4 := k1 (prog := X.prog) XK
  refine wpAny_call (codeAny_of_tree ?_)
  show wpAny _ _ (callAny (.ref 244) _) _ _ _
  refine nd_load g244 ?_
  show wpAny _ _ (callAny.viaDunder (.ref 244) _) _ _ _
  unfold callAny.viaDunder
  refine wpAny_bind (m1.at ?_)
  dsimp only
  rw [tc_bind]
  refine wpAny_bind (wpAny_pure (wpAny_bind (wpAny_pure ?_)))
  refine wpAny_pure (a := Fin.again (.call (.builtin "type.__call__") ⟨[.ref 244, u, v], []⟩)) (And.intro rfl ?_)
  refine codeAny_call_builtin_at (Code.quiet_builtin _ (by decide +kernel)) entry_typeCall (check_slot tc_kind tc_split m2 (tc_args _ _ _) ?_)
  unfold Builtin.«type.__call__»
  have hga : ∀ (A' : Around) (Q' : Value → Shared → Prop) (E' : Value → Shared → Prop), Q' (.ref 194) { X.s with heap := hp, toks := tk + 1 } → wpAny (model X.prog X.w) A' (getAttr (.ref 244) "__new__") Q' E' { X.s with heap := hp, toks := tk } := fun A' Q' E' hq => by
    refine' cls_sm R.fr B.kin ?q1 ?q2 ?q3 ?q4 (by rfl) hq
    case q1 => k_is
    case q2 => k_is
    case q3 => k_is
    case q4 => k_is
  have hcall : ∀ (Q' : Value → Shared → Prop) (E' : Value → Shared → Prop), (∀ r vs' cv' nw' h' tk', Rep f vs' cv' (nw' ++ G) h' → (∃ x d a b, r = .ref x ∧ (x, rsObj d a b) ∈ nw' ∧ Q r vs' cv' nw') → Q' r { X.s with heap := h', toks := tk' }) →
      wpAny (model X.prog X.w) (A.under (.builtin "type.__call__" ⟨[.ref 244, u, v], []⟩)) (call (.ref 194) [.ref 244, u, v]) Q' E' { X.s with heap := hp, toks := tk + 1 } := fun Q' E' hq =>
    wpAny_mono (h.go R hq) (fun _ _ x => x) fun _ _ x => x.elim
  repeat (first | (refine hga _ _ _ ?_) | (refine hcall _ _ ?_) | lk)
  rintro r vs' cv' nw' h' tk' R' ⟨x, d, a, b, rfl, hm, hq⟩
  have XK' := R'.kin B
  have hx := R'.get hm
  have t1 : Looks (model X.prog X.w) h' (typeOf (.ref x)) (.ref 244) := (Looks.ld hx).andThen .now
  have s1 := k4 (prog := X.prog) XK'
  have i1 := k6 (prog := X.prog) XK'
  have j1 := k1 (prog := X.prog) XK'
  have b1 : Looks (model X.prog X.w) h' (bindSpecial (.builtin "object.__init__") (.ref x)) (.builtin "object.__init__", [.ref x]) := Looks.of_pure (oi_bind (.ref x))
  have t2 : Looks (model X.prog X.w) h' (isInstance (.ref x) (.type "object")) true := t1.andThen (k13 (prog := X.prog) XK')
  have hini : ∀ (A' : Around) (Q' : Value → Shared → Prop) (E' : Value → Shared → Prop), Q' .none { X.s with heap := h', toks := tk' } → wpAny (model X.prog X.w) A' (call (.builtin "object.__init__") [.ref x, u, v]) Q' E' { X.s with heap := h', toks := tk' } := fun A' Q' E' hq' => by
    refine wpAny_call (codeAny_call_builtin oi_plain entry_oi (@check_slot (model X.prog X.w) _ _ _ "object.__init__" "object" "__init__" (.ref x) [u, v] [] _ oi_kind oi_split t2 (PySem.F.args_object_init_3 _ _ _) ?_))
    unfold Builtin.«object.__init__»
    repeat lk
    exact hq'
  unfold isInstance callSpecial? specialOf
  repeat (first | (refine hini _ _ _ ?_) | lk)
  exact ⟨vs', cv', nw', h', tk', R', rfl, hq⟩
end
section
open PySem PySem.W PySem.Calls PySem.Spec PyProof.Rows
variable {X : Fx} {f : Fm} {A : Around} {vs cv : Vals} {nw : Led} {p : Program} {loose : List Str} {mg mb : Str → Option Value}

protected theorem Wp.methType {K : Frag} {T : String} {name : Str} {v : Value} {pl : Sem Bool} {Q : Value × List Value → Vals → Vals → Led → Prop} (B : Bs K p loose mg mb f.g) (ht : typeOf (.type T) = pure (.type "type")) (hs : Manifest.isStub T = false)
    (e : findCls K (.type T) (.type "type") name = some (.val v)) (hh : handedIn v = true) (h : Q (v, []) vs cv nw) : Wp X f A (getMethod (.type T) name pl) vs cv nw Q :=
  fun F hp tk R => method_type R.fr B.kin ht hs e hh ⟨_, _, _, _, _, R, rfl, h⟩
protected theorem Wp.str {env : Env} {s : Str} {k pos} {Q : Value → Vals → Vals → Led → Prop} (h : ∀ t, Q (.str s t) vs cv nw) : Wp X f A (eval (.Constant (.str s) k pos) env) vs cv nw Q :=
  fun F hp tk R => Constant_str ⟨_, _, _, _, _, R, rfl, h _⟩
def RsIn (nw : Led) (x : Addr) (a b : Value) : Prop := ∃ d, (x, rsObj d a b) ∈ nw ∧ (d, emptyDict) ∈ nw
theorem RsIn.mono {nw nw' : Led} {x : Addr} {a b : Value} (h : RsIn nw x a b) (s : ∀ p ∈ nw, p ∈ nw') : RsIn nw' x a b := by
  obtain ⟨d, h1, h2⟩ := h
  exact ⟨d, s _ h1, s _ h2⟩
theorem Rm.rs {A : Around} {n : Nat} {as : List Value} (r : Rm A (n + 1)) : Rm (A.under (.builtin "type.__call__" ⟨.ref 244 :: as, []⟩)) n := r.mkcls
set_option maxHeartbeats 2000000 in
theorem rs_new {u v : Value} {Q : Value → Vals → Vals → Led → Prop} (B : Bs (Mine.hd.heap_39 X.w.params) p loose mg mb f.g) (r : Rm A 6)
    (h : ∀ x nw', Sfx nw nw' → RsIn nw' x u v → Q (.ref x) vs cv nw') : Wp X f A (call (.ref 244) [u, v]) vs cv nw Q := by
  refine rs_call B ?_
  have r1 := r.rs (as := [u, v])
  clear r
  refine' Wp.callDef (xs := ["_cls", "total_count", "data_count"]) (rest := []) (by assumption) (Rm.lim (by assumption)) ?k1 ?k2 ?k3 ?k4 ?k5 ?k6 ?k7 ?_ ?c1 ?c2 ?c3
  case k1 => k_is
  case k2 => k_is
  case k3 => exact rfl
  case k4 => exact rfl
  case k5 => decide
  case k6 => exact rfl
  case k7 => exact rfl
  case c1 => exact rfl
  case c2 => exact rfl
  case c3 => exact rfl
  intro g' L' hg' B'
  simp only [List.cons_append, List.nil_append, List.map_cons, List.map_nil]

  repeat tb_rel
  refine Wp.str ?_
  intro t0
  refine ⟨(fun _ c => nomatch c), ?_⟩
  repeat tb_rel
  with_reducible refine' Wp.methType B' ?m1 ?m2 ?m3 ?m4 ?_
  case m1 => kernel_rfl
  case m2 => decide +kernel
  case m3 => k_is
  case m4 => decide +kernel
  repeat tb_rel
  refine tup_new B' (.head _) ?_
  intro x d
  exact ⟨x, d, u, v, rfl, .head _, h x _ (by units_room) ⟨d, .head _, .tail _ (.head _)⟩⟩
section
variable {prog : Program} {w : World} {h : Heap}
theorem k20 (X : (Mine.hd.heap_39 w.params).In h) : Looks (model prog w) h (checkBuiltinCall "issubclass" ⟨[.ref 244, .type "tuple"], []⟩) () := Looks.of_peek X (by kernel_rfl)
theorem k21 (X : (Mine.hd.heap_39 w.params).In h) : Looks (model prog w) h (Builtin.«issubclass.nested» ⟨[.ref 244, .type "tuple", rawInt 0], []⟩) (.done (.ret (.bool true))) := Looks.of_peek X (by kernel_rfl)
end
theorem issub_ok {Q : Value → Vals → Vals → Led → Prop} (B : Bs (Mine.hd.heap_39 X.w.params) p loose mg mb f.g) (h : Q (.bool true) vs cv nw) : Wp X f A (call (.builtin "issubclass") [.ref 244, .type "tuple"]) vs cv nw Q := by
  intro G hp tk R
  have XK := R.kin B
  refine wpAny_call (codeAny_call_builtin PySem.F.plain_issubclass PySem.F.entry_issubclass ((k20 (prog := X.prog) XK).at ?_))
  refine issubclass_outer ?_
  refine (k21 (prog := X.prog) XK).at ?_
  exact ⟨vs, cv, nw, hp, tk, R, rfl, h⟩
theorem tup_item {x d : Addr} {a b : Value} {i : Int} {t : Tok} {y : Value} {Q : Value → Vals → Vals → Led → Prop} (B : Bs (Mine.hd.heap_39 X.w.params) p loose mg mb f.g) (H : (x, rsObj d a b) ∈ nw) (hi : (i = 0 ∧ y = a) ∨ (i = 1 ∧ y = b)) (h : Q y vs cv nw) :
    Wp X f A (call (.builtin "tuple.__getitem__") [.ref x, .int i t]) vs cv nw Q := by
  intro G hp tk R
  have XK := R.kin B
  have hx := R.get H
  have t1 : Looks (model X.prog X.w) hp (typeOf (.ref x)) (.ref 244) := (Looks.ld hx).andThen .now
  have t2 : Looks (model X.prog X.w) hp (isInstance (.ref x) (.type "tuple")) true := t1.andThen (k3 (prog := X.prog) XK)
  refine wpAny_call (codeAny_call_builtin PySem.F.slot_tuple_getitem.plain PySem.F.entry_tuple_getitem (@check_slot (model X.prog X.w) _ _ _ "tuple.__getitem__" "tuple" "__getitem__" (.ref x) [.int i t] [] _ (by decide +kernel) (by decide +kernel) t2 (PySem.F.args_tuple_getitem_2 _ _) ?_))
  unfold Builtin.«tuple.__getitem__»
  have f1 := AutoSeq1.idx_int
  rcases hi with ⟨rfl, rfl⟩ | ⟨rfl, rfl⟩
  · repeat lk
    exact ⟨vs, cv, nw, hp, tk, R, rfl, h⟩
  · repeat lk
    exact ⟨vs, cv, nw, hp, tk, R, rfl, h⟩
end
section
open PySem PySem.W PySem.Calls PySem.Spec PyProof.Rows
variable {X : Fx} {f : Fm} {A : Around} {vs cv : Vals} {nw : Led} {p : Program} {loose : List Str} {mg mb : Str → Option Value}

section
variable {prog : Program} {w : World} {h : Heap}
theorem k30 (X : (Mine.hd.heap_39 w.params).In h) : Looks (model prog w) h (typeLookup (.ref 244) "__getattribute__") (some (.builtin "tuple.__getattribute__")) := Looks.of_peek X (by kernel_rfl)
theorem k31 (X : (Mine.hd.heap_39 w.params).In h) : Looks (model prog w) h (typeLookup (.ref 244) "__getattr__") none := Looks.of_peek X (by kernel_rfl)
theorem k32 (x : Value) : bindSpecial (.builtin "tuple.__getattribute__") x = pure (.builtin "tuple.__getattribute__", [x]) := by kernel_rfl
end
theorem rs_bind {x d : Addr} {a b desc : Value} {name : Str} {ex : Bool} {Q : Value → Vals → Vals → Led → Prop} (B : Bs (Mine.hd.heap_39 X.w.params) p loose mg mb f.g) (h1 : (x, rsObj d a b) ∈ nw) (h2 : (d, emptyDict) ∈ nw)
    (hc : (clsIn (Mine.hd.heap_39 X.w.params) 244).isSome = true) (ha : findIn (Mine.hd.heap_39 X.w.params) (.ref 244) name = some (some desc)) (hs : specialIn (Mine.hd.heap_39 X.w.params) desc "__get__" = some (some (.ref 85))) (ht : takesIn (Mine.hd.heap_39 X.w.params) desc = some true)
    (h : Wp X f A.in1 (call (.ref 85) [desc, .ref x, .ref 244]) vs cv nw fun v vs cv nw => handedIn v = true ∧ Q v vs cv nw) : Wp X f A (getAttr (.ref x) name ex) vs cv nw Q := by
  intro G hp tk R
  have XK := R.kin B
  have I : InstAt hp x (rsObj d a b) 244 (some emptyDict) := ⟨R.get h1, rfl, rfl, R.get h2⟩
  have t1 := I.type (M := model X.prog X.w)
  have l1 := k30 (prog := X.prog) XK
  have l2 := k31 (prog := X.prog) XK
  have l3 := looks_find (M := model X.prog X.w) XK I (findObj_data hc ha hs ht)
  unfold getAttr getAttrBy
  refine wpAny_bind (wpAny_mkText (wpAny_holding (wpAny_bind (t1.at (wpAny_bind (l1.at ?_))))))
  show wpAny _ _ (getAttrByItsOwn _ _ _ _ _ _) _ _ _
  unfold getAttrByItsOwn hookBefore callGetattribute boundAndCalled
  rw [k32]
  repeat (first | (with_reducible refine wpAny_attempt ?_) | (with_reducible refine wpAny_call ?_) | lk)
  rw [show (ex && onTheHeap (Value.builtin "tuple.__getattribute__")) = false by cases ex <;> rfl, if_neg (by decide)]
  dsimp only
  refine wpAny_bind (wpAny_pure ?_)
  dsimp only [List.cons_append, List.nil_append]
  have t2 : Looks (model X.prog X.w) hp (isInstance (.ref x) (.type "tuple")) true := t1.andThen (k3 (prog := X.prog) XK)
  refine wpAny_call (codeAny_call_builtin PySem.F.slot_tuple_getattribute.plain am_entry_tuple_getattribute (@check_slot (model X.prog X.w) _ _ _ "tuple.__getattribute__" "tuple" "__getattribute__" (.ref x) [_] [] _ (by decide +kernel) (by decide +kernel) t2 (PySem.F.args_tuple_getattribute_2 _ _) ?_))
  unfold Builtin.«object.__getattribute__»
  have hgo : ∀ (Q' : Value → Shared → Prop) (E' : Value → Shared → Prop), (∀ v vs' cv' nw' h' tk', Rep f vs' cv' (nw' ++ G) h' → (handedIn v = true ∧ Q v vs' cv' nw') → Q' v { X.s with heap := h', toks := tk' }) →
      wpAny (model X.prog X.w) A.in1 (call (.ref 85) [desc, .ref x, .ref 244]) Q' E' { X.s with heap := hp, toks := tk + 1 } := fun Q' E' hq =>
    wpAny_mono (h.go R hq) (fun _ _ x => x) fun _ _ x => x.elim
  repeat (first | (refine hgo _ _ ?_) | lk)
  rintro v vs' cv' nw' h' tk' R' ⟨hh, hq⟩
  refine wpAny_pure ?_
  show wpAny _ _ (handedOut v) _ _ _
  rw [handedOut_of hh]
  exact wpAny_pure ⟨vs', cv', nw', h', tk', R', rfl, hq⟩
protected theorem Wp.isNone {v : Value} {Q : Value → Vals → Vals → Led → Prop} (h : Q (.bool (v == .none)) vs cv nw) : Wp X f A (compareOp .Is v .none) vs cv nw Q :=
  fun F hp tk R => PySem.is_none ⟨_, _, _, _, _, R, rfl, h⟩
protected theorem Wp.typeOfObj {x : Addr} {o : Obj} {Q : Value → Vals → Vals → Led → Prop} (H : (x, o) ∈ nw) (hb : (o.cls == .type "builtin_function_or_method") = false) (h : Q o.cls vs cv nw) : Wp X f A (call (.type "type") [.ref x]) vs cv nw Q :=
  fun F hp tk R => call_type_obj (R.get H) hb ⟨_, _, _, _, _, R, rfl, h⟩

set_option maxHeartbeats 1000000 in
theorem rs_total_count {x : Addr} {a b : Value} {ex : Bool} {Q : Value → Vals → Vals → Led → Prop} (B : Bs (Mine.hd.heap_39 X.w.params) p loose mg mb f.g) (r : Rm A 6) (H : RsIn nw x a b) (hv : handedIn a = true) (h : Q a vs cv nw) :
    Wp X f A (getAttr (.ref x) "total_count" ex) vs cv nw Q := by
  obtain ⟨d, h1, h2⟩ := H
  have r1 := r.in1
  refine' rs_bind (desc := .ref 236) B h1 h2 ?k1 ?k2 ?k3 ?k4 ?_
  case k1 => rfl
  case k2 => k_is
  case k3 => k_is
  case k4 => k_is
  refine' Wp.callDefB (xs := ["self", "obj", "objtype"]) (rest := []) (by assumption) (Rm.lim (by assumption)) ?k1 ?k2 ?k3 ?k4 ?k5 ?k6 ?k7 ?_ ?c1 ?c2 ?c3
  case k1 => k_is
  case k2 => k_is
  case k3 => (intro s XS; exact binds_K XS rfl (by k_is) rfl rfl rfl)
  case k4 => exact rfl
  case k5 => decide
  case k6 => exact rfl
  case k7 => exact rfl
  case c1 => exact rfl
  case c2 => exact rfl
  case c3 => exact rfl
  intro g' L' hg' B'
  simp only [List.cons_append, List.nil_append, List.map_cons, List.map_nil]

  repeat tb_rel
  refine Wp.isNone ?_
  repeat tb_rel
  refine ifF (by rfl) ?_
  repeat tb_rel
  refine Wp.typeOfObj h1 (by rfl) ?_
  repeat tb_rel
  refine issub_ok B' ?_
  repeat tb_rel
  refine ifF rfl ?_
  repeat tb_rel
  with_reducible refine' Wp.methType B' ?m1 ?m2 ?m3 ?m4 ?_
  case m1 => kernel_rfl
  case m2 => decide +kernel
  case m3 => k_is
  case m4 => decide +kernel
  repeat tb_rel
  obtain ⟨es, n, e1, e2, t0, e3⟩ : ∃ es n, (Mine.hd.heap_39 X.w.params).lookup 236 = some (instObj 102 235) ∧ (Mine.hd.heap_39 X.w.params).lookup 235 = some (dictOf es n) ∧ ∃ t, getL "index" es = some (some (.int 0 t)) := ⟨_, _, rfl, rfl, _, rfl⟩
  refine' Wp.getOwn B' (.old (B'.kin _ _ e1)) (.old (B'.kin _ _ e2)) ?g1 ?g2 ?g3 ?g4 e3 (by rfl) ?_
  case g1 => k_is
  case g2 => k_is
  case g3 => k_is
  case g4 => k_is
  repeat tb_rel
  refine tup_item B' h1 (.inl ⟨rfl, rfl⟩) ?_
  exact ⟨hv, h⟩

set_option maxHeartbeats 1000000 in
theorem rs_data_count {x : Addr} {a b : Value} {ex : Bool} {Q : Value → Vals → Vals → Led → Prop} (B : Bs (Mine.hd.heap_39 X.w.params) p loose mg mb f.g) (r : Rm A 6) (H : RsIn nw x a b) (hv : handedIn b = true) (h : Q b vs cv nw) :
    Wp X f A (getAttr (.ref x) "data_count" ex) vs cv nw Q := by
  obtain ⟨d, h1, h2⟩ := H
  have r1 := r.in1
  refine' rs_bind (desc := .ref 239) B h1 h2 ?k1 ?k2 ?k3 ?k4 ?_
  case k1 => rfl
  case k2 => k_is
  case k3 => k_is
  case k4 => k_is
  refine' Wp.callDefB (xs := ["self", "obj", "objtype"]) (rest := []) (by assumption) (Rm.lim (by assumption)) ?k1 ?k2 ?k3 ?k4 ?k5 ?k6 ?k7 ?_ ?c1 ?c2 ?c3
  case k1 => k_is
  case k2 => k_is
  case k3 => (intro s XS; exact binds_K XS rfl (by k_is) rfl rfl rfl)
  case k4 => exact rfl
  case k5 => decide
  case k6 => exact rfl
  case k7 => exact rfl
  case c1 => exact rfl
  case c2 => exact rfl
  case c3 => exact rfl
  intro g' L' hg' B'
  simp only [List.cons_append, List.nil_append, List.map_cons, List.map_nil]

  repeat tb_rel
  refine Wp.isNone ?_
  repeat tb_rel
  refine ifF (by rfl) ?_
  repeat tb_rel
  refine Wp.typeOfObj h1 (by rfl) ?_
  repeat tb_rel
  refine issub_ok B' ?_
  repeat tb_rel
  refine ifF rfl ?_
  repeat tb_rel
  with_reducible refine' Wp.methType B' ?m1 ?m2 ?m3 ?m4 ?_
  case m1 => kernel_rfl
  case m2 => decide +kernel
  case m3 => k_is
  case m4 => decide +kernel
  repeat tb_rel
  obtain ⟨es, n, e1, e2, t0, e3⟩ : ∃ es n, (Mine.hd.heap_39 X.w.params).lookup 239 = some (instObj 102 238) ∧ (Mine.hd.heap_39 X.w.params).lookup 238 = some (dictOf es n) ∧ ∃ t, getL "index" es = some (some (.int 1 t)) := ⟨_, _, rfl, rfl, _, rfl⟩
  refine' Wp.getOwn B' (.old (B'.kin _ _ e1)) (.old (B'.kin _ _ e2)) ?g1 ?g2 ?g3 ?g4 e3 (by rfl) ?_
  case g1 => k_is
  case g2 => k_is
  case g3 => k_is
  case g4 => k_is
  repeat tb_rel
  refine tup_item B' h1 (.inr ⟨rfl, rfl⟩) ?_
  exact ⟨hv, h⟩
end
section
open PySem PySem.W PySem.Calls PySem.Spec PyProof.Rows
variable {X : Fx} {f : Fm} {A : Around} {vs cv : Vals} {nw : Led} {p : Program} {loose : List Str} {mg mb : Str → Option Value}

theorem LUTk (prog : Program) (w : World) : ∃ o kvs, (Mine.hd.heap_39 w.params).lookup 50 = some o ∧ o.IsDictOf (intKind prog w) kvs ∧ ∀ e, Ec e →
    match lut e with
    | some ns => ∃ l its, valueAt kvs (e : Int) = some (.ref l) ∧ (Mine.hd.heap_39 w.params).lookup l = some (lo its 0) ∧ IntsAre its ns
    | none => valueAt kvs (e : Int) = none := by
  refine ⟨_, [(7, .ref 51), (10, .ref 52), (13, .ref 53), (15, .ref 54), (16, .ref 55), (17, .ref 56), (18, .ref 57), (20, .ref 58), (22, .ref 59), (24, .ref 60), (26, .ref 61), (28, .ref 62), (30, .ref 63)], rfl, ?_, ?_⟩
  · refine ⟨_, _, ⟨rfl, rfl, rfl⟩, rfl, ?_, ?_, by decide⟩
    · intro en hen
      simp only [List.mem_toArray, List.mem_cons, List.not_mem_nil, or_false] at hen
      rcases hen with rfl | rfl | rfl | rfl | rfl | rfl | rfl | rfl | rfl | rfl | rfl | rfl | rfl <;> exact ⟨_, intKind_is _ _ _ _, by rfl⟩
    · repeat (first | exact .nil | refine .cons (intKind_is _ _ _ _) rfl ?_)
  · rintro e ⟨h1, h2⟩
    have : e = 1 ∨ e = 2 ∨ e = 3 ∨ e = 4 ∨ e = 5 ∨ e = 6 ∨ e = 7 ∨ e = 8 ∨ e = 9 ∨ e = 10 ∨ e = 13 ∨ e = 15 := by omega
    rcases this with rfl | rfl | rfl | rfl | rfl | rfl | rfl | rfl | rfl | rfl | rfl | rfl
    all_goals first
      | exact ⟨_, _, rfl, rfl, sameInts.are (by kernel_rfl)⟩
      | rfl
end
section
open PySem PySem.W PySem.Calls PySem.Spec PyProof.Rows
variable {X : Fx} {f : Fm} {A : Around} {vs cv : Vals} {nw : Led} {p : Program} {loose : List Str} {mg mb : Str → Option Value}

def BufIn (nw : Led) (x : Addr) (oct : List Int) : Prop := ∃ dx hb tb hl tl l v n its k, (x, instObj 297 dx) ∈ nw ∧ (dx, dictOf (bufEs hb tb hl tl l v) n) ∈ nw ∧ (l, lo its k) ∈ nw ∧ IntsAre its oct
def RsAt (nw : Led) : List Value → List (Nat × Nat) → Prop
  | [], [] => True
  | v :: r, (d, e) :: bl => (∃ x t u, v = .ref x ∧ RsIn nw x (.int (d + e : Nat) t) (.int d u)) ∧ RsAt nw r bl
  | _, _ => False
theorem RsAt.get {nw : Led} : ∀ {its : List Value} {bl : List (Nat × Nat)} {j : Nat} {v : Value}, RsAt nw its bl → its[j]? = some v → ∃ x t u d e, v = .ref x ∧ RsIn nw x (.int (d + e : Nat) t) (.int d u) ∧ bl[j]? = some (d, e)
  | [], [], _, _, _, h => by simp at h
  | _ :: _, (d, e) :: _, 0, _, ⟨⟨x, t, u, h1, h2⟩, _⟩, h => ⟨x, t, u, d, e, (Option.some.inj (by simpa using h)).symm.trans h1, h2, rfl⟩
  | _ :: _, (_, _) :: _, j + 1, _, ⟨_, r⟩, h => by
    obtain ⟨x, t, u, d, e, a, b, c⟩ := RsAt.get (j := j) r (by simpa using h)
    exact ⟨x, t, u, d, e, a, b, by simpa using c⟩
theorem RsAt.length {nw : Led} : ∀ {its : List Value} {bl : List (Nat × Nat)}, RsAt nw its bl → its.length = bl.length
  | [], [], _ => rfl
  | _ :: _, (_, _) :: _, ⟨_, r⟩ => by simp [RsAt.length r]

set_option maxHeartbeats 4000000 in
theorem create_ok {bx lb : Addr} {rits : List Value} {kr : Nat} {oct : List Int} {bl : List (Nat × Nat)} {Q : Value → Vals → Vals → Led → Prop} (B : Bs (Mine.hd.heap_39 X.w.params) p loose mg mb f.g) (r : Rm A 200) (hb : BufIn nw bx oct) (hr : (lb, lo rits kr) ∈ nw) (ha : RsAt nw rits bl)
    (hoct : ∀ a ∈ oct, Byte a) (hE : ∀ p ∈ bl, 1 ≤ p.1 ∧ p.1 ≤ 20 ∧ Ec p.2) (hsum : (bl.map (·.1)).sum ≤ oct.length) (hz : oct.length ≤ 2 ^ 12) (hnz : ∀ dc ∈ dcs oct 0 bl, ∃ a ∈ dc, a ≠ 0) (hbl : bl.length ≤ 100)
    (h : ∀ l nw' its k, Sfx nw nw' → (l, lo its k) ∈ nw' → IntsAre its (told oct bl) → Q (.ref l) vs cv nw') : Wp X f A (call (.ref 306) [.ref bx, .ref lb]) vs cv nw Q := by
  refine' Wp.callDefC (xs := ["buffer", "rs_blocks"]) (args := [.ref bx, .ref lb]) (lx := ["rs_blocks"]) (la := [.ref lb]) (rest := ["maxDcCount", "maxEcCount", "dcdata", "ecdata", "rs_block", "dcCount", "ecCount", "i", "current_dc", "rsPoly", "rawPoly", "modPoly", "current_ec", "mod_offset", "modIndex", "data", "dc", "ec"]) (cv₀ := [none, some (.ref bx)]) (by assumption) (Rm.lim (by assumption)) ?k1 ?k2 ?k3 ?k4 ?k5 ?k6 ?k7 ?k8 ?k9 ?_ ?c1 ?c2 ?c3
  case k1 => k_is
  case k2 => k_is
  case k3 => exact rfl
  case k4 => exact rfl
  case k5 => exact rfl
  case k6 => decide
  case k7 => exact rfl
  case k8 => exact rfl
  case k9 => decide
  case c1 => exact rfl
  case c2 => exact rfl
  case c3 => exact rfl
  intro g' L' cs' hg' B' hcs
  simp only [List.cons_append, List.nil_append, List.map_cons, List.map_nil]

  have hcs : cs'.map (·.1) = [L' + 1 + 1, L' + 1] := hcs
  obtain ⟨os, rfl, ho⟩ := csAll hcs
  obtain ⟨o1, os, rfl, ho2⟩ := osS ho
  obtain ⟨o2, rfl⟩ := os1 ho2
  clear ho ho2 hcs
  simp only [List.zip_cons_cons, List.zip_nil_left]
  have r1 := fun e => r.deeper (e := e)
  have hh := r.hh
  obtain ⟨dx, hbh, hbt, hlh, hlt, bl_, bv, bn, bits, bk, hb1, hb2, hb3, hbi_⟩ := hb
  have hral := ha.length
  repeat tb_rel
  rename_i q1 q2 q3 ld le
  refine Wp.mono (Q := fun fl vs' cv' nw' => fl = .next ∧ ∃ (e : Led) (dits : List Value) (kd : Nat) (eits : List Value) (ke : Nat) (tM tE tO : Tok) (w1 w2 w3 w4 w5 w6 w7 w8 w9 w10 w11 w12 w13 w14 : Option Value), vs' = [some (.ref lb), some (.int (maxOf (bl.map (·.1)) : Nat) tM), some (.int (maxOf (bl.map (·.2)) : Nat) tE), some (.ref ld), some (.ref le), w1, w2, w3, w4, w5, w6, w7, w8, w9, w10, w11, w12, w13, w14] ∧ cv' = [some (.int ((bl.map (·.1)).sum : Nat) tO), some (.ref bx)] ∧ nw' = e ++ (le, lo eits ke) :: (ld, lo dits kd) :: nw ∧ NestIn e dits (dcs oct 0 bl) ∧ NestIn e eits (ecs oct 0 bl)) ?loop1 ?rest1
  case loop1 =>
    refine' Wp.For ?_ ?hs
    case hs => (intro _; rfl)

    repeat tb_rel
    refine ⟨fun i vs' cv' nw' => ∃ (e : Led) (dits : List Value) (kd : Nat) (eits : List Value) (ke : Nat) (tM tE tO : Tok) (w1 w2 w3 w4 w5 w6 w7 w8 w9 w10 w11 w12 w13 w14 : Option Value), vs' = [some (.ref lb), some (.int (maxOf ((bl.map (·.1)).take i) : Nat) tM), some (.int (maxOf ((bl.map (·.2)).take i) : Nat) tE), some (.ref ld), some (.ref le), w1, w2, w3, w4, w5, w6, w7, w8, w9, w10, w11, w12, w13, w14] ∧ cv' = [some (.int (((bl.map (·.1)).take i).sum : Nat) tO), some (.ref bx)] ∧ nw' = e ++ (le, lo eits ke) :: (ld, lo dits kd) :: nw ∧ NestIn e dits ((dcs oct 0 bl).take i) ∧ NestIn e eits ((ecs oct 0 bl).take i), _, _, _, _, iterList (its := rits) (k := kr) hh (.mem (by one_item)), ?I0, ?S0, ?T0, ?D0⟩
    case I0 => exact ⟨[], [], 0, [], 0, _, _, _, _, _, _, _, _, _, _, _, _, _, _, _, _, _, rfl, rfl, rfl, trivial, trivial⟩
    case S0 =>
      rintro i vs' cv' nw' ⟨e, dits, kd, eits, ke, tM, tE, tO, w1, w2, w3, w4, w5, w6, w7, w8, w9, w10, w11, w12, w13, w14, rfl, rfl, rfl, _, _⟩
      exact .mem (by one_item)
    case D0 =>
      rintro vs' cv' nw' ⟨e, dits, kd, eits, ke, tM, tE, tO, w1, w2, w3, w4, w5, w6, w7, w8, w9, w10, w11, w12, w13, w14, rfl, rfl, rfl, hD, hE'⟩
      rw [hral] at hD hE'
      rw [List.take_of_length_le (by rw [dcs_length]; omega)] at hD
      rw [List.take_of_length_le (by rw [ecs_length]; omega)] at hE'
      refine ⟨rfl, e, dits, kd, eits, ke, tM, tE, tO, w1, w2, w3, w4, w5, w6, w7, w8, w9, w10, w11, w12, w13, w14, ?_, ?_, rfl, hD, hE'⟩
      · rw [hral, List.take_of_length_le (by simp), List.take_of_length_le (by simp)]
      · rw [hral, List.take_of_length_le (by simp)]
    case T0 =>
      rintro i v x' vs' cv' nw' hi' ⟨rfl, hv⟩ ⟨e, dits, kd, eits, ke, tM, tE, tO, w1, w2, w3, w4, w5, w6, w7, w8, w9, w10, w11, w12, w13, w14, rfl, rfl, rfl, hD, hE'⟩
      obtain ⟨xr, tt, tu, d, ec, rfl, hrs, hbi⟩ := ha.get hv
      obtain ⟨hd1, hd2, he1, he2⟩ := hE (d, ec) (List.mem_of_getElem? hbi)
      have hec15 : ec ≤ 15 := by simp only at he2; omega
      have hmap1 : (bl.map (·.1))[i]? = some d := by rw [List.getElem?_map, hbi]; rfl
      have hmap2 : (bl.map (·.2))[i]? = some ec := by rw [List.getElem?_map, hbi]; rfl
      have hofd := sum_le hmap1
      generalize hoff : ((bl.map (·.1)).take i).sum = off at *
      have hdcm := dcs_get (oct := oct) (off := 0) hbi
      rw [hoff, Nat.zero_add] at hdcm
      have hdnz := hnz _ hdcm
      have hdlen : ((oct.drop off).take d).length = d := by rw [List.length_take, List.length_drop]; omega
      have hdb : ∀ a ∈ (oct.drop off).take d, Byte a := fun a q => hoct a (List.mem_of_mem_drop (List.mem_of_mem_take q))
      repeat tb_rel
      refine rs_data_count B' (r1 _ |>.le (by omega)) (hrs.mono (by intro p hp; one_item)) (by rfl) ?_
      repeat tb_rel
      refine rs_total_count B' (r1 _ |>.le (by omega)) (hrs.mono (by intro p hp; one_item)) (by rfl) ?_
      repeat tb_rel
      rw [show ((d + ec : Nat) : Int) - d = (ec : Nat) by omega]
      refine Wp.max2 hh ?_
      intro t1
      repeat tb_rel
      refine Wp.max2 hh ?_
      intro t2
      repeat tb_rel
      refine' Wp.comp (ns := ["i"]) ?hclos ?hcell ?hkind ?hnames ?hlen ?hnd ?_ ?hfs
      case hclos => exact rfl
      case hcell => exact rfl
      case hkind => exact rfl
      case hnames => decide
      case hlen => exact .inl rfl
      case hnd => decide
      case hfs => (intro _; rfl)

      repeat tb_rel
      refine Wp.range1 ?_
      intro rg u v
      refine ⟨fun j ys cv' nw'' => cv' = [some (.int (off : Nat) tO), some (.ref bx)] ∧ (∃ e3, nw'' = e3 ++ (le, lo eits ke) :: (ld, lo dits kd) :: nw ∧ (∀ p ∈ e, p ∈ e3)) ∧ IntsAre ys (((oct.drop off).take d).take j),
        _, _, _, _, ?_, iterRange hh (.head _) (by omega) (by omega) (by omega) (by omega), ⟨rfl, ⟨(rg, _) :: e, rfl, fun p hp => .tail _ hp⟩, .nil⟩, fun _ _ _ _ _ _ _ => trivial, ?_, ?_⟩
      · omega
      · rintro g2 C hg2 j v x' ys vs' cv' nw'' hj ⟨rfl, tj, rfl⟩ ⟨rfl, ⟨e3, rfl, he3⟩, hys⟩ hvl
        obtain ⟨v1, rfl⟩ := vs1 hvl
        have B2 := B'.keeps hg2
        have hjd : j < d := by omega
        repeat tb_rel
        refine Wp.pure ?_
        refine ifT rfl ?_
        repeat tb_rel
        refine' Wp.getOwn B2 (.mem (by one_item)) (.mem (by one_item)) ?g1 ?g2 ?g3 ?g4 (by rfl) (by rfl) ?_
        case g1 => k_is
        case g2 => k_is
        case g3 => k_is
        case g4 => k_is
        repeat tb_rel
        refine' Wp.subI (.mem (by one_item)) hbi_ (by omega) (by omega) (by omega) ?_ ?hs1
        case hs1 => rfl
        intro t3
        repeat tb_rel
        refine ⟨rfl, rfl, ⟨e3, rfl, he3⟩, ?_⟩
        have e5 : ((0 : Int) + j + off).toNat = off + j := by omega
        rw [e5, and255 (hoct _ (by rw [List.getD_eq_getElem?_getD, List.getElem?_eq_getElem (by omega)]; exact List.getElem_mem _)), dtake hjd (by omega)]
        exact hys.append (.cons _ _ .nil)
      · rintro lc kc ys cv' nw'' ⟨rfl, ⟨e3, rfl, he3⟩, hys⟩
        rw [List.take_of_length_le (by omega)] at hys
        repeat tb_rel
        obtain ⟨oD, kvs, eD, hDict, hlut⟩ := LUTk X.prog X.w
        have hl0 := hlut ec ⟨he1, he2⟩
        refine Wp.inD (.old (B'.kin _ _ eD)) hDict (by decide) ?_
        rename_i td tO2
        cases hlt : lut ec with
        | some ns =>
          rw [hlt] at hl0
          obtain ⟨lr, rits2, hv1, hv2, hv3⟩ := hl0
          have hns := lut_eq hlt
          subst hns
          refine exB (ifT (by rw [hv1]; rfl) ?_)
          repeat tb_rel
          refine' Wp.getD (.old (B'.kin _ _ eD)) hDict hv1 ?_ ?hs5
          case hs5 => rfl
          repeat tb_rel
          refine poly_new B' (r1 _ |>.le (by omega)) (.old (B'.kin _ _ hv2)) hv3 (genP_ne hec15) (by rw [genP_len hec15]; omega) (by decide) (by decide) ?_
          rintro xp _ ⟨e4, rfl⟩ P4
          have em : strip (genP ec) ++ List.replicate (Int.toNat 0) 0 = genP ec := (List.append_nil _).trans (strip_oct (genP_oct hec15))
          rw [em] at P4

          repeat tb_rel
          refine poly_len (ns := genP ec) B' (r1 _ |>.le (by omega)) (by o_shape) (by rw [genP_len hec15]; omega) ?_
          intro t5
          rw [genP_len hec15]
          repeat tb_rel
          rw [show (((ec + 1 : Nat) : Int) - 1) = (ec : Nat) by omega]
          refine poly_new B' (r1 _ |>.le (by omega)) (.mem (by one_item)) hys (fun c => by rw [c] at hdlen; simp at hdlen; omega) (by omega) (by omega) (by omega) ?_
          rintro xq _ ⟨e6, rfl⟩ P6
          rw [Int.toNat_natCast] at P6
          repeat tb_rel
          refine poly_mod (bs := genP ec) (d + ec + 2) B' (r1 _ |>.le (by omega)) P6 (by o_shape) (raw_md hdb hdnz he1 hec15) (by have := strip_len (ns := (oct.drop off).take d); simp only [List.length_append, List.length_replicate]; omega) (by rw [genP_len hec15]; omega) (by have := strip_len (ns := (oct.drop off).take d); simp only [List.length_append, List.length_replicate]; omega) ?_
          rintro xm _ ⟨e7, rfl⟩ P7
          have hrem : polyModF (d + ec + 2) (strip ((oct.drop off).take d) ++ List.replicate ec 0) (genP ec) = remN ((oct.drop off).take d) ec := by unfold remN; rw [hdlen]
          rw [hrem] at P7
          have hrl := remN_len hdb hdnz he1 hec15
          repeat tb_rel
          refine poly_len (ns := remN ((oct.drop off).take d) ec) B' (r1 _ |>.le (by omega)) (by o_shape) (Nat.le_trans hrl (by rw [hdlen]; omega)) ?_
          intro t6
          repeat tb_rel
          rename_i lcur tmo
          refine Wp.nameTl ?_
          intro base hbase
          rw [← hbase] at P7
          refine Wp.mono (Q := fun fl vs' cv' nw' => fl = .next ∧ ∃ (e8 : Led) (cits : List Value) (kc2 : Nat) (u4 u11 : Option Value), vs' = [some (.ref lb), some (.int (max (maxOf ((bl.map (·.1)).take i) : Nat) (d : Nat)) t1), some (.int (max (maxOf ((bl.map (·.2)).take i) : Nat) (ec : Nat)) t2), some (.ref ld), some (.ref le), some (.ref xr), some (.int d tu), some (.int ec td), u4, some (.ref lc), some (.ref xp), some (.ref xq), some (.ref xm), some (.ref lcur), some (.int (((remN ((oct.drop off).take d) ec).length : Int) - (ec : Nat)) tmo), u11, w12, w13, w14] ∧ cv' = [some (.int ((off : Nat) + (d : Nat)) tO2), some (.ref bx)] ∧ nw' = e8 ++ (lcur, lo cits kc2) :: base ∧ IntsAre cits (ecw ((oct.drop off).take d) ec)) ?loopE ?restE
          case loopE =>
            refine' Wp.For ?_ ?hs
            case hs => (intro _; rfl)

            repeat tb_rel
            refine Wp.range1 ?_
            intro rg2 u2 v2
            refine ⟨fun j vs' cv' nw' => ∃ (e8 : Led) (cits : List Value) (kc2 : Nat) (u4 u11 : Option Value), vs' = [some (.ref lb), some (.int (max (maxOf ((bl.map (·.1)).take i) : Nat) (d : Nat)) t1), some (.int (max (maxOf ((bl.map (·.2)).take i) : Nat) (ec : Nat)) t2), some (.ref ld), some (.ref le), some (.ref xr), some (.int d tu), some (.int ec td), u4, some (.ref lc), some (.ref xp), some (.ref xq), some (.ref xm), some (.ref lcur), some (.int (((remN ((oct.drop off).take d) ec).length : Int) - (ec : Nat)) tmo), u11, w12, w13, w14] ∧ cv' = [some (.int ((off : Nat) + (d : Nat)) tO2), some (.ref bx)] ∧ nw' = e8 ++ (lcur, lo cits kc2) :: base ∧ IntsAre cits ((ecw ((oct.drop off).take d) ec).take j),
              _, _, _, _, iterRange hh (.head _) (by omega) (by omega) (by omega) (by omega), ⟨[(rg2, _)], [], 0, _, _, rfl, rfl, rfl, .nil⟩, fun _ _ _ _ _ => trivial, ?_, ?_⟩
            · rintro j v x' vs' cv' nw' hj ⟨rfl, tj, rfl⟩ ⟨e8, cits, kc2, u4, u11, rfl, rfl, rfl, hcur⟩
              have hje : j < ec := by omega
              have hcl := hcur.length
              rw [List.length_take] at hcl
              have ej : ((0 : Int) + j) = (j : Nat) := by omega
              repeat tb_rel
              refine Wp.mAppend (.mem (by one_item)) ?_
              repeat tb_rel
              by_cases hge : 0 ≤ ((0 : Int) + j) + (((remN ((oct.drop off).take d) ec).length : Int) - (ec : Nat))
              · refine ifT (decide_eq_true hge) ?_
                repeat tb_rel
                refine' poly_get (ns := remN ((oct.drop off).take d) ec) B' (r1 _ |>.le (by omega)) (by o_shape) (Nat.le_trans hrl (by rw [hdlen]; omega)) hge (by omega) ?_ ?hs7
                case hs7 => rfl
                intro t7
                repeat tb_rel
                refine Wp.append (by l_intsW) (by omega) ?_
                refine ⟨(fun _ c => nomatch c), ?_⟩
                repeat tb_rel
                refine ⟨e8, _, _, _, _, rfl, rfl, rfl, ?_⟩
                rw [ecw_take hje]
                refine hcur.append ?_
                rw [ej] at hge
                unfold ecAt
                rw [if_pos hge, ej]
                exact .cons _ _ .nil
              · refine ifF (decide_eq_false hge) ?_
                repeat tb_rel
                refine Wp.append (by l_intsW) (by omega) ?_
                refine ⟨(fun _ c => nomatch c), ?_⟩
                repeat tb_rel
                refine ⟨e8, _, _, _, _, rfl, rfl, rfl, ?_⟩
                rw [ecw_take hje]
                refine hcur.append ?_
                rw [ej] at hge
                unfold ecAt
                rw [if_neg hge]
                exact .cons _ _ .nil
            · rintro vs' cv' nw' ⟨e8, cits, kc2, u4, u11, rfl, rfl, rfl, hcur⟩
              refine ⟨rfl, e8, cits, kc2, u4, u11, rfl, rfl, rfl, ?_⟩
              rwa [List.take_of_length_le (by simp [ecw])] at hcur
          case restE =>
            rintro fl vs' cv' nw' ⟨rfl, e8, cits, kc2, u4, u11, rfl, rfl, rfl, hcur⟩
            subst hbase
            have hDl := hD.length
            have hEl := hE'.length
            rw [List.length_take, dcs_length] at hDl
            rw [List.length_take, ecs_length] at hEl
            repeat tb_rel
            refine Wp.mAppend (.mem (by one_item)) ?_
            repeat tb_rel
            refine Wp.append (by l_intsW) (by omega) ?_
            refine ⟨(fun _ c => nomatch c), ?_⟩
            repeat tb_rel
            refine Wp.mAppend (.mem (by one_item)) ?_
            repeat tb_rel
            refine Wp.append (by l_intsW) (by omega) ?_
            refine ⟨(fun _ c => nomatch c), ?_⟩
            repeat tb_rel
            refine ⟨e8 ++ (lcur, lo cits kc2) :: (e7 ++ (e6 ++ (e4 ++ ((lc, lo ys kc) :: e3)))), dits ++ [.ref lc], kd + 1, eits ++ [.ref lcur], ke + 1, t1, t2, tO2, some (.ref xr), some (.int d tu), some (.int ec td), u4, some (.ref lc), some (.ref xp), some (.ref xq), some (.ref xm), some (.ref lcur), some (.int (((remN ((oct.drop off).take d) ec).length : Int) - (ec : Nat)) tmo), u11, w12, w13, w14, ?_, ?_, ?_, ?_, ?_⟩
            · have c1 : ∀ a b : Nat, ((max a b : Nat) : Int) = max (a : Int) (b : Int) := fun a b => by omega
              rw [take_snoc hmap1, maxOf_snoc, take_snoc hmap2, maxOf_snoc, c1, c1]
            · rw [sum_snoc hmap1, hoff]
              push_cast
              rfl
            · simp
            · rw [dcs_take hbi, hoff, Nat.zero_add]
              exact NestIn.snoc (by one_item) hys (hD.mono (by intro p hp; have := he3 p hp; one_item))
            · rw [ecs_take hbi, hoff, Nat.zero_add]
              exact NestIn.snoc (by one_item) hcur (hE'.mono (by intro p hp; have := he3 p hp; one_item))

        | none =>
          rw [hlt] at hl0
          refine exB (ifF (by rw [hl0]; rfl) ?_)
          repeat tb_rel
          refine poly_new B' (r1 _ |>.le (by omega)) (.mem (.head _)) (.cons 1 _ .nil) (by simp) (by simp) (by decide) (by decide) ?_
          rintro xp0 _ ⟨e4, rfl⟩ P4
          repeat tb_rel
          refine Wp.mono (Q := fun fl vs' cv' nw' => fl = .next ∧ ∃ (e9 : Led) (xp : Addr) (u4 : Option Value), vs' = [some (.ref lb), some (.int (max (maxOf ((bl.map (·.1)).take i) : Nat) (d : Nat)) t1), some (.int (max (maxOf ((bl.map (·.2)).take i) : Nat) (ec : Nat)) t2), some (.ref ld), some (.ref le), some (.ref xr), some (.int d tu), some (.int ec td), u4, some (.ref lc), some (.ref xp), w7, w8, w9, w10, w11, w12, w13, w14] ∧ cv' = [some (.int ((off : Nat) + (d : Nat)) tO2), some (.ref bx)] ∧ nw' = e9 ++ (lc, lo ys kc) :: (e3 ++ (le, lo eits ke) :: (ld, lo dits kd) :: nw) ∧ PolyIn 172 nw' xp (genP ec)) ?loopG ?restG
          case loopG =>
            refine' Wp.For ?_ ?hs
            case hs => (intro _; rfl)

            repeat tb_rel
            refine Wp.range1 ?_
            intro rg3 u3 v3
            refine ⟨fun j vs' cv' nw' => ∃ (e9 : Led) (xp : Addr) (u4 : Option Value), vs' = [some (.ref lb), some (.int (max (maxOf ((bl.map (·.1)).take i) : Nat) (d : Nat)) t1), some (.int (max (maxOf ((bl.map (·.2)).take i) : Nat) (ec : Nat)) t2), some (.ref ld), some (.ref le), some (.ref xr), some (.int d tu), some (.int ec td), u4, some (.ref lc), some (.ref xp), w7, w8, w9, w10, w11, w12, w13, w14] ∧ cv' = [some (.int ((off : Nat) + (d : Nat)) tO2), some (.ref bx)] ∧ nw' = e9 ++ (lc, lo ys kc) :: (e3 ++ (le, lo eits ke) :: (ld, lo dits kd) :: nw) ∧ PolyIn 172 nw' xp (genP j),
              _, _, _, _, iterRange hh (.head _) (by omega) (by omega) (by omega) (by omega), ?I0g, fun _ _ _ _ _ => trivial, ?Tg, ?Dg⟩
            case I0g => exact ⟨(rg3, _) :: (e4 ++ [_]), xp0, _, rfl, rfl, (by rw [List.cons_append, List.append_assoc]; rfl), P4.mono (fun p hp => .tail _ hp)⟩
            case Dg =>
              rintro vs' cv' nw' ⟨e9, xp, u4, rfl, rfl, rfl, P9⟩
              exact ⟨rfl, e9, xp, u4, rfl, rfl, rfl, P9⟩
            case Tg =>
              rintro j v x' vs' cv' nw' hj ⟨rfl, tj, rfl⟩ ⟨e9, xp, u4, rfl, rfl, rfl, P9⟩
              have hj2 : j < ec := by omega
              repeat tb_rel
              refine gexp_ok B' (r1 _ |>.le (by omega)) ?_
              intro t8
              repeat tb_rel
              refine poly_new B' (r1 _ |>.le (by omega)) (.mem (.head _)) (.cons 1 _ (.cons _ _ .nil)) (by simp) (by simp) (by decide) (by decide) ?_
              rintro xq0 _ ⟨e10, rfl⟩ P10
              have em2 : strip [1, ex (0 + (j : Int))] ++ List.replicate (Int.toNat 0) 0 = [1, ex (j : Int)] := by
                rw [Int.zero_add]
                exact (List.append_nil _).trans (strip_oct (pairOct _))
              rw [em2] at P10
              repeat tb_rel
              refine poly_mul (as := genP j) (bs := [1, ex (j : Int)]) B' (r1 _ |>.le (by omega)) (by o_shape) P10 (genP_oct (by omega)) (pairOct _) (genP_ne (by omega)) (by simp) (by rw [genP_len (by omega)]; omega) (by simp) ?_
              rintro xz _ ⟨e12, rfl⟩ P12
              repeat tb_rel
              exact ⟨e12 ++ (e10 ++ (_ :: e9)), xz, _, rfl, rfl, (by rw [List.append_assoc, List.append_assoc]; rfl), P12⟩
          case restG =>
            rintro fl vs' cv' nw' ⟨rfl, e4, xp, u4, rfl, rfl, rfl, P4⟩

            repeat tb_rel
            refine poly_len (ns := genP ec) B' (r1 _ |>.le (by omega)) (by o_shape) (by rw [genP_len hec15]; omega) ?_
            intro t5
            rw [genP_len hec15]
            repeat tb_rel
            rw [show (((ec + 1 : Nat) : Int) - 1) = (ec : Nat) by omega]
            refine poly_new B' (r1 _ |>.le (by omega)) (.mem (by one_item)) hys (fun c => by rw [c] at hdlen; simp at hdlen; omega) (by omega) (by omega) (by omega) ?_
            rintro xq _ ⟨e6, rfl⟩ P6
            rw [Int.toNat_natCast] at P6
            repeat tb_rel
            refine poly_mod (bs := genP ec) (d + ec + 2) B' (r1 _ |>.le (by omega)) P6 (by o_shape) (raw_md hdb hdnz he1 hec15) (by have := strip_len (ns := (oct.drop off).take d); simp only [List.length_append, List.length_replicate]; omega) (by rw [genP_len hec15]; omega) (by have := strip_len (ns := (oct.drop off).take d); simp only [List.length_append, List.length_replicate]; omega) ?_
            rintro xm _ ⟨e7, rfl⟩ P7
            have hrem : polyModF (d + ec + 2) (strip ((oct.drop off).take d) ++ List.replicate ec 0) (genP ec) = remN ((oct.drop off).take d) ec := by unfold remN; rw [hdlen]
            rw [hrem] at P7
            have hrl := remN_len hdb hdnz he1 hec15
            repeat tb_rel
            refine poly_len (ns := remN ((oct.drop off).take d) ec) B' (r1 _ |>.le (by omega)) (by o_shape) (Nat.le_trans hrl (by rw [hdlen]; omega)) ?_
            intro t6
            repeat tb_rel
            rename_i lcur tmo
            refine Wp.nameTl ?_
            intro base hbase
            rw [← hbase] at P7
            refine Wp.mono (Q := fun fl vs' cv' nw' => fl = .next ∧ ∃ (e8 : Led) (cits : List Value) (kc2 : Nat) (u4 u11 : Option Value), vs' = [some (.ref lb), some (.int (max (maxOf ((bl.map (·.1)).take i) : Nat) (d : Nat)) t1), some (.int (max (maxOf ((bl.map (·.2)).take i) : Nat) (ec : Nat)) t2), some (.ref ld), some (.ref le), some (.ref xr), some (.int d tu), some (.int ec td), u4, some (.ref lc), some (.ref xp), some (.ref xq), some (.ref xm), some (.ref lcur), some (.int (((remN ((oct.drop off).take d) ec).length : Int) - (ec : Nat)) tmo), u11, w12, w13, w14] ∧ cv' = [some (.int ((off : Nat) + (d : Nat)) tO2), some (.ref bx)] ∧ nw' = e8 ++ (lcur, lo cits kc2) :: base ∧ IntsAre cits (ecw ((oct.drop off).take d) ec)) ?loopE ?restE
            case loopE =>
              refine' Wp.For ?_ ?hs
              case hs => (intro _; rfl)

              repeat tb_rel
              refine Wp.range1 ?_
              intro rg2 u2 v2
              refine ⟨fun j vs' cv' nw' => ∃ (e8 : Led) (cits : List Value) (kc2 : Nat) (u4 u11 : Option Value), vs' = [some (.ref lb), some (.int (max (maxOf ((bl.map (·.1)).take i) : Nat) (d : Nat)) t1), some (.int (max (maxOf ((bl.map (·.2)).take i) : Nat) (ec : Nat)) t2), some (.ref ld), some (.ref le), some (.ref xr), some (.int d tu), some (.int ec td), u4, some (.ref lc), some (.ref xp), some (.ref xq), some (.ref xm), some (.ref lcur), some (.int (((remN ((oct.drop off).take d) ec).length : Int) - (ec : Nat)) tmo), u11, w12, w13, w14] ∧ cv' = [some (.int ((off : Nat) + (d : Nat)) tO2), some (.ref bx)] ∧ nw' = e8 ++ (lcur, lo cits kc2) :: base ∧ IntsAre cits ((ecw ((oct.drop off).take d) ec).take j),
                _, _, _, _, iterRange hh (.head _) (by omega) (by omega) (by omega) (by omega), ⟨[(rg2, _)], [], 0, _, _, rfl, rfl, rfl, .nil⟩, fun _ _ _ _ _ => trivial, ?_, ?_⟩
              · rintro j v x' vs' cv' nw' hj ⟨rfl, tj, rfl⟩ ⟨e8, cits, kc2, u4, u11, rfl, rfl, rfl, hcur⟩
                have hje : j < ec := by omega
                have hcl := hcur.length
                rw [List.length_take] at hcl
                have ej : ((0 : Int) + j) = (j : Nat) := by omega
                repeat tb_rel
                refine Wp.mAppend (.mem (by one_item)) ?_
                repeat tb_rel
                by_cases hge : 0 ≤ ((0 : Int) + j) + (((remN ((oct.drop off).take d) ec).length : Int) - (ec : Nat))
                · refine ifT (decide_eq_true hge) ?_
                  repeat tb_rel
                  refine' poly_get (ns := remN ((oct.drop off).take d) ec) B' (r1 _ |>.le (by omega)) (by o_shape) (Nat.le_trans hrl (by rw [hdlen]; omega)) hge (by omega) ?_ ?hs7
                  case hs7 => rfl
                  intro t7
                  repeat tb_rel
                  refine Wp.append (by l_intsW) (by omega) ?_
                  refine ⟨(fun _ c => nomatch c), ?_⟩
                  repeat tb_rel
                  refine ⟨e8, _, _, _, _, rfl, rfl, rfl, ?_⟩
                  rw [ecw_take hje]
                  refine hcur.append ?_
                  rw [ej] at hge
                  unfold ecAt
                  rw [if_pos hge, ej]
                  exact .cons _ _ .nil
                · refine ifF (decide_eq_false hge) ?_
                  repeat tb_rel
                  refine Wp.append (by l_intsW) (by omega) ?_
                  refine ⟨(fun _ c => nomatch c), ?_⟩
                  repeat tb_rel
                  refine ⟨e8, _, _, _, _, rfl, rfl, rfl, ?_⟩
                  rw [ecw_take hje]
                  refine hcur.append ?_
                  rw [ej] at hge
                  unfold ecAt
                  rw [if_neg hge]
                  exact .cons _ _ .nil
              · rintro vs' cv' nw' ⟨e8, cits, kc2, u4, u11, rfl, rfl, rfl, hcur⟩
                refine ⟨rfl, e8, cits, kc2, u4, u11, rfl, rfl, rfl, ?_⟩
                rwa [List.take_of_length_le (by simp [ecw])] at hcur
            case restE =>
              rintro fl vs' cv' nw' ⟨rfl, e8, cits, kc2, u4, u11, rfl, rfl, rfl, hcur⟩
              subst hbase
              have hDl := hD.length
              have hEl := hE'.length
              rw [List.length_take, dcs_length] at hDl
              rw [List.length_take, ecs_length] at hEl
              repeat tb_rel
              refine Wp.mAppend (.mem (by one_item)) ?_
              repeat tb_rel
              refine Wp.append (by l_intsW) (by omega) ?_
              refine ⟨(fun _ c => nomatch c), ?_⟩
              repeat tb_rel
              refine Wp.mAppend (.mem (by one_item)) ?_
              repeat tb_rel
              refine Wp.append (by l_intsW) (by omega) ?_
              refine ⟨(fun _ c => nomatch c), ?_⟩
              repeat tb_rel
              refine ⟨e8 ++ (lcur, lo cits kc2) :: (e7 ++ (e6 ++ (e4 ++ ((lc, lo ys kc) :: e3)))), dits ++ [.ref lc], kd + 1, eits ++ [.ref lcur], ke + 1, t1, t2, tO2, some (.ref xr), some (.int d tu), some (.int ec td), u4, some (.ref lc), some (.ref xp), some (.ref xq), some (.ref xm), some (.ref lcur), some (.int (((remN ((oct.drop off).take d) ec).length : Int) - (ec : Nat)) tmo), u11, w12, w13, w14, ?_, ?_, ?_, ?_, ?_⟩
              · have c1 : ∀ a b : Nat, ((max a b : Nat) : Int) = max (a : Int) (b : Int) := fun a b => by omega
                rw [take_snoc hmap1, maxOf_snoc, take_snoc hmap2, maxOf_snoc, c1, c1]
              · rw [sum_snoc hmap1, hoff]
                push_cast
                rfl
              · simp
              · rw [dcs_take hbi, hoff, Nat.zero_add]
                exact NestIn.snoc (by one_item) hys (hD.mono (by intro p hp; have := he3 p hp; one_item))
              · rw [ecs_take hbi, hoff, Nat.zero_add]
                exact NestIn.snoc (by one_item) hcur (hE'.mono (by intro p hp; have := he3 p hp; one_item))

  case rest1 =>
    rintro fl vs' cv' nw' ⟨rfl, e, dits, kd, eits, ke, tM, tE, tO, w1, w2, w3, w4, w5, w6, w7, w8, w9, w10, w11, w12, w13, w14, rfl, rfl, rfl, hD, hE'⟩
    have hDl := hD.length
    have hEl := hE'.length
    rw [dcs_length] at hDl
    rw [ecs_length] at hEl
    have hM1 : maxOf (bl.map (·.1)) ≤ 20 := maxOf_le fun a q => by obtain ⟨p, hp, rfl⟩ := List.mem_map.mp q; exact (hE p hp).2.1
    have hM2 : maxOf (bl.map (·.2)) ≤ 20 := maxOf_le fun a q => by obtain ⟨p, hp, rfl⟩ := List.mem_map.mp q; have := (hE p hp).2.2.2; omega
    repeat tb_rel
    rename_i lt
    refine Wp.nameTl ?_
    intro base hbase
    have hpa : IntsAre [] ([] : List Int) := .nil
    refine Wp.mono (Q := fun fl vs' cv' nw' => fl = .next ∧ ∃ (e8 : Led) (cits : List Value) (kc2 : Nat) (u4 u13 : Option Value), vs' = [some (.ref lb), some (.int (maxOf (bl.map (·.1)) : Nat) tM), some (.int (maxOf (bl.map (·.2)) : Nat) tE), some (.ref ld), some (.ref le), w1, w2, w3, u4, w5, w6, w7, w8, w9, w10, w11, some (.ref lt), u13, w14] ∧ cv' = [some (.int ((bl.map (·.1)).sum : Nat) tO), some (.ref bx)] ∧ nw' = e8 ++ (lt, lo cits kc2) :: base ∧ IntsAre cits (([] : List Int) ++ laid (maxOf (bl.map (·.1))) (dcs oct 0 bl)) ∧ cits.length ≤ 0 + 2000) ?lpa ?rsa
    case lpa =>
      refine' Wp.For ?_ ?hs
      case hs => (intro _; rfl)

      repeat tb_rel
      refine Wp.range1 ?_
      intro rg u v
      refine ⟨fun i vs' cv' nw' => ∃ (e8 : Led) (cits : List Value) (kc2 : Nat) (u4 u13 : Option Value), vs' = [some (.ref lb), some (.int (maxOf (bl.map (·.1)) : Nat) tM), some (.int (maxOf (bl.map (·.2)) : Nat) tE), some (.ref ld), some (.ref le), w1, w2, w3, u4, w5, w6, w7, w8, w9, w10, w11, some (.ref lt), u13, w14] ∧ cv' = [some (.int ((bl.map (·.1)).sum : Nat) tO), some (.ref bx)] ∧ nw' = e8 ++ (lt, lo cits kc2) :: base ∧ IntsAre cits (([] : List Int) ++ laid i (dcs oct 0 bl)) ∧ cits.length ≤ 0 + i * 100,
        _, _, _, _, iterRange hh (.head _) (by omega) (by omega) (by omega) (by omega), ⟨(rg, _) :: [], [], 0, _, _, rfl, rfl, rfl, by rw [show laid 0 (dcs oct 0 bl) = [] from rfl, List.append_nil]; exact hpa, by first | omega | simp⟩, fun _ _ _ _ _ => trivial, ?_, ?_⟩
      · rintro i v x' vs' cv' nw' hi' ⟨rfl, ti, rfl⟩ ⟨e8, cits, kc2, u4, u13, rfl, rfl, rfl, hc1, hc2⟩
        have ei : ((0 : Int) + i) = (i : Nat) := by omega
        repeat tb_rel
        refine Wp.mono (Q := fun fl vs' cv' nw' => fl = .next ∧ ∃ (e8 : Led) (cits : List Value) (kc2 : Nat) (u13 : Option Value), vs' = [some (.ref lb), some (.int (maxOf (bl.map (·.1)) : Nat) tM), some (.int (maxOf (bl.map (·.2)) : Nat) tE), some (.ref ld), some (.ref le), w1, w2, w3, some (.int ((0 : Int) + (i : Nat)) ti), w5, w6, w7, w8, w9, w10, w11, some (.ref lt), u13, w14] ∧ cv' = [some (.int ((bl.map (·.1)).sum : Nat) tO), some (.ref bx)] ∧ nw' = e8 ++ (lt, lo cits kc2) :: base ∧ IntsAre cits (([] : List Int) ++ laid (i + 1) (dcs oct 0 bl)) ∧ cits.length ≤ 0 + (i + 1) * 100) ?lqa ?rqa
        case lqa =>
          refine' Wp.For ?_ ?hs
          case hs => (intro _; rfl)

          repeat tb_rel
          refine ⟨fun j vs' cv' nw' => ∃ (e8 : Led) (cits : List Value) (kc2 : Nat) (u13 : Option Value), vs' = [some (.ref lb), some (.int (maxOf (bl.map (·.1)) : Nat) tM), some (.int (maxOf (bl.map (·.2)) : Nat) tE), some (.ref ld), some (.ref le), w1, w2, w3, some (.int ((0 : Int) + (i : Nat)) ti), w5, w6, w7, w8, w9, w10, w11, some (.ref lt), u13, w14] ∧ cv' = [some (.int ((bl.map (·.1)).sum : Nat) tO), some (.ref bx)] ∧ nw' = e8 ++ (lt, lo cits kc2) :: base ∧ IntsAre cits (([] : List Int) ++ laid i (dcs oct 0 bl) ++ ((dcs oct 0 bl).take j).filterMap (fun l => l[i]?)) ∧ cits.length ≤ 0 + i * 100 + j,
            _, _, _, _, iterList (its := dits) (k := kd) hh (.mem (by subst hbase; one_item)), ⟨e8, cits, kc2, _, rfl, rfl, rfl, by simpa using hc1, by omega⟩, ?_, ?_, ?_⟩
          · rintro j vs' cv' nw' ⟨e8, cits, kc2, u13, rfl, rfl, rfl, _, _⟩
            exact .mem (by subst hbase; one_item)
          · rintro j v x' vs' cv' nw' hj ⟨rfl, hv⟩ ⟨e8, cits, kc2, u13, rfl, rfl, rfl, hc3, hc4⟩
            obtain ⟨l, li, lk, xs, rfl, hm, hxs, hxj⟩ := hD.get hv
            have hxl := hxs.length
            have hxb : xs.length ≤ 2 ^ 12 := Nat.le_trans (dcs_mem_len (List.mem_of_getElem? hxj)) hz
            have hm' : (l, lo li lk) ∈ base := by subst hbase; one_item
            repeat tb_rel
            refine Wp.len (.mem (by one_item)) (by omega) ?_
            intro t4
            repeat tb_rel
            rw [ei]
            by_cases hil : i < xs.length
            · refine ifT (decide_eq_true (by omega)) ?_
              repeat tb_rel
              refine Wp.mAppend (.mem (by one_item)) ?_
              repeat tb_rel
              refine' Wp.subI (.mem (by one_item)) hxs (by omega) (by omega) (by omega) ?_ ?hs3
              case hs3 => rfl
              intro t5
              repeat tb_rel
              refine Wp.append (by l_intsW) (by omega) ?_
              refine ⟨(fun _ c => nomatch c), ?_⟩
              repeat tb_rel
              refine ⟨e8, _, _, _, rfl, rfl, rfl, ?_, by rw [List.length_append]; simp only [List.length_cons, List.length_nil]; omega⟩
              rw [fm_snoc hxj, ← List.append_assoc]
              refine hc3.append ?_
              have e7 : xs[i]? = some (xs.getD ((i : Nat) : Int).toNat 0) := by
                rw [Int.toNat_natCast, List.getD_eq_getElem?_getD, List.getElem?_eq_getElem hil]; rfl
              rw [e7]
              exact .cons _ _ .nil
            · refine ifF (decide_eq_false (by omega)) ?_
              repeat tb_rel
              refine ⟨e8, cits, kc2, _, rfl, rfl, rfl, ?_, by omega⟩
              rw [fm_snoc hxj, List.getElem?_eq_none (by omega), Option.toList_none, List.append_nil]
              exact hc3
          · rintro vs' cv' nw' ⟨e8, cits, kc2, u13, rfl, rfl, rfl, hc3, hc4⟩
            refine ⟨rfl, e8, cits, kc2, u13, rfl, rfl, rfl, ?_, by omega⟩
            rw [List.take_of_length_le (by have := hD.length; omega)] at hc3
            rw [laid_succ, ← List.append_assoc]
            exact hc3
        case rqa =>
          rintro fl vs' cv' nw' ⟨rfl, e8, cits, kc2, u13, rfl, rfl, rfl, hc3, hc4⟩
          repeat tb_rel
          exact ⟨e8, cits, kc2, _, _, rfl, rfl, rfl, hc3, hc4⟩
      · rintro vs' cv' nw' ⟨e8, cits, kc2, u4, u13, rfl, rfl, rfl, hc1, hc2⟩
        have e9 : (((((maxOf (bl.map (·.1))) : Nat) : Int)) - 0).toNat = (maxOf (bl.map (·.1))) := by omega
        rw [e9] at hc1 hc2
        exact ⟨rfl, e8, cits, kc2, u4, u13, rfl, rfl, rfl, hc1, by have := hM1; omega⟩

    case rsa =>
      rintro fl vs' cv' nw' ⟨rfl, ea, aits, ka, u4, u13, rfl, rfl, rfl, hpb, hlb⟩
      rw [List.nil_append] at hpb
      repeat tb_rel
      refine Wp.mono (Q := fun fl vs' cv' nw' => fl = .next ∧ ∃ (e8 : Led) (cits : List Value) (kc2 : Nat) (u4 u14 : Option Value), vs' = [some (.ref lb), some (.int (maxOf (bl.map (·.1)) : Nat) tM), some (.int (maxOf (bl.map (·.2)) : Nat) tE), some (.ref ld), some (.ref le), w1, w2, w3, u4, w5, w6, w7, w8, w9, w10, w11, some (.ref lt), u13, u14] ∧ cv' = [some (.int ((bl.map (·.1)).sum : Nat) tO), some (.ref bx)] ∧ nw' = e8 ++ (lt, lo cits kc2) :: base ∧ IntsAre cits ((laid (maxOf (bl.map (·.1))) (dcs oct 0 bl)) ++ laid (maxOf (bl.map (·.2))) (ecs oct 0 bl)) ∧ cits.length ≤ 2000 + 2000) ?lpb ?rsb
      case lpb =>
        refine' Wp.For ?_ ?hs
        case hs => (intro _; rfl)

        repeat tb_rel
        refine Wp.range1 ?_
        intro rg u v
        refine ⟨fun i vs' cv' nw' => ∃ (e8 : Led) (cits : List Value) (kc2 : Nat) (u4 u14 : Option Value), vs' = [some (.ref lb), some (.int (maxOf (bl.map (·.1)) : Nat) tM), some (.int (maxOf (bl.map (·.2)) : Nat) tE), some (.ref ld), some (.ref le), w1, w2, w3, u4, w5, w6, w7, w8, w9, w10, w11, some (.ref lt), u13, u14] ∧ cv' = [some (.int ((bl.map (·.1)).sum : Nat) tO), some (.ref bx)] ∧ nw' = e8 ++ (lt, lo cits kc2) :: base ∧ IntsAre cits ((laid (maxOf (bl.map (·.1))) (dcs oct 0 bl)) ++ laid i (ecs oct 0 bl)) ∧ cits.length ≤ 2000 + i * 100,
          _, _, _, _, iterRange hh (.head _) (by omega) (by omega) (by omega) (by omega), ⟨(rg, _) :: ea, aits, ka, _, _, rfl, rfl, rfl, by rw [show laid 0 (ecs oct 0 bl) = [] from rfl, List.append_nil]; exact hpb, by first | omega | simp⟩, fun _ _ _ _ _ => trivial, ?_, ?_⟩
        · rintro i v x' vs' cv' nw' hi' ⟨rfl, ti, rfl⟩ ⟨e8, cits, kc2, u4, u14, rfl, rfl, rfl, hc1, hc2⟩
          have ei : ((0 : Int) + i) = (i : Nat) := by omega
          repeat tb_rel
          refine Wp.mono (Q := fun fl vs' cv' nw' => fl = .next ∧ ∃ (e8 : Led) (cits : List Value) (kc2 : Nat) (u14 : Option Value), vs' = [some (.ref lb), some (.int (maxOf (bl.map (·.1)) : Nat) tM), some (.int (maxOf (bl.map (·.2)) : Nat) tE), some (.ref ld), some (.ref le), w1, w2, w3, some (.int ((0 : Int) + (i : Nat)) ti), w5, w6, w7, w8, w9, w10, w11, some (.ref lt), u13, u14] ∧ cv' = [some (.int ((bl.map (·.1)).sum : Nat) tO), some (.ref bx)] ∧ nw' = e8 ++ (lt, lo cits kc2) :: base ∧ IntsAre cits ((laid (maxOf (bl.map (·.1))) (dcs oct 0 bl)) ++ laid (i + 1) (ecs oct 0 bl)) ∧ cits.length ≤ 2000 + (i + 1) * 100) ?lqb ?rqb
          case lqb =>
            refine' Wp.For ?_ ?hs
            case hs => (intro _; rfl)

            repeat tb_rel
            refine ⟨fun j vs' cv' nw' => ∃ (e8 : Led) (cits : List Value) (kc2 : Nat) (u14 : Option Value), vs' = [some (.ref lb), some (.int (maxOf (bl.map (·.1)) : Nat) tM), some (.int (maxOf (bl.map (·.2)) : Nat) tE), some (.ref ld), some (.ref le), w1, w2, w3, some (.int ((0 : Int) + (i : Nat)) ti), w5, w6, w7, w8, w9, w10, w11, some (.ref lt), u13, u14] ∧ cv' = [some (.int ((bl.map (·.1)).sum : Nat) tO), some (.ref bx)] ∧ nw' = e8 ++ (lt, lo cits kc2) :: base ∧ IntsAre cits ((laid (maxOf (bl.map (·.1))) (dcs oct 0 bl)) ++ laid i (ecs oct 0 bl) ++ ((ecs oct 0 bl).take j).filterMap (fun l => l[i]?)) ∧ cits.length ≤ 2000 + i * 100 + j,
              _, _, _, _, iterList (its := eits) (k := ke) hh (.mem (by subst hbase; one_item)), ⟨e8, cits, kc2, _, rfl, rfl, rfl, by simpa using hc1, by omega⟩, ?_, ?_, ?_⟩
            · rintro j vs' cv' nw' ⟨e8, cits, kc2, u14, rfl, rfl, rfl, _, _⟩
              exact .mem (by subst hbase; one_item)
            · rintro j v x' vs' cv' nw' hj ⟨rfl, hv⟩ ⟨e8, cits, kc2, u14, rfl, rfl, rfl, hc3, hc4⟩
              obtain ⟨l, li, lk, xs, rfl, hm, hxs, hxj⟩ := hE'.get hv
              have hxl := hxs.length
              have hxb : xs.length ≤ 2 ^ 12 := Nat.le_trans (ecs_mem_len (fun p hp => by have := (hE p hp).2.2.2; omega) (List.mem_of_getElem? hxj)) (by decide)
              have hm' : (l, lo li lk) ∈ base := by subst hbase; one_item
              repeat tb_rel
              refine Wp.len (.mem (by one_item)) (by omega) ?_
              intro t4
              repeat tb_rel
              rw [ei]
              by_cases hil : i < xs.length
              · refine ifT (decide_eq_true (by omega)) ?_
                repeat tb_rel
                refine Wp.mAppend (.mem (by one_item)) ?_
                repeat tb_rel
                refine' Wp.subI (.mem (by one_item)) hxs (by omega) (by omega) (by omega) ?_ ?hs3
                case hs3 => rfl
                intro t5
                repeat tb_rel
                refine Wp.append (by l_intsW) (by omega) ?_
                refine ⟨(fun _ c => nomatch c), ?_⟩
                repeat tb_rel
                refine ⟨e8, _, _, _, rfl, rfl, rfl, ?_, by rw [List.length_append]; simp only [List.length_cons, List.length_nil]; omega⟩
                rw [fm_snoc hxj, ← List.append_assoc]
                refine hc3.append ?_
                have e7 : xs[i]? = some (xs.getD ((i : Nat) : Int).toNat 0) := by
                  rw [Int.toNat_natCast, List.getD_eq_getElem?_getD, List.getElem?_eq_getElem hil]; rfl
                rw [e7]
                exact .cons _ _ .nil
              · refine ifF (decide_eq_false (by omega)) ?_
                repeat tb_rel
                refine ⟨e8, cits, kc2, _, rfl, rfl, rfl, ?_, by omega⟩
                rw [fm_snoc hxj, List.getElem?_eq_none (by omega), Option.toList_none, List.append_nil]
                exact hc3
            · rintro vs' cv' nw' ⟨e8, cits, kc2, u14, rfl, rfl, rfl, hc3, hc4⟩
              refine ⟨rfl, e8, cits, kc2, u14, rfl, rfl, rfl, ?_, by omega⟩
              rw [List.take_of_length_le (by have := hE'.length; omega)] at hc3
              rw [laid_succ, ← List.append_assoc]
              exact hc3
          case rqb =>
            rintro fl vs' cv' nw' ⟨rfl, e8, cits, kc2, u14, rfl, rfl, rfl, hc3, hc4⟩
            repeat tb_rel
            exact ⟨e8, cits, kc2, _, _, rfl, rfl, rfl, hc3, hc4⟩
        · rintro vs' cv' nw' ⟨e8, cits, kc2, u4, u14, rfl, rfl, rfl, hc1, hc2⟩
          have e9 : (((((maxOf (bl.map (·.2))) : Nat) : Int)) - 0).toNat = (maxOf (bl.map (·.2))) := by omega
          rw [e9] at hc1 hc2
          exact ⟨rfl, e8, cits, kc2, u4, u14, rfl, rfl, rfl, hc1, by have := hM2; omega⟩

      case rsb =>
        rintro fl vs' cv' nw' ⟨rfl, e8, cits, kc2, u4, u14, rfl, rfl, rfl, hc1, _⟩
        repeat tb_rel
        subst hbase
        exact h lt _ cits kc2 (by units_room) (by one_item) hc1
end
section
open PySem PySem.W PySem.Calls PySem.Spec PyProof.Rows
variable {X : Fx} {f : Fm} {A : Around} {vs cv : Vals} {nw : Led} {p : Program} {loose : List Str} {mg mb : Str → Option Value}

theorem RsAt.snoc {nw : Led} {x : Addr} {t u : Tok} {d e : Nat} (h : RsIn nw x (.int (d + e : Nat) t) (.int d u)) : ∀ {its : List Value} {bl : List (Nat × Nat)}, RsAt nw its bl → RsAt nw (its ++ [.ref x]) (bl ++ [(d, e)])
  | [], [], _ => ⟨⟨x, t, u, rfl, h⟩, trivial⟩
  | _ :: _, (_, _) :: _, ⟨h1, r⟩ => ⟨h1, RsAt.snoc h r⟩
theorem RsAt.mono {nw nw' : Led} (s : ∀ p ∈ nw, p ∈ nw') : ∀ {its : List Value} {bl : List (Nat × Nat)}, RsAt nw its bl → RsAt nw' its bl
  | [], [], _ => trivial
  | _ :: _, (_, _) :: _, ⟨⟨x, t, u, h1, h2⟩, r⟩ => ⟨⟨x, t, u, h1, h2.mono s⟩, RsAt.mono s r⟩
protected theorem Wp.compE {env : Env} {elt : Expr} {gens : List Comprehension} {scope : Scope} {cpos : Pos} {Q : Value → Vals → Vals → Led → Prop}
    (h : Wp X f A (comprehension (.ListComp elt gens scope cpos) scope env (firstIterPos gens cpos) (PySem.newList []) (firstAsync gens) (firstIter gens env) none) vs cv nw Q)
    (he : eval (.ListComp elt gens scope cpos) env = comprehension (.ListComp elt gens scope cpos) scope env (firstIterPos gens cpos) (PySem.newList []) (firstAsync gens) (firstIter gens env) none := by rfl) :
    Wp X f A (eval (.ListComp elt gens scope cpos) env) vs cv nw Q := by rw [he]; exact h
set_option maxHeartbeats 2000000 in
theorem told_ok {bl0 ml : Addr} {bits mits : List Value} {kb km : Nat} {bl : List (Nat × Nat)} {ms : List (List Int)} {Q : Value → Vals → Vals → Led → Prop} (B : Bs (Mine.hd.heap_39 X.w.params) p loose mg mb f.g) (r : Rm A 210)
    (hbl : (bl0, lo bits kb) ∈ nw) (hml : (ml, lo mits km) ∈ nw) (hB : TupIn nw bits bl) (hM : NestIn nw mits ms)
    (hoct : ∀ m ∈ ms, ∀ a ∈ m, Byte a) (hE : ∀ p ∈ bl, 1 ≤ p.1 ∧ p.1 ≤ 20 ∧ Ec p.2) (hsum : (bl.map (·.1)).sum ≤ ms.flatten.length) (hz : ms.flatten.length ≤ 2 ^ 10) (hnz : ∀ dc ∈ dcs ms.flatten 0 bl, ∃ a ∈ dc, a ≠ 0) (hbl2 : bl.length ≤ 100)
    (h : ∀ l nw' its k, Sfx nw nw' → (l, lo its k) ∈ nw' → IntsAre its (told ms.flatten bl) → Q (.ref l) vs cv nw') : Wp X f A (call (.ref 311) [.ref bl0, .ref ml]) vs cv nw Q := by
  refine' Wp.callDef (xs := ["blocks", "messages"]) (rest := ["buffer", "message", "octet", "before", "words"]) (by assumption) (Rm.lim (by assumption)) ?k1 ?k2 ?k3 ?k4 ?k5 ?k6 ?k7 ?_ ?c1 ?c2 ?c3
  case k1 => k_is
  case k2 => k_is
  case k3 => exact rfl
  case k4 => exact rfl
  case k5 => decide
  case k6 => exact rfl
  case k7 => exact rfl
  case c1 => exact rfl
  case c2 => exact rfl
  case c3 => exact rfl
  intro g' L' hg' B'
  simp only [List.cons_append, List.nil_append, List.map_cons, List.map_nil]

  have r1 := fun e => r.deeper (e := e)
  have hh := r.hh
  repeat tb_rel
  refine buf_new B' (r1 _ |>.le (by omega)) ?_
  intro x dx l hb tb hl tl t n
  refine Wp.perm (nw' := (dx, dictOf (bufEs hb tb hl tl l (.int 0 t)) n) :: (l, lo [] 0) :: (x, instObj 297 dx) :: nw) (List.perm_middle (l₁ := [(l, lo [] 0), (x, instObj 297 dx)])).symm ?_
  repeat tb_rel
  refine Wp.mono (Q := fun fl vs' cv' nw' => fl = .next ∧ ∃ (e : Led) (its : List Value) (k : Nat) (t : Tok) (v1 v2 : Option Value), vs' = [some (.ref bl0), some (.ref ml), some (.ref x), v1, v2, none, none] ∧ cv' = [] ∧ nw' = e ++ (dx, dictOf (bufEs hb tb hl tl l (.int (8 * ms.flatten.length : Nat) t)) n) :: (l, lo its k) :: (x, instObj 297 dx) :: nw ∧ IntsAre its ms.flatten) ?loop1 ?rest1
  case loop1 =>
    refine' Wp.For ?_ ?hs
    case hs => (intro _; rfl)

    repeat tb_rel
    refine ⟨fun i vs' cv' nw' => ∃ (e : Led) (its : List Value) (k : Nat) (t : Tok) (v1 v2 : Option Value), vs' = [some (.ref bl0), some (.ref ml), some (.ref x), v1, v2, none, none] ∧ cv' = [] ∧ nw' = e ++ (dx, dictOf (bufEs hb tb hl tl l (.int (8 * (ms.take i).flatten.length : Nat) t)) n) :: (l, lo its k) :: (x, instObj 297 dx) :: nw ∧ IntsAre its (ms.take i).flatten,
      _, _, _, _, iterList (its := mits) (k := km) hh (.mem (by one_item)), ⟨[], [], 0, t, _, _, rfl, rfl, rfl, .nil⟩, ?_, ?_, ?_⟩
    · rintro i vs' cv' nw' ⟨e, its, k, t, v1, v2, rfl, rfl, rfl, _⟩
      exact .mem (by one_item)
    · rintro i v x' vs' cv' nw' hi' ⟨rfl, hv⟩ ⟨e, its, k, t, v1, v2, rfl, rfl, rfl, hI⟩
      obtain ⟨lm, li, lk, xs, rfl, hm, hxs, hxj⟩ := hM.get hv
      have hfl : (ms.take (i + 1)).flatten = (ms.take i).flatten ++ xs := by rw [take_snoc hxj]; simp
      have hle : (ms.take (i + 1)).flatten.length ≤ ms.flatten.length := by
        have e1 := List.take_append_drop (i + 1) ms
        have : (ms.take (i + 1)).flatten.length + (ms.drop (i + 1)).flatten.length = ms.flatten.length := by rw [← List.length_append, ← List.flatten_append, e1]
        omega
      rw [hfl, List.length_append] at hle
      repeat tb_rel
      refine Wp.mono (Q := fun fl vs' cv' nw' => fl = .next ∧ ∃ (e : Led) (its : List Value) (k : Nat) (t : Tok) (v2 : Option Value), vs' = [some (.ref bl0), some (.ref ml), some (.ref x), some (.ref lm), v2, none, none] ∧ cv' = [] ∧ nw' = e ++ (dx, dictOf (bufEs hb tb hl tl l (.int (8 * ((ms.take i).flatten ++ xs).length : Nat) t)) n) :: (l, lo its k) :: (x, instObj 297 dx) :: nw ∧ IntsAre its ((ms.take i).flatten ++ xs)) ?loop2 ?rest2
      case loop2 =>
        refine' Wp.For ?_ ?hs
        case hs => (intro _; rfl)

        repeat tb_rel
        refine ⟨fun j vs' cv' nw' => ∃ (e : Led) (its : List Value) (k : Nat) (t : Tok) (v2 : Option Value), vs' = [some (.ref bl0), some (.ref ml), some (.ref x), some (.ref lm), v2, none, none] ∧ cv' = [] ∧ nw' = e ++ (dx, dictOf (bufEs hb tb hl tl l (.int (8 * ((ms.take i).flatten ++ xs.take j).length : Nat) t)) n) :: (l, lo its k) :: (x, instObj 297 dx) :: nw ∧ IntsAre its ((ms.take i).flatten ++ xs.take j),
          _, _, _, _, iterList (its := li) (k := lk) hh (.mem (by one_item)), ⟨e, its, k, t, _, rfl, rfl, (by simp), by simpa using hI⟩, ?_, ?_, ?_⟩
        · rintro j vs' cv' nw' ⟨e, its, k, t, v2, rfl, rfl, rfl, _⟩
          exact .mem (by one_item)
        · rintro j v x' vs' cv' nw' hj ⟨rfl, hv2⟩ ⟨e, its, k, t, v2, rfl, rfl, rfl, hI2⟩
          obtain ⟨to, rfl, hjx⟩ := ints_at hxs hv2
          have hby := hoct xs (List.mem_of_getElem? hxj) (xs.getD j 0) (by rw [List.getD_eq_getElem?_getD, List.getElem?_eq_getElem hjx]; exact List.getElem_mem _)
          repeat tb_rel
          refine' Wp.methInst (by assumption) (.mem (by one_item)) (.mem (by one_item)) ?g1 ?g2 ?g3 (by rfl) ?_
          case g1 => k_is
          case g2 => k_is
          case g3 => k_is
          repeat tb_rel
          refine put_ok (e := e) (rest := (x, instObj 297 dx) :: nw) B' (r1 _ |>.le (by omega)) (.head _) hI2 rfl hby.1 hby.2 (by rw [List.length_append, List.length_take]; omega) ?_
          intro e2 its2 k2 t2 hI3
          refine ⟨(fun _ c => nomatch c), ?_⟩
          repeat tb_rel
          have etk : xs.take (j + 1) = xs.take j ++ [xs.getD j 0] := take_snoc (by rw [List.getD_eq_getElem?_getD, List.getElem?_eq_getElem hjx]; rfl)
          refine ⟨e2, its2, k2, t2, _, rfl, rfl, ?_, ?_⟩
          · rw [etk, ← List.append_assoc]; simp only [List.length_append, List.length_cons, List.length_nil]
          · rw [etk, ← List.append_assoc]; exact hI3
        · rintro vs' cv' nw' ⟨e, its, k, t, v2, rfl, rfl, rfl, hI2⟩
          have ex_ : xs.take li.length = xs := List.take_of_length_le (by have := hxs.length; omega)
          rw [ex_] at hI2 ⊢
          exact ⟨rfl, e, its, k, t, v2, rfl, rfl, rfl, hI2⟩
      case rest2 =>
        rintro fl vs' cv' nw' ⟨rfl, e, its, k, t, v2, rfl, rfl, rfl, hI2⟩
        repeat tb_rel
        exact ⟨e, its, k, t, _, _, rfl, rfl, by rw [hfl], by rw [hfl]; exact hI2⟩
    · rintro vs' cv' nw' ⟨e, its, k, t, v1, v2, rfl, rfl, rfl, hI⟩
      rw [List.take_of_length_le (by have := hM.length; omega)] at hI ⊢
      exact ⟨rfl, e, its, k, t, v1, v2, rfl, rfl, rfl, hI⟩
  case rest1 =>
    rintro fl vs' cv' nw' ⟨rfl, e, its, k, t, v1, v2, rfl, rfl, rfl, hI⟩
    repeat tb_rel
    refine' Wp.getOwn (by assumption) (.mem (by one_item)) (.mem (by one_item)) ?g1 ?g2 ?g3 ?g4 (by rfl) (by rfl) ?_
    case g1 => k_is
    case g2 => k_is
    case g3 => k_is
    case g4 => k_is
    repeat tb_rel
    refine Wp.listL (.mem (by one_item)) (by rw [hI.length]; omega) ?_
    intro lb2 cb
    repeat tb_rel
    refine' Wp.compE ?_ ?hce
    case hce => rfl
    refine' Wp.comp (ns := ["data", "checks"]) ?hclos ?hcell ?hkind ?hnames ?hlen ?hnd ?_ ?hfs
    case hclos => exact rfl
    case hcell => exact rfl
    case hkind => exact rfl
    case hnames => decide
    case hlen => exact .inl rfl
    case hnd => decide
    case hfs => (intro _; rfl)

    repeat tb_rel
    refine ⟨fun i ys cv' nw'' => cv' = [] ∧ (∃ e3, nw'' = e3 ++ (dx, dictOf (bufEs hb tb hl tl l (.int (8 * ms.flatten.length : Nat) t)) n) :: (l, lo its k) :: (x, instObj 297 dx) :: nw ∧ (lb2, lo its cb) ∈ e3) ∧ RsAt nw'' ys (bl.take i),
      _, _, _, _, ?_, iterList (its := bits) (k := kb) hh (.mem (by one_item)), ⟨rfl, ⟨(lb2, _) :: e, rfl, .head _⟩, trivial⟩, ?_, ?_, ?_⟩
    · have := hB.length; omega
    · rintro i ys cv' nw'' f' ⟨_, ⟨e3, rfl, _⟩, _⟩ _
      exact .mem (by one_item)
    · rintro g2 C hg2 i v x' ys vs' cv' nw'' hi' ⟨rfl, hv⟩ ⟨rfl, ⟨e3, rfl, he3⟩, hR⟩ hvl
      obtain ⟨T, t3, u3, d, ec, rfl, hT, hbi⟩ := hB.get hv
      obtain ⟨q1, q2, rfl⟩ := vs2 hvl
      have B2 := B'.keeps hg2
      repeat tb_rel
      refine Wp.pure ?_
      refine ifT rfl ?_
      repeat tb_rel
      refine rs_new B2 (r1 _ |>.le (by omega)) ?_
      rintro xr _ ⟨e9, rfl⟩ R9
      refine ⟨rfl, rfl, ⟨e9 ++ e3, by rw [List.append_assoc]; rfl, List.mem_append_right _ he3⟩, ?_⟩
      rw [take_snoc hbi]
      rw [show (d : Int) + ec = ((d + ec : Nat) : Int) by omega] at R9
      exact RsAt.snoc R9 (hR.mono fun p hp => List.mem_append_right _ hp)
    · rintro lr kr2 ys cv' nw'' ⟨rfl, ⟨e3, rfl, he3⟩, hR⟩
      rw [List.take_of_length_le (by have := hB.length; omega)] at hR
      repeat tb_rel
      refine create_ok (oct := ms.flatten) (bl := bl) (rits := ys) (kr := kr2) B' (r1 _ |>.le (by omega)) ⟨dx, hb, tb, hl, tl, l, _, n, its, k, by one_item, by one_item, by one_item, hI⟩ (.head _) (hR.mono fun p hp => .tail _ hp) (fun a q => by obtain ⟨m, h1, h2⟩ := List.mem_flatten.mp q; exact hoct m h1 a h2) hE hsum (by omega) hnz hbl2 ?_
      rintro lw _ itw kw ⟨e11, rfl⟩ hlw hIw
      repeat tb_rel
      refine' Wp.getOwn (by assumption) (.mem (by one_item)) (.mem (by one_item)) ?g1 ?g2 ?g3 ?g4 (by rfl) (by rfl) ?_
      case g1 => k_is
      case g2 => k_is
      case g3 => k_is
      case g4 => k_is
      repeat tb_rel
      refine Wp.eqL ((r1 _).uns) (.mem (by one_item)) (.mem (by one_item)) hI hI ?_
      refine exB (ifT (by simp) ?_)
      repeat tb_rel
      refine' Wp.lenInst B' (.mem (by one_item)) (.mem (by one_item)) ?hh1 ?hh2 ?_
      case hh1 => k_is
      case hh2 => k_is
      refine' Wp.callDef (xs := ["self"]) (rest := []) (by assumption) (Rm.lim (Rm.in1 (r1 _))) ?k1 ?k2 ?k3 ?k4 ?k5 ?k6 ?k7 ?_ ?c1 ?c2 ?c3
      case k1 => k_is
      case k2 => k_is
      case k3 => exact rfl
      case k4 => exact rfl
      case k5 => decide
      case k6 => exact rfl
      case k7 => exact rfl
      case c1 => exact rfl
      case c2 => exact rfl
      case c3 => exact rfl
      intro g9 L9 hg9 B9
      simp only [List.cons_append, List.nil_append, List.map_cons, List.map_nil]

      repeat tb_rel
      refine' Wp.getOwn (by assumption) (.mem (by one_item)) (.mem (by one_item)) ?g1 ?g2 ?g3 ?g4 (by rfl) (by rfl) ?_
      case g1 => k_is
      case g2 => k_is
      case g3 => k_is
      case g4 => k_is
      repeat tb_rel
      refine ⟨_, _, rfl, by omega, by omega, ?_⟩
      intro t9
      repeat tb_rel
      refine Wp.len (.mem (by one_item)) (by rw [hI.length]; omega) ?_
      intro t10
      repeat tb_rel
      refine Wp.mul ?_ ?_
      · exact IntMulOk.of_left (by decide)
      intro t11
      repeat tb_rel
      refine ifT ?_ ?_
      · rw [hI.length]; simp
      repeat tb_rel
      refine ifT rfl ?_
      repeat tb_rel
      exact h lw _ itw kw (by units_room) (by one_item) hIw
end
section
open PySem PySem.W PySem.Calls PySem.Spec PyProof.Rows
variable {X : Fx} {f : Fm} {A : Around} {vs cv : Vals} {nw : Led} {p : Program} {loose : List Str} {mg mb : Str → Option Value}

theorem len_gt {α : Type} {l : List α} {n : Nat} {x : α} (h : l[n]? = some x) : n < l.length := by
  rcases Nat.lt_or_ge n l.length with c | c
  · exact c
  · rw [List.getElem?_eq_none c] at h; exact absurd h (by simp)
protected theorem Wp.compE' {env : Env} {elt : Expr} {gens : List Comprehension} {scope : Scope} {cpos : Pos} {Q : Value → Vals → Vals → Led → Prop}
    (h : Wp X f A (comprehension (.ListComp elt gens scope cpos) scope env (firstIterPos gens cpos) (PySem.newList []) (firstAsync gens) (firstIter gens env) none) vs cv nw Q)
    (he : eval (.ListComp elt gens scope cpos) env = comprehension (.ListComp elt gens scope cpos) scope env (firstIterPos gens cpos) (PySem.newList []) (firstAsync gens) (firstIter gens env) none := by rfl) :
    Wp X f A (eval (.ListComp elt gens scope cpos) env) vs cv nw Q := by rw [he]; exact h
def outs (ds es : List (List Int)) : Nat → List (List Int)
  | 0 => List.replicate ds.length []
  | 1 => ds
  | _ => List.zipWith (· ++ ·) ds es
def plc (ds es : List (List Int)) : Nat → Nat
  | 0 => 0
  | 1 => (laid (maxOf (ds.map (·.length))) ds).length
  | _ => (laid (maxOf (ds.map (·.length))) ds).length + (laid (maxOf (es.map (·.length))) es).length
theorem zip_nils {ds : List (List Int)} : List.zipWith (· ++ ·) (List.replicate ds.length []) ds = ds := by
  induction ds with
  | nil => rfl
  | cons d ds ih => rw [List.length_cons, List.replicate_succ, List.zipWith_cons_cons, ih]; rfl
theorem part_ok {bl : List (Nat × Nat)} {ds es : List (List Int)} {i : Nat} (hi : i < 2) (hd : ds.map (·.length) = bl.map (·.1)) (he : es.map (·.length) = bl.map (·.2)) :
    ∃ ls : List (List Int), ls.length = bl.length ∧ (∀ (n d e : Nat) (t u : Tok), bl[n]? = some (d, e) → ∃ (l : List Int) (t' : Tok), ls[n]? = some l ∧ [Value.int (d : Nat) t, .int (e : Nat) u][i]? = some (.int (l.length : Nat) t')) ∧ outs ds es (i + 1) = List.zipWith (· ++ ·) (outs ds es i) ls ∧
      plc ds es (i + 1) = plc ds es i + (laid (maxOf (ls.map (·.length))) ls).length ∧ (outs ds es i).length = ls.length ∧ (ls = ds ∨ ls = es) ∧
      (∀ (j : Nat) (x : Int), (laid (maxOf (ls.map (·.length))) ls)[j]? = some x → (laid (maxOf (bl.map (·.1))) ds ++ laid (maxOf (bl.map (·.2))) es)[plc ds es i + j]? = some x) := by
  have l1 : ds.length = bl.length := by simpa using congrArg List.length hd
  have l2 : es.length = bl.length := by simpa using congrArg List.length he
  match i with
  | 0 =>
    refine ⟨ds, l1, fun n d e t u h => ?_, zip_nils.symm, by simp [plc], by simp [outs], .inl rfl, fun j x h => ?_⟩
    · have hn := len_gt h
      have : (ds.map (·.length))[n]? = some d := by rw [hd, List.getElem?_map, h]; rfl
      rw [List.getElem?_map, List.getElem?_eq_getElem (by omega)] at this
      exact ⟨ds[n], t, List.getElem?_eq_getElem (by omega), by have := Option.some.inj this; simp only [List.getElem?_cons_zero]; rw [← this]⟩
    · rw [← hd, plc, Nat.zero_add, List.getElem?_append_left (len_gt h)]; exact h
  | 1 =>
    refine ⟨es, l2, fun n d e t u h => ?_, rfl, by simp [plc], by simp [outs]; omega, .inr rfl, fun j x h => ?_⟩
    · have hn := len_gt h
      have : (es.map (·.length))[n]? = some e := by rw [he, List.getElem?_map, h]; rfl
      rw [List.getElem?_map, List.getElem?_eq_getElem (by omega)] at this
      exact ⟨es[n], u, List.getElem?_eq_getElem (by omega), by have := Option.some.inj this; simp only [List.getElem?_cons_succ, List.getElem?_cons_zero]; rw [← this]⟩
    · rw [← hd, ← he, plc, List.getElem?_append_right (by omega)]
      rw [show (laid (maxOf (ds.map (·.length))) ds).length + j - (laid (maxOf (ds.map (·.length))) ds).length = j by omega]
      exact h
  | i + 2 => omega
set_option maxHeartbeats 2000000 in
theorem apart_ok {bl0 wl : Addr} {bits ws : List Value} {kb kw : Nat} {bl : List (Nat × Nat)} {ds es : List (List Int)} {W : List Int} {Q : Value → Vals → Vals → Led → Prop} (B : Bs (Mine.hd.heap_39 X.w.params) p loose mg mb f.g) (r : Rm A 20)
    (hbl : (bl0, lo bits kb) ∈ nw) (hwl : (wl, lo ws kw) ∈ nw) (hB : TupIn nw bits bl) (hW : IntsAre ws W) (hd : ds.map (·.length) = bl.map (·.1)) (he : es.map (·.length) = bl.map (·.2)) (hne : bl ≠ []) (hbl2 : bl.length ≤ 100) (hsm : ∀ p ∈ bl, p.1 ≤ 100 ∧ p.2 ≤ 100)
    (hWe : W = laid (maxOf (bl.map (·.1))) ds ++ laid (maxOf (bl.map (·.2))) es) (hz : W.length ≤ 2 ^ 12)
    (h : ∀ l nw' its k, Sfx nw nw' → (l, lo its k) ∈ nw' → NestIn nw' its (List.zipWith (· ++ ·) ds es) → Q (.ref l) vs cv nw') : Wp X f A (call (.ref 316) [.ref bl0, .ref wl]) vs cv nw Q := by
  refine' Wp.callDefC (xs := ["blocks", "words"]) (args := [.ref bl0, .ref wl]) (lx := ["blocks", "words"]) (la := [.ref bl0, .ref wl]) (rest := ["out", "place", "k", "n"]) (cv₀ := [none]) (by assumption) (Rm.lim (by assumption)) ?k1 ?k2 ?k3 ?k4 ?k5 ?k6 ?k7 ?k8 ?k9 ?_ ?c1 ?c2 ?c3
  case k1 => k_is
  case k2 => k_is
  case k3 => exact rfl
  case k4 => exact rfl
  case k5 => exact rfl
  case k6 => decide
  case k7 => exact rfl
  case k8 => exact rfl
  case k9 => decide
  case c1 => exact rfl
  case c2 => exact rfl
  case c3 => exact rfl
  intro g' L' cs' hg' B' hcs
  simp only [List.cons_append, List.nil_append, List.map_cons, List.map_nil]

  have hcs : cs'.map (·.1) = [L' + 1] := hcs
  obtain ⟨os_, rfl, ho⟩ := csAll hcs
  obtain ⟨o1, rfl⟩ := os1 ho
  clear ho hcs
  simp only [List.zip_cons_cons, List.zip_nil_left]
  have r1 := fun e => r.deeper (e := e)
  have hh := r.hh
  have hbits := hB.length
  have l1 : ds.length = bl.length := by simpa using congrArg List.length hd
  have l2 : es.length = bl.length := by simpa using congrArg List.length he
  have hds : ∀ l ∈ ds, l.length ≤ 100 := fun l hl => by
    have : l.length ∈ ds.map (·.length) := List.mem_map.mpr ⟨l, hl, rfl⟩
    rw [hd] at this
    obtain ⟨p, hp, e⟩ := List.mem_map.mp this
    have := (hsm p hp).1
    omega
  have hes : ∀ l ∈ es, l.length ≤ 100 := fun l hl => by
    have : l.length ∈ es.map (·.length) := List.mem_map.mpr ⟨l, hl, rfl⟩
    rw [he] at this
    obtain ⟨p, hp, e⟩ := List.mem_map.mp this
    have := (hsm p hp).2
    omega
  have hblp : 0 < bl.length := List.length_pos_iff.mpr hne
  repeat tb_rel
  refine' Wp.comp (ns := ["block"]) ?hclos ?hcell ?hkind ?hnames ?hlen ?hnd ?_ ?hfs
  case hclos => exact rfl
  case hcell => exact rfl
  case hkind => exact rfl
  case hnames => decide
  case hlen => exact .inl rfl
  case hnd => decide
  case hfs => (intro _; rfl)

  repeat tb_rel
  refine ⟨fun i ys cv' nw'' => cv' = [none] ∧ ∃ (e : Led) (q : Inn), nw'' = innL q ++ nw ∧ ys = (innV q).reverse ∧ q.length = i ∧ ∀ x ∈ q, x.2.1 = [],
    _, _, _, _, ?_, iterList (its := bits) (k := kb) hh (.mem (by one_item)), ⟨rfl, [], [], rfl, rfl, rfl, fun _ h => by cases h⟩, ?_, ?_, ?_⟩
  · omega
  · rintro i ys cv' nw'' f' ⟨_, e, q, rfl, _⟩ _
    exact .mem (by one_item)
  · rintro g2 C hg2 i v x' ys vs' cv' nw'' hi' ⟨rfl, hv⟩ ⟨rfl, e, q, rfl, rfl, rfl, hq⟩ hvl
    obtain ⟨q1, rfl⟩ := vs1 hvl
    have B2 := B'.keeps hg2
    repeat tb_rel
    refine Wp.pure ?_
    refine ifT rfl ?_
    repeat tb_rel
    rename_i l9
    refine ⟨rfl, rfl, e, (l9, [], 0) :: q, rfl, ?_, rfl, ?_⟩
    · simp [innV]
    · intro x hx
      rcases List.mem_cons.mp hx with rfl | hx
      · rfl
      · exact hq x hx
  rintro lr kr ys cv' nw'' ⟨rfl, e, q0, rfl, rfl, hq0, hqn⟩
  refine Wp.perm (nw' := [] ++ (innL q0.reverse ++ (lr, lo (innV q0.reverse) kr) :: nw)) ?_ ?_
  · rw [List.nil_append, innV_rev]
    exact (List.perm_middle.trans ((List.Perm.append_right _ (innL_rev q0)).cons _))
  generalize hos : innV q0.reverse = os
  have hosl : os.length = bl.length := by rw [← hos, innV_len, List.length_reverse]; omega
  repeat tb_rel
  refine Wp.mono (Q := fun fl vs' cv' nw' => fl = .next ∧ ∃ (e : Led) (q : Inn) (t : Tok) (v1 v2 c : Option Value), vs' = [some (.ref bl0), some (.ref wl), some (.ref lr), some (.int (plc ds es 2 : Nat) t), v1, v2] ∧ cv' = [c] ∧ nw' = e ++ (innL q ++ (lr, lo os kr) :: nw) ∧ innV q = os ∧ InnAre q (outs ds es 2)) ?loop1 ?rest1
  case loop1 =>
    refine' Wp.For ?_ ?hs
    case hs => (intro _; rfl)

    repeat tb_rel
    rename_i t1 t2 lt
    refine ⟨fun i vs' cv' nw' => ∃ (e : Led) (q : Inn) (t : Tok) (v1 v2 c : Option Value), vs' = [some (.ref bl0), some (.ref wl), some (.ref lr), some (.int (plc ds es i : Nat) t), v1, v2] ∧ cv' = [c] ∧ nw' = e ++ (innL q ++ (lr, lo os kr) :: nw) ∧ innV q = os ∧ InnAre q (outs ds es i) ∧ (lt, tu [.int 0 t1, .int 1 t2]) ∈ e,
      _, _, _, _, iterTuple hh (.mem (by one_item)), ⟨[(lt, _)], q0.reverse, _, _, _, _, rfl, rfl, rfl, hos, ?_, .head _⟩, ?_, ?_, ?_⟩
    · have := InnAre.nils q0.reverse (fun x hx => hqn x (List.mem_reverse.mp hx))
      rw [List.length_reverse] at this
      show InnAre _ (List.replicate ds.length [])
      rw [show ds.length = q0.length by omega]
      exact this
    · rintro i vs' cv' nw' ⟨e, q, t, v1, v2, c, rfl, rfl, rfl, _, _, hlt⟩
      exact .mem (by one_item)
    · rintro i v x' vs' cv' nw' hi' ⟨rfl, hv⟩ ⟨e, q, t, v1, v2, c, rfl, rfl, rfl, hqo, hq, hlt⟩
      have hi2 : i < 2 := hi'
      obtain ⟨tp, rfl⟩ : ∃ tp, v = .int i tp := by
        match i, hi2 with
        | 0, _ => exact ⟨t1, by simpa using hv.symm⟩
        | 1, _ => exact ⟨t2, by simpa using hv.symm⟩
      obtain ⟨ls, lsl, hls, hout, hplc, hol, hor, hWl⟩ := part_ok hi2 hd he
      rw [← hWe] at hWl
      have hls100 : ∀ l ∈ ls, l.length ≤ 100 := by rcases hor with rfl | rfl <;> assumption
      have hql := hq.length
      have hol100 : ∀ n, ((outs ds es i).getD n []).length ≤ 100 := fun n => by
        rw [List.getD_eq_getElem?_getD]
        cases c : (outs ds es i)[n]? with
        | none => simp
        | some l =>
          have hm := List.mem_of_getElem? c
          match i, hi2 with
          | 0, _ =>
            have := List.eq_of_mem_replicate hm
            subst this; simp
          | 1, _ => exact hds l hm
      generalize hM : maxOf (ls.map (·.length)) = M at *
      repeat tb_rel
      refine Wp.mono (Q := fun fl vs' cv' nw' => fl = .next ∧ ∃ (e : Led) (q : Inn) (t : Tok) (v1 v2 : Option Value), vs' = [some (.ref bl0), some (.ref wl), some (.ref lr), some (.int (plc ds es (i + 1) : Nat) t), v1, v2] ∧ cv' = [some (.int (i : Nat) tp)] ∧ nw' = e ++ (innL q ++ (lr, lo os kr) :: nw) ∧ innV q = os ∧ InnAre q (outs ds es (i + 1)) ∧ (lt, tu [.int 0 t1, .int 1 t2]) ∈ e) ?loop2 ?rest2
      case rest2 =>
        rintro fl vs' cv' nw' ⟨rfl, e, q, t, v1, v2, rfl, rfl, rfl, hqo, hq, hlt⟩
        repeat tb_rel
        exact ⟨e, q, t, v1, v2, _, rfl, rfl, rfl, hqo, hq, hlt⟩
      case loop2 =>
        simp only [List.nil_append]
        refine' Wp.For ?_ ?hs
        case hs => (intro _; rfl)

        repeat tb_rel
        refine' Wp.compE' ?_ ?hce
        case hce => rfl
        refine' Wp.comp (ns := ["block"]) ?hclos ?hcell ?hkind ?hnames ?hlen ?hnd ?_ ?hfs
        case hclos => exact rfl
        case hcell => exact rfl
        case hkind => exact rfl
        case hnames => decide
        case hlen => exact .inl rfl
        case hnd => decide
        case hfs => (intro _; rfl)

        repeat tb_rel
        refine ⟨fun j ys cv' nw'' => cv' = [some (.int (i : Nat) tp)] ∧ nw'' = e ++ (innL q ++ (lr, lo os kr) :: nw) ∧ IntsAre ys ((ls.take j).map fun l => (l.length : Int)),
          _, _, _, _, ?_, iterList (its := bits) (k := kb) hh (.mem (by one_item)), ⟨rfl, rfl, .nil⟩, ?_, ?_, ?_⟩
        · omega
        · rintro j ys cv' nw'' f' ⟨_, rfl, _⟩ _
          exact .mem (by one_item)
        · rintro g2 C hg2 j v x' ys vs' cv' nw'' hj ⟨rfl, hv⟩ ⟨rfl, rfl, hys⟩ hvl
          obtain ⟨T, t3, u3, d, ec, rfl, hT, hbi⟩ := hB.get hv
          obtain ⟨l, t4, hl, hpart⟩ := hls j d ec t3 u3 hbi
          obtain ⟨q1, rfl⟩ := vs1 hvl
          have B2 := B'.keeps hg2
          repeat tb_rel
          refine Wp.pure ?_
          refine ifT rfl ?_
          repeat tb_rel
          refine Wp.tailT (x := .int (l.length : Nat) t4) (.mem (by one_item)) (by omega) (by omega) (by simpa using hpart) ?_
          refine ⟨rfl, rfl, rfl, ?_⟩
          rw [take_snoc hl, List.map_append]
          exact hys.append (.cons _ _ .nil)
        rintro lm km ys cv' nw'' ⟨rfl, rfl, hys⟩
        rw [List.take_of_length_le (by omega)] at hys
        repeat tb_rel
        refine Wp.maxL hh (.mem (.head _)) hys (by simp; omega) ?_
        intro M' tM hM1 hM2
        have hMM : M' = (M : Nat) := by
          obtain ⟨l, hl, rfl⟩ := List.mem_map.mp hM1
          have : l.length = maxOf (ls.map (·.length)) := maxOf_mem (List.mem_map.mpr ⟨l, hl, rfl⟩) fun a ha => by
            obtain ⟨l2, hl2, rfl⟩ := List.mem_map.mp ha
            have := hM2 (l2.length : Int) (List.mem_map.mpr ⟨l2, hl2, rfl⟩)
            omega
          rw [this, hM]
        subst hMM
        have hM100 : M ≤ 100 := by
          rw [← hM]
          exact maxOf_le fun a ha => by obtain ⟨l2, hl2, rfl⟩ := List.mem_map.mp ha; exact hls100 _ hl2
        have hMall : ∀ l ∈ ls, l.length ≤ M := fun l hl => by rw [← hM]; exact maxOf_ge (List.mem_map.mpr ⟨l, hl, rfl⟩)
        repeat tb_rel
        refine Wp.range1 ?_
        intro rg1 u1 v1'
        refine ⟨fun k2 vs' cv' nw' => ∃ (e : Led) (q : Inn) (t : Tok) (v1 v2 : Option Value), vs' = [some (.ref bl0), some (.ref wl), some (.ref lr), some (.int (plc ds es i + ahead ls k2 0 : Nat) t), v1, v2] ∧ cv' = [some (.int (i : Nat) tp)] ∧ nw' = e ++ (innL q ++ (lr, lo os kr) :: nw) ∧ innV q = os ∧ InnAre q (mid (outs ds es i) ls k2 0) ∧ (lt, tu [.int 0 t1, .int 1 t2]) ∈ e,
          _, _, _, _, iterRange hh (.head _) (by omega) (by omega) (by omega) (by omega), ⟨(rg1, _) :: (lm, _) :: e, q, t, _, _, (by rw [ahead_zero]; rfl), rfl, rfl, hqo, (by rw [mid_zero hol]; exact hq), (by one_item)⟩, fun _ _ _ _ _ => trivial, ?_, ?_⟩
        · rintro k2 v x' vs' cv' nw' hk ⟨rfl, tk, rfl⟩ ⟨e, q, t, v1, v2, rfl, rfl, rfl, hqo, hq, hlt⟩
          have hk2 : k2 < M := by omega
          repeat tb_rel
          refine Wp.mono (Q := fun fl vs' cv' nw' => fl = .next ∧ ∃ (e : Led) (q : Inn) (t : Tok) (v2 : Option Value), vs' = [some (.ref bl0), some (.ref wl), some (.ref lr), some (.int (plc ds es i + ahead ls (k2 + 1) 0 : Nat) t), some (.int (0 + (k2 : Nat)) tk), v2] ∧ cv' = [some (.int (i : Nat) tp)] ∧ nw' = e ++ (innL q ++ (lr, lo os kr) :: nw) ∧ innV q = os ∧ InnAre q (mid (outs ds es i) ls (k2 + 1) 0) ∧ (lt, tu [.int 0 t1, .int 1 t2]) ∈ e) ?loop3 ?rest3
          case rest3 =>
            rintro fl vs' cv' nw' ⟨rfl, e, q, t, v2, rfl, rfl, rfl, hqo, hq, hlt⟩
            repeat tb_rel
            exact ⟨e, q, t, _, v2, rfl, rfl, rfl, hqo, hq, hlt⟩
          case loop3 =>
            simp only [List.nil_append]
            refine' Wp.For ?_ ?hs
            case hs => (intro _; rfl)

            repeat tb_rel
            refine Wp.len (.mem (by one_item)) (by omega) ?_
            intro t5
            rw [hbits]
            repeat tb_rel
            refine Wp.range1 ?_
            intro rg2 u2 v2'
            refine ⟨fun n2 vs' cv' nw' => ∃ (e : Led) (q : Inn) (t : Tok) (v2 : Option Value), vs' = [some (.ref bl0), some (.ref wl), some (.ref lr), some (.int (plc ds es i + ahead ls k2 n2 : Nat) t), some (.int (0 + (k2 : Nat)) tk), v2] ∧ cv' = [some (.int (i : Nat) tp)] ∧ nw' = e ++ (innL q ++ (lr, lo os kr) :: nw) ∧ innV q = os ∧ InnAre q (mid (outs ds es i) ls k2 n2) ∧ (lt, tu [.int 0 t1, .int 1 t2]) ∈ e,
              _, _, _, _, iterRange hh (.head _) (by omega) (by omega) (by omega) (by omega), ⟨(rg2, _) :: e, q, t, _, rfl, rfl, rfl, hqo, hq, (by one_item)⟩, fun _ _ _ _ _ => trivial, ?_, ?_⟩
            · rintro n2 v x' vs' cv' nw' hn ⟨rfl, tn, rfl⟩ ⟨e, q, t, v2, rfl, rfl, rfl, hqo, hq, hlt⟩
              have hn2 : n2 < bl.length := by omega
              have en : ((0 : Int) + (n2 : Nat)).toNat = n2 := by omega
              have hbv : bits[n2]? = some bits[n2] := List.getElem?_eq_getElem (by omega)
              obtain ⟨T, t3, u3, d, ec, hTv, hT, hbi⟩ := hB.get hbv
              rw [hTv] at hbv
              obtain ⟨l, t4, hl, hpart⟩ := hls n2 d ec t3 u3 hbi
              have hqm := hq.length
              rw [mid_len] at hqm
              obtain ⟨a, va, ka, xs, hqa, hxs, hva⟩ := hq.get (j := n2) (by omega)
              rw [mid_at hl] at hxs
              have hxs := Option.some.inj hxs
              have hal := innV_get hqa
              rw [hqo] at hal
              repeat tb_rel
              refine Wp.tailL (.mem (by one_item)) (Wp.getI (x := .ref T) (.mem (by one_item)) (by omega) (by omega) (by rw [en]; exact hbv) ?_)
              repeat tb_rel
              refine Wp.tailT (x := .int (l.length : Nat) t4) (.mem (by one_item)) (by omega) (by omega) (by simpa using hpart) ?_
              by_cases c : k2 < l.length
              · have hx := List.getElem?_eq_getElem c
                have hwx := hWl _ _ (by rw [← hM]; exact laid_at (by rw [hM]; exact hk2) hl hx)
                have hwl2 := len_gt hwx
                repeat tb_rel
                refine Wp.tailL (.mem (by one_item)) (Wp.getI (x := .ref a) (.mem (by one_item)) (by omega) (by omega) (by rw [en]; exact hal) ?_)
                repeat tb_rel
                refine Wp.mAppend (l := a) (its := va) (n := ka) (.mem (by have := inn_mem hqa; one_item)) ?_
                repeat tb_rel
                refine Wp.subI (.mem (by one_item)) hW (by omega) (by omega) (by omega) ?_
                intro t6
                repeat tb_rel
                have hval := hva.length
                have hxsl : xs.length ≤ 200 := by
                  rw [← hxs, List.length_append, List.length_take]
                  have := hol100 n2
                  omega
                refine Wp.append (.right (.right (.left (inn_up hqa)))) (by omega) ?_
                refine ⟨(fun _ c => nomatch c), ?_⟩
                repeat tb_rel
                rename_i tz
                have ew : W.getD ((plc ds es i + ahead ls k2 n2 : Nat) : Int).toNat 0 = l[k2] := by
                  rw [Int.toNat_natCast, List.getD_eq_getElem?_getD, hwx]; rfl
                refine ⟨e, _, tz, some (.int (0 + (n2 : Nat)) tn), ?_, rfl, rfl, (innV_set hqa).trans hqo, ?_, hlt⟩
                · rw [ahead_put hl c]; push_cast; rfl
                · rw [mid_put hl hx]
                  refine hq.set ?_
                  rw [hxs, ew]
                  exact hva.append (.cons _ _ .nil)
              · repeat tb_rel
                refine ⟨e, q, t, some (.int (0 + (n2 : Nat)) tn), ?_, rfl, rfl, hqo, ?_, hlt⟩
                · rw [ahead_skip hl (by omega)]
                · rw [mid_skip hl (by omega)]; exact hq
            · rintro vs' cv' nw' ⟨e, q, t, v2, rfl, rfl, rfl, hqo, hq, hlt⟩
              refine ⟨rfl, e, q, t, v2, ?_, rfl, rfl, hqo, ?_, hlt⟩
              · rw [ahead_round (by omega)]
              · rw [mid_round (by omega)] at hq; exact hq
        · rintro vs' cv' nw' ⟨e, q, t, v1, v2, rfl, rfl, rfl, hqo, hq, hlt⟩
          have em : ((M : Int) - 0).toNat = M := by omega
          refine ⟨rfl, e, q, t, v1, v2, ?_, rfl, rfl, hqo, ?_, hlt⟩
          · rw [hplc, laid_len_ahead]; simp
          · rw [hout, ← mid_all hol hMall]; simpa using hq
    · rintro vs' cv' nw' ⟨e, q, t, v1, v2, c, rfl, rfl, rfl, hqo, hq, _⟩
      exact ⟨rfl, e, q, t, v1, v2, c, rfl, rfl, rfl, hqo, hq⟩
  case rest1 =>
    rintro fl vs' cv' nw' ⟨rfl, e, q, t, v1, v2, c, rfl, rfl, rfl, hqo, hq⟩
    repeat tb_rel
    refine h lr _ os kr (by units_room) (by one_item) ?_
    rw [← hqo]
    exact hq.nest (fun p hp => by one_item)
end
section
open PySem PySem.W PySem.Calls PySem.Spec PyProof.Rows
variable {X : Fx} {f : Fm} {A : Around} {vs cv : Vals} {nw : Led} {p : Program} {loose : List Str} {mg mb : Str → Option Value}

theorem TupIn.snoc {nw : Led} {T : Addr} {d e : Nat} {t u : Tok} (h : (T, tu [.int d t, .int e u]) ∈ nw) : ∀ {its : List Value} {bl : List (Nat × Nat)}, TupIn nw its bl → TupIn nw (its ++ [.ref T]) (bl ++ [(d, e)])
  | [], [], _ => ⟨⟨T, t, u, rfl, h⟩, trivial⟩
  | _ :: _, (_, _) :: _, ⟨h1, r⟩ => ⟨h1, TupIn.snoc h r⟩
structure MsOk (ms : List (List Int)) (bl : List (Nat × Nat)) : Prop where
  fit : Fits ms bl
  oct : ∀ m ∈ ms, ∀ a ∈ m, Byte a
  nz : ∀ m ∈ ms, ∃ a ∈ m, a ≠ 0
  rng : ∀ p ∈ bl, 1 ≤ p.1 ∧ p.1 ≤ 4 ∧ 1 ≤ p.2 ∧ p.2 ≤ 3
theorem MsOk.snoc {ms : List (List Int)} {bl : List (Nat × Nat)} {m : List Int} {e : Nat} (h : MsOk ms bl) (h1 : ∀ a ∈ m, Byte a) (h2 : ∃ a ∈ m, a ≠ 0) (h3 : 1 ≤ m.length ∧ m.length ≤ 4) (h4 : 1 ≤ e ∧ e ≤ 3) : MsOk (ms ++ [m]) (bl ++ [(m.length, e)]) := by
  refine ⟨Fits.snoc rfl h.fit, fun x hx => ?_, fun x hx => ?_, fun p hp => ?_⟩
  · rcases List.mem_append.mp hx with hx | hx
    · exact h.oct x hx
    · rw [List.mem_singleton.mp hx]; exact h1
  · rcases List.mem_append.mp hx with hx | hx
    · exact h.nz x hx
    · rw [List.mem_singleton.mp hx]; exact h2
  · rcases List.mem_append.mp hp with hp | hp
    · exact h.rng p hp
    · rw [List.mem_singleton.mp hp]; exact ⟨h3.1, h3.2, h4.1, h4.2⟩
theorem MsOk.sum4 {ms : List (List Int)} {bl : List (Nat × Nat)} (h : MsOk ms bl) : (bl.map (·.1)).sum ≤ 4 * bl.length := by
  have hr := h.rng
  clear h
  induction bl with
  | nil => simp
  | cons b bl ih =>
    have := (hr b (.head _)).2.1
    have := ih fun p hp => hr p (.tail _ hp)
    simp only [List.map_cons, List.sum_cons, List.length_cons]
    omega
theorem MsOk.sum7 {ms : List (List Int)} {bl : List (Nat × Nat)} (h : MsOk ms bl) : (bl.map fun b => b.1 + b.2).sum ≤ 7 * bl.length := by
  have hr := h.rng
  clear h
  induction bl with
  | nil => simp
  | cons b bl ih =>
    have := hr b (.head _)
    have := ih fun p hp => hr p (.tail _ hp)
    simp only [List.map_cons, List.sum_cons, List.length_cons]
    omega
theorem MsOk.rev {ms : List (List Int)} {bl : List (Nat × Nat)} (h : MsOk ms bl) : MsOk ms.reverse bl.reverse :=
  ⟨h.fit.rev, fun m hm => h.oct m (List.mem_reverse.mp hm), fun m hm => h.nz m (List.mem_reverse.mp hm), fun p hp => h.rng p (List.mem_reverse.mp hp)⟩
theorem MsOk.one {ms : List (List Int)} {bl : List (Nat × Nat)} (h : MsOk ms bl) {n : Nat} {m : List Int} {e : Nat} (h1 : ms[n]? = some m) (h2 : bl[n]? = some (m.length, e)) : MsOk [m] [(m.length, e)] := by
  refine ⟨⟨rfl, trivial⟩, fun x hx => ?_, fun x hx => ?_, fun p hp => ?_⟩
  · rw [List.mem_singleton.mp hx]; exact h.oct m (List.mem_of_getElem? h1)
  · rw [List.mem_singleton.mp hx]; exact h.nz m (List.mem_of_getElem? h1)
  · rw [List.mem_singleton.mp hp]; exact h.rng _ (List.mem_of_getElem? h2)
theorem TupIn.rev {nw : Led} {its : List Value} {bl : List (Nat × Nat)} (h : TupIn nw its bl) : TupIn nw its.reverse bl.reverse := by
  induction its generalizing bl with
  | nil => cases bl with
    | nil => exact h
    | cons _ _ => exact h.elim
  | cons v r ih => cases bl with
    | nil => exact h.elim
    | cons b br =>
      obtain ⟨d, e⟩ := b
      obtain ⟨⟨T, t, u, rfl, h2⟩, hr⟩ := h
      rw [List.reverse_cons, List.reverse_cons]
      exact TupIn.snoc h2 (ih hr)
theorem sum_cast {l : List (Nat × Nat)} : (l.map fun b => ((b.1 : Int) + (b.2 : Int))).sum = ((l.map fun b => b.1 + b.2).sum : Nat) := by
  induction l with
  | nil => rfl
  | cons b l ih => simp only [List.map_cons, List.sum_cons, ih]; push_cast; rfl
theorem told_ms {bl0 ml : Addr} {bits mits : List Value} {kb km : Nat} {bl : List (Nat × Nat)} {ms : List (List Int)} {Q : Value → Vals → Vals → Led → Prop} (B : Bs (Mine.hd.heap_39 X.w.params) p loose mg mb f.g) (r : Rm A 210)
    (hbl : (bl0, lo bits kb) ∈ nw) (hml : (ml, lo mits km) ∈ nw) (hB : TupIn nw bits bl) (hM : NestIn nw mits ms) (hK : MsOk ms bl) (h4 : bl.length ≤ 4)
    (h : ∀ l nw' its k, Sfx nw nw' → (l, lo its k) ∈ nw' → IntsAre its (told ms.flatten bl) → Q (.ref l) vs cv nw') : Wp X f A (call (.ref 311) [.ref bl0, .ref ml]) vs cv nw Q := by
  have hs := hK.fit.sum
  have h16 := hK.sum4
  refine told_ok B r hbl hml hB hM hK.oct (fun q hq => ?_) (Nat.le_of_eq hs) (by omega) ?_ (by omega) h
  · obtain ⟨a, b, c, d⟩ := hK.rng q hq
    exact ⟨a, by omega, c, by omega⟩
  · have e1 : dcs ms.flatten 0 bl = ms := by simpa using dcs_fit (pre := []) hK.fit
    rw [e1]; exact hK.nz
theorem apart_ms {bl0 wl : Addr} {bits ws : List Value} {kb kw : Nat} {bl : List (Nat × Nat)} {ms : List (List Int)} {Q : Value → Vals → Vals → Led → Prop} (B : Bs (Mine.hd.heap_39 X.w.params) p loose mg mb f.g) (r : Rm A 20)
    (hbl : (bl0, lo bits kb) ∈ nw) (hwl : (wl, lo ws kw) ∈ nw) (hB : TupIn nw bits bl) (hK : MsOk ms bl) (hne : bl ≠ []) (h4 : bl.length ≤ 4) (hW : IntsAre ws (told ms.flatten bl))
    (h : ∀ l nw' its k, Sfx nw nw' → (l, lo its k) ∈ nw' → NestIn nw' its (alones ms bl) → Q (.ref l) vs cv nw') : Wp X f A (call (.ref 316) [.ref bl0, .ref wl]) vs cv nw Q := by
  have e1 : dcs ms.flatten 0 bl = ms := by simpa using dcs_fit (pre := []) hK.fit
  have e2 : List.zipWith (· ++ ·) ms (ecs ms.flatten 0 bl) = alones ms bl := by simpa using ecs_fit (pre := []) hK.fit
  have hlen := told_len hK.fit
  have h28 := hK.sum7
  refine apart_ok (ds := ms) (es := ecs ms.flatten 0 bl) B r hbl hwl hB hW hK.fit.lens ecs_lens hne (by omega) (fun q hq => ?_) ?_ (by omega) (by rw [e2]; exact h)
  · obtain ⟨a, b, c, d⟩ := hK.rng q hq
    exact ⟨by omega, by omega⟩
  · unfold told; rw [e1]
theorem sum_nz : ∀ {l : List Int}, l.sum ≠ 0 → ∃ a ∈ l, a ≠ 0
  | [], h => absurd rfl h
  | x :: r, h => by
    by_cases c : x = 0
    · subst c
      obtain ⟨a, h1, h2⟩ := sum_nz (l := r) (by simpa using h)
      exact ⟨a, .tail _ h1, h2⟩
    · exact ⟨x, .head _, c⟩
theorem sl2 {its : List Value} {ns : List Int} {t u : Tok} (hI : IntsAre its ns) : ∃ a b ta tb, pick (pick its none (some 2) none ++ [.int 0 t, .int 0 u]) none (some 2) none = [.int a ta, .int b tb] := by
  rw [show (some 2 : Option Int) = some ((2 : Nat) : Int) from rfl, pick_upto, pick_upto]
  match its, ns, hI with
  | _, _, .nil => exact ⟨_, _, _, _, rfl⟩
  | _, _, .cons _ _ .nil => exact ⟨_, _, _, _, rfl⟩
  | _, _, .cons _ _ (.cons _ _ _) => exact ⟨_, _, _, _, rfl⟩
set_option maxHeartbeats 4000000 in
theorem law_ok {sl L fa : Addr} {g : Heap} {o1 o2 o3 o4 o5 : Obj} {cd : Value} {its : List Value} {ns : List Int} {name qual : Str} {params : Arguments} {body : List Stmt} {scope : Scope} {dV kV doc pm cdv ct oc : Value} {an od : Option Addr} {osl : Array (Option Value)}
    (ho : ((Mine.hd.heap_39 X.w.params)).lookup 321 = some ⟨oc, od, .func (fnOf name qual params body scope dV kV doc pm an cdv ct), osl⟩)
    (B : Bs (Mine.hd.heap_39 X.w.params) p loose mg mb g) (r : Rm A 260) (hs : g.IsList sl its.toArray) (hI : IntsAre its ns) (hlen : ns.length ≤ 63) :
    Wp X ⟨g, L, ["script","a","n","message","words","turned"], [(L + 1 + 1 + 1 + 1 + 1, o5), (L + 1 + 1 + 1 + 1, o4), (L + 1 + 1 + 1, o3), (L + 1 + 1, o2), (L + 1, o1)]⟩ A (execs body (envOfC "law" scope L fa cd)) [some (.ref sl), none, none, none, none, none] [none, none, none, none, none] [] (fun fl _ _ _ => fl = .ret (.bool true)) := by
  refine' lookup_inv (P := fun body scope => Wp X ⟨g, L, ["script","a","n","message","words","turned"], [(L + 1 + 1 + 1 + 1 + 1, o5), (L + 1 + 1 + 1 + 1, o4), (L + 1 + 1 + 1, o3), (L + 1 + 1, o2), (L + 1, o1)]⟩ A (execs body (envOfC "law" scope L fa cd)) [some (.ref sl), none, none, none, none, none] [none, none, none, none, none] [] (fun fl _ _ _ => fl = .ret (.bool true))) ho ?h2 ?_
  case h2 => k_is
  clear ho
  have hh := r.hh
  have hl := hI.length
  have hO : ∀ ns cs, Old ⟨g, L, ns, cs⟩ sl its := fun _ _ => hs
  repeat tb_rel
  refine' Wp.AssignTup ?_ ?ha ?hb
  case ha => rfl
  case hb => rfl
  repeat tb_rel
  intro rs1
  refine' Wp.tailSlO (ops := ?ops9) (its := its) (hO _ _) (.mem (.head _)) .none (.int _ _) .none (by simp) (by omega) ?_ ?hsl
  case hsl => rfl
  intro la
  repeat tb_rel
  rename_i tz1 tz2 lz
  refine Wp.concat (.mem (by one_item)) (.mem (by one_item)) (by have := pick_length_le its none (some 2) none; simp; omega) ?_
  intro lb
  repeat tb_rel
  intro rs2
  refine' Wp.tailSl (ops := ?ops8) (.mem (.tail _ (.head _))) (.mem (.head _)) .none (.int _ _) .none (by simp) (by have := pick_length_le its none (some 2) none; simp; omega) ?_ ?hsl
  case hsl => rfl
  intro lc
  obtain ⟨a, b, ta, tb, e2⟩ := sl2 (t := tz1) (u := tz2) hI
  rw [e2]
  refine' Wp.assignTupleL hh (.mem (.head _)) ?i1 ?i2 ?_
  case i1 => rfl
  case i2 => rfl
  refine Wp.inCons ?_
  repeat tb_rel
  refine Wp.inCons ?_
  repeat tb_rel
  refine Wp.inNil ?_
  refine' Wp.cons ?_
  refine' Wp.AssignTup ?_ ?ha2 ?hb2
  case ha2 => rfl
  case hb2 => rfl
  repeat tb_rel
  rename_i lB lM lT
  refine Wp.sub (nw' := [(lM, lo [] 0), (lB, lo [] 0)]) (fun p hp => .tail _ (by
    rcases List.mem_cons.mp hp with rfl | hp
    · exact .head _
    · rw [List.mem_singleton.mp hp]; exact .tail _ (.head _))) (fun h => by
    rw [List.map_cons, List.map_cons, List.map_cons] at h
    exact List.Nodup.sublist (List.Sublist.cons₂ _ (List.Sublist.cons₂ _ (List.nil_sublist _))) (List.nodup_cons.mp h).2) ?_
  refine Wp.mono (Q := fun fl vs' cv' nw' => fl = .next ∧ ∃ (e : Led) (mits bits : List Value) (km kb : Nat) (v1 v2 x : Option Value) (ms : List (List Int)) (bl : List (Nat × Nat)), vs' = [some (.ref sl), some (.int a ta), v1, v2, none, none] ∧ cv' = [none, x, some (.ref lM), some (.ref lB), some (.int b tb)] ∧ nw' = e ++ [(lM, lo mits km), (lB, lo bits kb)] ∧ TupIn e bits bl ∧ NestIn e mits ms ∧ MsOk ms bl ∧ bl.length = (2 + a.fmod 3).toNat) ?loop1 ?rest1
  case loop1 =>
    refine' Wp.For ?_ ?hs
    case hs => (intro _; rfl)

    repeat tb_rel
    refine Wp.fmod (by decide) ?_
    intro t1
    repeat tb_rel
    refine Wp.range1 ?_
    intro rg u1 u2
    have ha0 : 0 ≤ a.fmod 3 := Int.fmod_nonneg_of_pos _ (by decide)
    have ha3 : a.fmod 3 < 3 := Int.fmod_lt_of_pos _ (by decide)
    refine ⟨fun i vs' cv' nw' => ∃ (e : Led) (mits bits : List Value) (km kb : Nat) (v1 v2 x : Option Value) (ms : List (List Int)) (bl : List (Nat × Nat)), vs' = [some (.ref sl), some (.int a ta), v1, v2, none, none] ∧ cv' = [none, x, some (.ref lM), some (.ref lB), some (.int b tb)] ∧ nw' = e ++ [(lM, lo mits km), (lB, lo bits kb)] ∧ TupIn e bits bl ∧ NestIn e mits ms ∧ MsOk ms bl ∧ bl.length = i, _, _, _, _, iterRange hh (.head _) (by omega) (by omega) (by omega) (by omega), ⟨[(rg, _)], [], [], 0, 0, _, _, _, [], [], rfl, rfl, rfl, trivial, trivial, ⟨trivial, by simp, by simp, by simp⟩, rfl⟩, fun _ _ _ _ _ => trivial, ?_, ?_⟩
    · rintro i v x' vs' cv' nw' hi ⟨rfl, ti, rfl⟩ ⟨e, mits, bits, km, kb, v1, v2, x0, ms, bl, rfl, rfl, rfl, hB, hM, hK, hbl⟩
      have hi4 : i < 4 := by omega
      have hbits := hB.length
      have hmits := hM.length
      have hml := hK.fit.length
      rw [List.nil_append]
      tb_rel
      tb_rel
      tb_rel
      tb_rel
      refine Wp.mono (Q := fun v vs' cv' nw' => ∃ (xx : Int) (tx : Tok), v = .int xx tx ∧ vs' = [some (.ref sl), some (.int a ta), some (.int (0 + (i : Nat)) ti), v2, none, none] ∧ cv' = [none, x0, some (.ref lM), some (.ref lB), some (.int b tb)] ∧ nw' = e ++ [(lM, lo mits km), (lB, lo bits kb)]) ?xa ?xb
      case xa =>
        repeat tb_rel
        refine Wp.lenO (hO _ _) (by omega) ?_
        intro t2
        repeat tb_rel
        by_cases hc : (0 : Int) + (i : Nat) + 2 < its.length
        · refine ifT (decide_eq_true hc) ?_
          repeat tb_rel
          have hx := List.getElem?_eq_getElem (show ((0 : Int) + (i : Nat) + 2).toNat < its.length by omega)
          obtain ⟨t3, hx2, _⟩ := ints_at hI hx
          rw [hx2] at hx
          refine Wp.subO (hO _ _) (by omega) (by omega) hx ?_
          exact ⟨_, _, rfl, rfl, rfl, rfl⟩
        · refine ifF (decide_eq_false hc) ?_
          repeat tb_rel
          refine Wp.fdiv (by decide) (by decide) ?_
          intro t3
          repeat tb_rel
          refine Wp.mul (IntMulOk.of_left (by decide)) ?_
          intro t4
          repeat tb_rel
          all_goals exact ⟨_, _, rfl, rfl, rfl, rfl⟩
      case xb =>
        rintro v vs' cv' nw' ⟨xx, tx, rfl, rfl, rfl, rfl⟩
        repeat tb_rel
        refine Wp.mAppend (.mem (by one_item)) ?_
        repeat tb_rel
        refine Wp.fmod (by decide) ?_
        intro t2
        repeat tb_rel
        refine Wp.fdiv (by decide) (by decide) ?_
        intro t3
        repeat tb_rel
        refine Wp.fmod (by decide) ?_
        intro t4
        repeat tb_rel
        rename_i tA t5 t6 t7 t8 lT
        refine Wp.append (by l_intsW) (by omega) ?_
        refine ⟨(fun _ c => nomatch c), ?_⟩
        repeat tb_rel
        obtain ⟨d, hd⟩ : ∃ d : Nat, 1 + xx.fmod 4 = d := ⟨(1 + xx.fmod 4).toNat, by have := Int.fmod_nonneg_of_pos xx (show (0 : Int) < 4 by decide); omega⟩
        obtain ⟨ec, hec⟩ : ∃ d : Nat, 1 + (xx.fdiv 4).fmod 3 = d := ⟨(1 + (xx.fdiv 4).fmod 3).toNat, by have := Int.fmod_nonneg_of_pos (xx.fdiv 4) (show (0 : Int) < 3 by decide); omega⟩
        have hd4 : 1 ≤ d ∧ d ≤ 4 := by
          have := Int.fmod_nonneg_of_pos xx (show (0 : Int) < 4 by decide)
          have := Int.fmod_lt_of_pos xx (show (0 : Int) < 4 by decide)
          omega
        have hec3 : 1 ≤ ec ∧ ec ≤ 3 := by
          have := Int.fmod_nonneg_of_pos (xx.fdiv 4) (show (0 : Int) < 3 by decide)
          have := Int.fmod_lt_of_pos (xx.fdiv 4) (show (0 : Int) < 3 by decide)
          omega
        rw [hd, hec]
        refine' Wp.comp (ns := ["k"]) ?hclos ?hcell ?hkind ?hnames ?hlen ?hnd ?_ ?hfs
        case hclos => exact rfl
        case hcell => exact rfl
        case hkind => exact rfl
        case hnames => decide
        case hlen => exact .inl rfl
        case hnd => decide
        case hfs => (intro _; rfl)

        repeat tb_rel
        refine Wp.tailL (.mem (by one_item)) (Wp.getI (x := .ref lT) (.mem (by one_item)) (by omega) (by omega) ?_ ?_)
        · rw [show ((0 : Int) + (i : Nat)).toNat = bits.length by omega]; simp
        repeat tb_rel
        refine Wp.tailT (x := .int (d : Nat) tA) (.mem (by one_item)) (by decide) (by decide) rfl ?_
        repeat tb_rel
        refine Wp.range1 ?_
        intro rg2 u3 u4
        refine ⟨fun j ys cv' nw' => cv' = [none, some (.int xx tx), some (.ref lM), some (.ref lB), some (.int b tb)] ∧ nw' = (rg2, rgO 0 (d : Nat) u3 tA u4) :: (lT, tu [.int (d : Nat) tA, .int (ec : Nat) t8]) :: (e ++ [(lM, lo mits km), (lB, lo (bits ++ [.ref lT]) (kb + 1))]) ∧ IntsAre ys ((List.range j).map fun k => ((xx.fdiv 12 + b + 83 * (k : Nat)).fmod 256)),
          _, _, _, _, ?_, iterRange hh (.head _) (by omega) (by omega) (by omega) (by omega), ⟨rfl, rfl, .nil⟩, fun _ _ _ _ _ _ _ => trivial, ?_, ?_⟩
        · omega
        · rintro g2 C hg2 j v x' ys vs' cv' nw' hj ⟨rfl, tj, rfl⟩ ⟨rfl, rfl, hys⟩ hvl
          obtain ⟨q1, rfl⟩ := vs1 hvl
          have B2 := B.keeps hg2
          repeat tb_rel
          refine Wp.pure ?_
          refine ifT rfl ?_
          repeat tb_rel
          refine Wp.fdiv (by decide) (by decide) ?_
          intro t9
          repeat tb_rel
          refine Wp.mul (IntMulOk.of_left (by decide)) ?_
          intro t10
          repeat tb_rel
          refine Wp.fmod (by decide) ?_
          intro t11
          refine ⟨rfl, rfl, rfl, ?_⟩
          rw [List.range_succ, List.map_append, Int.zero_add]
          exact hys.append (.cons _ _ .nil)
        rintro lm km2 ys cv' nw' ⟨rfl, rfl, hys⟩
        rw [show ((d : Int) - 0).toNat = d by omega] at hys
        generalize hmsg : (List.range d).map (fun k => ((xx.fdiv 12 + b + 83 * (k : Nat)).fmod 256)) = msg at hys
        have hml : msg.length = d := by rw [← hmsg]; simp
        have hmo : ∀ a ∈ msg, Byte a := by
          intro y hy
          rw [← hmsg] at hy
          obtain ⟨k, _, rfl⟩ := List.mem_map.mp hy
          have := Int.fmod_nonneg_of_pos (xx.fdiv 12 + b + 83 * (k : Nat)) (show (0 : Int) < 256 by decide)
          have := Int.fmod_lt_of_pos (xx.fdiv 12 + b + 83 * (k : Nat)) (show (0 : Int) < 256 by decide)
          exact ⟨by omega, by omega⟩
        clear hmsg
        repeat tb_rel
        refine Wp.mAppend (.mem (by one_item)) ?_
        tb_rel
        tb_rel
        refine Wp.mono (Q := fun v vs' cv' nw' => ∃ (lx : Addr) (xits : List Value) (kx : Nat) (m : List Int) (e2 : Led), v = .ref lx ∧ vs' = [some (.ref sl), some (.int a ta), some (.int (0 + (i : Nat)) ti), some (.ref lm), none, none] ∧ cv' = [none, some (.int xx tx), some (.ref lM), some (.ref lB), some (.int b tb)] ∧ nw' = e2 ++ ((lm, lo ys km2) :: (rg2, rgO 0 (d : Nat) u3 tA u4) :: (lT, tu [.int (d : Nat) tA, .int (ec : Nat) t8]) :: (e ++ [(lM, lo mits km), (lB, lo (bits ++ [.ref lT]) (kb + 1))])) ∧ (lx, lo xits kx) ∈ (e2 ++ [(lm, lo ys km2)]) ∧ IntsAre xits m ∧ m.length = d ∧ (∀ a ∈ m, Byte a) ∧ ∃ a ∈ m, a ≠ 0) ?ya ?yb
        case ya =>
          repeat tb_rel
          refine Wp.sumL hh (.mem (by one_item)) hys ?_
          intro t9
          repeat tb_rel
          by_cases hc : 0 < msg.sum
          · refine ifT (decide_eq_true hc) ?_
            repeat tb_rel
            exact ⟨lm, ys, km2, msg, [], rfl, rfl, rfl, rfl, .head _, hys, hml, hmo, sum_nz (by omega)⟩
          · refine ifF (decide_eq_false hc) ?_
            repeat tb_rel
            intro rs3
            refine' Wp.tailSl (ops := ?ops7) (.mem (by one_item)) (.mem (.head _)) (.int _ _) .none .none (by simp) (by have := hys.length; omega) ?_ ?hsl
            case hsl => rfl
            intro lq
            repeat tb_rel
            refine Wp.concat (.mem (by one_item)) (.mem (.head _)) (by have := pick_length_le ys (some 1) none none; have := hys.length; simp; omega) ?_
            intro lx
            rw [show (some 1 : Option Int) = some ((1 : Nat) : Int) from rfl, pick_from]
            refine ⟨lx, _, _, 1 :: msg.drop 1, [_, _, _, _], rfl, rfl, rfl, rfl, .head _, .cons _ _ (hys.drop 1), by simp; omega, fun y hy => ?_, 1, .head _, by decide⟩
            rcases List.mem_cons.mp hy with rfl | hy
            · exact ⟨by decide, by decide⟩
            · exact hmo y (List.mem_of_mem_drop hy)
        case yb =>
          rintro v vs' cv' nw' ⟨lx, xits, kx, m, e2, rfl, rfl, rfl, rfl, hlx, hxm, hxl, hxo, hxz⟩
          repeat tb_rel
          refine Wp.append (by l_intsW) (by omega) ?_
          refine ⟨(fun _ c => nomatch c), ?_⟩
          repeat tb_rel
          subst hxl
          refine ⟨e2 ++ (lm, lo ys km2) :: (rg2, rgO 0 (m.length : Nat) u3 tA u4) :: (lT, tu [.int (m.length : Nat) tA, .int (ec : Nat) t8]) :: e, mits ++ [.ref lx], bits ++ [.ref lT], km + 1, kb + 1, _, _, _, ms ++ [m], bl ++ [(m.length, ec)], rfl, rfl, by simp, ?_, ?_, hK.snoc hxo hxz hd4 hec3, by simp [hbl]⟩
          · exact TupIn.snoc (t := tA) (u := t8) (by one_item) (hB.mono (fun p hp => by one_item))
          · refine NestIn.snoc (k := kx) ?_ hxm (hM.mono (fun p hp => by one_item))
            rcases List.mem_append.mp hlx with h1 | h1
            · exact List.mem_append_left _ h1
            · rw [List.mem_singleton.mp h1]; one_item
    · rintro vs' cv' nw' ⟨e, mits, bits, km, kb, v1, v2, x0, ms, bl, rfl, rfl, rfl, hB, hM, hK, hbl⟩
      exact ⟨rfl, e, mits, bits, km, kb, v1, v2, x0, ms, bl, rfl, rfl, rfl, hB, hM, hK, by rw [hbl]; congr 1; omega⟩
  case rest1 =>
    rintro fl vs' cv' nw' ⟨rfl, e, mits, bits, km, kb, v1, v2, x, ms, bl, rfl, rfl, rfl, hB, hM, hK, hbl⟩
    have ha0 : 0 ≤ a.fmod 3 := Int.fmod_nonneg_of_pos _ (by decide)
    have ha3 : a.fmod 3 < 3 := Int.fmod_lt_of_pos _ (by decide)
    have hbl2 : 2 ≤ bl.length := by omega
    have hbl4 : bl.length ≤ 4 := by omega
    have hbits := hB.length
    have hmits := hM.length
    have hml := hK.fit.length
    clear hbl ha0 ha3
    repeat tb_rel
    refine told_ms B (r.le (by omega)) (by one_item) (by one_item) (hB.mono fun p hp => by one_item) (hM.mono fun p hp => by one_item) hK hbl4 ?_
    rintro lw _ wits kw ⟨e1, rfl⟩ hlw hWi
    have hwl := hWi.length
    have htl := told_len hK.fit
    have hbd := hK.sum7
    repeat tb_rel
    refine Wp.len (.mem (by one_item)) (by omega) ?_
    intro t1
    repeat tb_rel
    refine' Wp.compE' ?_ ?hce
    case hce => rfl
    refine' Wp.comp (ns := ["data", "checks"]) ?hclos ?hcell ?hkind ?hnames ?hlen ?hnd ?_ ?hfs
    case hclos => exact rfl
    case hcell => exact rfl
    case hkind => exact rfl
    case hnames => decide
    case hlen => exact .inl rfl
    case hnd => decide
    case hfs => (intro _; rfl)

    repeat tb_rel
    refine ⟨fun j ys cv' nw'' => cv' = [none, x, some (.ref lM), some (.ref lB), some (.int b tb)] ∧ nw'' = (e1 ++ (e ++ [(lM, lo mits km), (lB, lo bits kb)])) ∧ IntsAre ys ((bl.take j).map fun b => ((b.1 : Int) + (b.2 : Int))),
      _, _, _, _, ?_, iterList (its := bits) (k := kb) hh (.mem (by one_item)), ⟨rfl, rfl, .nil⟩, ?_, ?_, ?_⟩
    · omega
    · rintro j ys cv' nw'' f' ⟨_, rfl, _⟩ _
      exact .mem (by one_item)
    · rintro g2 C hg2 j v x' ys vs' cv' nw'' hj ⟨rfl, hv⟩ ⟨rfl, rfl, hys⟩ hvl
      obtain ⟨T, t3, u3, d, ec, rfl, hT, hbi⟩ := hB.get hv
      obtain ⟨q1, q2, rfl⟩ := vs2 hvl
      have B2 := B.keeps hg2
      repeat tb_rel
      refine Wp.pure ?_
      refine ifT rfl ?_
      repeat tb_rel
      refine ⟨rfl, rfl, rfl, ?_⟩
      rw [take_snoc hbi, List.map_append]
      exact hys.append (.cons _ _ .nil)
    rintro lm2 km2 ys cv' nw'' ⟨rfl, rfl, hys⟩
    rw [List.take_of_length_le (by omega)] at hys
    repeat tb_rel
    refine Wp.sumL hh (.mem (.head _)) hys ?_
    intro t2
    rw [sum_cast, hwl, htl]
    repeat tb_rel
    refine ifF (by simp) ?_
    repeat tb_rel
    refine' Wp.comp (ns := ["n"]) ?hclos ?hcell ?hkind ?hnames ?hlen ?hnd ?_ ?hfs
    case hclos => exact rfl
    case hcell => exact rfl
    case hkind => exact rfl
    case hnames => decide
    case hlen => exact .inl rfl
    case hnd => decide
    case hfs => (intro _; rfl)

    repeat tb_rel
    refine Wp.len (.mem (by one_item)) (by omega) ?_
    intro t3
    repeat tb_rel
    refine Wp.range1 ?_
    intro rg2 u3 u4
    refine ⟨fun j zs cv' nw' => cv' = [none, x, some (.ref lM), some (.ref lB), some (.int b tb)] ∧ ∃ e2, nw' = e2 ++ ((lm2, lo ys km2) :: (e1 ++ (e ++ [(lM, lo mits km), (lB, lo bits kb)]))) ∧ NestIn nw' zs ((alones ms bl).take j),
      _, _, _, _, ?_, iterRange hh (.head _) (by omega) (by omega) (by omega) (by omega), ⟨rfl, [(rg2, _)], rfl, trivial⟩, fun _ _ _ _ _ _ _ => trivial, ?_, ?_⟩
    · omega
    · rintro g2 C hg2 j v x' zs vs' cv' nw' hj ⟨rfl, tj, rfl⟩ ⟨rfl, e2, rfl, hzs⟩ hvl
      obtain ⟨q1, rfl⟩ := vs1 hvl
      have B2 := B.keeps hg2
      have hj2 : j < bl.length := by omega
      have ej : ((0 : Int) + (j : Nat)).toNat = j := by omega
      have hbv : bits[j]? = some bits[j] := List.getElem?_eq_getElem (by omega)
      obtain ⟨T, t4, u5, d, ec, hTv, hT, hbi⟩ := hB.get hbv
      rw [hTv] at hbv
      have hmv : mits[j]? = some mits[j] := List.getElem?_eq_getElem (by omega)
      obtain ⟨lmj, ij, kj, m, hMv, hmm, hmi, hmj⟩ := hM.get hmv
      rw [hMv] at hmv
      obtain ⟨m', ec', f1, f2, f3⟩ := hK.fit.get hj2
      rw [hmj] at f1
      obtain rfl := Option.some.inj f1
      rw [hbi] at f2
      have f4 := Prod.mk.inj (Option.some.inj f2)
      obtain ⟨rfl, rfl⟩ := f4
      repeat tb_rel
      refine Wp.pure ?_
      refine ifT rfl ?_
      repeat tb_rel
      refine Wp.tailL (.mem (by one_item)) (Wp.getI (x := .ref T) (.mem (by one_item)) (by omega) (by omega) (by rw [ej]; exact hbv) ?_)
      repeat tb_rel
      refine Wp.tailL (.mem (by one_item)) (Wp.getI (x := .ref lmj) (.mem (by one_item)) (by omega) (by omega) (by rw [ej]; exact hmv) ?_)
      repeat tb_rel
      refine told_ms (bits := [.ref T]) (mits := [.ref lmj]) (ms := [m]) (bl := [(m.length, ec)]) B2 (r.le (by omega)) (by one_item) (by one_item) ⟨⟨T, t4, u5, rfl, by one_item⟩, trivial⟩ ⟨⟨lmj, ij, kj, rfl, by one_item, hmi⟩, trivial⟩ (hK.one hmj hbi) (by simp) ?_
      rintro lw2 _ wits2 kw2 ⟨e3, rfl⟩ hlw2 hWi2
      rw [List.flatten_singleton, told_one] at hWi2
      rename_i lz1 lz2
      refine ⟨rfl, rfl, e3 ++ (lz2, lo [.ref lmj] 0) :: (lz1, lo [.ref T] 0) :: e2, by simp, ?_⟩
      rw [take_snoc f3]
      exact NestIn.snoc hlw2 hWi2 (hzs.mono fun p hp => List.mem_append_right _ (.tail _ (.tail _ hp)))
    rintro lA kA zs cv' nw' ⟨rfl, e2, rfl, hzs⟩
    have hal := alones_len hml
    rw [show ((bits.length : Int) - 0).toNat = bl.length by omega, List.take_of_length_le (by omega)] at hzs
    repeat tb_rel
    refine apart_ms B (r.le (by omega)) (by one_item) (by one_item) (hB.mono fun p hp => by one_item) hK (fun c => by rw [c] at hbl2; simp at hbl2) hbl4 hWi ?_
    rintro lP _ pits kp ⟨e3, rfl⟩ hlp hP
    repeat tb_rel
    refine Wp.neN (show A.in1.units + 64 < cLine by have := r.un; show A.units + 1 + 64 < cLine; omega) (.mem (by one_item)) (.mem (by one_item)) hP (hzs.mono fun p hp => by one_item) ?_
    refine exB (ifF (b := !decide (alones ms bl = alones ms bl)) (by simp) ?_)
    have mA : (lA, lo zs kA) ∈ e3 ++ (lA, lo zs kA) :: (e2 ++ (lm2, lo ys km2) :: (e1 ++ (e ++ [(lM, lo mits km), (lB, lo bits kb)]))) := by one_item
    have mB : (lB, lo bits kb) ∈ e3 ++ (lA, lo zs kA) :: (e2 ++ (lm2, lo ys km2) :: (e1 ++ (e ++ [(lM, lo mits km), (lB, lo bits kb)]))) := by one_item
    have mM : (lM, lo mits km) ∈ e3 ++ (lA, lo zs kA) :: (e2 ++ (lm2, lo ys km2) :: (e1 ++ (e ++ [(lM, lo mits km), (lB, lo bits kb)]))) := by one_item
    have hzs' : NestIn (e3 ++ (lA, lo zs kA) :: (e2 ++ (lm2, lo ys km2) :: (e1 ++ (e ++ [(lM, lo mits km), (lB, lo bits kb)])))) zs (alones ms bl) := hzs.mono fun p hp => by one_item
    have hB2 : TupIn (e3 ++ (lA, lo zs kA) :: (e2 ++ (lm2, lo ys km2) :: (e1 ++ (e ++ [(lM, lo mits km), (lB, lo bits kb)])))) bits bl := hB.mono fun p hp => by one_item
    have hM2 : NestIn (e3 ++ (lA, lo zs kA) :: (e2 ++ (lm2, lo ys km2) :: (e1 ++ (e ++ [(lM, lo mits km), (lB, lo bits kb)])))) mits ms := hM.mono fun p hp => by one_item
    clear hzs hB hM hlw hWi hwl htl hys hP hlp
    generalize e3 ++ (lA, lo zs kA) :: (e2 ++ (lm2, lo ys km2) :: (e1 ++ (e ++ [(lM, lo mits km), (lB, lo bits kb)]))) = base at *
    have hzl := hzs'.length
    rw [hal] at hzl
    repeat tb_rel
    refine' Wp.compE' ?_ ?hce
    case hce => rfl
    refine' Wp.comp (ns := ["n"]) ?hclos ?hcell ?hkind ?hnames ?hlen ?hnd ?_ ?hfs
    case hclos => exact rfl
    case hcell => exact rfl
    case hkind => exact rfl
    case hnames => decide
    case hlen => exact .inl rfl
    case hnd => decide
    case hfs => (intro _; rfl)

    repeat tb_rel
    refine Wp.len (.mem mB) (by omega) ?_
    intro t4
    repeat tb_rel
    refine Wp.range1 ?_
    intro rg3 u5 u6
    refine ⟨fun j zs cv' nw' => cv' = [some (.ref lA), x, some (.ref lM), some (.ref lB), some (.int b tb)] ∧ ∃ e2, nw' = e2 ++ base ∧ NestIn nw' zs (ms.take j),
      _, _, _, _, ?_, iterRange hh (.head _) (by omega) (by omega) (by omega) (by omega), ⟨rfl, [(rg3, _)], rfl, trivial⟩, fun _ _ _ _ _ _ _ => trivial, ?_, ?_⟩
    · omega
    · rintro g2 C hg2 j v x' ys vs' cv' nw' hj ⟨rfl, tj, rfl⟩ ⟨rfl, e2, rfl, hys⟩ hvl
      obtain ⟨q1, rfl⟩ := vs1 hvl
      have B2 := B.keeps hg2
      have hj2 : j < bl.length := by omega
      have ej : ((0 : Int) + (j : Nat)).toNat = j := by omega
      have hbv : bits[j]? = some bits[j] := List.getElem?_eq_getElem (by omega)
      obtain ⟨T, t4, u5, d, ec, hTv, hT, hbi⟩ := hB2.get hbv
      rw [hTv] at hbv
      have hzv : zs[j]? = some zs[j] := List.getElem?_eq_getElem (by omega)
      obtain ⟨lzj, ij, kj, zm, hZv, hzm, hzi, hzj⟩ := hzs'.get hzv
      rw [hZv] at hzv
      obtain ⟨m, ec', f1, f2, f3⟩ := hK.fit.get hj2
      rw [hbi] at f2
      have f4 := Prod.mk.inj (Option.some.inj f2)
      obtain ⟨rfl, rfl⟩ := f4
      rw [hzj] at f3
      obtain rfl := Option.some.inj f3
      have hzil := hzi.length
      have hm4 := (hK.rng _ (List.mem_of_getElem? hbi))
      rw [List.length_append, ecw_len] at hzil
      repeat tb_rel
      refine Wp.pure ?_
      refine ifT rfl ?_
      repeat tb_rel
      refine Wp.tailL (.mem (by one_item)) (Wp.getI (x := .ref lzj) (.mem (by one_item)) (by omega) (by omega) (by rw [ej]; exact hzv) ?_)
      repeat tb_rel
      refine Wp.tailL (.mem (by one_item)) (Wp.getI (x := .ref T) (.mem (by one_item)) (by omega) (by omega) (by rw [ej]; exact hbv) ?_)
      repeat tb_rel
      refine Wp.tailT (x := .int (m.length : Nat) t4) (.mem (by one_item)) (by decide) (by decide) rfl ?_
      repeat tb_rel
      intro rs3
      refine' Wp.tailSl (ops := ?ops6) (its := ij) (k := kj) (.mem (.tail _ (by one_item))) (.mem (.head _)) .none (.int _ _) .none (by simp) (by simp only at hm4; omega) ?_ ?hsl
      case hsl => rfl
      intro lq
      rw [pick_upto]
      refine ⟨rfl, rfl, (lq, _) :: (rs3, _) :: e2, rfl, ?_⟩
      rw [take_snoc f1]
      refine NestIn.snoc (.head _) ?_ (hys.mono fun p hp => .tail _ (.tail _ hp))
      have := hzi.take m.length
      rw [List.take_left] at this
      exact this
    rintro lQ kQ ys cv' nw' ⟨rfl, e2, rfl, hys⟩
    rw [show ((bits.length : Int) - 0).toNat = bl.length by omega, List.take_of_length_le (by omega)] at hys
    repeat tb_rel
    refine Wp.neN (show A.in1.units + 64 < cLine by have := r.un; show A.units + 1 + 64 < cLine; omega) (.mem (.head _)) (.mem (by one_item)) (hys.mono fun p hp => .tail _ hp) (hM2.mono fun p hp => by one_item) ?_
    refine exB (ifF (b := !decide (ms = ms)) (by simp) ?_)
    have hbr : bl.reverse.length = bl.length := List.length_reverse
    repeat tb_rel
    refine ifF rfl ?_
    repeat tb_rel
    intro rs4
    refine' Wp.tailSl (ops := ?ops5) (its := bits) (k := kb) (.mem (.tail _ (.tail _ (List.mem_append_right _ mB)))) (.mem (.head _)) .none .none (.int _ _) (by simp) (by omega) ?_ ?hsl
    case hsl => rfl
    intro lb1
    repeat tb_rel
    intro rs5
    refine' Wp.tailSl (ops := ?ops4) (its := mits) (k := km) (.mem (.tail _ (.tail _ (.tail _ (.tail _ (List.mem_append_right _ mM)))))) (.mem (.head _)) .none .none (.int _ _) (by simp) (by omega) ?_ ?hsl
    case hsl => rfl
    intro lm1
    rw [show (-1 : Int) = -1 from rfl, pick_rev, pick_rev]
    repeat tb_rel
    refine told_ms B (r.le (by omega)) (by one_item) (by one_item) (hB2.rev.mono fun p hp => by one_item) (hM2.rev.mono fun p hp => by one_item) hK.rev (by omega) ?_
    rintro lw2 _ wits2 kw2 ⟨e6, rfl⟩ hlw2 hWi2
    repeat tb_rel
    intro rs6
    refine' Wp.tailSl (ops := ?ops3) (its := bits) (k := kb) (.mem (by one_item)) (.mem (.head _)) .none .none (.int _ _) (by simp) (by omega) ?_ ?hsl
    case hsl => rfl
    intro lb3
    rw [pick_rev]
    repeat tb_rel
    refine apart_ms B (r.le (by omega)) (.head _) (by one_item) (hB2.rev.mono fun p hp => by one_item) hK.rev (fun c => by rw [c] at hbr; simp at hbr; omega) (by omega) hWi2 ?_
    rintro lP2 _ pits2 kp2 ⟨e7, rfl⟩ hlp2 hP2
    have hpl := hP2.length
    have har := alones_len (ms := ms.reverse) (bl := bl.reverse) (by simpa using hml)
    repeat tb_rel
    intro rs7
    refine' Wp.tailSl (ops := ?ops2) (its := pits2) (k := kp2) (.mem (.tail _ hlp2)) (.mem (.head _)) .none .none (.int _ _) (by simp) (by omega) ?_ ?hsl
    case hsl => rfl
    intro lb4
    rw [pick_rev]
    repeat tb_rel
    have hrev : (alones ms.reverse bl.reverse).reverse = alones ms bl := by rw [alones_rev hml, List.reverse_reverse]
    have hP3 := hP2.rev
    rw [hrev] at hP3
    refine Wp.eqN (show A.in1.units + 64 < cLine by have := r.un; show A.units + 1 + 64 < cLine; omega) (.mem (.head _)) (.mem (by one_item)) (hP3.mono fun p hp => .tail _ (.tail _ hp)) (hzs'.mono fun p hp => by one_item) ?_
    repeat tb_rel
    rw [decide_eq_true rfl]
end
end Mine
set_option maxHeartbeats 8000000 in
theorem PySem.Challenge.cw_ww0035_04_holds : PySem.Challenge.rw_ww0035_04.Holds :=
  Mine.hd (by
  k_go0
  rename_i sl its as_ hL ra w1 r0 hI hr hlen hc2 K0 hD h1 tk1 F o1 o2 o3 o4 o5 d1 d2 d3 d4 d5 N0 X0
  refine Mine.top_go (lx := ["script"]) (la := [.ref sl]) (rest := ["a","n","message","words","turned"]) (cv₀ := [none, none, none, none, none]) (Q := fun fl _ _ _ => fl = .ret (.bool true)) F N0 X0 ?t1 ?t2 ?t3 ?t4 ?t5 ?t6 ?t7
  case t1 => rfl
  case t2 => rfl
  case t3 => rfl
  case t4 => decide
  case t5 =>
    clear X0 N0 d1 d2 d3 d4 d5 F hD
    simp
    omega
  case t6 =>
    rintro a vs cv nw h2 tk2 R rfl
    clear X0 N0 d1 d2 d3 d4 d5 F hD
    refine goodW_bool (F := R.fr) (by assumption) (raisesW_false ?_) ?_
    · wrow_none_raised
    · wrow_post
  case t7 =>
    refine' Mine.law_ok (X := ⟨_, _, _⟩) ?lo ⟨by assumption, topRead_of (by assumption)⟩ ?lr hL hI ?ln
    case lo => k_is
    case lr => exact ⟨rfl, Nat.le_of_ble_eq_true rfl, Nat.le_of_ble_eq_true rfl⟩
    case ln => omega)
