import PyProof.Rows.All
import Wide.All
import OpenK.AllK
import Wide.FinOn
import PySem.Challenge.RW_re0101_02
set_option Elab.async false
set_option compiler.extract_closed false
set_option bootstrap.genMatcherCode false
set_option genSizeOf false
section
open PySem PySem.W PyProof.Rows PySem.Calls
set_option Elab.async false
namespace Mine
/-- a part of the heap that stays -/
noncomputable abbrev Mp := Addr → Option Obj
noncomputable def Mp.Le (g g' : Mp) : Prop := ∀ a o, g a = some o → g' a = some o
theorem Mp.Le.refl (g : Mp) : g.Le g := fun _ _ e => e
theorem Mp.Le.trans {g g' g'' : Mp} (x : g.Le g') (y : g'.Le g'') : g.Le g'' := fun a o e => y a o (x a o e)
noncomputable def put (m : Str → Option Value) (x : Str) (v : Value) : Str → Option Value := fun y => if y = x then some v else m y
theorem put_eq (m : Str → Option Value) (x : Str) (v : Value) : put m x v x = some v := if_pos rfl
theorem put_ne {m : Str → Option Value} {x y : Str} {v : Value} {r : Option Value} (hne : y ≠ x) (h : m y = r) : put m x v y = r := by unfold put; rw [if_neg hne]; exact h
noncomputable def VarOk (env : Env) (x : Str) : Prop := env.kindOf x = some .local ∨ (env.kindOf x = some .cell ∧ (env.cells.lookup x).isSome = true)
/-- the cells of this frame may be written -/
noncomputable def CW (env : Env) (s₀ : Shared) (T : List Addr) : Prop := ∀ q ∈ env.cells, q.2 ∈ T ∨ s₀.heap.get? q.2 = none
structure EnvOk (env : Env) : Prop where
  fk : env.scope.kind = .function
  apart : env.cells.Pairwise fun x y => x.2 ≠ y.2
  uniq : env.cells.Pairwise fun x y => x.1 ≠ y.1
  capart : ∀ q ∈ env.cells, q.2 ≠ env.locals
  ckind : ∀ q ∈ env.cells, env.kindOf q.1 ≠ some .local
structure Inv (g : Mp) (s₀ : Shared) (T : List Addr) (env : Env) (m : Str → Option Value) (W : List (Addr × Obj)) (s : Shared) : Prop where
  eo : EnvOk env
  ns : ∃ md, s.heap.Ns env.locals md ∧ ∀ x, env.kindOf x = some .local → md x = m x
  cell : ∀ q ∈ env.cells, s.heap.IsCell q.2 (m q.1)
  led : ∀ p ∈ W, s.heap.get? p.1 = some p.2
  nd : W.Pairwise fun p q => p.1 ≠ q.1
  keep : ∀ a o, g a = some o → s.heap.get? a = some o
  keep0 : ∀ a o, s₀.heap.get? a = some o → a ∉ T → s.heap.get? a = some o
  offL : g env.locals = none ∧ (env.locals ∈ T ∨ s₀.heap.get? env.locals = none) ∧ ∀ p ∈ W, p.1 ≠ env.locals
  offC : ∀ q ∈ env.cells, g q.2 = none ∧ ∀ p ∈ W, p.1 ≠ q.2
  offW : ∀ p ∈ W, g p.1 = none ∧ (p.1 ∈ T ∨ s₀.heap.get? p.1 = none)
  same : ∃ h tk, s = { s₀ with heap := h, toks := tk }
section
variable {g : Mp} {s₀ : Shared} {T : List Addr} {env : Env} {m : Str → Option Value} {W : List (Addr × Obj)} {s : Shared}
theorem ne_of_off {g : Mp} {a b : Addr} {o : Obj} (h : g a = some o) (h' : g b = none) : a ≠ b := fun e => by rw [e, h'] at h; cases h
/-- nothing known changes -/
theorem Inv.ext (I : Inv g s₀ T env m W s) {h' : Heap} {tk : Nat} (k : ∀ b o, s.heap.get? b = some o → h'.get? b = some o) : Inv g s₀ T env m W { s with heap := h', toks := tk } where
  eo := I.eo
  ns := let ⟨md, a, b⟩ := I.ns; ⟨md, a.keeps k, b⟩
  cell := fun q hq => (I.cell q hq).keeps k
  led := fun p hp => k _ _ (I.led p hp)
  nd := I.nd
  keep := fun a o e => k _ _ (I.keep a o e)
  keep0 := fun a o e t => k _ _ (I.keep0 a o e t)
  offL := I.offL
  offC := I.offC
  offW := I.offW
  same := by obtain ⟨h, tk', e⟩ := I.same; subst e; exact ⟨_, _, rfl⟩
theorem Inv.tok (I : Inv g s₀ T env m W s) (tk : Nat) : Inv g s₀ T env m W { s with toks := tk } := I.ext fun _ _ e => e
theorem Inv.keeps (I : Inv g s₀ T env m W s) {s' : Shared} (k : Keeps s s') : Inv g s₀ T env m W s' := by
  obtain ⟨h', tk, rfl, k⟩ := k
  exact I.ext k
/-- a new object -/
theorem Inv.alloc (I : Inv g s₀ T env m W s) {o : Obj} (hf : o.isFreed = false := by rfl) : Inv g s₀ T env m ((s.heap.objs.size, o) :: W) { s with heap := s.heap.push o } := by
  have J := I.ext (h' := s.heap.push o) (tk := s.toks) fun b o e => Heap.get?_push_of_some _ e
  have lt : ∀ {b ob}, s.heap.get? b = some ob → b ≠ s.heap.objs.size := fun e => Nat.ne_of_lt (Heap.lt_size e)
  obtain ⟨md, hns, _⟩ := I.ns
  have hL : s.heap.objs.size ≠ env.locals := Nat.ne_of_gt hns.lt
  have hg : g s.heap.objs.size = none := by
    cases e : g s.heap.objs.size with
    | none => rfl
    | some ob => exact absurd rfl (lt (I.keep _ _ e))
  refine { J with led := ?_, nd := ?_, offL := ⟨J.offL.1, J.offL.2.1, ?_⟩, offC := ?_, offW := ?_ }
  · intro p hp
    rcases List.mem_cons.mp hp with rfl | hp
    · exact Heap.get?_push_size _ hf
    · exact J.led p hp
  · exact List.pairwise_cons.mpr ⟨fun p hp => Ne.symm (lt (I.led p hp)), J.nd⟩
  · intro p hp
    rcases List.mem_cons.mp hp with rfl | hp
    · exact hL
    · exact J.offL.2.2 p hp
  · intro q hq
    refine ⟨(J.offC q hq).1, fun p hp => ?_⟩
    rcases List.mem_cons.mp hp with rfl | hp
    · intro e
      have hlt := (I.cell q hq).lt
      exact absurd hlt (by rw [← e]; exact Nat.lt_irrefl _)
    · exact (J.offC q hq).2 p hp
  · intro p hp
    rcases List.mem_cons.mp hp with rfl | hp
    · refine ⟨hg, ?_⟩
      cases e : s₀.heap.get? s.heap.objs.size with
      | none => exact .inr rfl
      | some ob =>
        by_cases ht : s.heap.objs.size ∈ T
        · exact .inl ht
        · exact absurd rfl (lt (I.keep0 _ _ e ht))
    · exact J.offW p hp
inductive Sel (a : Addr) (o : Obj) : List (Addr × Obj) → (Obj → List (Addr × Obj)) → Prop where
  | head {r} : Sel a o ((a, o) :: r) (fun o' => (a, o') :: r)
  | tail {p r f} : Sel a o r f → Sel a o (p :: r) (fun o' => p :: f o')
theorem Sel.mem {a : Addr} {o : Obj} {W : List (Addr × Obj)} {f : Obj → List (Addr × Obj)} (h : Sel a o W f) : (a, o) ∈ W := by
  induction h with
  | head => exact .head _
  | tail _ ih => exact .tail _ ih
theorem Sel.keys {a : Addr} {o : Obj} {W : List (Addr × Obj)} {f : Obj → List (Addr × Obj)} (h : Sel a o W f) (o' : Obj) : (f o').map (·.1) = W.map (·.1) := by
  induction h with
  | head => rfl
  | tail _ ih => simp [ih]
theorem Sel.back {a : Addr} {o : Obj} {W : List (Addr × Obj)} {f : Obj → List (Addr × Obj)} (h : Sel a o W f) {o' : Obj} : ∀ p ∈ f o', p = (a, o') ∨ (p ∈ W) := by
  induction h with
  | head =>
    intro p hp
    rcases List.mem_cons.mp hp with e | hp
    · exact .inl e
    · exact .inr (.tail _ hp)
  | tail _ ih =>
    intro p hp
    rcases List.mem_cons.mp hp with e | hp
    · exact .inr (e ▸ .head _)
    · exact (ih p hp).imp id fun h => .tail _ h
theorem Sel.off {a : Addr} {o : Obj} {W : List (Addr × Obj)} {f : Obj → List (Addr × Obj)} (h : Sel a o W f) (nd : W.Pairwise fun p q => p.1 ≠ q.1) {o' : Obj} : ∀ p ∈ f o', p = (a, o') ∨ (p ∈ W ∧ p.1 ≠ a) := by
  induction h with
  | head =>
    intro p hp
    rcases List.mem_cons.mp hp with e | hp
    · exact .inl e
    · exact .inr ⟨.tail _ hp, Ne.symm ((List.pairwise_cons.mp nd).1 p hp)⟩
  | @tail p₀ r f hs ih =>
    intro p hp
    rcases List.mem_cons.mp hp with e | hp
    · subst e
      exact .inr ⟨.head _, (List.pairwise_cons.mp nd).1 _ hs.mem⟩
    · exact (ih (List.pairwise_cons.mp nd).2 p hp).imp id fun h => ⟨.tail _ h.1, h.2⟩
theorem pw_keys {W W' : List (Addr × Obj)} (h : W.Pairwise fun p q => p.1 ≠ q.1) (e : W'.map (·.1) = W.map (·.1)) : W'.Pairwise fun p q => p.1 ≠ q.1 := by
  have h1 : (W.map (·.1)).Pairwise (· ≠ ·) := List.pairwise_map.mpr h
  rw [← e] at h1
  exact List.pairwise_map.mp h1
/-- an object of the ledger changes -/
theorem Inv.chg (I : Inv g s₀ T env m W s) {a : Addr} {o o' : Obj} {f : Obj → List (Addr × Obj)} (S : Sel a o W f) {h' : Heap} {tk : Nat}
    (k : ∀ b ob, b ≠ a → s.heap.get? b = some ob → h'.get? b = some ob) (e : h'.get? a = some o') : Inv g s₀ T env m (f o') { s with heap := h', toks := tk } where
  eo := I.eo
  ns := let ⟨md, hn, b⟩ := I.ns; ⟨md, hn.at' (fun ob e => k _ ob (Ne.symm (I.offL.2.2 _ S.mem)) e), b⟩
  cell := fun q hq => let ⟨oc, ho, hd⟩ := I.cell q hq; ⟨oc, k _ _ (Ne.symm ((I.offC q hq).2 _ S.mem)) ho, hd⟩
  led := fun p hp => by
    rcases S.off I.nd p hp with rfl | ⟨hp, hne⟩
    · exact e
    · exact k _ _ hne (I.led p hp)
  nd := pw_keys I.nd (S.keys _)
  keep := fun b ob hb => k _ _ (ne_of_off hb (I.offW _ S.mem).1) (I.keep b ob hb)
  keep0 := fun b ob hb ht => by
    have := (I.offW _ S.mem).2
    refine k _ _ (fun q => ?_) (I.keep0 b ob hb ht)
    rcases this with h | h
    · exact ht (q ▸ h)
    · rw [q] at hb; exact absurd (h.symm.trans hb) (by simp)
  offL := ⟨I.offL.1, I.offL.2.1, fun p hp => by
    rcases S.back p hp with rfl | hp
    · exact I.offL.2.2 (a, o) S.mem
    · exact I.offL.2.2 p hp⟩
  offC := fun q hq => ⟨(I.offC q hq).1, fun p hp => by
    rcases S.back p hp with rfl | hp
    · exact (I.offC q hq).2 (a, o) S.mem
    · exact (I.offC q hq).2 p hp⟩
  offW := fun p hp => by
    rcases S.back p hp with rfl | hp
    · exact I.offW (a, o) S.mem
    · exact I.offW p hp
  same := by obtain ⟨h, tk', e⟩ := I.same; subst e; exact ⟨_, _, rfl⟩
/-- a smaller or turned ledger -/
theorem Inv.sub (I : Inv g s₀ T env m W s) {W' : List (Addr × Obj)} (h : ∀ p ∈ W', p ∈ W) (nd : W'.Pairwise fun p q => p.1 ≠ q.1) : Inv g s₀ T env m W' s :=
  { I with led := fun p hp => I.led p (h p hp), nd := nd, offL := ⟨I.offL.1, I.offL.2.1, fun p hp => I.offL.2.2 p (h p hp)⟩, offC := fun q hq => ⟨(I.offC q hq).1, fun p hp => (I.offC q hq).2 p (h p hp)⟩, offW := fun p hp => I.offW p (h p hp) }
theorem Inv.sublist (I : Inv g s₀ T env m W s) {W' : List (Addr × Obj)} (h : W'.Sublist W) : Inv g s₀ T env m W' s := I.sub (fun _ hp => h.subset hp) (I.nd.sublist h)
theorem Inv.tail {p : Addr × Obj} (I : Inv g s₀ T env m (p :: W) s) : Inv g s₀ T env m W s := I.sublist (List.sublist_cons_self _ _)
noncomputable def Mp.put (g : Mp) (a : Addr) (o : Obj) : Mp := fun b => if b = a then some o else g b
theorem Mp.put_self (g : Mp) (a : Addr) (o : Obj) : g.put a o a = some o := if_pos rfl
theorem Mp.le_put {g : Mp} {a : Addr} {o : Obj} (h : g a = none) : g.Le (g.put a o) := fun b ob e => by
  unfold Mp.put
  rw [if_neg (ne_of_off e h)]
  exact e
/-- an object of the ledger will not change any more -/
theorem Inv.absorb (I : Inv g s₀ T env m W s) {a : Addr} {o : Obj} {W' : List (Addr × Obj)} (hm : (a, o) ∈ W) (hs : ∀ p ∈ W', p ∈ W ∧ p.1 ≠ a) (nd : W'.Pairwise fun p q => p.1 ≠ q.1) : Inv (g.put a o) s₀ T env m W' s := by
  have J := I.sub (fun p hp => (hs p hp).1) nd
  refine { J with keep := ?_, offL := ⟨?_, J.offL.2⟩, offC := ?_, offW := ?_ }
  · intro b ob e
    unfold Mp.put at e
    split at e
    · rename_i hb; subst hb; cases e; exact I.led _ hm
    · exact I.keep b ob e
  · unfold Mp.put
    rw [if_neg (Ne.symm (I.offL.2.2 _ hm))]
    exact I.offL.1
  · intro q hq
    refine ⟨?_, (J.offC q hq).2⟩
    unfold Mp.put
    rw [if_neg (Ne.symm ((I.offC q hq).2 _ hm))]
    exact (I.offC q hq).1
  · intro p hp
    refine ⟨?_, (J.offW p hp).2⟩
    unfold Mp.put
    rw [if_neg (hs p hp).2]
    exact (J.offW p hp).1
theorem Inv.absorb1 {a : Addr} {o : Obj} (I : Inv g s₀ T env m ((a, o) :: W) s) : Inv (g.put a o) s₀ T env m W s :=
  I.absorb (.head _) (fun p hp => ⟨.tail _ hp, Ne.symm ((List.pairwise_cons.mp I.nd).1 p hp)⟩) (List.pairwise_cons.mp I.nd).2
theorem Inv.off {a : Addr} {o : Obj} (I : Inv g s₀ T env m W s) (h : (a, o) ∈ W) : g a = none := (I.offW _ h).1
/-- what a call hands on: a greater known part, all that stood stands -/
structure Got (g : Mp) (s : Shared) (g' : Mp) (s' : Shared) : Prop where
  le : g.Le g'
  new : ∀ a o, g' a = some o → g a = some o ∨ s.heap.get? a = none
  here : ∀ a o, g' a = some o → s'.heap.get? a = some o
  keeps : Keeps s s'
theorem Inv.got (I : Inv g s₀ T env m W s) {g' : Mp} {s' : Shared} (G : Got g s g' s') : Inv g' s₀ T env m W s' := by
  have J := I.keeps G.keeps
  have off : ∀ {a ob}, g a = none → s.heap.get? a = some ob → g' a = none := fun {a ob} h1 h2 => by
    cases e : g' a with
    | none => rfl
    | some o' =>
      rcases G.new _ _ e with h | h
      · rw [h1] at h; cases h
      · rw [h2] at h; cases h
  obtain ⟨md, ⟨oL, _, _, hoL, _⟩, _⟩ := I.ns
  exact { J with keep := G.here, offL := ⟨off I.offL.1 hoL, J.offL.2⟩, offC := fun q hq => ⟨let ⟨oc, ho, _⟩ := I.cell q hq; off (I.offC q hq).1 ho, (J.offC q hq).2⟩, offW := fun p hp => ⟨off (I.offW p hp).1 (I.led p hp), (J.offW p hp).2⟩ }
theorem Inv.keptAll (I : Inv g s₀ [] env m W s) : Keeps s₀ s := by
  have k := I.keep0
  obtain ⟨h, tk, rfl⟩ := I.same
  exact ⟨h, tk, rfl, fun b o e => k b o e (by simp)⟩
end
section
variable {M : Model} {A : Around} {E : Value → Shared → Prop} {g : Mp} {s₀ : Shared} {T : List Addr} {env : Env} {m : Str → Option Value} {W : List (Addr × Obj)} {s : Shared}
theorem r_load {x : Str} {v : Value} {Q : Value → Shared → Prop} (I : Inv g s₀ T env m W s) (hk : VarOk env x) (hv : m x = some v) (h : Q v s) : wpAny M A (loadName env x) Q E s := by
  rcases hk with hk | ⟨hk, hc⟩
  · obtain ⟨md, hn, hm⟩ := I.ns
    exact wpAny_loadName_local I.eo.fk hk hn ((hm x hk).trans hv) h
  · obtain ⟨c, hc⟩ := Option.isSome_iff_exists.mp hc
    have hcell := I.cell (x, c) (mem_of_lookup hc)
    dsimp only at hcell
    rw [hv] at hcell
    exact wpAny_loadName_cell I.eo.fk hk hc hcell h
theorem r_name {x : Str} {pos : Pos} {v : Value} {Q : Value → Shared → Prop} (I : Inv g s₀ T env m W s) (hk : VarOk env x) (hv : m x = some v) (h : Q v s)
    (hd : (x == ("__debug__" : Str)) = false := by decide) : wpAny M A (eval (.Name x pos) env) Q E s := wpAny_Name (r_load I hk hv h) hd
theorem r_store {x : Str} {v : Value} {Q : Unit → Shared → Prop} (I : Inv g s₀ T env m W s) (hk : VarOk env x) (cw : CW env s₀ T)
    (h : ∀ s', Inv g s₀ T env (put m x v) W s' → Q () s') : wpAny M A (storeName env x v) Q E s := by
  rcases hk with hk | ⟨hk, hc⟩
  · obtain ⟨md, hn, hm⟩ := I.ns
    refine wpAny_storeName_local hk hn (fun h' hn' hs' => h _ ?_) (by rw [I.eo.fk]; rfl)
    have k : ∀ b ob, b ≠ env.locals → s.heap.get? b = some ob → h'.get? b = some ob := fun b ob hb e => hs'.extBut b ob hb e
    refine { eo := I.eo, ns := ⟨_, hn', fun y hy => ?_⟩, cell := fun q hq => ?_, led := fun p hp => k _ _ (I.offL.2.2 p hp) (I.led p hp), nd := I.nd, keep := fun b ob e => k _ _ (ne_of_off e I.offL.1) (I.keep b ob e),
             keep0 := fun b ob e ht => k _ _ (fun q => ?_) (I.keep0 b ob e ht), offL := I.offL, offC := I.offC, offW := I.offW, same := ?_ }
    · unfold put
      by_cases e : y = x
      · simp [e]
      · simp [e, hm y hy]
    · obtain ⟨oc, ho, hd⟩ := I.cell q hq
      refine ⟨oc, k _ _ (I.eo.capart q hq) ho, ?_⟩
      unfold put
      have e : q.1 ≠ x := fun e => I.eo.ckind q hq (e ▸ hk)
      rw [if_neg e]; exact hd
    · rcases I.offL.2.1 with h1 | h1
      · exact ht (q ▸ h1)
      · rw [q, h1] at e; cases e
    · obtain ⟨h, tk', e⟩ := I.same; subst e; exact ⟨_, _, rfl⟩
  · obtain ⟨c, hc⟩ := Option.isSome_iff_exists.mp hc
    have hmem : (x, c) ∈ env.cells := mem_of_lookup hc
    refine wpAny_storeName_cell I.eo.fk hk hc (I.cell _ hmem) fun h' hc' hs' => h _ ?_
    have k : ∀ b ob, b ≠ c → s.heap.get? b = some ob → h'.get? b = some ob := fun b ob hb e => hs'.extBut b ob hb e
    have hcL : env.locals ≠ c := Ne.symm (I.eo.capart _ hmem)
    refine { eo := I.eo, ns := ?_, cell := fun q hq => ?_, led := fun p hp => k _ _ ((I.offC _ hmem).2 p hp) (I.led p hp), nd := I.nd, keep := fun b ob e => k _ _ (ne_of_off e (I.offC _ hmem).1) (I.keep b ob e),
             keep0 := fun b ob e ht => k _ _ (fun q => ?_) (I.keep0 b ob e ht), offL := I.offL, offC := I.offC, offW := I.offW, same := ?_ }
    · obtain ⟨md, hn, hm⟩ := I.ns
      refine ⟨md, hn.at' (fun o e => k _ o hcL e), fun y hy => ?_⟩
      unfold put
      have e : y ≠ x := fun e => by rw [e, hk] at hy; cases hy
      rw [if_neg e]; exact hm y hy
    · unfold put
      by_cases e : q.1 = x
      · have : q = (x, c) := by
          by_cases hq2 : q.2 = c
          · exact Prod.ext e hq2
          · exfalso
            have hu := I.eo.uniq
            have : ∀ (l : List (Str × Addr)), l.Pairwise (fun x y => x.1 ≠ y.1) → q ∈ l → (x, c) ∈ l → q = (x, c) := by
              intro l hl h1 h2
              induction l with
              | nil => cases h1
              | cons p r ih =>
                obtain ⟨a1, a2⟩ := List.pairwise_cons.mp hl
                rcases List.mem_cons.mp h1 with e1 | k1 <;> rcases List.mem_cons.mp h2 with e2 | k2
                · exact e1.trans e2.symm
                · exact absurd (e1 ▸ e) (a1 _ k2)
                · exact absurd (e2 ▸ e.symm) (a1 _ k1)
                · exact ih a2 k1 k2
            have := this _ hu hq hmem
            rw [this] at hq2; exact hq2 rfl
        subst this
        rw [if_pos rfl]; exact hc'
      · rw [if_neg e]
        have hne : q.2 ≠ c := fun hq2 => by
          have := name_of_addr I.eo.apart (n := q.1) (n' := x) (c := c) (by rw [← hq2]; exact hq) hmem
          exact e this
        obtain ⟨oc, ho, hd⟩ := I.cell q hq
        exact ⟨oc, k _ _ hne ho, hd⟩
    · rcases cw _ hmem with h1 | h1
      · exact ht (q ▸ h1)
      · dsimp only at h1
        rw [q, h1] at e; cases e
    · obtain ⟨h, tk', e⟩ := I.same; subst e; exact ⟨_, _, rfl⟩
end
end Mine
end
section
open PySem PySem.W PyProof.Rows PySem.Calls
set_option Elab.async false
namespace Mine
noncomputable def NsM (g : Mp) (a : Addr) (m : Str → Option Value) : Prop := ∃ o es ep, g a = some o ∧ o.data = .dict es ep ∧ StrKeys es ∧ ∀ name, nsFind es name = m name
theorem NsM.at {g : Mp} {a : Addr} {m : Str → Option Value} {h : Heap} (x : NsM g a m) (k : ∀ a o, g a = some o → h.get? a = some o) : h.Ns a m := let ⟨o, es, ep, e, r⟩ := x; ⟨o, es, ep, k _ _ e, r⟩
theorem NsM.mono {g g' : Mp} {a : Addr} {m : Str → Option Value} (x : NsM g a m) (k : g.Le g') : NsM g' a m := let ⟨o, es, ep, e, r⟩ := x; ⟨o, es, ep, k _ _ e, r⟩
/-- what the top left -/
structure Bs (K : Frag) (g : Mp) : Prop where
  k : ∀ a o, K.lookup a = some o → g a = some o
  gl : ∃ mg, NsM g mainGlobals mg ∧ ∀ x v, nsIn K mainGlobals x = some v → mg x = v
  bl : ∃ mb, NsM g builtinsNs mb ∧ ∀ x : Str, x ≠ "__name__" → mb x = bootBuiltins x
  lim : ∃ mc, NsM g cStatics mc ∧ mc "sys.recursionlimit" = none
theorem Bs.mono {K : Frag} {g g' : Mp} (b : Bs K g) (le : g.Le g') : Bs K g' where
  k := fun a o e => le _ _ (b.k a o e)
  gl := let ⟨mg, a, c⟩ := b.gl; ⟨mg, a.mono le, c⟩
  bl := let ⟨mg, a, c⟩ := b.bl; ⟨mg, a.mono le, c⟩
  lim := let ⟨mg, a, c⟩ := b.lim; ⟨mg, a.mono le, c⟩
theorem Bs.of_top {K : Frag} {h : Heap} {p : Program} {loose : List Str} {mean : ExcName → Option Value} {mg mb : Str → Option Value} (X : K.In h) (T : Top p loose mean mg mb h) : Bs K h.get? where
  k := X
  gl := ⟨mg, T.g, fun x v e => by
    cases v with
    | none => exact mg_none_of X T.g e
    | some v => exact mg_of X T.g e⟩
  bl := ⟨mb, T.b, T.builtins⟩
  lim := T.nolimit
/-- room on the stack -/
structure Room (A : Around) (n : Nat) : Prop where
  hand : A.handled = none
  depth : A.depth + n < recursionLimit
  units : A.units + 10 * n < cLine
theorem Room.less {A : Around} {n k : Nat} (r : Room A n) (h : k ≤ n) : Room A k := ⟨r.hand, by have := r.depth; (first | lia | omega), by have := r.units; (first | lia | omega)⟩
theorem Room.deeper {A : Around} {n : Nat} (r : Room A (n + 1)) (env : Env) : Room (A.deeper env) n := ⟨r.hand, by have := r.depth; show A.depth + 1 + n < _; (first | lia | omega), by have := r.units; show A.units + 3 + 10 * n < _; (first | lia | omega)⟩
noncomputable abbrev lstO (vs : List Value) (n : Nat) : Obj := { cls := .type "list", data := .seq vs.toArray n }
noncomputable abbrev tupO (vs : List Value) (n : Nat) : Obj := { cls := .type "tuple", data := .seq vs.toArray n }
/-- data that stands -/
inductive Rd (g : Mp) : Value → PyData → Prop
  | none : Rd g .none .none
  | bool (b) : Rd g (.bool b) (.bool b)
  | int (i t) : Rd g (.int i t) (.int i)
  | str (x t) : Rd g (.str x t) (.str x)
  | list {a vs n xs} : g a = some (lstO vs n) → vs.length = xs.length → (∀ i (h : i < vs.length) (h' : i < xs.length), Rd g vs[i] xs[i]) → Rd g (.ref a) (.list xs)
  | tuple {a vs n xs} : g a = some (tupO vs n) → vs.length = xs.length → (∀ i (h : i < vs.length) (h' : i < xs.length), Rd g vs[i] xs[i]) → Rd g (.ref a) (.tuple xs)
noncomputable def RdAll (g : Mp) (vs : List Value) (ds : List PyData) : Prop := vs.length = ds.length ∧ ∀ i (h : i < vs.length) (h' : i < ds.length), Rd g vs[i] ds[i]
theorem RdAll.nil {g : Mp} : RdAll g [] [] := ⟨rfl, fun i h => absurd h (Nat.not_lt_zero _)⟩
theorem RdAll.cons {g : Mp} {v : Value} {vs : List Value} {d : PyData} {ds : List PyData} (h : Rd g v d) (r : RdAll g vs ds) : RdAll g (v :: vs) (d :: ds) :=
  ⟨by simp [r.1], fun i h1 h2 => by cases i with | zero => exact h | succ i => exact r.2 i (by simpa using h1) (by simpa using h2)⟩
theorem RdAll.uncons {g : Mp} {v : Value} {vs : List Value} {d : PyData} {ds : List PyData} (h : RdAll g (v :: vs) (d :: ds)) : Rd g v d ∧ RdAll g vs ds :=
  ⟨h.2 0 (by simp) (by simp), by simpa using h.1, fun i h1 h2 => h.2 (i + 1) (by simpa using h1) (by simpa using h2)⟩
theorem RdAll.append {g : Mp} : ∀ {vs : List Value} {ds : List PyData} {vs' : List Value} {ds' : List PyData}, RdAll g vs ds → RdAll g vs' ds' → RdAll g (vs ++ vs') (ds ++ ds')
  | [], [], _, _, _, r => r
  | [], _ :: _, _, _, h, _ => by simp [RdAll] at h
  | _ :: _, [], _, _, h, _ => by simp [RdAll] at h
  | _ :: _, _ :: _, _, _, h, r => RdAll.cons h.uncons.1 (RdAll.append h.uncons.2 r)
theorem RdAll.snoc {g : Mp} {vs : List Value} {ds : List PyData} {v : Value} {d : PyData} (h : RdAll g vs ds) (r : Rd g v d) : RdAll g (vs ++ [v]) (ds ++ [d]) := h.append (.cons r .nil)
inductive GetD (g : Mp) (v : Value) (ds : List PyData) (i : Nat) : Prop
  | mk (d : PyData) (e : ds[i]? = some d) (r : Rd g v d)
inductive GetV (g : Mp) (d : PyData) (vs : List Value) (i : Nat) : Prop
  | mk (v : Value) (e : vs[i]? = some v) (r : Rd g v d)
inductive UnL (g : Mp) (v : Value) (ds : List PyData) : Prop
  | mk (a : Addr) (vs : List Value) (n : Nat) (e : v = .ref a) (h : g a = some (lstO vs n)) (r : RdAll g vs ds)
inductive UnT (g : Mp) (v : Value) (ds : List PyData) : Prop
  | mk (a : Addr) (vs : List Value) (n : Nat) (e : v = .ref a) (h : g a = some (tupO vs n)) (r : RdAll g vs ds)
theorem RdAll.get {g : Mp} {vs : List Value} {ds : List PyData} (h : RdAll g vs ds) {i : Nat} {v : Value} (hv : vs[i]? = some v) : GetD g v ds i := by
  obtain ⟨hi, rfl⟩ := List.getElem?_eq_some_iff.mp hv
  have hi' : i < ds.length := h.1 ▸ hi
  exact ⟨_, List.getElem?_eq_getElem hi', h.2 i hi hi'⟩
theorem RdAll.get' {g : Mp} {vs : List Value} {ds : List PyData} (h : RdAll g vs ds) {i : Nat} {d : PyData} (hv : ds[i]? = some d) : GetV g d vs i := by
  obtain ⟨hi, rfl⟩ := List.getElem?_eq_some_iff.mp hv
  have hi' : i < vs.length := h.1 ▸ hi
  exact ⟨_, List.getElem?_eq_getElem hi', h.2 i hi' hi⟩
theorem Rd.mono {g g' : Mp} (le : g.Le g') {v : Value} {d : PyData} (h : Rd g v d) : Rd g' v d := by
  induction h with
  | none => exact .none
  | bool b => exact .bool b
  | int i t => exact .int i t
  | str x t => exact .str x t
  | list e l _ ih => exact .list (le _ _ e) l ih
  | tuple e l _ ih => exact .tuple (le _ _ e) l ih
theorem RdAll.mono {g g' : Mp} (le : g.Le g') {vs : List Value} {ds : List PyData} (h : RdAll g vs ds) : RdAll g' vs ds := ⟨h.1, fun i h1 h2 => (h.2 i h1 h2).mono le⟩
theorem readsAll_of {h : Heap} : ∀ {vs : List Value} {ds : List PyData}, vs.length = ds.length → (∀ i (h1 : i < vs.length) (h2 : i < ds.length), ∃ as, Reads h vs[i] ds[i] as) → ∃ as, ReadsAll h vs ds as
  | [], [], _, _ => ⟨_, .nil⟩
  | [], _ :: _, e, _ => by simp at e
  | _ :: _, [], e, _ => by simp at e
  | v :: vs, d :: ds, e, k => by
    obtain ⟨a, ha⟩ := k 0 (by simp) (by simp)
    obtain ⟨b, hb⟩ := readsAll_of (vs := vs) (ds := ds) (by simpa using e) fun i h1 h2 => k (i + 1) (by simpa using h1) (by simpa using h2)
    exact ⟨_, .cons ha hb⟩
theorem Rd.reads {g : Mp} {h : Heap} (k : ∀ a o, g a = some o → h.get? a = some o) {v : Value} {d : PyData} (r : Rd g v d) : ∃ as, Reads h v d as := by
  induction r with
  | none => exact ⟨_, .none⟩
  | bool b => exact ⟨_, .bool b⟩
  | int i t => exact ⟨_, .int i t⟩
  | str x t => exact ⟨_, .str x t⟩
  | list e l _ ih => obtain ⟨as, r⟩ := readsAll_of l ih; exact ⟨_, .list (k _ _ e) rfl rfl r⟩
  | tuple e l _ ih => obtain ⟨as, r⟩ := readsAll_of l ih; exact ⟨_, .tuple (k _ _ e) rfl rfl r⟩
theorem RdAll.reads {g : Mp} {h : Heap} (k : ∀ a o, g a = some o → h.get? a = some o) {vs : List Value} {ds : List PyData} (r : RdAll g vs ds) : ∃ as, ReadsAll h vs ds as :=
  readsAll_of r.1 fun i h1 h2 => (r.2 i h1 h2).reads k
theorem Rd.lst {g : Mp} {a : Addr} {vs : List Value} {n : Nat} {ds : List PyData} (h : g a = some (lstO vs n)) (r : RdAll g vs ds) : Rd g (.ref a) (.list ds) := .list h r.1 r.2
theorem Rd.tup {g : Mp} {a : Addr} {vs : List Value} {n : Nat} {ds : List PyData} (h : g a = some (tupO vs n)) (r : RdAll g vs ds) : Rd g (.ref a) (.tuple ds) := .tuple h r.1 r.2
theorem Rd.unlist {g : Mp} {v : Value} {ds : List PyData} (h : Rd g v (.list ds)) : UnL g v ds := by
  cases h with
  | list e l r => exact ⟨_, _, _, rfl, e, ⟨l, r⟩⟩
theorem Rd.untuple {g : Mp} {v : Value} {ds : List PyData} (h : Rd g v (.tuple ds)) : UnT g v ds := by
  cases h with
  | tuple e l r => exact ⟨_, _, _, rfl, e, ⟨l, r⟩⟩
theorem Rd.unstr {g : Mp} {v : Value} {x : Str} (h : Rd g v (.str x)) : ∃ t, v = .str x t := by cases h; exact ⟨_, rfl⟩
theorem Rd.unint {g : Mp} {v : Value} {x : Int} (h : Rd g v (.int x)) : ∃ t, v = .int x t := by cases h; exact ⟨_, rfl⟩
section
variable {M : Model} {A : Around} {E : Value → Shared → Prop} {g : Mp} {s₀ : Shared} {T : List Addr} {env : Env} {m : Str → Option Value} {W : List (Addr × Obj)} {s : Shared} {K : Frag}
/-- a global of the text -/
theorem r_glob {x : Str} {pos : Pos} {v : Value} {Q : Value → Shared → Prop} (I : Inv g s₀ T env m W s) (b : Bs K g) (hx : env.kindOf x = some .globalImplicit) (hg : env.globals = mainGlobals) (e : nsIn K mainGlobals x = some (some v)) (h : Q v s)
    (hd : (x == ("__debug__" : Str)) = false := by decide) : wpAny M A (eval (.Name x pos) env) Q E s := by
  obtain ⟨mg, hn, hm⟩ := b.gl
  exact Name_function_global I.eo.fk hx (loadGlobal_global (by rw [hg]; exact hn.at I.keep) (hm _ _ e) h) hd
/-- a built-in -/
theorem r_blt {x : Str} {pos : Pos} {v : Value} {Q : Value → Shared → Prop} (I : Inv g s₀ T env m W s) (b : Bs K g) (hx : env.kindOf x = some .globalImplicit) (hg : env.globals = mainGlobals) (hb : env.builtins = builtinsNs) (e : nsIn K mainGlobals x = some none)
    (hv : bootBuiltins x = some v) (hn : x ≠ "__name__") (h : Q v s)
    (hd : (x == ("__debug__" : Str)) = false := by decide) : wpAny M A (eval (.Name x pos) env) Q E s := by
  obtain ⟨mg, hn1, hm⟩ := b.gl
  obtain ⟨mb, hn2, hm2⟩ := b.bl
  exact Name_function_global I.eo.fk hx (loadGlobal_builtin (by rw [hg]; exact hn1.at I.keep) (hm _ _ e) (by rw [hb]; exact hn2.at I.keep) ((hm2 _ hn).trans hv) h) hd
end
theorem bindL_lookup {kd : Str → Option NameKind} {x : Str} (hx : kd x = some .local) : ∀ (binds : List (Str × Value)) (m : Str → Option Value), (binds.map (·.1)).Nodup → bindL kd binds m x = (binds.lookup x).or (m x)
  | [], m, _ => rfl
  | (n, v) :: r, m, h => by
    rw [bindL, bindL_lookup hx r _ (List.nodup_cons.mp h).2, List.lookup_cons]
    by_cases e : x = n
    · subst e
      have hnone : r.lookup x = none := by
        rw [List.lookup_eq_none_iff]
        intro p hp
        have := (List.nodup_cons.mp h).1
        simp only [bne_iff_ne, ne_eq]
        intro e
        exact this (List.mem_map.mpr ⟨p, hp, (by simpa using e.symm)⟩)
      simp [hx, hnone]
    · have hb : (x == n) = false := by simpa using e
      rw [hb]
      by_cases hn : kd n = some .local
      · simp [hn, e]
      · simp [hn]
theorem bindC_lookup {kd : Str → Option NameKind} {x : Str} (hx : kd x ≠ some .local) : ∀ (binds : List (Str × Value)) (m : Str → Option Value), (binds.map (·.1)).Nodup → bindC kd binds m x = (binds.lookup x).or (m x)
  | [], m, _ => rfl
  | (n, v) :: r, m, h => by
    rw [bindC, bindC_lookup hx r _ (List.nodup_cons.mp h).2, List.lookup_cons]
    by_cases e : x = n
    · subst e
      have hnone : r.lookup x = none := by
        rw [List.lookup_eq_none_iff]
        intro p hp
        have := (List.nodup_cons.mp h).1
        simp only [bne_iff_ne, ne_eq]
        intro e
        exact this (List.mem_map.mpr ⟨p, hp, (by simpa using e.symm)⟩)
      simp [hx, hnone]
    · have hb : (x == n) = false := by simpa using e
      rw [hb]
      by_cases hn : kd n = some .local
      · simp [hn]
      · simp [hn, e]
end Mine
end
section
open PySem PySem.W PyProof.Rows PySem.Calls
set_option Elab.async false
namespace Mine
theorem cellsFrom_fst : ∀ (names : List (Str × NameKind)) (n k : Nat) (acc acc' : List (Str × Addr)), acc.map (·.1) = acc'.map (·.1) → (cellsFrom n names acc).map (·.1) = (cellsFrom k names acc').map (·.1)
  | [], _, _, _, _, h => h
  | (x, kd) :: r, n, k, acc, acc', h => by
    unfold cellsFrom
    by_cases hk : (kd == NameKind.cell) = true
    · rw [if_pos hk, if_pos hk]
      exact cellsFrom_fst r _ _ _ _ (by simp [h])
    · rw [if_neg hk, if_neg hk]
      exact cellsFrom_fst r _ _ _ _ h
noncomputable def NoE : Value → Shared → Prop := fun _ _ => False
noncomputable abbrev retV : Flow → Value
  | .ret v => v
  | _ => .none
section
variable {prog : Program} {w : World} {A : Around} {E : Value → Shared → Prop} {g : Mp} {s : Shared} {K : Frag}
/-- a def of the text is called -/
theorem r_call {f : Addr} {fd : FuncData} {body : List Stmt} {vals : List Value} {binds : List (Str × Value)} {names : List Str} {oc : Value} {od : Option Addr} {osl : Array (Option Value)} {n : Nat} {Q : Value → Shared → Prop}
    (r : Room A n) (b : Bs K g) (hg : ∀ a o, g a = some o → s.heap.get? a = some o) (ho : K.lookup f = some ⟨oc, od, .func fd, osl⟩) (hcd : codeIn K fd.code fd.qualname = true) (hbody : fd.body = .stmts body)
    (hbind : bindArgs fd ⟨vals, []⟩ = pure binds) (hclo : fd.closure = []) (hn : binds.map (·.1) = names)
    (hkind : (names.all fun y => fd.scope.names.lookup y == some .local || fd.scope.names.lookup y == some .cell) = true) (hnn : names.Nodup) (hcn : ((cellsFrom 0 fd.scope.names []).map (·.1)).Nodup)
    (hck : (((cellsFrom 0 fd.scope.names []).map (·.1)).all fun q => fd.scope.names.lookup q != some .local) = true)
    (h : ∀ L s₁, Inv g s [] (callEnvC fd L f) (fun x => binds.lookup x) [] s₁ → CW (callEnvC fd L f) s [] →
      wpAny (model prog w) (A.deeper (callEnvC fd L f)) (execs body (callEnvC fd L f)) (fun fl s' => Q (retV fl) s') NoE s₁)
    (hco : fd.scope.isCoroutine = false := by rfl) (hgen : fd.scope.isGenerator = false := by rfl) (hk : fd.scope.kind = .function := by rfl) :
    wpAny (model prog w) A (call (.ref f) vals) Q E s := by
  obtain ⟨mc, hmc, hl⟩ := b.lim
  have hX : K.In s.heap := fun a o e => hg _ _ (b.k a o e)
  refine wpAny_call (codeAny_call_cells (by have := r.depth; (first | lia | omega)) (hX _ _ ho) rfl ⟨mc, hmc.at hg, hl⟩ (codeRec_of hX hcd) hbody hbind hclo ?_ (fun s₁ x => ?_) hco hgen hk)
  · intro y hy
    have hm : y.1 ∈ names := hn ▸ List.mem_map_of_mem hy
    have := List.all_eq_true.mp hkind _ hm
    rcases Bool.or_eq_true_iff.mp this with q | q
    · exact .inl (by simpa using q)
    · have q' : fd.scope.names.lookup y.1 = some .cell := by simpa using q
      exact .inr ⟨q', cellsFrom_some _ _ _ (.inl q')⟩
  · have hfst : (callEnvC fd s.heap.objs.size f).cells.map (·.1) = (cellsFrom 0 fd.scope.names []).map (·.1) := cellsFrom_fst _ _ _ _ _ rfl
    have hcn' : ((callEnvC fd s.heap.objs.size f).cells.map (·.1)).Nodup := hfst ▸ hcn
    have hkd : ∀ y, (callEnvC fd s.heap.objs.size f).kindOf y = fd.scope.names.lookup y := fun _ => rfl
    have hck' : ∀ q ∈ (callEnvC fd s.heap.objs.size f).cells, (callEnvC fd s.heap.objs.size f).kindOf q.1 ≠ some .local := fun q hq => by
      have hm : q.1 ∈ (cellsFrom 0 fd.scope.names []).map (·.1) := hfst ▸ List.mem_map_of_mem hq
      have := List.all_eq_true.mp hck _ hm
      simpa [hkd] using this
    have hnd : (binds.map (·.1)).Nodup := hn ▸ hnn
    have hLe : ∀ a o, s.heap.get? a = some o → s₁.heap.get? a = some o := x.toInCall.keep
    have newOf : ∀ a, s.heap.objs.size ≤ a → s.heap.get? a = none := fun a ha => by
      cases e : s.heap.get? a with
      | none => rfl
      | some o => exact absurd (Heap.lt_size e) (Nat.not_lt.mpr ha)
    have offOf : ∀ a, s.heap.get? a = none → g a = none := fun a ha => by
      cases e : g a with
      | none => rfl
      | some o => rw [hg _ _ e] at ha; cases ha
    have hL : (callEnvC fd s.heap.objs.size f).locals = s.heap.objs.size := rfl
    refine wpAny_mono (h s.heap.objs.size s₁ ?_ ?_) (fun fl s' hq => hq) fun _ _ e => e.elim
    · refine { eo := ⟨hk, x.apart, ?_, ?_, hck'⟩, ns := ⟨_, x.toInCall.ns, fun y hy => ?_⟩, cell := fun q hq => ?_, led := fun _ hp => (nomatch hp), nd := .nil, keep := fun a o e => hLe _ _ (hg _ _ e), keep0 := fun a o e _ => hLe _ _ e,
               offL := ⟨offOf _ (newOf _ (Nat.le_refl _)), .inr (newOf _ (Nat.le_refl _)), fun _ hp => (nomatch hp)⟩, offC := fun q hq => ⟨offOf _ (newOf _ (Nat.le_of_lt (x.above q.1 q.2 hq))), fun _ hp => (nomatch hp)⟩, offW := fun _ hp => (nomatch hp),
               same := let ⟨h1, tk, e⟩ := x.toInCall.same; ⟨h1, tk, e⟩ }
      · exact List.pairwise_map.mp hcn'
      · intro q hq; exact Nat.ne_of_gt (x.above q.1 q.2 hq)
      · rw [bindL_lookup hy _ _ hnd]; simp
      · have hlk : (callEnvC fd s.heap.objs.size f).cells.lookup q.1 = some q.2 := lookup_of_mem_nodup hcn' hq
        have := x.cell q.1 q.2 hlk
        rw [bindC_lookup (hck' q hq) _ _ hnd] at this
        simpa using this
    · intro q hq
      exact .inr (newOf _ (Nat.le_of_lt (x.above q.1 q.2 hq)))
end
end Mine
end
section
open PySem PySem.W PyProof.Rows PySem.Calls
set_option Elab.async false
namespace Mine
/-- an iterator whose state is its own object, over data that stand -/
structure Wk (prog : Program) (w : World) (A : Around) (g : Mp) (Ia : Addr) (n : Nat) (P : Nat → Value → Prop) (St : Nat → Obj → Prop) : Prop where
  item : ∀ i (s : Shared) (o : Obj) (Q : Option Value → Shared → Prop) (E : Value → Shared → Prop), i < n → St i o → s.heap.get? Ia = some o → (∀ a ob, g a = some ob → s.heap.get? a = some ob) →
    (∀ v o' h' tk, P i v → St (i + 1) o' → h'.get? Ia = some o' → (∀ b ob, b ≠ Ia → s.heap.get? b = some ob → h'.get? b = some ob) → Q (some v) { s with heap := h', toks := tk }) → wpAny (model prog w) A (pyNext (.ref Ia)) Q E s
  done : ∀ (s : Shared) (o : Obj) (Q : Option Value → Shared → Prop) (E : Value → Shared → Prop), St n o → s.heap.get? Ia = some o → (∀ a ob, g a = some ob → s.heap.get? a = some ob) →
    (∀ h' tk, (∀ b ob, b ≠ Ia → s.heap.get? b = some ob → h'.get? b = some ob) → Q none { s with heap := h', toks := tk }) → wpAny (model prog w) A (pyNext (.ref Ia)) Q E s
  self : ∀ i (s : Shared) (o : Obj) (Q : Value → Shared → Prop) (E : Value → Shared → Prop), St i o → s.heap.get? Ia = some o → Q (.ref Ia) s → wpAny (model prog w) A (pyIter (.ref Ia)) Q E s
/-- a value that is walked: n items -/
noncomputable def Itr (prog : Program) (w : World) (g : Mp) (xv : Value) (n : Nat) (P : Nat → Value → Prop) : Prop :=
  ∀ (A : Around) (s : Shared) (Q : Value → Shared → Prop) (E : Value → Shared → Prop), A.handled = none → (∀ a ob, g a = some ob → s.heap.get? a = some ob) →
    (∀ (o : Obj) (St : Nat → Obj → Prop), o.isFreed = false → (∀ (A' : Around) (g' : Mp), A'.handled = none → g.Le g' → Wk prog w A' g' s.heap.objs.size n P St) → St 0 o → Q (.ref s.heap.objs.size) { s with heap := s.heap.push o }) →
    wpAny (model prog w) A (pyIter xv) Q E s
section
variable {prog : Program} {w : World}
theorem itr_list {g : Mp} {l : Addr} {o : Obj} {items : Array Value} {n : Nat} (e : g l = some o) (hc : o.cls = .type "list") (hd : o.data = .seq items n) :
    Itr prog w g (.ref l) items.size (fun i v => items[i]? = some v) := fun A s Q E hh hg h => by
  have hl : ∀ {h : Heap}, (∀ a ob, g a = some ob → h.get? a = some ob) → h.IsList l items := fun k => ⟨o, k _ _ e, hc, n, hd⟩
  refine wpAny_pyIter_list (hl hg) (h _ (fun i o => o.cls = .type "list_iterator" ∧ o.data = .fields #[.ref l, .int i 0]) rfl (fun A' g' hA le => ?_) ⟨rfl, rfl⟩)
  refine ⟨fun i s o Q E hi st ho hg' hQ => ?_, fun s o Q E st ho hg' hQ => ?_, fun i s o Q E st ho hQ => wpAny_pyIter_listiter ⟨o, ho, st.1, st.2⟩ hQ⟩
  · refine wpAny_pyNext_list_item ⟨o, ho, st.1, st.2⟩ (hl fun a ob q => hg' _ _ (le _ _ q)) (x := items[i]) (by simp [hi]) fun h' hit' hs' => ?_
    obtain ⟨o', ho', hc', hd'⟩ := hit'
    exact hQ _ o' h' _ (by simp [hi]) ⟨hc', hd'⟩ ho' fun b ob hb q => hs'.extBut b ob hb q
  · exact wpAny_pyNext_list_end hA ⟨o, ho, st.1, st.2⟩ (hl fun a ob q => hg' _ _ (le _ _ q)) (by simp) fun h' he' => hQ h' s.toks fun b ob hb q => he' b ob hb q
theorem itr_tuple {g : Mp} {l : Addr} {o : Obj} {items : Array Value} {n : Nat} (e : g l = some o) (hc : o.cls = .type "tuple") (hd : o.data = .seq items n) :
    Itr prog w g (.ref l) items.size (fun i v => items[i]? = some v) := fun A s Q E hh hg h => by
  have hl : ∀ {h : Heap}, (∀ a ob, g a = some ob → h.get? a = some ob) → h.IsTuple l items := fun k => ⟨o, k _ _ e, hc, n, hd⟩
  refine wpAny_pyIter_tuple (hl hg) (h _ (fun i o => o.cls = .type "tuple_iterator" ∧ o.data = .fields #[.ref l, .int i 0]) rfl (fun A' g' hA le => ?_) ⟨rfl, rfl⟩)
  refine ⟨fun i s o Q E hi st ho hg' hQ => ?_, fun s o Q E st ho hg' hQ => ?_, fun i s o Q E st ho hQ => wpAny_pyIter_tupleiter ⟨o, ho, st.1, st.2⟩ hQ⟩
  · refine wpAny_pyNext_tuple_item ⟨o, ho, st.1, st.2⟩ (hl fun a ob q => hg' _ _ (le _ _ q)) (x := items[i]) (by simp [hi]) fun h' hit' hs' => ?_
    obtain ⟨o', ho', hc', hd'⟩ := hit'
    exact hQ _ o' h' _ (by simp [hi]) ⟨hc', hd'⟩ ho' fun b ob hb q => hs'.extBut b ob hb q
  · exact wpAny_pyNext_tuple_end hA ⟨o, ho, st.1, st.2⟩ (hl fun a ob q => hg' _ _ (le _ _ q)) (by simp) fun h' he' => hQ h' s.toks fun b ob hb q => he' b ob hb q
theorem itr_str {g : Mp} {x : Str} {t : Tok} : Itr prog w g (.str x t) x.cps.size (SignAt x) := fun A s Q E hh hg h => by
  cases ha : x.cps.all (· < 128)
  · refine wpAny_pyIter_wide ha (h _ (fun i o => o.cls = .type "str_iterator" ∧ o.data = .fields #[.str x t, .int i 0]) rfl (fun A' g' hA le => ?_) ⟨rfl, rfl⟩)
    refine ⟨fun i s o Q E hi st ho hg' hQ => ?_, fun s o Q E st ho hg' hQ => ?_, fun i s o Q E st ho hQ => wpAny_pyIter_striter_wide ⟨o, ho, st.1, st.2⟩ hQ⟩
    · refine wpAny_pyNext_wide_item ⟨o, ho, st.1, st.2⟩ (c := x.cps[i]) (by simp [hi]) fun h' hit' hs' => ?_
      obtain ⟨o', ho', hc', hd'⟩ := hit'
      exact hQ _ o' h' _ ⟨_, _, by simp [hi], rfl⟩ ⟨hc', hd'⟩ ho' fun b ob hb q => hs'.extBut b ob hb q
    · exact wpAny_pyNext_wide_end hA ⟨o, ho, st.1, st.2⟩ (by simp) fun h' he' => hQ h' s.toks fun b ob hb q => he' b ob hb q
  · refine wpAny_pyIter_ascii ha (h _ (fun i o => o.cls = .type "str_ascii_iterator" ∧ o.data = .fields #[.str x t, .int i 0]) rfl (fun A' g' hA le => ?_) ⟨rfl, rfl⟩)
    refine ⟨fun i s o Q E hi st ho hg' hQ => ?_, fun s o Q E st ho hg' hQ => ?_, fun i s o Q E st ho hQ => wpAny_pyIter_striter_ascii ⟨o, ho, st.1, st.2⟩ hQ⟩
    · refine wpAny_pyNext_ascii_item ⟨o, ho, st.1, st.2⟩ (c := x.cps[i]) (by simp [hi]) fun h' hit' hs' => ?_
      obtain ⟨o', ho', hc', hd'⟩ := hit'
      exact hQ _ o' h' _ ⟨_, _, by simp [hi], rfl⟩ ⟨hc', hd'⟩ ho' fun b ob hb q => hs'.extBut b ob hb q
    · exact wpAny_pyNext_ascii_end hA ⟨o, ho, st.1, st.2⟩ (by simp) fun h' he' => hQ h' s.toks fun b ob hb q => he' b ob hb q
end
section
variable {g : Mp} {s₀ : Shared} {T : List Addr} {env : Env} {m : Str → Option Value} {W : List (Addr × Obj)} {s : Shared}
theorem Inv.lose {a : Addr} {o : Obj} (I : Inv g s₀ T env m ((a, o) :: W) s) {h' : Heap} {tk : Nat} (k : ∀ b ob, b ≠ a → s.heap.get? b = some ob → h'.get? b = some ob) : Inv g s₀ T env m W { s with heap := h', toks := tk } := by
  have hm : (a, o) ∈ (a, o) :: W := .head _
  have J := I.tail
  have nd := (List.pairwise_cons.mp I.nd).1
  exact
  { eo := I.eo
    ns := let ⟨md, hn, b⟩ := I.ns; ⟨md, hn.at' (fun ob e => k _ ob (Ne.symm (I.offL.2.2 _ hm)) e), b⟩
    cell := fun q hq => let ⟨oc, ho, hd⟩ := I.cell q hq; ⟨oc, k _ _ (Ne.symm ((I.offC q hq).2 _ hm)) ho, hd⟩
    led := fun p hp => k _ _ (Ne.symm (nd p hp)) (J.led p hp)
    nd := J.nd
    keep := fun b ob hb => k _ _ (ne_of_off hb (I.offW _ hm).1) (I.keep b ob hb)
    keep0 := fun b ob hb ht => by
      refine k _ _ (fun q => ?_) (I.keep0 b ob hb ht)
      rcases (I.offW _ hm).2 with h | h
      · exact ht (q ▸ h)
      · rw [q] at hb; exact absurd (h.symm.trans hb) (by simp)
    offL := J.offL
    offC := J.offC
    offW := J.offW
    same := by obtain ⟨h, tk', e⟩ := I.same; subst e; exact ⟨_, _, rfl⟩ }
end
section
variable {prog : Program} {w : World} {A : Around} {E : Value → Shared → Prop} {g : Mp} {s₀ : Shared} {T : List Addr} {env : Env} {m : Str → Option Value} {W : List (Addr × Obj)} {s : Shared}
/-- the end of a loop's turn -/
noncomputable def Tn (C : Shared → Prop) (Q : Flow → Shared → Prop) (fl : Flow) (s' : Shared) : Prop := match fl with
  | .next | .cont => C s'
  | .brk => Q .next s'
  | .ret v => Q (.ret v) s'
inductive TnI (g₁ : Mp) (J : Mp → (Str → Option Value) → List (Addr × Obj) → Prop) (s₀ : Shared) (T : List Addr) (env : Env) (It : Addr × Obj) (s' : Shared) : Prop
  | mk (g' : Mp) (m' : Str → Option Value) (W' : List (Addr × Obj)) (le : g₁.Le g') (h : J g' m' W') (I : Inv g' s₀ T env m' (It :: W') s')
inductive WhE (J : Nat → Mp → (Str → Option Value) → List (Addr × Obj) → Prop) (k : Nat) (s₀ : Shared) (T : List Addr) (env : Env) (s' : Shared) : Prop
  | mk (k' : Nat) (g' : Mp) (m' : Str → Option Value) (W' : List (Addr × Obj)) (lt : k' < k) (h : J k' g' m' W') (I : Inv g' s₀ T env m' W' s')
inductive WhK (J : Nat → Mp → (Str → Option Value) → List (Addr × Obj) → Prop) (s₀ : Shared) (T : List Addr) (env : Env) (k : Nat) (s' : Shared) : Prop
  | mk (g : Mp) (m : Str → Option Value) (W : List (Addr × Obj)) (h : J k g m W) (I : Inv g s₀ T env m W s')
inductive ForP (prog : Program) (w : World) (A : Around) (s₀ : Shared) (T : List Addr) (env : Env) (target : Expr) (body : List Stmt) (Q : Flow → Shared → Prop) (xv : Value) (s₁ : Shared) : Prop
  | mk (n : Nat) (P : Nat → Value → Prop) (J : Nat → Mp → (Str → Option Value) → List (Addr × Obj) → Prop) (g₁ : Mp) (m₁ : Str → Option Value) (W₁ : List (Addr × Obj)) (I : Inv g₁ s₀ T env m₁ W₁ s₁) (it : Itr prog w g₁ xv n P) (h0 : J 0 g₁ m₁ W₁)
      (turn : ∀ i v g m W It s, i < n → P i v → g₁.Le g → J i g m W → Inv g s₀ T env m (It :: W) s →
        wpAny (model prog w) A (assign target env v) (fun _ s => wpAny (model prog w) A (execs body env) (Tn (TnI g₁ (J (i + 1)) s₀ T env It) Q) NoE s) NoE s)
      (done : ∀ g m W s, g₁.Le g → J n g m W → Inv g s₀ T env m W s → Q .next s) : ForP prog w A s₀ T env target body Q xv s₁
inductive ForK (s₀ : Shared) (T : List Addr) (env : Env) (n : Nat) (J : Nat → Mp → (Str → Option Value) → List (Addr × Obj) → Prop) (St : Nat → Obj → Prop) (g₁ : Mp) (a : Addr) (k : Nat) (s' : Shared) : Prop
  | mk (i : Nat) (g : Mp) (m : Str → Option Value) (W : List (Addr × Obj)) (o : Obj) (e : k = n + 1 - i) (hle : i ≤ n) (le : g₁.Le g) (hJ : J i g m W) (I : Inv g s₀ T env m ((a, o) :: W) s') (hst : St i o)
theorem r_forG {target iter : Expr} {body : List Stmt} {pos : Pos} {Q : Flow → Shared → Prop} (hh : A.handled = none)
    (hiter : wpAny (model prog w) A (eval iter env) (fun xv s₁ => ForP prog w A s₀ T env target body Q xv s₁) E s)
    (hs : ∀ x, foldedSetIterable iter env x = pure x) (ht : ∀ it v, letOwnedTupleGo target it v = pure ()) :
    wpAny (model prog w) A (exec (.For target iter body [] pos) env) Q E s := by
  refine wpAny_For (wpAny_mono hiter (fun xv s₁ h₁ => ?_) fun _ _ e => e) hs
  obtain ⟨n, P, J, g₁, m₁, W₁, I₁, hi, h0, turn, done⟩ := h₁
  refine hi A s₁ _ _ hh I₁.keep fun o St hf hW hst => ?_
  have hW' := hW A g₁ hh (Mp.Le.refl _)
  refine codeAny_forLoop (ForK s₀ T env n J St g₁ s₁.heap.objs.size) ?_ (n + 1) ⟨0, g₁, m₁, W₁, o, rfl, Nat.zero_le _, Mp.Le.refl _, h0, I₁.alloc hf, hst⟩ (fun v => ht _ v)
  rintro k s' ⟨i, g, m, W, o, rfl, hle, le, hJ, I, hst⟩
  have hat : s'.heap.get? s₁.heap.objs.size = some o := I.led _ (.head _)
  have hg₁ : ∀ a ob, g₁ a = some ob → s'.heap.get? a = some ob := fun a ob e => I.keep _ _ (le _ _ e)
  by_cases hlt : i < n
  · refine hW'.item i s' o _ _ hlt hst hat hg₁ fun v o' h' tk hP hst' hat' hk => ?_
    have I' := I.chg (o' := o') (tk := tk) Sel.head hk hat'
    refine wpAny_mono (turn i v g m W _ _ hlt hP le hJ I') (fun _ s₂ h₂ => ?_) fun _ _ e => e.elim
    refine wpAny_mono h₂ (fun fl s₃ h₃ => ?_) fun _ _ e => e.elim
    cases fl with
    | next => obtain ⟨g', m', W', le', hJ', I''⟩ := h₃; exact ⟨n + 1 - (i + 1), by (first | lia | omega), i + 1, g', m', W', o', rfl, hlt, le', hJ', I'', hst'⟩
    | cont => obtain ⟨g', m', W', le', hJ', I''⟩ := h₃; exact ⟨n + 1 - (i + 1), by (first | lia | omega), i + 1, g', m', W', o', rfl, hlt, le', hJ', I'', hst'⟩
    | brk => exact h₃
    | ret v => exact h₃
  · have hin : i = n := by (first | lia | omega)
    subst hin
    refine hW'.done s' o _ _ hst hat hg₁ fun h' tk hk => wpAny_execs_nil ?_
    exact done g m W _ le hJ (I.lose hk)
theorem r_while {test : Expr} {body : List Stmt} {pos : Pos} {Q : Flow → Shared → Prop}
    (J : Nat → Mp → (Str → Option Value) → List (Addr × Obj) → Prop)
    (n : Nat) (I₀ : Inv g s₀ T env m W s) (h0 : J n g m W)
    (turn : ∀ k g m W s, J k g m W → Inv g s₀ T env m W s →
      wpAny (model prog w) A (isTrue test env (eval test env)) (fun b s₂ =>
        if b then wpAny (model prog w) A (execs body env) (Tn (WhE J k s₀ T env) Q) NoE s₂
        else Q .next s₂) NoE s) :
    wpAny (model prog w) A (exec (.While test body [] pos) env) Q E s := by
  refine wpAny_While ?_
  refine codeAny_whileLoop (WhK J s₀ T env) ?_ n ⟨g, m, W, h0, I₀⟩
  rintro k s' ⟨g, m, W, hJ, I⟩
  refine wpAny_mono (turn k g m W s' hJ I) (fun b s₂ h₂ => ?_) fun _ _ e => e.elim
  cases b with
  | false => simp only [Bool.false_eq_true, if_false] at h₂ ⊢; exact wpAny_execs_nil h₂
  | true =>
    simp only [if_true] at h₂ ⊢
    refine wpAny_mono h₂ (fun fl s₃ h₃ => ?_) fun _ _ e => e.elim
    cases fl with
    | next => obtain ⟨k', g', m', W', hk, hJ', I''⟩ := h₃; exact ⟨k', hk, g', m', W', hJ', I''⟩
    | cont => obtain ⟨k', g', m', W', hk, hJ', I''⟩ := h₃; exact ⟨k', hk, g', m', W', hJ', I''⟩
    | brk => exact h₃
    | ret v => exact h₃
end
end Mine
end
section
open PySem PySem.W PyProof.Rows PySem.Calls
set_option Elab.async false
namespace Mine
noncomputable def fdAt (K : Frag) (f : Addr) : FuncData := match K.lookup f with
  | some ⟨_, _, .func fd, _⟩ => fd
  | _ => default
noncomputable def okIn (l : List (Str × NameKind)) (x : Str) : Bool := match l.lookup x with
  | some .local => true
  | some .cell => true
  | _ => false
/-- a block's names -/
structure EnvL (env : Env) (l : List (Str × NameKind)) : Prop where
  names : env.scope.names = l
  glob : env.globals = mainGlobals
  blt : env.builtins = builtinsNs
  cells : ∀ x, l.lookup x = some .cell → (env.cells.lookup x).isSome = true
theorem EnvL.var {env : Env} {l : List (Str × NameKind)} {x : Str} (e : EnvL env l) (hx : okIn l x = true) : VarOk env x := by
  unfold okIn at hx
  split at hx
  · rename_i q; exact .inl ((congrArg (·.lookup x) e.names).trans q)
  · rename_i q; exact .inr ⟨(congrArg (·.lookup x) e.names).trans q, e.cells x q⟩
  · cases hx
structure Blt (K : Frag) (x : Str) (v : Value) : Prop where
  miss : nsIn K mainGlobals x = some none
  boot : bootBuiltins x = some v
  ne : x ≠ "__name__"
  nd : (x == ("__debug__" : Str)) = false
structure Glo (K : Frag) (x : Str) (v : Value) : Prop where
  hit : nsIn K mainGlobals x = some (some v)
  nd : (x == ("__debug__" : Str)) = false
section
variable {M : Model} {A : Around} {E : Value → Shared → Prop} {g : Mp} {s₀ : Shared} {T : List Addr} {env : Env} {m : Str → Option Value} {W : List (Addr × Obj)} {s : Shared} {K : Frag} {l : List (Str × NameKind)}
theorem n_var {x : Str} {pos : Pos} {v : Value} {Q : Value → Shared → Prop} (e : EnvL env l) (I : Inv g s₀ T env m W s) (hx : okIn l x = true) (hv : m x = some v) (h : Q v s)
    (hd : (x == ("__debug__" : Str)) = false := by decide) : wpAny M A (eval (.Name x pos) env) Q E s := r_name I (e.var hx) hv h hd
theorem n_load {x : Str} {v : Value} {Q : Value → Shared → Prop} (e : EnvL env l) (I : Inv g s₀ T env m W s) (hx : okIn l x = true) (hv : m x = some v) (h : Q v s) : wpAny M A (loadName env x) Q E s := r_load I (e.var hx) hv h
theorem n_store {x : Str} {v : Value} {Q : Unit → Shared → Prop} (e : EnvL env l) (cw : CW env s₀ T) (I : Inv g s₀ T env m W s) (hx : okIn l x = true) (h : ∀ s', Inv g s₀ T env (put m x v) W s' → Q () s') : wpAny M A (storeName env x v) Q E s := r_store I (e.var hx) cw h
theorem n_glo {x : Str} {pos : Pos} {v : Value} {Q : Value → Shared → Prop} (e : EnvL env l) (I : Inv g s₀ T env m W s) (b : Bs K g) (G : Glo K x v) (hx : l.lookup x = some .globalImplicit) (h : Q v s) : wpAny M A (eval (.Name x pos) env) Q E s :=
  r_glob I b ((congrArg (·.lookup x) e.names).trans hx) e.glob G.hit h G.nd
theorem n_blt {x : Str} {pos : Pos} {v : Value} {Q : Value → Shared → Prop} (e : EnvL env l) (I : Inv g s₀ T env m W s) (b : Bs K g) (B : Blt K x v) (hx : l.lookup x = some .globalImplicit) (h : Q v s) : wpAny M A (eval (.Name x pos) env) Q E s :=
  r_blt I b ((congrArg (·.lookup x) e.names).trans hx) e.glob e.blt B.miss B.boot B.ne h B.nd
end
noncomputable def fnOk (l : List (Str × NameKind)) (ps : List Str) : Bool :=
  (ps.all fun y => l.lookup y == some .local || l.lookup y == some .cell) && decide ps.Nodup && decide ((cellsFrom 0 l []).map (·.1)).Nodup && ((cellsFrom 0 l []).map (·.1)).all fun q => l.lookup q != some .local
/-- a def of the text -/
structure Fn (K : Frag) (f : Addr) (fd : FuncData) (l : List (Str × NameKind)) (ps : List Str) (body : List Stmt) : Prop where
  ho : K.lookup f = some ⟨.type "function", none, .func fd, #[]⟩
  hcd : codeIn K fd.code fd.qualname = true
  hbody : fd.body = .stmts body
  hclo : fd.closure = []
  hl : fd.scope.names = l
  hgl : fd.globals = mainGlobals
  hbl : fd.builtins = builtinsNs
  hco : fd.scope.isCoroutine = false
  hgen : fd.scope.isGenerator = false
  hk : fd.scope.kind = .function
  ok : fnOk l ps = true
section
variable {prog : Program} {w : World} {A : Around} {E : Value → Shared → Prop} {g : Mp} {s : Shared} {K : Frag}
theorem r_def {f : Addr} {fd : FuncData} {body : List Stmt} {l : List (Str × NameKind)} {ps : List Str} (F : Fn K f fd l ps body) {vals : List Value} {n : Nat} {Q : Value → Shared → Prop}
    (r : Room A n) (b : Bs K g) (hg : ∀ a o, g a = some o → s.heap.get? a = some o) (hlen : vals.length = ps.length)
    (hbind : bindArgs fd ⟨vals, []⟩ = pure (ps.zip vals))
    (h : ∀ env s₁, EnvL env l → Room (A.deeper env) (n - 1) → Inv g s [] env (fun x => (ps.zip vals).lookup x) [] s₁ → CW env s [] →
      wpAny (model prog w) (A.deeper env) (execs body env) (fun fl s' => Q (retV fl) s') NoE s₁) (hn : 0 < n := by decide) :
    wpAny (model prog w) A (call (.ref f) vals) Q E s := by
  have ok := F.ok
  unfold fnOk at ok
  simp only [Bool.and_eq_true, decide_eq_true_eq] at ok
  refine r_call (names := ps) r b hg F.ho F.hcd F.hbody hbind F.hclo ?_ (F.hl.symm ▸ ok.1.1.1) ok.1.1.2 (F.hl.symm ▸ ok.1.2) (F.hl.symm ▸ ok.2) (fun L s₁ I cw => h _ s₁ ⟨F.hl, F.hgl, F.hbl, fun x q => ?_⟩ ?_ I cw) F.hco F.hgen F.hk
  · rw [List.map_fst_zip]
    (first | lia | omega)
  · exact cellsFrom_some _ _ _ (.inl (F.hl.symm ▸ q))
  · obtain ⟨k, rfl⟩ : ∃ k, n = k + 1 := ⟨n - 1, by (first | lia | omega)⟩
    exact r.deeper _
end
section
variable {M : Model} {A : Around} {E : Value → Shared → Prop} {env : Env}
noncomputable def Sq (M : Model) (A : Around) (env : Env) (rest : List Stmt) (Q : Flow → Shared → Prop) (E : Value → Shared → Prop) (f : Flow) (s' : Shared) : Prop := match f with
  | .next => wpAny M A (execs rest env) Q E s'
  | f => Q f s'
theorem x_cons {st : Stmt} {rest : List Stmt} {Q : Flow → Shared → Prop} {s : Shared} (h : wpAny M A (exec st env) (Sq M A env rest Q E) E s) : wpAny M A (execs (st :: rest) env) Q E s :=
  wpAny_execs_cons (wpAny_mono h (fun f s' hf => by cases f <;> exact hf) fun _ _ e => e)
theorem Sq.next {rest : List Stmt} {Q : Flow → Shared → Prop} {s : Shared} (h : wpAny M A (execs rest env) Q E s) : Sq M A env rest Q E .next s := h
theorem Sq.ret {rest : List Stmt} {Q : Flow → Shared → Prop} {s : Shared} {v : Value} (h : Q (.ret v) s) : Sq M A env rest Q E (.ret v) s := h
theorem Sq.cont {rest : List Stmt} {Q : Flow → Shared → Prop} {s : Shared} (h : Q .cont s) : Sq M A env rest Q E .cont s := h
theorem Sq.brk {rest : List Stmt} {Q : Flow → Shared → Prop} {s : Shared} (h : Q .brk s) : Sq M A env rest Q E .brk s := h
theorem x_nil {Q : Flow → Shared → Prop} {s : Shared} (h : Q .next s) : wpAny M A (execs [] env) Q E s := wpAny_execs_nil h
theorem Tn.next {C : Shared → Prop} {Q : Flow → Shared → Prop} {s' : Shared} (h : C s') : Tn C Q .next s' := h
theorem Tn.cont {C : Shared → Prop} {Q : Flow → Shared → Prop} {s' : Shared} (h : C s') : Tn C Q .cont s' := h
theorem Tn.brk {C : Shared → Prop} {Q : Flow → Shared → Prop} {s' : Shared} (h : Q .next s') : Tn C Q .brk s' := h
theorem Tn.ret {C : Shared → Prop} {Q : Flow → Shared → Prop} {s' : Shared} {v : Value} (h : Q (.ret v) s') : Tn C Q (.ret v) s' := h
theorem bsplit {b : Bool} {P Q : Prop} (h1 : b = true → P) (h2 : b = false → Q) : if b = true then P else Q := by
  cases b
  · exact h2 rfl
  · exact h1 rfl
theorem btrue {b : Bool} {P Q : Prop} (e : b = true) (h : P) : if b = true then P else Q := by subst e; exact h
theorem bfalse {b : Bool} {P Q : Prop} (e : b = false) (h : Q) : if b = true then P else Q := by subst e; exact h
end
section
variable {prog : Program} {w : World} {A : Around} {E : Value → Shared → Prop} {g : Mp} {s₀ : Shared} {T : List Addr} {env : Env} {m : Str → Option Value} {W : List (Addr × Obj)} {s : Shared}
theorem r_for' {target iter : Expr} {body : List Stmt} {pos : Pos} {n : Nat} {P : Nat → Value → Prop} {Q : Flow → Shared → Prop}
    (_cw : CW env s₀ T) (J : Nat → Mp → (Str → Option Value) → List (Addr × Obj) → Prop) (hh : A.handled = none)
    (hiter : wpAny (model prog w) A (eval iter env) (fun xv s₁ => ∃ g₁ m₁ W₁, Inv g₁ s₀ T env m₁ W₁ s₁ ∧ Itr prog w g₁ xv n P ∧ J 0 g₁ m₁ W₁ ∧
      (∀ i v g m W It s, i < n → P i v → g₁.Le g → J i g m W → Inv g s₀ T env m (It :: W) s →
        wpAny (model prog w) A (assign target env v) (fun _ s => wpAny (model prog w) A (execs body env) (Tn (TnI g₁ (J (i + 1)) s₀ T env It) Q) NoE s) NoE s) ∧
      (∀ g m W s, g₁.Le g → J n g m W → Inv g s₀ T env m W s → Q .next s)) E s)
    (hs : ∀ x, foldedSetIterable iter env x = pure x := by intro _; rfl) (ht : ∀ it v, letOwnedTupleGo target it v = pure () := by intro _ _; rfl) :
    wpAny (model prog w) A (exec (.For target iter body [] pos) env) Q E s := by
  exact r_forG hh (wpAny_mono hiter (fun xv s₁ ⟨g₁, m₁, W₁, a, b, c, d, e⟩ => ⟨n, P, J, g₁, m₁, W₁, a, b, c, d, e⟩) fun _ _ e => e) hs ht
/-- x = value -/
theorem r_assign {x : Str} {px pos : Pos} {value : Expr} {Q : Flow → Shared → Prop}
    (h : wpAny (model prog w) A (eval value env) (fun v s₁ => wpAny (model prog w) A (storeName env x v) (fun _ => Q .next) E s₁) E s)
    (hs : swapsWith value (some (.Name x px)) pos.line env = pure false := by rfl) : wpAny (model prog w) A (exec (.Assign [.Name x px] value pos) env) Q E s := wpAny_Assign_Name h hs
theorem r_target {x : Str} {px : Pos} {v : Value} {Q : Unit → Shared → Prop} (h : wpAny (model prog w) A (storeName env x v) Q E s) : wpAny (model prog w) A (assign (.Name x px) env v) Q E s := wpAny_assign_Name h
theorem r_ret {e : Expr} {pos : Pos} {Q : Flow → Shared → Prop} (h : wpAny (model prog w) A (eval e env) (fun v => Q (.ret v)) E s) : wpAny (model prog w) A (exec (.Return (some e) pos) env) Q E s := wpAny_Return_some h
/-- an int of the text -/
theorem r_int {i : Int} {k : Nat} {pos : Pos} {Q : Value → Shared → Prop} (I : Inv g s₀ T env m W s) (h : ∀ t s', Inv g s₀ T env m W s' → Q (.int i t) s') : wpAny (model prog w) A (eval (.Constant (.int i) k pos) env) Q E s := wpAny_Constant_int (h _ _ (I.tok _))
theorem r_str {x : Str} {k : Nat} {pos : Pos} {Q : Value → Shared → Prop} (I : Inv g s₀ T env m W s) (h : ∀ t s', Inv g s₀ T env m W s' → Q (.str x t) s') : wpAny (model prog w) A (eval (.Constant (.str x) k pos) env) Q E s := Constant_str (h _ _ (I.tok _))
theorem r_add {a b : Int} {t u : Tok} {Q : Value → Shared → Prop} (I : Inv g s₀ T env m W s) (h : ∀ t s', Inv g s₀ T env m W s' → Q (.int (a + b) t) s') : wpAny (model prog w) A (binaryOp .Add (.int a t) (.int b u)) Q E s := P.add_int (h _ _ (I.tok _))
theorem r_sub {a b : Int} {t u : Tok} {Q : Value → Shared → Prop} (I : Inv g s₀ T env m W s) (h : ∀ t s', Inv g s₀ T env m W s' → Q (.int (a - b) t) s') : wpAny (model prog w) A (binaryOp .Sub (.int a t) (.int b u)) Q E s := P.sub_int (h _ _ (I.tok _))
theorem r_mod {a b : Int} {t u : Tok} {Q : Value → Shared → Prop} (I : Inv g s₀ T env m W s) (hb : b ≠ 0) (h : ∀ t s', Inv g s₀ T env m W s' → Q (.int (a.fmod b) t) s') : wpAny (model prog w) A (binaryOp .Mod (.int a t) (.int b u)) Q E s := mod_int' hb (h _ _ (I.tok _))
/-- texts joined -/
theorem r_cat {x y : Str} {t u : Tok} {Q : Value → Shared → Prop} (I : Inv g s₀ T env m W s) (hl : (x ++ y).length ≤ sizeLine) (h : ∀ t s', Inv g s₀ T env m W s' → Q (.str (x ++ y) t) s') : wpAny (model prog w) A (binaryOp .Add (.str x t) (.str y u)) Q E s := by
  refine P.add_str ?_
  by_cases hx : (x.length == 0) = true
  · rw [if_pos hx]
    have e : x ++ y = y := by
      have : x = ⟨#[]⟩ := by
        have h0 : x.cps.size = 0 := by simpa [Str.length] using hx
        exact Str.ext' (Array.eq_empty_of_size_eq_zero h0)
      subst this; exact Str.empty_append _
    show Q (.str y u) s
    have := h u s I
    rwa [e] at this
  · rw [if_neg hx]
    by_cases hy : (y.length == 0) = true
    · rw [if_pos hy]
      have e : x ++ y = x := by
        have h0 : y.cps.size = 0 := by simpa [Str.length] using hy
        refine Str.ext' ?_
        rw [Str.cps_append, Array.eq_empty_of_size_eq_zero h0]; simp
      show Q (.str x t) s
      have := h t s I
      rwa [e] at this
    · rw [if_neg hy]
      exact ⟨hl, h _ _ (I.tok _)⟩
theorem r_lenS {x : Str} {t : Tok} {Q : Value → Shared → Prop} (I : Inv g s₀ T env m W s) (hx : x.length < 2 ^ 40) (h : ∀ t s', Inv g s₀ T env m W s' → Q (.int x.length t) s') : wpAny (model prog w) A (call (.builtin "len") [.str x t]) Q E s :=
  P.len_str (by (first | lia | omega)) (h _ _ (I.tok _))
end
end Mine
end
section
open PySem PySem.W PySem.Calls
set_option Elab.async false
namespace Mine
section
variable {M : Model} {A : Around} {E : Value → Shared → Prop} {s : Shared} {env : Env}
theorem k_call {func : Expr} {args : List Expr} {pos : Pos} {Q : Value → Shared → Prop}
    (h : wpAny M A (eval func env) (fun f s₁ => wpAny M A (callWith pos f [] (backTo pos (starEach args env)) []) Q E s₁) E s)
    (he : eval (.Call func args [] pos) env = (do callWith pos (← eval func env) [] (backTo pos (starEach args env)) (backToKw pos (keywordEach [] env))) := by rfl) :
    wpAny M A (eval (.Call func args [] pos) env) Q E s := PyProof.Rows.Call_ h he
theorem k_meth {o : Expr} {name : Str} {apos pos : Pos} {args : List Expr} {pl : Sem Bool} {Q : Value → Shared → Prop}
    (h : wpAny M A (eval o env) (fun ov s₁ => wpAny M A (getMethod ov name pl) (fun fx s₂ => wpAny M A (callWith pos fx.1 fx.2 (backTo pos (starEach args env)) []) Q E s₂) E s₁) E s)
    (he : eval (.Call (.Attribute o name apos) args [] pos) env = (do
      let ov ← eval o env
      standAt apos.atName
      let (f, first) ← holding [ov] (getMethod ov name pl)
      callWith pos f first (backTo pos (starEach args env)) []) := by rfl) :
    wpAny M A (eval (.Call (.Attribute o name apos) args [] pos) env) Q E s := PyProof.Rows.MethodCall_ h he
theorem k_argn {pos : Pos} {Q : List Value → Shared → Prop} (h : Q [] s) : wpAny M A (spliced (backTo pos (starEach [] env))) Q E s := PyProof.Rows.args_nil h
theorem k_arg {e : Expr} {rest : List Expr} {pos : Pos} {Q : List Value → Shared → Prop}
    (h : wpAny M A (eval e env) (fun v s₁ => wpAny M A (spliced (backTo pos (starEach rest env))) (fun vs s₂ => Q (v :: vs) s₂) E s₁) E s)
    (he : starEach (e :: rest) env = (false, eval e env) :: starEach rest env := by rfl) : wpAny M A (spliced (backTo pos (starEach (e :: rest) env))) Q E s := PyProof.Rows.args_cons h he
/-- a built-in, or a method of a built-in type, called with arguments -/
theorem k_bi {pos : Pos} {id : String} {first : List Value} {e : Expr} {rest : List Expr} {Q : Value → Shared → Prop}
    (h : wpAny M A (spliced (backTo pos (starEach (e :: rest) env))) (fun vs s₁ => wpAny M A (call (.builtin id) (first ++ vs)) Q E s₁) E s)
    (he : starEach (e :: rest) env = (false, eval e env) :: starEach rest env := by rfl)
    (hplain : (backTo pos (starEach rest env)).any (·.1) = false := by rfl) :
    wpAny M A (callWith pos (.builtin id) first (backTo pos (starEach (e :: rest) env)) []) Q E s := PyProof.Rows.callWith_method1 h he hplain
theorem k_fn {pos : Pos} {f : Addr} {o : Obj} {fd : FuncData} {e : Expr} {rest : List Expr} {Q : Value → Shared → Prop} (hdat : o.data = .func fd)
    (h : wpAny M A (spliced (backTo pos (starEach (e :: rest) env))) (fun vs s₁ => s₁.heap.get? f = some o ∧ wpAny M A (call (.ref f) vs) Q E s₁) E s)
    (he : starEach (e :: rest) env = (false, eval e env) :: starEach rest env := by rfl) :
    wpAny M A (callWith pos (.ref f) [] (backTo pos (starEach (e :: rest) env)) []) Q E s := PyProof.Rows.callWith_def hdat h he
theorem k_sub {value slice : Expr} {pos : Pos} {Q : Value → Shared → Prop}
    (h : wpAny M A (eval value env) (fun o s₁ => wpAny M A (eval slice env) (fun i s₂ => wpAny M A (PyProof.Rows.subscriptTail value slice o i) Q E s₂) E s₁) E s) :
    wpAny M A (eval (.Subscript value slice pos) env) Q E s := PyProof.Rows.Subscript_ h
theorem k_and {x : Expr} {rest : List Expr} {pos : Pos} {whole : Sem Value} {Q : Bool → Shared → Prop}
    (h : wpAny M A (isTrue x env (eval x env)) (fun c s' => if c then wpAny M A (isTrue (.BoolOp .And rest pos) env whole) Q E s' else Q false s') E s) :
    wpAny M A (isTrue (.BoolOp .And (x :: rest) pos) env whole) Q E s := PyProof.Rows.isTrue_and h
theorem k_and0 {pos : Pos} {whole : Sem Value} {Q : Bool → Shared → Prop} (h : Q true s) : wpAny M A (isTrue (.BoolOp .And [] pos) env whole) Q E s := PyProof.Rows.isTrue_and_nil h
theorem k_or {x : Expr} {rest : List Expr} {pos : Pos} {whole : Sem Value} {Q : Bool → Shared → Prop}
    (h : wpAny M A (isTrue x env (eval x env)) (fun c s' => if c then Q true s' else wpAny M A (isTrue (.BoolOp .Or rest pos) env whole) Q E s') E s) :
    wpAny M A (isTrue (.BoolOp .Or (x :: rest) pos) env whole) Q E s := PyProof.Rows.isTrue_or h
theorem k_or0 {pos : Pos} {whole : Sem Value} {Q : Bool → Shared → Prop} (h : Q false s) : wpAny M A (isTrue (.BoolOp .Or [] pos) env whole) Q E s := PyProof.Rows.isTrue_or_nil h
theorem k_not {x : Expr} {pos : Pos} {whole : Sem Value} {Q : Bool → Shared → Prop} (h : wpAny M A (isTrue x env (eval x env)) (fun c s' => Q (!c) s') E s) :
    wpAny M A (isTrue (.UnaryOp .Not x pos) env whole) Q E s := PyProof.Rows.isTrue_not h
theorem k_truth {e : Expr} {whole : Sem Value} {Q : Bool → Shared → Prop} (h : wpAny M A whole (fun v s₁ => wpAny M A (truthy v) Q E s₁) E s)
    (he : isTrue e env whole = (do let v ← whole; standAt e.pos; holding [v] (truthy v)) := by rfl) : wpAny M A (isTrue e env whole) Q E s := PyProof.Rows.isTrue_plain h he
theorem k_cmp {l : Expr} {op : CmpOp} {r : Expr} {pos : Pos} {Q : Value → Shared → Prop}
    (h : wpAny M A (eval l env) (fun a s₁ => wpAny M A (eval r env) (fun b s₂ => wpAny M A (compareOp op a b) Q E s₂) E s₁) E s)
    (hm : behindInMarks op r = false := by with_unfolding_all rfl) : wpAny M A (eval (.Compare l [op] [r] pos) env) Q E s := wpAny_Compare1 h hm
/-- a test by a comparison whose answer is a bool -/
theorem k_test {l : Expr} {op : CmpOp} {r : Expr} {pos : Pos} {whole : Sem Value} {Q : Bool → Shared → Prop}
    (h : wpAny M A (eval l env) (fun a s₁ => wpAny M A (eval r env) (fun b s₂ => wpAny M A (compareOp op a b) (fun c s₃ => wpAny M A (truthy c) Q E s₃) E s₂) E s₁) E s)
    (hm : behindInMarks op r = false := by with_unfolding_all rfl) : wpAny M A (isTrue (.Compare l [op] [r] pos) env whole) Q E s := wpAny_isTrue_Compare1 h hm
theorem k_if {test : Expr} {body orelse : List Stmt} {pos : Pos} {Q : Flow → Shared → Prop}
    (h : wpAny M A (isTrue test env (eval test env)) (fun b s₂ => if b then wpAny M A (execs body env) Q E s₂ else wpAny M A (execs orelse env) Q E s₂) E s) :
    wpAny M A (exec (.If test body orelse pos) env) Q E s := wpAny_If h
theorem k_ifx {test body orelse : Expr} {pos : Pos} {Q : Value → Shared → Prop}
    (h : wpAny M A (isTrue test env (eval test env)) (fun c s₂ => if c then wpAny M A (eval body env) Q E s₂ else wpAny M A (eval orelse env) Q E s₂) E s) :
    wpAny M A (eval (.IfExp test body orelse pos) env) Q E s := PyProof.Rows.IfExp_ h
theorem k_bin {l : Expr} {op : Operator} {r : Expr} {pos : Pos} {Q : Value → Shared → Prop}
    (h : wpAny M A (eval l env) (fun a s₁ => wpAny M A (eval r env) (fun b s₂ => wpAny M A (binaryOp op a b) Q E s₂) E s₁) E s) : wpAny M A (eval (.BinOp l op r pos) env) Q E s := wpAny_BinOp h
theorem k_list {elts : List Expr} {pos : Pos} {Q : Value → Shared → Prop}
    (h : wpAny M A (spliced (backTo pos (starEach elts env))) (fun vs s₁ => wpAny M A (newList vs) Q E s₁) E s) : wpAny M A (eval (.List elts pos) env) Q E s := PyProof.Rows.List_ h
theorem k_tuple {elts : List Expr} {k : Nat} {pos : Pos} {Q : Value → Shared → Prop}
    (h : wpAny M A (spliced (backTo pos (starEach elts env))) (fun vs s₁ => wpAny M A (newTuple vs) Q E s₁) E s) : wpAny M A (eval (.Tuple elts k pos) env) Q E s := PyProof.Rows.Tuple_ h
theorem k_attr {value : Expr} {prog : Program} {w : World} {attr : Str} {pos : Pos} {Q : Value → Shared → Prop}
    (h : wpAny (model prog w) A (eval value env) (fun o s₁ => wpAny (model prog w) A (getAttr o attr true) Q E s₁) E s)
    (he : eval (.Attribute value attr pos) env = (do
      let o ← eval value env
      standAt pos.atName
      let r ← holding [o] (getAttr o attr true)
      letTemporaryGo value o r
      pure r) := by rfl) : wpAny (model prog w) A (eval (.Attribute value attr pos) env) Q E s := PyProof.Rows.Attribute_any_ h he
end
section
variable {prog : Program} {w : World} {A : Around} {E : Value → Shared → Prop} {g : Mp} {s₀ : Shared} {T : List Addr} {env : Env} {m : Str → Option Value} {W : List (Addr × Obj)} {s : Shared}
theorem t_bool {b : Bool} {Q : Bool → Shared → Prop} (h : Q b s) : wpAny (model prog w) A (truthy (.bool b)) Q E s := wpAny_truthy_bool h
theorem t_str {x : Str} {t : Tok} {Q : Bool → Shared → Prop} (I : Inv g s₀ T env m W s) (hx : x.length < 2 ^ 40) (h : ∀ s', Inv g s₀ T env m W s' → Q (x.length != 0) s') : wpAny (model prog w) A (truthy (.str x t)) Q E s :=
  P.truthy_str (by (first | lia | omega)) (by
    have e : ((x.length : Int) != 0) = (x.length != 0) := by
      rw [Bool.eq_iff_iff]; simp
    rw [e]; exact h _ (I.tok _))
theorem c_ltI {a b : Int} {t u : Tok} {Q : Value → Shared → Prop} (h : Q (.bool (decide (a < b))) s) : wpAny (model prog w) A (compareOp .Lt (.int a t) (.int b u)) Q E s := P.lt_int h
theorem c_gtI {a b : Int} {t u : Tok} {Q : Value → Shared → Prop} (h : Q (.bool (decide (a > b))) s) : wpAny (model prog w) A (compareOp .Gt (.int a t) (.int b u)) Q E s := P.gt_int h
theorem c_geI {a b : Int} {t u : Tok} {Q : Value → Shared → Prop} (h : Q (.bool (decide (a ≥ b))) s) : wpAny (model prog w) A (compareOp .GtE (.int a t) (.int b u)) Q E s := P.ge_int h
theorem c_eqI {a b : Int} {t u : Tok} {Q : Value → Shared → Prop} (h : Q (.bool (a == b)) s) : wpAny (model prog w) A (compareOp .Eq (.int a t) (.int b u)) Q E s := P.eq_int h
theorem c_neI {a b : Int} {t u : Tok} {Q : Value → Shared → Prop} (h : Q (.bool (a != b)) s) : wpAny (model prog w) A (compareOp .NotEq (.int a t) (.int b u)) Q E s := P.ne_int h
theorem str_eq_iff (x y : Str) : (x.cps.toList == y.cps.toList) = (x == y) := by
  rw [Bool.eq_iff_iff]
  simp only [beq_iff_eq]
  constructor
  · intro h; exact Str.ext' (Array.toList_inj.mp h)
  · intro h; rw [h]
theorem c_eqS {x y : Str} {t u : Tok} {Q : Value → Shared → Prop} (h : Q (.bool (x == y)) s) : wpAny (model prog w) A (compareOp .Eq (.str x t) (.str y u)) Q E s := P.eq_str (by rw [str_eq_iff]; exact h)
theorem c_neS {x y : Str} {t u : Tok} {Q : Value → Shared → Prop} (h : Q (.bool (x != y)) s) : wpAny (model prog w) A (compareOp .NotEq (.str x t) (.str y u)) Q E s := P.ne_str (by
  have e : (x.cps.toList != y.cps.toList) = (x != y) := by show (!(x.cps.toList == y.cps.toList)) = !(x == y); rw [str_eq_iff]
  rw [e]; exact h)
theorem seqIndex_nat {i : Int} {n : Nat} (h0 : 0 ≤ i) (hlt : i.toNat < n) : seqIndex? i n = some i.toNat := by
  unfold seqIndex?
  have a : ¬ i < 0 := by (first | lia | omega)
  have b : (decide (0 ≤ i) && decide (i < (n : Int))) = true := by
    simp only [Bool.and_eq_true, decide_eq_true_eq]
    (first | lia | omega)
  simp only [a, if_false]
  rw [if_pos b]
/-- an item of a text -/
theorem i_str {value slice : Expr} {x : Str} {t u : Tok} {i : Int} {c : Nat} {Q : Value → Shared → Prop} (I : Inv g s₀ T env m W s) (h0 : 0 ≤ i) (h1 : i < 2 ^ 40) (hc : x.cps[i.toNat]? = some c) (h : ∀ t s', Inv g s₀ T env m W s' → Q (.str ⟨#[c]⟩ t) s')
    (hs : subscripted slice false (.str x t) (.int i u) = operate [.str x t, .int i u] (getItem (.str x t) (.int i u)) := by with_unfolding_all rfl) :
    wpAny (model prog w) A (PyProof.Rows.subscriptTail value slice (.str x t) (.int i u)) Q E s := by
  have hlt : i.toNat < x.length := (Array.getElem?_eq_some_iff.mp hc).1
  refine PyProof.Rows.tail_any (typeIs_str _ _ _) F.slot_str_getitem.lookup (P.getItem_str ?_ ?_ (h _ _ (I.tok _))) hs
  · simp only [Bool.or_eq_false_iff, decide_eq_false_iff_not]
    (first | lia | omega)
  · rw [seqIndex_nat h0 hlt]; exact hc
end
end Mine
end
section
open PySem PySem.W PySem.Calls
set_option Elab.async false
namespace Mine
noncomputable def clos (cells : List (Str × Addr)) : List (Str × NameKind) → List (Str × Addr) → List (Str × Addr)
  | [], acc => acc
  | (n, k) :: r, acc => if (k == .free) = true then clos cells r ((n, (cells.lookup n).getD 0) :: acc) else clos cells r acc
theorem closureFor_eq {scope : Scope} {env : Env} (h : ∀ x ∈ scope.names, x.2 = .free → (env.cells.lookup x.1).isSome = true) : closureFor scope env = pure (clos env.cells scope.names []) := by
  have key : ∀ (names : List (Str × NameKind)) (acc : List (Str × Addr)), (∀ x ∈ names, x.2 = .free → (env.cells.lookup x.1).isSome = true) →
      (forIn names acc (fun x r => if (x.2 == NameKind.free) = true then (do let y ← cellOf env x.1; pure (ForInStep.yield ((x.1, y) :: r))) else pure (ForInStep.yield r)) : Sem _) = pure (clos env.cells names acc) := by
    intro names
    induction names with
    | nil => intro acc _; rfl
    | cons p r ih =>
      intro acc hx
      obtain ⟨n, k⟩ := p
      rw [List.forIn_cons]
      unfold clos
      by_cases hk : (k == NameKind.free) = true
      · have hs := hx (n, k) (.head _) (by simpa using hk)
        obtain ⟨c, hc⟩ := Option.isSome_iff_exists.mp hs
        have e : cellOf env n = pure c := by unfold cellOf; dsimp only at hc; rw [hc]
        dsimp only at hc ⊢
        rw [if_pos hk, if_pos hk, e, hc]
        exact ih _ fun y hy => hx y (.tail _ hy)
      · dsimp only
        rw [if_neg hk, if_neg hk]
        exact ih _ fun y hy => hx y (.tail _ hy)
  unfold closureFor
  have := key scope.names [] h
  first
    | exact this
    | (rw [show (forIn scope.names [] _ : Sem _) = _ from this]; rfl)
    | (simp only [this]; rfl)
theorem clos_mem {cells : List (Str × Addr)} : ∀ {names : List (Str × NameKind)} {acc : List (Str × Addr)} {q : Str × Addr}, q ∈ clos cells names acc → q ∈ acc ∨ ((q.1, NameKind.free) ∈ names ∧ q.2 = (cells.lookup q.1).getD 0)
  | [], _, _, h => .inl h
  | (n, k) :: r, acc, q, h => by
    unfold clos at h
    by_cases hk : (k == NameKind.free) = true
    · rw [if_pos hk] at h
      rcases clos_mem h with h | h
      · rcases List.mem_cons.mp h with rfl | h
        · exact .inr ⟨by have : k = .free := by simpa using hk
                         subst this; exact .head _, rfl⟩
        · exact .inl h
      · exact .inr ⟨.tail _ h.1, h.2⟩
    · rw [if_neg hk] at h
      rcases clos_mem h with h | h
      · exact .inl h
      · exact .inr ⟨.tail _ h.1, h.2⟩
theorem clos_acc {cells : List (Str × Addr)} {x : Str} : ∀ {names : List (Str × NameKind)} {acc : List (Str × Addr)}, (acc.lookup x).isSome = true → ((clos cells names acc).lookup x).isSome = true
  | [], _, h => h
  | (n, k) :: r, acc, h => by
    unfold clos
    split
    · refine clos_acc ?_
      rw [List.lookup_cons]
      split
      · rfl
      · exact h
    · exact clos_acc h
theorem clos_some {cells : List (Str × Addr)} {x : Str} : ∀ {names : List (Str × NameKind)} {acc : List (Str × Addr)}, (x, NameKind.free) ∈ names → ((clos cells names acc).lookup x).isSome = true
  | [], _, h => (nomatch h)
  | (n, k) :: r, acc, h => by
    unfold clos
    rcases List.mem_cons.mp h with e | h
    · cases e
      rw [if_pos (by rfl)]
      exact clos_acc (by rw [List.lookup_cons]; simp)
    · split
      · exact clos_some h
      · exact clos_some h
noncomputable def freeOf (names : List (Str × NameKind)) : List Str := (names.filter fun p => p.2 == .free).map (·.1)
theorem clos_fst {cells : List (Str × Addr)} : ∀ (names : List (Str × NameKind)) (acc : List (Str × Addr)), (clos cells names acc).map (·.1) = (freeOf names).reverse ++ acc.map (·.1)
  | [], acc => by simp [clos, freeOf]
  | (n, k) :: r, acc => by
    unfold clos
    by_cases hk : (k == NameKind.free) = true
    · rw [if_pos hk, clos_fst r]
      simp [freeOf, List.filter_cons, hk]
    · rw [if_neg hk, clos_fst r]
      simp [freeOf, List.filter_cons, hk]
/-- the block's names as the comprehension sees them -/
noncomputable def relab (l names : List (Str × NameKind)) : List (Str × NameKind) := names.map fun (n, k) => if (k == .free && l.lookup n == some .cell) = true then (n, .cell) else (n, k)
noncomputable def compOk (l names : List (Str × NameKind)) : Bool :=
  (names.all fun p => p.2 != .cell && (p.2 != .free || l.lookup p.1 == some .cell) && (p.2 != .local || names.lookup p.1 == some .local)) && decide (freeOf names).Nodup && (freeOf names).all fun x => (relab l names).lookup x == some .cell
theorem relabel_eq {scope : Scope} {env : Env} {l : List (Str × NameKind)} (el : EnvL env l) (fk : env.scope.kind = .function) : (relabel scope env).names = relab l scope.names := by
  unfold relabel relab
  have : ∀ n, env.kindOf n = l.lookup n := fun n => congrArg (·.lookup n) el.names
  simp only [this, fk]
  simp
section
variable {g : Mp} {s₀ : Shared} {T : List Addr} {env : Env} {m : Str → Option Value} {W : List (Addr × Obj)} {s : Shared}
/-- a known part that grows, off what is ours -/
theorem Inv.regrow (I : Inv g s₀ T env m W s) {g' : Mp} {h₂ : Heap} (new : ∀ a o, g' a = some o → g a = some o ∨ h₂.get? a = none) (here : ∀ a o, g' a = some o → s.heap.get? a = some o)
    (hL : ∃ o, h₂.get? env.locals = some o) (hC : ∀ q ∈ env.cells, ∃ o, h₂.get? q.2 = some o) (hW : ∀ p ∈ W, ∃ o, h₂.get? p.1 = some o) : Inv g' s₀ T env m W s := by
  have off : ∀ {a}, g a = none → (∃ o, h₂.get? a = some o) → g' a = none := fun {a} h1 ⟨o, h2⟩ => by
    cases e : g' a with
    | none => rfl
    | some o' =>
      rcases new _ _ e with h | h
      · rw [h1] at h; cases h
      · rw [h2] at h; cases h
  exact { I with keep := here, offL := ⟨off I.offL.1 hL, I.offL.2⟩, offC := fun q hq => ⟨off (I.offC q hq).1 (hC q hq), (I.offC q hq).2⟩, offW := fun p hp => ⟨off (I.offW p hp).1 (hW p hp), (I.offW p hp).2⟩ }
end
section
variable {prog : Program} {w : World} {A : Around} {E : Value → Shared → Prop} {R : Result → Shared → Prop} {g : Mp} {s₀ : Shared} {T : List Addr} {env : Env} {m : Str → Option Value} {W : List (Addr × Obj)} {s : Shared}
noncomputable abbrev tests (ifs : List Expr) (env : Env) : Sem Bool := forIn ifs true fun c r => if r = true then do let ok ← isTrue c env (eval c env); pure (ForInStep.yield ok) else pure (ForInStep.yield r)
theorem tests_nil {Q : Bool → Shared → Prop} (h : Q true s) : wpAny (model prog w) A (tests [] env) Q E s := wpAny_tests_nil h
theorem tests_one {c : Expr} {Q : Bool → Shared → Prop} (h : wpAny (model prog w) A (isTrue c env (eval c env)) Q E s) : wpAny (model prog w) A (tests [c] env) Q E s := wpAny_tests_one h
theorem cs_start {elt : Expr} {gens : List Comprehension} {gn : Comprehension} {scope : Scope} {pos : Pos} {d : Nat} {it acc : Value} {cenv : Env} (hg : gens[d]? = some gn) (ha : gn.is_async = 0)
    (h0 : codeAny (model prog w) A (.compLoop (.ListComp elt gens scope pos) d it acc cenv) R s)
    (h : wpAny (model prog w) A (pyIter it) (fun it' s' => codeAny (model prog w) A (.compLoop (.ListComp elt gens scope pos) d it' acc cenv) R s') NoE s) :
    codeAny (model prog w) A (.compStart (.ListComp elt gens scope pos) d it acc cenv) R s := by
  refine codeAny_of_tree ?_
  show wpAny _ _ ((compStart (.ListComp elt gens scope pos) d it acc cenv).onRaise (fun x => do noteFrame x cenv; standAt theWindowsPlace)) _ _ s
  refine wpAny_notedAt ?_
  unfold compStart
  have hc : ((clausesOf (.ListComp elt gens scope pos))[d]?).elim false (·.is_async != 0) = false := by
    show (gens[d]?).elim false (·.is_async != 0) = false
    rw [hg]; simp [ha]
  have hc2 : (clausesOf (.ListComp elt gens scope pos))[d]? = some gn := hg
  rw [hc, hc2]
  simp only [Bool.false_eq_true, if_false]
  refine wpAny_bind (wpAny_askSetting (wpAny_ite ?_))
  split
  · first
      | exact wpAny_bind (wpAny_pure (wpAny_pure (And.intro rfl h0)))
      | exact wpAny_pure (And.intro rfl h0)
  · exact wpAny_bind (wpAny_rule (wpAny_bind (wpAny_standAt (wpAny_bind (wpAny_mono h (fun it' s' h' => wpAny_pure (And.intro rfl h')) fun _ _ x => x.elim)))))
theorem cs_loop {elt : Expr} {gens : List Comprehension} {gn : Comprehension} {scope : Scope} {pos : Pos} {d : Nat} {it acc : Value} {cenv : Env} (hg : gens[d]? = some gn) (ha : gn.is_async = 0) (hlast : gens[d + 1]? = none)
    (C : Nat → Shared → Prop)
    (turn : ∀ n s, C n s → wpAny (model prog w) A (pyNext it) (fun r s₁ => match r with
      | none => R (.ok .next) s₁
      | some v => wpAny (model prog w) A (assign gn.target cenv v) (fun _ s₂ => wpAny (model prog w) A (tests gn.ifs cenv) (fun ok s₃ =>
          if ok = true then wpAny (model prog w) A (eval elt cenv) (fun x s₄ => wpAny (model prog w) A (call (.builtin "list.append") [acc, x]) (fun _ s₅ => ∃ m, m < n ∧ C m s₅) NoE s₄) NoE s₃
          else ∃ m, m < n ∧ C m s₃) NoE s₂) NoE s₁) NoE s)
    (n : Nat) (h : C n s) (ht : ∀ v, letOwnedTupleGo gn.target it v = pure ()) :
    codeAny (model prog w) A (.compLoop (.ListComp elt gens scope pos) d it acc cenv) R s := by
  refine codeAny_loop rfl C (fun n s hI => ?_) n h
  show wpAny _ A ((compTurn (.ListComp elt gens scope pos) d it acc cenv).onRaise (fun x => do noteFrame x cenv; theTreesLotGoes x)) _ _ s
  refine wpAny_noted ?_
  unfold compTurn
  simp only [hg, ha, hlast]
  refine wpAny_bind (wpAny_standAt (wpAny_bind (wpAny_mono (turn n s hI) (fun r s₁ h₁ => ?_) fun _ _ h' => h'.elim)))
  cases r with
  | none => exact wpAny_pure h₁
  | some v =>
    refine wpAny_bind (wpAny_of_eq (ht v) ?_)
    refine wpAny_bind (wpAny_mono h₁ (fun _ s₂ h₂ => wpAny_bind (wpAny_mono h₂ (fun ok s₃ h₃ => ?_) fun _ _ h' => h'.elim)) fun _ _ h' => h'.elim)
    cases ok with
    | false => exact wpAny_pure ⟨rfl, h₃⟩
    | true =>
      exact wpAny_bind (wpAny_bind (wpAny_mono h₃ (fun x s₄ h₄ => wpAny_bind (wpAny_mono h₄ (fun _ s₅ h₅ => wpAny_pure (wpAny_pure ⟨rfl, h₅⟩)) fun _ _ h' => h'.elim)) fun _ _ h' => h'.elim))
theorem cs_loop2 {elt : Expr} {gens : List Comprehension} {gn gn' : Comprehension} {scope : Scope} {pos : Pos} {d : Nat} {it acc : Value} {cenv : Env} (hg : gens[d]? = some gn) (ha : gn.is_async = 0) (hnext : gens[d + 1]? = some gn') (ha' : gn'.is_async = 0)
    (C : Nat → Shared → Prop)
    (turn : ∀ n s, C n s → wpAny (model prog w) A (pyNext it) (fun r s₁ => match r with
      | none => R (.ok .next) s₁
      | some v => wpAny (model prog w) A (assign gn.target cenv v) (fun _ s₂ => wpAny (model prog w) A (tests gn.ifs cenv) (fun ok s₃ =>
          if ok = true then wpAny (model prog w) A (eval gn'.iter cenv) (fun x s₄ => wpAny (model prog w) A (pyIter x) (fun it' s₅ =>
            codeAny (model prog w) A (.compStart (.ListComp elt gens scope pos) (d + 1) it' acc cenv) (fun r s₆ => r = .ok .next ∧ ∃ m, m < n ∧ C m s₆) s₅) NoE s₄) NoE s₃
          else ∃ m, m < n ∧ C m s₃) NoE s₂) NoE s₁) NoE s)
    (n : Nat) (h : C n s) (ht : ∀ v, letOwnedTupleGo gn.target it v = pure ()) (hs : ∀ x, foldedSetIterable gn'.iter cenv x = pure x) :
    codeAny (model prog w) A (.compLoop (.ListComp elt gens scope pos) d it acc cenv) R s := by
  refine codeAny_loop rfl C (fun n s hI => ?_) n h
  show wpAny _ A ((compTurn (.ListComp elt gens scope pos) d it acc cenv).onRaise (fun x => do noteFrame x cenv; theTreesLotGoes x)) _ _ s
  refine wpAny_noted ?_
  unfold compTurn
  simp only [hg, ha, hnext, ha']
  refine wpAny_bind (wpAny_standAt (wpAny_bind (wpAny_mono (turn n s hI) (fun r s₁ h₁ => ?_) fun _ _ h' => h'.elim)))
  cases r with
  | none => exact wpAny_pure h₁
  | some v =>
    refine wpAny_bind (wpAny_of_eq (ht v) ?_)
    refine wpAny_bind (wpAny_mono h₁ (fun _ s₂ h₂ => wpAny_bind (wpAny_mono h₂ (fun ok s₃ h₃ => ?_) fun _ _ h' => h'.elim)) fun _ _ h' => h'.elim)
    cases ok with
    | false => exact wpAny_pure ⟨rfl, h₃⟩
    | true =>
      refine wpAny_bind (wpAny_mono h₃ (fun x s₄ h₄ => wpAny_bind (wpAny_standAt ?_)) fun _ _ h' => h'.elim)
      rw [if_neg (by decide)]
      refine wpAny_bind (wpAny_of_eq (hs x) (wpAny_bind (wpAny_holding ?_)))
      rw [if_neg (by decide)]
      refine wpAny_mono h₄ (fun it' s₅ h₅ => ?_) fun _ _ h' => h'.elim
      refine wpAny_bind (wpAny_runOwn (codeAny_mono h₅ fun r s₆ h₆ => ?_))
      obtain ⟨rfl, h₆⟩ := h₆
      exact wpAny_pure ⟨rfl, h₆⟩
end
end Mine
end
section
open PySem PySem.W PySem.Calls
set_option Elab.async false
namespace Mine
structure Gr (s₀ : Shared) (g g' : Mp) : Prop where
  le : g.Le g'
  new : ∀ a o, g' a = some o → g a = some o ∨ s₀.heap.get? a = none
theorem Gr.refl (s₀ : Shared) (g : Mp) : Gr s₀ g g := ⟨Mp.Le.refl _, fun _ _ e => .inl e⟩
theorem Gr.trans {s₀ : Shared} {g g' g'' : Mp} (x : Gr s₀ g g') (y : Gr s₀ g' g'') : Gr s₀ g g'' := ⟨x.le.trans y.le, fun a o e => (y.new a o e).elim (fun h => x.new a o h) .inr⟩
section
variable {g : Mp} {s₀ : Shared} {T : List Addr} {env : Env} {m : Str → Option Value} {W : List (Addr × Obj)} {s : Shared}
theorem Inv.gone (I : Inv g s₀ T env m W s) (hT : ∀ a ∈ T, ∃ o, s.heap.get? a = some o) {a : Addr} (h : s.heap.get? a = none) : s₀.heap.get? a = none := by
  cases e : s₀.heap.get? a with
  | none => rfl
  | some o =>
    by_cases ht : a ∈ T
    · obtain ⟨o', ho⟩ := hT a ht; rw [h] at ho; cases ho
    · rw [I.keep0 a o e ht] at h; cases h
theorem Inv.gr (I : Inv g s₀ T env m W s) (hT : ∀ a ∈ T, ∃ o, s.heap.get? a = some o) {g' : Mp} {s' : Shared} (G : Got g s g' s') : Gr s₀ g g' := ⟨G.le, fun a o e => (G.new a o e).imp id fun h => I.gone hT h⟩
theorem Inv.gr0 (I : Inv g s₀ [] env m W s) {g' : Mp} {s' : Shared} (G : Got g s g' s') : Gr s₀ g g' := I.gr (fun _ h => (nomatch h)) G
theorem Inv.grPut {a : Addr} {o : Obj} (I : Inv g s₀ [] env m W s) (h : (a, o) ∈ W) : Gr s₀ g (g.put a o) := by
  refine ⟨Mp.le_put (I.offW _ h).1, fun b ob e => ?_⟩
  unfold Mp.put at e
  split at e
  · rename_i q; subst q; exact (I.offW _ h).2.elim (fun x => (nomatch x)) .inr
  · exact .inl e
/-- the end of a call that changes nothing that stood -/
theorem Inv.leave {g' : Mp} (I : Inv g' s₀ [] env m W s) (G : Gr s₀ g g') : Got g s₀ g' s := ⟨G.le, G.new, I.keep, I.keptAll⟩
end
section
variable {prog : Program} {w : World} {A : Around} {E : Value → Shared → Prop} {R : Result → Shared → Prop} {g : Mp} {s₀ : Shared} {T : List Addr} {env : Env} {m : Str → Option Value} {W : List (Addr × Obj)} {s : Shared}
theorem r_storeL {x : Str} {v : Value} {Q : Unit → Shared → Prop} (I : Inv g s₀ T env m W s) (hk : env.kindOf x = some .local)
    (h : ∀ s', Inv g s₀ T env (put m x v) W s' → Q () s') : wpAny (model prog w) A (storeName env x v) Q E s := by
  obtain ⟨md, hn, hm⟩ := I.ns
  refine wpAny_storeName_local hk hn (fun h' hn' hs' => h _ ?_) (by rw [I.eo.fk]; rfl)
  have k : ∀ b ob, b ≠ env.locals → s.heap.get? b = some ob → h'.get? b = some ob := fun b ob hb e => hs'.extBut b ob hb e
  refine { eo := I.eo, ns := ⟨_, hn', fun y hy => ?_⟩, cell := fun q hq => ?_, led := fun p hp => k _ _ (I.offL.2.2 p hp) (I.led p hp), nd := I.nd, keep := fun b ob e => k _ _ (ne_of_off e I.offL.1) (I.keep b ob e),
           keep0 := fun b ob e ht => k _ _ (fun q => ?_) (I.keep0 b ob e ht), offL := I.offL, offC := I.offC, offW := I.offW, same := ?_ }
  · unfold put
    by_cases e : y = x
    · simp [e]
    · simp [e, hm y hy]
  · obtain ⟨oc, ho, hd⟩ := I.cell q hq
    refine ⟨oc, k _ _ (I.eo.capart q hq) ho, ?_⟩
    unfold put
    have e : q.1 ≠ x := fun e => I.eo.ckind q hq (e ▸ hk)
    rw [if_neg e]; exact hd
  · rcases I.offL.2.1 with h1 | h1
    · exact ht (q ▸ h1)
    · rw [q, h1] at e; cases e
  · obtain ⟨h, tk', e⟩ := I.same; subst e; exact ⟨_, _, rfl⟩
theorem r_append {D : Addr} {vs : List Value} {k : Nat} {x : Value} {f : Obj → List (Addr × Obj)} {Q : Value → Shared → Prop} (I : Inv g s₀ T env m W s) (S : Sel D (lstO vs k) W f) (hsz : vs.length ≤ sizeLine)
    (h : ∀ s', Inv g s₀ T env m (f (lstO (vs ++ [x]) (k + 1))) s' → Q .none s') : wpAny (model prog w) A (call (.builtin "list.append") [.ref D, x]) Q E s := by
  refine PyProof.Rows.append_at (hsz := by simpa using hsz) (I.led _ S.mem) fun h' hs ho => h _ ?_
  refine I.chg (tk := s.toks) S (fun b ob hb e => hs.extBut b ob hb e) ?_
  rw [ho, List.push_toArray]
inductive LcE (s₀ : Shared) (g : Mp) (J : Mp → List PyData → Prop) (ds : List PyData) (T : List Addr) (cenv : Env) (m : Str → Option Value) (W : List (Addr × Obj)) (y : Value) (s : Shared) : Prop
  | mk (g' : Mp) (e : PyData) (G : Gr s₀ g g') (r : Rd g' y e) (h : J g' (ds ++ [e])) (I : Inv g' s₀ T cenv m W s)
inductive LcN (s₀ : Shared) (g : Mp) (J : Mp → List PyData → Prop) (ds : List PyData) (T : List Addr) (cenv : Env) (m : Str → Option Value) (W : List (Addr × Obj)) (s : Shared) : Prop
  | mk (g' : Mp) (G : Gr s₀ g g') (h : J g' ds) (I : Inv g' s₀ T cenv m W s)
inductive LcK (s₀ : Shared) (T : List Addr) (cenv : Env) (n : Nat) (J : Nat → Mp → List PyData → Prop) (mc : Str → Option Value) (x : Str) (g : Mp) (WW : Obj → Nat → List Value → List (Addr × Obj)) (St : Nat → Obj → Prop) (q : Nat) (s' : Shared) : Prop
  | mk (i : Nat) (g' : Mp) (ds : List PyData) (vs : List Value) (kk : Nat) (m' : Str → Option Value) (o : Obj) (e : q = n + 1 - i) (hle : i ≤ n) (G : Gr s₀ g g') (hJ : J i g' ds) (hR : RdAll g' vs ds) (hm : ∀ y, y ≠ x → m' y = mc y) (I : Inv g' s₀ T cenv m' (WW o kk vs) s') (hst : St i o)
/-- the last clause of a comprehension -/
theorem cs_last {elt iter : Expr} {gens : List Comprehension} {ifs : List Expr} {x : Str} {px : Pos} {scope : Scope} {pos : Pos} {d : Nat} {D Ia : Addr} {cenv : Env} (hg : gens[d]? = some ⟨.Name x px, iter, ifs, 0⟩) (hlast : gens[d + 1]? = none)
    (hx : cenv.kindOf x = some .local) {n : Nat} {P : Nat → Value → Prop} {St : Nat → Obj → Prop} {o : Obj} {vs : List Value} {k : Nat} {ds : List PyData} {mc : Str → Option Value} (hW : Wk prog w A g Ia n P St)
    (J : Nat → Mp → List PyData → Prop) (hsz : ∀ i g ds, J i g ds → ds.length ≤ sizeLine)
    (I : Inv g s₀ T cenv mc ((Ia, o) :: (D, lstO vs k) :: W) s) (hst : St 0 o) (hacc : RdAll g vs ds) (h0 : J 0 g ds)
    (turn : ∀ i v g' ds m' W' s, i < n → P i v → Gr s₀ g g' → J i g' ds → (∀ y, y ≠ x → m' y = mc y) → Inv g' s₀ T cenv (put m' x v) W' s →
      wpAny (model prog w) A (tests ifs cenv) (fun ok s' => if ok = true then wpAny (model prog w) A (eval elt cenv) (fun y s'' => LcE s₀ g' (J (i + 1)) ds T cenv (put m' x v) W' y s'') NoE s'
        else LcN s₀ g' (J (i + 1)) ds T cenv (put m' x v) W' s') NoE s)
    (done : ∀ g' ds vs k m' s, Gr s₀ g g' → J n g' ds → RdAll g' vs ds → (∀ y, y ≠ x → m' y = mc y) → Inv g' s₀ T cenv m' ((D, lstO vs k) :: W) s → R (.ok .next) s) :
    codeAny (model prog w) A (.compStart (.ListComp elt gens scope pos) d (.ref Ia) (.ref D) cenv) R s := by
  have loop : codeAny (model prog w) A (.compLoop (.ListComp elt gens scope pos) d (.ref Ia) (.ref D) cenv) R s := by
    refine cs_loop hg rfl hlast (LcK s₀ T cenv n J mc x g (fun o kk vs => (Ia, o) :: (D, lstO vs kk) :: W) St) ?_ (n + 1)
      ⟨0, g, ds, vs, k, mc, o, rfl, Nat.zero_le _, Gr.refl _ _, h0, hacc, fun _ _ => rfl, I, hst⟩ (fun _ => rfl)
    rintro q s' ⟨i, g', ds, vs, kk, m', o, rfl, hle, G, hJ, hR, hm, I, hst⟩
    have hat : s'.heap.get? Ia = some o := I.led _ (.head _)
    have hgg : ∀ a ob, g a = some ob → s'.heap.get? a = some ob := fun a ob e => I.keep _ _ (G.le _ _ e)
    by_cases hlt : i < n
    · refine hW.item i s' o _ _ hlt hst hat hgg fun v o' h' tk hP hst' hat' hk => ?_
      have I' := I.chg (o' := o') (tk := tk) Sel.head hk hat'
      refine wpAny_assign_Name (r_storeL I' hx fun s₂ I₂ => ?_)
      refine wpAny_mono (turn i v g' ds m' _ s₂ hlt hP G hJ hm I₂) (fun ok s₃ h₃ => ?_) fun _ _ e => e
      cases ok with
      | false =>
        simp only [Bool.false_eq_true, if_false] at h₃ ⊢
        obtain ⟨g'', G', hJ', I₃⟩ := h₃
        exact ⟨n + 1 - (i + 1), by (first | lia | omega), i + 1, g'', ds, vs, kk, _, o', rfl, hlt, G.trans G', hJ', hR.mono G'.le, fun y hy => by unfold put; rw [if_neg hy]; exact hm y hy, I₃, hst'⟩
      | true =>
        simp only [if_true] at h₃ ⊢
        refine wpAny_mono h₃ (fun y s₄ h₄ => ?_) fun _ _ e => e
        obtain ⟨g'', e, G', hRd, hJ', I₄⟩ := h₄
        refine r_append I₄ (.tail .head) (by rw [hR.1]; exact hsz _ _ _ hJ) fun s₅ I₅ => ?_
        exact ⟨n + 1 - (i + 1), by (first | lia | omega), i + 1, g'', ds ++ [e], vs ++ [y], kk + 1, _, o', rfl, hlt, G.trans G', hJ', (hR.mono G'.le).snoc hRd, fun y hy => by unfold put; rw [if_neg hy]; exact hm y hy, I₅, hst'⟩
    · have hin : i = n := by (first | lia | omega)
      subst hin
      refine hW.done s' o _ _ hst hat hgg fun h' tk hk => ?_
      exact done g' ds vs kk m' _ G hJ hR hm (I.lose hk)
  exact cs_start hg rfl loop (hW.self 0 s o _ _ hst (I.led _ (.head _)) loop)
/-- a frame for a comprehension's block -/
theorem comp_frame {scope : Scope} {l : List (Str × NameKind)} (el : EnvL env l) (fk : env.scope.kind = .function) (eo : EnvOk env) (hok : compOk l scope.names = true) (hkind : scope.kind = .function)
    {s₁ s₂ : Shared} {g : Mp} {m₁ : Str → Option Value} {W₁ Wn : List (Addr × Obj)} (I₁ : Inv g s₀ T env m₁ W₁ s₁)
    (hWn : ∀ p ∈ Wn, s₂.heap.get? p.1 = some p.2 ∧ s₁.heap.get? p.1 = none) (hnd : Wn.Pairwise fun p q => p.1 ≠ q.1) (k₂ : Keeps s₁ s₂) {Q : Env → Shared → Prop}
    (h : ∀ C mc s₃, EnvL (compEnvC scope (clos env.cells scope.names []) C env) (relab l scope.names) → (∀ y, (relab l scope.names).lookup y = some .cell → mc y = m₁ y) →
      Inv g s₁ [] (compEnvC scope (clos env.cells scope.names []) C env) mc Wn s₃ → ∀ ce : Env, { ce with scope := relabel scope env } = compEnvC scope (clos env.cells scope.names []) C env → ce.locals = C → Q ce s₃) :
    wpAny (model prog w) A (newFunctionEnv scope env.globals (clos env.cells scope.names []) [] env.qual none .none (some env)) Q E s₂ := by
  unfold compOk at hok
  simp only [Bool.and_eq_true, decide_eq_true_eq] at hok
  obtain ⟨⟨hall, hnod⟩, hfc⟩ := hok
  have hallp := List.all_eq_true.mp hall
  have hcell : ∀ y ∈ scope.names, y.2 ≠ .cell := fun y hy => by
    have := hallp y hy
    simp only [Bool.and_eq_true, bne_iff_ne] at this
    exact this.1.1
  refine wpAny_newFunctionEnv hcell (by intro y hy; simp at hy) (fun h₁ hns₁ hsb₁ => ?_) hkind
  obtain ⟨hh2, tk2, rfl, kk2⟩ := k₂
  have k12 : ∀ b o, s₁.heap.get? b = some o → h₁.get? b = some o := fun b o e => by
    have e2 := kk2 b o e
    exact hsb₁.extBut b o (Nat.ne_of_lt (Heap.lt_size e2)) (Heap.get?_push_of_some _ e2)
  have k22 : ∀ b o, hh2.get? b = some o → h₁.get? b = some o := fun b o e2 => hsb₁.extBut b o (Nat.ne_of_lt (Heap.lt_size e2)) (Heap.get?_push_of_some _ e2)
  have hmemC : ∀ q ∈ clos env.cells scope.names [], q ∈ env.cells ∧ (q.1, NameKind.free) ∈ scope.names := fun q hq => by
    rcases clos_mem hq with h | ⟨h1, h2⟩
    · cases h
    · refine ⟨?_, h1⟩
      have hq1 := hallp (q.1, .free) h1
      simp only [Bool.and_eq_true, bne_iff_ne, Bool.or_eq_true, beq_iff_eq] at hq1
      have hl : l.lookup q.1 = some .cell := hq1.1.2.resolve_left (by simp)
      obtain ⟨c, hc⟩ := Option.isSome_iff_exists.mp (el.cells _ hl)
      rw [hc] at h2
      have := mem_of_lookup hc
      have e : q = (q.1, c) := Prod.ext rfl h2
      rw [e]; exact this
  have hfst : (clos env.cells scope.names []).map (·.1) = (freeOf scope.names).reverse := by rw [clos_fst]; simp
  have hnd1 : ((clos env.cells scope.names []).map (·.1)).Nodup := by rw [hfst]; exact (List.reverse_perm _).nodup_iff.mpr hnod
  have huniq : (clos env.cells scope.names []).Pairwise fun x y => x.1 ≠ y.1 := List.pairwise_map.mp hnd1
  have hapart : (clos env.cells scope.names []).Pairwise fun x y => x.2 ≠ y.2 := by
    refine List.Pairwise.imp_of_mem (fun {a b} ha hb hab e => ?_) huniq
    exact hab (name_of_addr eo.apart (n := a.1) (n' := b.1) (c := a.2) (hmemC a ha).1 (by rw [e]; exact (hmemC b hb).1))
  have hC₂ : hh2.get? hh2.objs.size = none := by
    cases e : hh2.get? hh2.objs.size with
    | none => rfl
    | some o => exact absurd (Heap.lt_size e) (Nat.lt_irrefl _)
  have hC₁ : s₁.heap.get? hh2.objs.size = none := by
    cases e : s₁.heap.get? hh2.objs.size with
    | none => rfl
    | some o => rw [kk2 _ _ e] at hC₂; cases hC₂
  have hgC : g hh2.objs.size = none := by
    cases e : g hh2.objs.size with
    | none => rfl
    | some o => rw [I₁.keep _ _ e] at hC₁; cases hC₁
  have hnames : (compEnvC scope (clos env.cells scope.names []) hh2.objs.size env).scope.names = relab l scope.names := relabel_eq el fk
  have hkd : ∀ y, (compEnvC scope (clos env.cells scope.names []) hh2.objs.size env).kindOf y = (relab l scope.names).lookup y := fun y => congrArg (·.lookup y) hnames
  have hckind : ∀ q ∈ clos env.cells scope.names [], (relab l scope.names).lookup q.1 = some .cell := fun q hq => by
    have hm : q.1 ∈ freeOf scope.names := by
      have : q.1 ∈ (clos env.cells scope.names []).map (·.1) := List.mem_map_of_mem hq
      rw [hfst] at this; exact List.mem_reverse.mp this
    simpa using List.all_eq_true.mp hfc _ hm
  refine h hh2.objs.size (fun y => if (relab l scope.names).lookup y = some .cell then m₁ y else none) _ ⟨hnames, el.glob, el.blt, fun x hx => ?_⟩ (fun y hy => if_pos hy) ?_ _ rfl rfl
  · -- a cell by its name was free
    have : ∃ k, (x, k) ∈ scope.names ∧ k = .free := by
      have hmem := mem_of_lookup hx
      unfold relab at hmem
      obtain ⟨⟨n, k⟩, hp, e⟩ := List.mem_map.mp hmem
      dsimp only at e
      split at e
      · rename_i hc
        simp only [Bool.and_eq_true, beq_iff_eq] at hc
        have : n = x := congrArg Prod.fst e
        subst this
        exact ⟨k, hp, hc.1⟩
      · have e1 : n = x := congrArg Prod.fst e
        have e2 : k = .cell := congrArg Prod.snd e
        exact absurd e2 (hcell _ hp)
    obtain ⟨k, hp, rfl⟩ := this
    exact clos_some hp
  · have hLne : ∀ p ∈ Wn, p.1 ≠ hh2.objs.size := fun p hp e => by
      have := (hWn p hp).1
      dsimp only at this
      rw [e, hC₂] at this; cases this
    exact
    { eo := ⟨hkind, hapart, huniq, (fun q hq e => by
        have := I₁.cell q (hmemC q hq).1
        obtain ⟨oc, ho, _⟩ := this
        have e' : q.2 = hh2.objs.size := e
        rw [e', hC₁] at ho; cases ho), (fun q hq => by rw [hkd, hckind q hq]; decide)⟩
      ns := ⟨_, hns₁, (fun y hy => by
        rw [hkd] at hy
        rw [if_neg (by rw [hy]; decide)]
        rfl)⟩
      cell := fun q hq => by
        rw [if_pos (hckind q hq)]
        exact (I₁.cell q (hmemC q hq).1).keeps k12
      led := fun p hp => k22 _ _ (hWn p hp).1
      nd := hnd
      keep := fun a o e => k12 _ _ (I₁.keep a o e)
      keep0 := fun a o e _ => k12 _ _ e
      offL := ⟨hgC, .inr hC₁, hLne⟩
      offC := fun q hq => ⟨(I₁.offC q (hmemC q hq).1).1, (fun p hp e => by
        obtain ⟨oc, ho, _⟩ := I₁.cell q (hmemC q hq).1
        have := (hWn p hp).2
        rw [e, ho] at this; cases this)⟩
      offW := fun p hp => ⟨(by
        cases e : g p.1 with
        | none => rfl
        | some o => have := I₁.keep _ _ e; rw [(hWn p hp).2] at this; cases this), .inr (hWn p hp).2⟩
      same := ⟨_, _, rfl⟩ }
end
end Mine
end
section
open PySem PySem.W PySem.Calls
set_option Elab.async false
namespace Mine
section
variable {g : Mp} {s₀ : Shared} {T : List Addr} {env : Env} {m : Str → Option Value} {W : List (Addr × Obj)} {s : Shared}
theorem Inv.addW (I : Inv g s₀ T env m W s) {a : Addr} {o : Obj} (h : s.heap.get? a = some o) (hg : g a = none) (hL : a ≠ env.locals) (hC : ∀ q ∈ env.cells, a ≠ q.2) (hW : ∀ p ∈ W, p.1 ≠ a) (hT : a ∈ T ∨ s₀.heap.get? a = none) : Inv g s₀ T env m ((a, o) :: W) s :=
  { I with
    led := fun p hp => by
      rcases List.mem_cons.mp hp with rfl | hp
      · exact h
      · exact I.led p hp
    nd := List.pairwise_cons.mpr ⟨fun p hp => Ne.symm (hW p hp), I.nd⟩
    offL := ⟨I.offL.1, I.offL.2.1, fun p hp => by
      rcases List.mem_cons.mp hp with rfl | hp
      · exact hL
      · exact I.offL.2.2 p hp⟩
    offC := fun q hq => ⟨(I.offC q hq).1, fun p hp => by
      rcases List.mem_cons.mp hp with rfl | hp
      · exact hC q hq
      · exact (I.offC q hq).2 p hp⟩
    offW := fun p hp => by
      rcases List.mem_cons.mp hp with rfl | hp
      · exact ⟨hg, hT⟩
      · exact I.offW p hp }
end
/-- what a comprehension over one name does -/
structure LC (prog : Program) (w : World) (A : Around) (scope : Scope) (x : Str) (ifs : List Expr) (elt : Expr) (l : List (Str × NameKind)) (s₁ : Shared) (g₁ : Mp) (m₁ : Str → Option Value) (n : Nat) (P : Nat → Value → Prop) (J : Nat → Mp → List PyData → Prop) : Prop where
  start : J 0 g₁ []
  size : ∀ i g ds, J i g ds → ds.length ≤ sizeLine
  turn : ∀ i v g ds cenv mc W s, i < n → P i v → Gr s₁ g₁ g → J i g ds → EnvL cenv (relab l scope.names) → (∀ y, y ≠ x → (relab l scope.names).lookup y = some .cell → mc y = m₁ y) → Inv g s₁ [] cenv (put mc x v) W s →
    wpAny (model prog w) A (tests ifs cenv) (fun ok s' => if ok = true then wpAny (model prog w) A (eval elt cenv) (fun y s'' => LcE s₁ g (J (i + 1)) ds [] cenv (put mc x v) W y s'') NoE s'
      else LcN s₁ g (J (i + 1)) ds [] cenv (put mc x v) W s') NoE s
inductive LcP (prog : Program) (w : World) (A : Around) (scope : Scope) (x : Str) (ifs : List Expr) (elt : Expr) (l : List (Str × NameKind)) (s₀ : Shared) (T : List Addr) (env : Env) (Q : Value → Shared → Prop) (xv : Value) (s₁ : Shared) : Prop
  | mk (g₁ : Mp) (m₁ : Str → Option Value) (W₁ : List (Addr × Obj)) (n : Nat) (P : Nat → Value → Prop) (J : Nat → Mp → List PyData → Prop) (I : Inv g₁ s₀ T env m₁ W₁ s₁) (it : Itr prog w g₁ xv n P) (lc : LC prog w A scope x ifs elt l s₁ g₁ m₁ n P J)
      (done : ∀ D g₀ g ds s', Inv g s₀ T env m₁ W₁ s' → Got g₁ s₁ g s' → J n g₀ ds → g₀.Le g → Rd g (.ref D) (.list ds) → s₁.heap.get? D = none → Q (.ref D) s') : LcP prog w A scope x ifs elt l s₀ T env Q xv s₁
inductive LcAP (prog : Program) (w : World) (A : Around) (scope : Scope) (x y : Str) (ifs : List Expr) (elt : Expr) (l : List (Str × NameKind)) (s₀ : Shared) (T : List Addr) (env : Env) (Q : Flow → Shared → Prop) (xv : Value) (s₁ : Shared) : Prop
  | mk (g₁ : Mp) (m₁ : Str → Option Value) (W₁ : List (Addr × Obj)) (n : Nat) (P : Nat → Value → Prop) (J : Nat → Mp → List PyData → Prop) (I : Inv g₁ s₀ T env m₁ W₁ s₁) (it : Itr prog w g₁ xv n P) (lc : LC prog w A scope x ifs elt l s₁ g₁ m₁ n P J)
      (done : ∀ D g₀ g ds s', Inv g s₀ T env (put m₁ y (.ref D)) W₁ s' → (∃ s'', Got g₁ s₁ g s'') → J n g₀ ds → g₀.Le g → Rd g (.ref D) (.list ds) → s₁.heap.get? D = none → Q .next s') : LcAP prog w A scope x y ifs elt l s₀ T env Q xv s₁
section
variable {prog : Program} {w : World} {A : Around} {E : Value → Shared → Prop} {g : Mp} {s₀ : Shared} {T : List Addr} {env : Env} {m : Str → Option Value} {W : List (Addr × Obj)} {s : Shared} {l : List (Str × NameKind)}
theorem comp_core {elt iter : Expr} {x : Str} {px : Pos} {ifs : List Expr} {scope : Scope} {pos : Pos} {s₁ : Shared} {g₁ : Mp} {m₁ : Str → Option Value} {W₁ : List (Addr × Obj)} {n : Nat} {P : Nat → Value → Prop} {J : Nat → Mp → List PyData → Prop} {xv : Value}
    {RR : Value → Addr → Result → Shared → Prop} (el : EnvL env l) (hok : compOk l scope.names = true) (hkind : scope.kind = .function) (hxl : scope.names.lookup x = some .local) (hh : A.handled = none)
    (I₁ : Inv g₁ s₀ T env m₁ W₁ s₁) (hi : Itr prog w g₁ xv n P) (L : LC prog w A scope x ifs elt l s₁ g₁ m₁ n P J)
    (done : ∀ D C oC g₀ g ds s' mC, Got g₁ s₁ g s' → J n g₀ ds → g₀.Le g → Rd g (.ref D) (.list ds) → s₁.heap.get? C = none → g C = none → s'.heap.get? C = some oC → s'.heap.Ns C mC → C ≠ D → s₁.heap.get? D = none → RR (.ref D) C (.ok .next) s') :
    wpAny (model prog w) A (pyIter xv) (fun it s₂ => wpAny (model prog w) A (newList []) (fun acc s₃ => wpAny (model prog w) A (newFunctionEnv scope env.globals (clos env.cells scope.names []) [] env.qual none .none (some env)) (fun cenv s₄ =>
      codeAny (model prog w) A (.compStart (.ListComp elt [⟨.Name x px, iter, ifs, 0⟩] scope pos) 0 it acc { cenv with scope := relabel scope env }) (RR acc cenv.locals) s₄) E s₃) E s₂) E s₁ := by
  refine hi A s₁ _ _ hh I₁.keep fun o St hf hW hst => ?_
  refine wpAny_newObj_type ?_
  have hsz : (s₁.heap.push o).objs.size = s₁.heap.objs.size + 1 := Heap.size_push ..
  have old : ∀ b ob, s₁.heap.get? b = some ob → ((s₁.heap.push o).push (lstO [] 0)).get? b = some ob := fun b ob e => Heap.get?_push_of_some _ (Heap.get?_push_of_some _ e)
  have fresh : ∀ a, s₁.heap.objs.size ≤ a → s₁.heap.get? a = none := fun a ha => by
    cases e : s₁.heap.get? a with
    | none => rfl
    | some o' => exact absurd (Heap.lt_size e) (Nat.not_lt.mpr ha)
  refine comp_frame (Wn := [(s₁.heap.objs.size, o), ((s₁.heap.push o).objs.size, lstO [] 0)]) el I₁.eo.fk I₁.eo hok hkind I₁ ?_ ?_ ⟨_, _, rfl, old⟩ fun C mc s₃ el' hmc I ce hce hcl => ?_
  · intro p hp
    rcases List.mem_cons.mp hp with rfl | hp
    · exact ⟨Heap.get?_push_of_some _ (Heap.get?_push_size _ hf), fresh _ (Nat.le_refl _)⟩
    · rcases List.mem_cons.mp hp with rfl | hp
      · exact ⟨Heap.get?_push_size _ rfl, fresh _ (by rw [hsz]; exact Nat.le_succ _)⟩
      · cases hp
  · refine List.pairwise_cons.mpr ⟨fun p hp => ?_, List.pairwise_singleton _ _⟩
    rw [List.mem_singleton.mp hp]
    show s₁.heap.objs.size ≠ (s₁.heap.push o).objs.size
    rw [hsz]; (first | lia | omega)
  · rw [hce, hcl]
    refine cs_last (T := []) (d := 0) (o := o) (vs := []) (k := 0) (ds := []) (mc := mc) (W := []) rfl rfl ?_ (hW A g₁ hh (Mp.Le.refl _)) J L.size I hst RdAll.nil L.start (fun i v g' ds m' W' s hlt hP G hJ hm I' => ?_) fun g' ds vs k m' s G hJ hR hm I' => ?_
    · exact lookup_relabel_local hxl
    · exact L.turn i v g' ds _ m' W' s hlt hP G hJ el' (fun y hy hc => (hm y hy).trans (hmc y hc)) I'
    · obtain ⟨md, hns, _⟩ := I'.ns
      have hCd : (compEnvC scope (clos env.cells scope.names []) C env).locals = C := rfl
      rw [hCd] at hns
      obtain ⟨oC, es, ep, hoC, r⟩ := id hns
      have hDC : C ≠ (s₁.heap.push o).objs.size := fun e => I'.offL.2.2 _ (.head _) (by rw [hCd]; exact e.symm)
      have I'' := I'.absorb1
      have G' := G.trans (I'.grPut (.head _))
      refine done _ C oC _ _ ds s md (I''.leave G') hJ (I'.grPut (.head _)).le (Rd.lst (Mp.put_self _ _ _) (hR.mono (I'.grPut (.head _)).le)) ?_ ?_ hoC hns hDC (fresh _ (by rw [hsz]; exact Nat.le_succ _))
      · exact (I'.offL.2.1.elim (fun h => (nomatch h)) id)
      · exact I''.offL.1
theorem comp_pre {scope : Scope} (el : EnvL env l) (hok : compOk l scope.names = true) : closureFor scope env = pure (clos env.cells scope.names []) ∧ ∀ q ∈ scope.names, q.2 = .local → scope.names.lookup q.1 = some .local := by
  have hok' := hok
  unfold compOk at hok'
  simp only [Bool.and_eq_true, decide_eq_true_eq] at hok'
  have hallp := List.all_eq_true.mp hok'.1.1
  have hclos : closureFor scope env = pure (clos env.cells scope.names []) := closureFor_eq fun q hq hf => by
    have := hallp q hq
    simp only [Bool.and_eq_true, bne_iff_ne, Bool.or_eq_true, beq_iff_eq] at this
    exact el.cells _ (this.1.2.resolve_left (by simp [hf]))
  have hnames : ∀ q ∈ scope.names, q.2 = .local → scope.names.lookup q.1 = some .local := fun q hq hl => by
    have := hallp q hq
    simp only [Bool.and_eq_true, bne_iff_ne, Bool.or_eq_true, beq_iff_eq] at this
    exact this.2.resolve_left (by simp [hl])
  exact ⟨hclos, hnames⟩
theorem Got.less {g₁ g : Mp} {s₁ s' : Shared} {C : Addr} {h' : Heap} (G : Got g₁ s₁ g s') (hC₁ : s₁.heap.get? C = none) (hgC : g C = none) (hs' : ∀ b o, b ≠ C → s'.heap.get? b = some o → h'.get? b = some o) : Got g₁ s₁ g { s' with heap := h' } := by
  obtain ⟨hh', tk, rfl, kk⟩ := G.keeps
  exact ⟨G.le, G.new, fun a o e => hs' a o (ne_of_off e hgC) (G.here a o e), ⟨_, _, rfl, fun b o e => hs' b o (fun q => by rw [q, hC₁] at e; cases e) (kk b o e)⟩⟩
/-- a comprehension over one name -/
theorem k_lc {elt iter : Expr} {x : Str} {px : Pos} {ifs : List Expr} {scope : Scope} {pos : Pos} {Q : Value → Shared → Prop} (_cw : CW env s₀ T) (el : EnvL env l) (hok : compOk l scope.names = true) (hkind : scope.kind = .function) (hxl : scope.names.lookup x = some .local) (hh : A.handled = none)
    (h : wpAny (model prog w) A (eval iter env) (fun xv s₁ => LcP prog w A scope x ifs elt l s₀ T env Q xv s₁) E s)
    (hs : ∀ x, foldedSetIterable iter env x = pure x := by intro _; rfl) :
    wpAny (model prog w) A (eval (.ListComp elt [⟨.Name x px, iter, ifs, 0⟩] scope pos) env) Q E s := by
  rw [eval_ListComp]
  have ⟨hclos, hnames⟩ := comp_pre el hok
  refine wpAny_comprehension_free (use := none) rfl hs hclos hkind hnames (wpAny_mono h (fun xv s₁ h₁ => ?_) fun _ _ e => e)
  obtain ⟨g₁, m₁, W₁, n, P, J, I₁, hi, L, done⟩ := h₁
  refine comp_core el hok hkind hxl hh I₁ hi L (RR := fun acc C => compPost (model prog w) A E none Q acc C) fun D C oC g₀ g ds s' mC G hJ hle hR hC₁ hgC hoC hns hCD hDn => ?_
  refine ⟨mC, hns, fun h' hs' => ?_⟩
  have G' := G.less hC₁ hgC hs'.extBut
  exact done D g₀ g ds _ (I₁.got G') G' hJ hle hR hDn
/-- y = [a comprehension over one name] -/
theorem k_lcA {elt iter : Expr} {x y : Str} {px py : Pos} {ifs : List Expr} {scope : Scope} {pos spos : Pos} {Q : Flow → Shared → Prop}
    (hsw : swapsWith (.ListComp elt [⟨.Name x px, iter, ifs, 0⟩] scope pos) (some (.Name y py)) spos.line env = pure true)
    (_cw : CW env s₀ T) (el : EnvL env l) (hok : compOk l scope.names = true) (hkind : scope.kind = .function) (hxl : scope.names.lookup x = some .local) (hyl : l.lookup y = some .local) (hh : A.handled = none)
    (h : wpAny (model prog w) A (eval iter env) (fun xv s₁ => LcAP prog w A scope x y ifs elt l s₀ T env Q xv s₁) E s)
    (hs : ∀ x, foldedSetIterable iter env x = pure x := by intro _; rfl) :
    wpAny (model prog w) A (exec (.Assign [.Name y py] (.ListComp elt [⟨.Name x px, iter, ifs, 0⟩] scope pos) spos) env) Q E s := by
  rw [exec_Assign_Name_used _ _ _ _ hsw]
  refine wpAny_bind (wpAny_standAt (wpAny_bind ?_))
  show wpAny _ A (do let _ ← comprehension (.ListComp elt [⟨.Name x px, iter, ifs, 0⟩] scope pos) scope env _ (newList []) false (eval iter env) (some (assign (.Name y py) env))) _ _ s
  have ⟨hclos, hnames⟩ := comp_pre el hok
  refine wpAny_bind (wpAny_mono (wpAny_comprehension_free (use := some (assign (.Name y py) env)) (Q := fun _ s' => Q .next s') rfl hs hclos hkind hnames
    (wpAny_mono h (fun xv s₁ h₁ => ?_) fun _ _ e => e)) (fun _ s' hq => wpAny_pure (wpAny_pure hq)) fun _ _ e => e)
  obtain ⟨g₁, m₁, W₁, n, P, J, I₁, hi, L, done⟩ := h₁
  refine comp_core el hok hkind hxl hh I₁ hi L (RR := fun acc C => compPost (model prog w) A E (some (assign (.Name y py) env)) (fun _ s' => Q .next s') acc C) fun D C oC g₀ g ds s' mC G hJ hle hR hC₁ hgC hoC hns hCD hDn => ?_
  show wpAny _ A (assign (.Name y py) env (.ref D)) _ _ _
  have I₂ := I₁.got G
  have hneL : C ≠ env.locals := fun e => by
    obtain ⟨md, hn, _⟩ := I₁.ns
    obtain ⟨oL, _, _, hoL, _⟩ := hn
    rw [← e, hC₁] at hoL; cases hoL
  have hneC : ∀ q ∈ env.cells, C ≠ q.2 := fun q hq e => by
    obtain ⟨oc, ho, _⟩ := I₁.cell q hq
    rw [← e, hC₁] at ho; cases ho
  have hneW : ∀ p ∈ W₁, p.1 ≠ C := fun p hp e => by
    have := I₁.led p hp
    rw [e, hC₁] at this; cases this
  have hnewC : C ∈ T ∨ s₀.heap.get? C = none := by
    by_cases hT : C ∈ T
    · exact .inl hT
    · refine .inr ?_
      cases e : s₀.heap.get? C with
      | none => rfl
      | some o => have := I₁.keep0 _ _ e hT; rw [hC₁] at this; cases this
  have I₃ := I₂.addW hoC hgC hneL hneC hneW hnewC
  refine wpAny_assign_Name (r_storeL I₃ ((congrArg (·.lookup y) el.names).trans hyl) fun s'' I₄ => ?_)
  have hC₄ : s''.heap.get? C = some oC := I₄.led _ (.head _)
  obtain ⟨o', es, ep, ho', r⟩ := hns
  have : o' = oC := by rw [hoC] at ho'; exact (Option.some.inj ho').symm
  subst this
  refine ⟨mC, ⟨o', es, ep, hC₄, r⟩, fun h' hs' => ?_⟩
  exact done D g₀ g ds _ (I₄.lose (tk := s''.toks) fun b ob hb e => hs'.extBut b ob hb e) ⟨_, G⟩ hJ hle hR hDn
end
end Mine
end
section
open PySem PySem.W PySem.Calls PySem.Builtin PySem.Builtin.Str
set_option Elab.async false
namespace Mine
/-- the pattern: three dots about each sign -/
noncomputable def patL : List Nat → List Nat
  | [] => [46, 46, 46]
  | c :: r => 46 :: 46 :: 46 :: c :: patL r
noncomputable def pat (w : Str) : Str := ⟨(patL w.cps.toList).toArray⟩
noncomputable def dots : Str := ⟨#[46, 46, 46]⟩
theorem dots_eq : Str.ofString "..." = dots := by decide +kernel
theorem patL_len : ∀ l : List Nat, (patL l).length = 4 * l.length + 3
  | [] => rfl
  | c :: r => by simp only [patL, List.length_cons, patL_len r]; (first | lia | omega)
noncomputable def oneS (c : Nat) : Str := ⟨#[c]⟩
theorem pat_len (w : Str) : (pat w).length = 4 * w.cps.toList.length + 3 := by
  show (patL w.cps.toList).toArray.size = _
  rw [List.size_toArray, patL_len]
/-- positions of the dots in the pattern -/
theorem patL_at : ∀ (l : List Nat) (hd : 46 ∉ l) (i : Nat), i + 3 ≤ (patL l).length → (((patL l).drop i).take 3 == [46, 46, 46]) = decide (i % 4 = 0)
  | [], _, i, h => by
    have : i = 0 := by simp [patL] at h; (first | lia | omega)
    subst this; rfl
  | c :: r, hd, i, h => by
    have hc : c ≠ 46 := fun e => hd (e ▸ .head _)
    have hr : 46 ∉ r := fun e => hd (.tail _ e)
    match i with
    | 0 => rfl
    | 1 => simp [patL, hc]
    | 2 => simp [patL, hc]
    | 3 => simp [patL, hc]
    | j + 4 =>
      have := patL_at r hr j (by simp only [patL, List.length_cons] at h; (first | lia | omega))
      simp only [patL, List.drop_succ_cons]
      rw [this]
      congr 1
      simp
theorem occ_fold (x y : Str) (hi limit : Nat) (ok : Nat → Bool) (hok : ∀ i, i + y.length ≤ hi → subAt x y i = ok i) (hgap : ∀ i j, ok i = true → ok j = true → i < j → i + y.length ≤ j) :
    ∀ (n a : Nat) (cuts : List Nat) (free : Nat), (∀ j, a ≤ j → ok j = true → free ≤ j) → cuts.length + n ≤ limit →
      ∃ f, (forIn (List.range' a n) (cuts.toArray, free) (StrLaws.occBody x y hi limit)).run = ((cuts ++ (List.range' a n).filter (fun i => decide (i + y.length ≤ hi) && ok i)).toArray, f)
  | 0, a, cuts, free, _, _ => ⟨free, by simp [Id.run]; rfl⟩
  | n + 1, a, cuts, free, hf, hl => by
    rw [List.range'_succ, List.forIn_cons]
    unfold StrLaws.occBody
    by_cases h1 : a + y.length ≤ hi
    · by_cases h2 : ok a = true
      · have hcond : ((cuts.toArray.size < limit ∧ free ≤ a) ∧ a + y.length ≤ hi) ∧ subAt x y a = true := ⟨⟨⟨by simp; (first | lia | omega), hf a (Nat.le_refl _) h2⟩, h1⟩, (hok a h1).trans h2⟩
        dsimp only
        rw [if_pos hcond]
        obtain ⟨f, e⟩ := occ_fold x y hi limit ok hok hgap n (a + 1) (cuts ++ [a]) (a + y.length) (fun j hj oj => hgap a j h2 oj (by (first | lia | omega))) (by simp; (first | lia | omega))
        refine ⟨f, ?_⟩
        have e2 : cuts.toArray.push a = (cuts ++ [a]).toArray := by simp
        simp only [List.filter_cons, h1, h2, decide_true, Bool.and_self, if_true]
        rw [e2]
        have e3 : cuts ++ a :: List.filter (fun i => decide (i + y.length ≤ hi) && ok i) (List.range' (a + 1) n) = cuts ++ [a] ++ List.filter (fun i => decide (i + y.length ≤ hi) && ok i) (List.range' (a + 1) n) := by simp
        rw [e3]
        exact e
      · have hcond : ¬ (((cuts.toArray.size < limit ∧ free ≤ a) ∧ a + y.length ≤ hi) ∧ subAt x y a = true) := fun q => h2 ((hok a h1).symm.trans q.2)
        dsimp only
        rw [if_neg hcond]
        obtain ⟨f, e⟩ := occ_fold x y hi limit ok hok hgap n (a + 1) cuts free (fun j hj oj => hf j (by (first | lia | omega)) oj) (by (first | lia | omega))
        refine ⟨f, ?_⟩
        have h2' : ok a = false := by simpa using h2
        simp only [List.filter_cons, h2', Bool.and_false, Bool.false_eq_true, if_false]
        exact e
    · have hcond : ¬ (((cuts.toArray.size < limit ∧ free ≤ a) ∧ a + y.length ≤ hi) ∧ subAt x y a = true) := fun q => h1 q.1.2
      dsimp only
      rw [if_neg hcond]
      obtain ⟨f, e⟩ := occ_fold x y hi limit ok hok hgap n (a + 1) cuts free (fun j hj oj => hf j (by (first | lia | omega)) oj) (by (first | lia | omega))
      refine ⟨f, ?_⟩
      simp only [List.filter_cons, h1, decide_false, Bool.false_and, Bool.false_eq_true, if_false]
      exact e
theorem range_filter4 : ∀ (n a : Nat), a % 4 = 0 → ((List.range' a (4 * n + 4)).filter fun i => decide (i + 3 ≤ a + 4 * n + 3) && decide (i % 4 = 0)) = (List.range (n + 1)).map (fun k => a + 4 * k)
  | 0, a, ha => by
    have e : List.range' a 4 = [a, a + 1, a + 2, a + 3] := by simp [List.range']
    rw [show 4 * 0 + 4 = 4 from rfl, e]
    have h1 : ¬ (a + 1) % 4 = 0 := by (first | lia | omega)
    have h2 : ¬ (a + 2) % 4 = 0 := by (first | lia | omega)
    have h3 : ¬ (a + 3) % 4 = 0 := by (first | lia | omega)
    simp [ha, h1, h2, h3]
  | n + 1, a, ha => by
    have e : List.range' a (4 * (n + 1) + 4) = a :: (a + 1) :: (a + 2) :: (a + 3) :: List.range' (a + 4) (4 * n + 4) := by
      rw [show 4 * (n + 1) + 4 = (4 * n + 4) + 1 + 1 + 1 + 1 by (first | lia | omega)]
      simp [List.range'_succ]
    have ih := range_filter4 n (a + 4) (by (first | lia | omega))
    rw [e]
    have h1 : ¬ (a + 1) % 4 = 0 := by (first | lia | omega)
    have h2 : ¬ (a + 2) % 4 = 0 := by (first | lia | omega)
    have h3 : ¬ (a + 3) % 4 = 0 := by (first | lia | omega)
    have h0 : a + 3 ≤ a + 4 * (n + 1) + 3 := by (first | lia | omega)
    simp only [List.filter_cons, ha, h0, h1, h2, h3, decide_true, decide_false, Bool.and_self, Bool.and_false, if_true, Bool.false_eq_true, if_false]
    rw [show a + 4 * (n + 1) + 3 = a + 4 + 4 * n + 3 by (first | lia | omega), ih]
    rw [List.range_succ_eq_map (n := n + 1)]
    simp only [List.map_cons, List.map_map, Nat.mul_zero, Nat.add_zero]
    congr 1
    refine List.map_congr_left fun k _ => ?_
    simp only [Function.comp]
    (first | lia | omega)
theorem occ_pat (w : Str) (hd : 46 ∉ w.cps.toList) : occurrences (pat w) dots 0 (pat w).length ((pat w).length + 1) = (List.range (w.cps.toList.length + 1)).map (fun k => 4 * k) := by
  rw [StrLaws.occ_eq]
  have hlen := pat_len w
  have hsub : ∀ i, i + dots.length ≤ (pat w).length → subAt (pat w) dots i = decide (i % 4 = 0) := fun i hi => by
    rw [StrLaws.subAt_eq]
    have : (pat w).cps.toList = patL w.cps.toList := rfl
    rw [this]
    exact patL_at _ hd i (by rw [patL_len]; rw [hlen] at hi; exact hi)
  obtain ⟨f, e⟩ := occ_fold (pat w) dots (pat w).length ((pat w).length + 1) (fun i => decide (i % 4 = 0)) hsub (fun i j h1 h2 hij => by
    simp only [decide_eq_true_eq] at h1 h2
    show i + 3 ≤ j
    (first | lia | omega)) ((pat w).length + 1 - 0) 0 [] 0 (fun _ _ _ => Nat.zero_le _) (by simp)
  rw [show (#[] : Array Nat) = ([] : List Nat).toArray from rfl, e]
  have := range_filter4 w.cps.toList.length 0 rfl
  simp only [List.nil_append]
  rw [hlen]
  rw [show 4 * w.cps.toList.length + 3 + 1 - 0 = 4 * w.cps.toList.length + 4 by (first | lia | omega)]
  have e3 : dots.length = 3 := rfl
  simp only [e3]
  simpa using this
end Mine
end
section
open PySem PySem.W PySem.Calls PySem.Builtin PySem.Builtin.Str
set_option Elab.async false
set_option maxRecDepth 100000
namespace Mine
noncomputable def emp : Str := ⟨#[]⟩
theorem emp_eq : Str.ofString "" = emp := by decide +kernel
theorem str_ext {a b : Str} (h : a.cps.toList = b.cps.toList) : a = b := Str.ext' (Array.toList_inj.mp h)
theorem patL_drop : ∀ (l : List Nat) (k : Nat), (patL l).drop (4 * k + 3) = match l.drop k with | [] => [] | c :: r => c :: patL r
  | [], k => by
    have : (patL []).drop (4 * k + 3) = [] := List.drop_eq_nil_of_le (by simp [patL])
    rw [this]; simp
  | c :: r, 0 => by simp [patL]
  | c :: r, k + 1 => by
    have := patL_drop r k
    rw [show 4 * (k + 1) + 3 = (4 * k + 3) + 4 by (first | lia | omega)]
    simp only [patL, List.drop_succ_cons]
    exact this
theorem sub_pat (w : Str) (k c : Nat) (h : w.cps.toList[k]? = some c) : strSub (pat w) (4 * k + 3) (4 * (k + 1)) = oneS c := by
  refine str_ext ?_
  rw [StrLaws.strSub_toList]
  have e : (pat w).cps.toList = patL w.cps.toList := rfl
  rw [e, patL_drop, show 4 * (k + 1) - (4 * k + 3) = 1 by (first | lia | omega)]
  obtain ⟨hk, hc⟩ := List.getElem?_eq_some_iff.mp h
  rw [List.drop_eq_getElem_cons hk, hc]
  rfl
theorem parts_pat (w : Str) : ∀ (j k : Nat), k + j = w.cps.toList.length →
    StrLaws.partsFrom (pat w) 3 (4 * k + 3) ((List.range j).map fun i => 4 * (k + 1 + i)) = (w.cps.toList.drop k).map oneS ++ [emp]
  | 0, k, h => by
    have : w.cps.toList.drop k = [] := List.drop_eq_nil_of_le (by (first | lia | omega))
    rw [this]
    simp only [List.range_zero, List.map_nil, List.nil_append]
    show [strSub (pat w) (4 * k + 3) (pat w).length] = [emp]
    congr 1
    refine str_ext ?_
    rw [StrLaws.strSub_toList, pat_len]
    rw [show 4 * w.cps.toList.length + 3 - (4 * k + 3) = 0 by (first | lia | omega)]
    simp [emp]
  | j + 1, k, h => by
    have hk : k < w.cps.toList.length := by (first | lia | omega)
    rw [List.range_succ_eq_map, List.map_cons, List.map_map]
    show strSub (pat w) (4 * k + 3) (4 * (k + 1 + 0)) :: StrLaws.partsFrom (pat w) 3 (4 * (k + 1 + 0) + 3) _ = _
    rw [List.drop_eq_getElem_cons hk, List.map_cons, List.cons_append, Nat.add_zero, sub_pat w k _ (List.getElem?_eq_getElem hk)]
    congr 1
    have ih := parts_pat w j (k + 1) (by (first | lia | omega))
    rw [← ih]
    congr 1
    refine List.map_congr_left fun i _ => ?_
    simp only [Function.comp]
    (first | lia | omega)
theorem split_pat (w : Str) (hd : 46 ∉ w.cps.toList) : partsBetween (pat w) (occurrences (pat w) dots 0 (pat w).length ((pat w).length + 1)) dots.length = emp :: (w.cps.toList.map oneS ++ [emp]) := by
  rw [occ_pat w hd, StrLaws.partsBetween_eq, List.range_succ_eq_map, List.map_cons, List.map_map]
  show strSub (pat w) 0 (4 * 0) :: StrLaws.partsFrom (pat w) 3 (4 * 0 + 3) _ = _
  have h0 : strSub (pat w) 0 (4 * 0) = emp := by
    refine str_ext ?_
    rw [StrLaws.strSub_toList]; simp [emp]
  rw [h0]
  congr 1
  have := parts_pat w w.cps.toList.length 0 (by (first | lia | omega))
  rw [List.drop_zero] at this
  rw [← this]
  congr 1
  refine List.map_congr_left fun i _ => ?_
  simp only [Function.comp]
  (first | lia | omega)
theorem strsFrom_rd {g : Mp} : ∀ (xs : List Str) (k : Nat), RdAll g (strsFrom k xs) (xs.map PyData.str)
  | [], _ => RdAll.nil
  | x :: r, k => .cons (.str x k) (strsFrom_rd r (k + 1))
theorem strKind_dots (x : Str) : (decide (Builtin.Str.strKind x < Builtin.Str.strKind dots)) = false := by
  have : Builtin.Str.strKind dots = 1 := by decide +kernel
  rw [this]
  unfold Builtin.Str.strKind
  split <;> (try split) <;> decide
section
variable {prog : Program} {w : World} {A : Around} {E : Value → Shared → Prop} {g : Mp} {s₀ : Shared} {T : List Addr} {env : Env} {m : Str → Option Value} {W : List (Addr × Obj)} {s : Shared}
theorem Inv.push_tok (I : Inv g s₀ T env m W s) {o : Obj} (tk : Nat) (hf : o.isFreed = false := by rfl) : Inv g s₀ T env m ((s.heap.objs.size, o) :: W) { s with toks := tk, heap := s.heap.push o } := (I.alloc hf).tok tk
/-- the pattern cut at its dots -/
theorem r_splitP {x : Str} {t u : Tok} {Q : Value → Shared → Prop} (I : Inv g s₀ T env m W s) (hd : 46 ∉ x.cps.toList) (hx : x.length ≤ 2 ^ 20)
    (h : ∀ D vs s', RdAll g vs ((emp :: (x.cps.toList.map oneS ++ [emp])).map PyData.str) → Inv g s₀ T env m ((D, lstO vs 0) :: W) s' → Q (.ref D) s') :
    wpAny (model prog w) A (call (.builtin "str.split") [.str (pat x) t, .str dots u]) Q E s := by
  have hlen := pat_len x
  have hxl : x.cps.toList.length = x.length := by simp [Str.length]
  refine call_meets F.slot_str_split (typeIs_str _ _ _) F.entry_str_split (F.args_str_split_2 _ _) (meets_str_split_sep (pat x) dots t u ?_ (by decide) ?_ ?_ ?_) ?_
  · rw [strKind_dots]
    have e3 : dots.length = 3 := rfl
    simp only [Bool.or_false, decide_eq_false_iff_not]
    rw [hlen, e3]; (first | lia | omega)
  · rw [occ_pat x hd]; simp
  · rw [hlen, hxl, sizeLine_eq]; (first | lia | omega)
  · rw [split_pat x hd]; simp; rw [sizeLine_eq]; simp only [Str.length] at hx; (first | lia | omega)
  · rw [split_pat x hd]
    exact h _ _ _ (strsFrom_rd _ _) (I.push_tok _)
theorem mth_split {x : Str} {t : Tok} {pl : Sem Bool} {Q : Value × List Value → Shared → Prop} (h : Q (.builtin "str.split", [.str x t]) s) : wpAny (model prog w) A (getMethod (.str x t) (Str.ofString "split") pl) Q E s := GM.split h
theorem mth_find {x : Str} {t : Tok} {pl : Sem Bool} {Q : Value × List Value → Shared → Prop} (h : Q (.builtin "str.find", [.str x t]) s) : wpAny (model prog w) A (getMethod (.str x t) (Str.ofString "find") pl) Q E s := GM.find h
theorem mth_join {x : Str} {t : Tok} {pl : Sem Bool} {Q : Value × List Value → Shared → Prop} (h : Q (.builtin "str.join", [.str x t]) s) : wpAny (model prog w) A (getMethod (.str x t) (Str.ofString "join") pl) Q E s := GM.join h
noncomputable def findN (x y : Str) (lo : Nat) : Int := match occurrences x y lo x.length 1 with | k :: _ => (k : Int) | [] => -1
theorem gives_find4 (x y : Str) (i : Nat) (t u v v' : Tok) : Gives («str.find» ⟨[.str x t, .str y u, .int i v, .int x.length v'], []⟩) (.int (findN x y i)) := by
  have e1 : (max 0 (if (i : Int) < 0 then (i : Int) + x.length else (i : Int))).toNat = i := by
    rw [if_neg (by (first | lia | omega))]; (first | lia | omega)
  have e2 : min (max 0 (if (x.length : Int) < 0 then (x.length : Int) + x.length else (x.length : Int))).toNat x.length = x.length := by
    rw [if_neg (by (first | lia | omega))]; (first | lia | omega)
  have key : Gives (match occurrences x y (max 0 (if (i : Int) < 0 then (i : Int) + x.length else (i : Int))).toNat (min (max 0 (if (x.length : Int) < 0 then (x.length : Int) + x.length else (x.length : Int))).toNat x.length) 1 with | k :: _ => retInt k | [] => (do rule "str.find.not-found"; retInt (-1))) (.int (findN x y i)) := by
    rw [e1, e2]
    unfold findN
    cases occurrences x y i x.length 1 with
    | nil => exact .rule (.of_eq rfl)
    | cons k _ => exact .of_eq rfl
  exact key
theorem r_find4 {x y : Str} {i : Nat} {t u v v' : Tok} {Q : Value → Shared → Prop} (I : Inv g s₀ T env m W s) (h : ∀ t s', Inv g s₀ T env m W s' → Q (.int (findN x y i) t) s') :
    wpAny (model prog w) A (call (.builtin "str.find") [.str x t, .str y u, .int i v, .int x.length v']) Q E s :=
  call_gives F.slot_str_find (typeIs_str _ _ _) F.entry_str_find (F.args_str_find_4 _ _ _ _) (gives_find4 x y i t u v v') (h _ _ (I.tok _))
end
/-- the first place of a sign, from a place on -/
theorem find_one (x : Str) (c lo : Nat) (h : lo ≤ x.length) : (findN x (oneS c) lo = -1 ∧ c ∉ x.cps.toList.drop lo) ∨ ∃ k, findN x (oneS c) lo = ((lo + k : Nat) : Int) ∧ (x.cps.toList.drop lo)[k]? = some c ∧ ∀ j, j < k → (x.cps.toList.drop lo)[j]? ≠ some c := by
  unfold findN
  have at_iff : ∀ i, StrLaws.At x (oneS c) x.length i ↔ x.cps.toList[i]? = some c := fun i => StrLaws.subAt_one x c i
  rcases StrLaws.occ_head_from x (oneS c) lo 1 (Nat.le_refl _) with ⟨e, hn⟩ | ⟨i, r, e, h1, h2, h3⟩
  · rw [e]
    refine .inl ⟨rfl, fun hm => ?_⟩
    obtain ⟨j, hj, hc⟩ := List.getElem_of_mem hm
    rw [List.getElem_drop] at hc
    exact hn (lo + j) (by (first | lia | omega)) ((at_iff _).mpr (by rw [List.getElem?_eq_getElem (by simp at hj ⊢; (first | lia | omega))]; exact congrArg some hc))
  · rw [e]
    refine .inr ⟨i - lo, by show (i : Int) = _; (first | lia | omega), ?_, fun j hj => ?_⟩
    · rw [List.getElem?_drop, show lo + (i - lo) = i by (first | lia | omega)]; exact (at_iff i).mp h2
    · rw [List.getElem?_drop]
      intro q
      exact h3 (lo + j) (by (first | lia | omega)) (by (first | lia | omega)) ((at_iff _).mpr q)
theorem find_emp (x : Str) (lo : Nat) (h : lo ≤ x.length) : findN x emp lo = (lo : Int) := by
  unfold findN
  rcases StrLaws.occ_head_from x emp lo 1 (Nat.le_refl _) with ⟨e, hn⟩ | ⟨i, r, e, h1, h2, h3⟩
  · exact absurd ⟨by show lo + 0 ≤ _; (first | lia | omega), by rw [StrLaws.subAt_eq]; simp [emp, Str.length]⟩ (hn lo (Nat.le_refl _))
  · rw [e]
    have : i = lo := by
      by_cases q : lo < i
      · exact absurd ⟨by show lo + 0 ≤ _; (first | lia | omega), by rw [StrLaws.subAt_eq]; simp [emp, Str.length]⟩ (h3 lo (Nat.le_refl _) q)
      · (first | lia | omega)
    rw [this]
end Mine
end
section
open PySem PySem.W PySem.Calls
set_option Elab.async false
set_option maxRecDepth 100000
namespace Mine
theorem len_rd {g : Mp} {vs : List Value} {ds : List PyData} (h : RdAll g vs ds) : vs.length = ds.length := h.1
/-- a block with these names and nothing else -/
noncomputable def mkE (l : List (Str × NameKind)) : Env := { (default : Env) with scope := { kind := .function, names := l, isGenerator := false, isCoroutine := false, more := [] } }
theorem kind_eq {env : Env} {l : List (Str × NameKind)} (el : EnvL env l) (x : Str) : env.kindOf x = (mkE l).kindOf x := congrArg (·.lookup x) el.names
theorem block_eq {env : Env} {l : List (Str × NameKind)} (fk : env.scope.kind = .function) : env.blockKind = (mkE l).blockKind := by
  unfold Env.blockKind; rw [fk]; rfl
theorem stores_eq {env : Env} {l : List (Str × NameKind)} (el : EnvL env l) (fk : env.scope.kind = .function) (ts : List Expr) (v : Expr) : swappedStores ts v env = swappedStores ts v (mkE l) := by
  unfold swappedStores
  have h1 : env.kindOf = (mkE l).kindOf := funext (kind_eq el)
  rw [h1, block_eq (l := l) fk]
theorem swaps_eq {env : Env} {l : List (Str × NameKind)} (el : EnvL env l) (fk : env.scope.kind = .function) (v : Expr) (y : Str) (py : Pos) (n : Nat) : swapsWith v (some (.Name y py)) n env = swapsWith v (some (.Name y py)) n (mkE l) := by
  unfold swapsWith
  have h1 : env.kindOf = (mkE l).kindOf := funext (kind_eq el)
  have h2 := block_eq (l := l) fk
  dsimp only
  rw [h1, h2]
section
variable {prog : Program} {w : World} {A : Around} {E : Value → Shared → Prop} {g : Mp} {s₀ : Shared} {T : List Addr} {env : Env} {m : Str → Option Value} {W : List (Addr × Obj)} {s : Shared} {l : List (Str × NameKind)}
theorem r_newList {vs : List Value} {Q : Value → Shared → Prop} (I : Inv g s₀ T env m W s) (hsz : vs.length ≤ sizeLine) (h : ∀ D s', Inv g s₀ T env m ((D, lstO vs 0) :: W) s' → Q (.ref D) s') : wpAny (model prog w) A (newList vs) Q E s :=
  wpAny_newObj_type (h _ _ I.alloc) (by show vs.toArray.size ≤ sizeLine; rw [List.size_toArray]; exact hsz)
theorem r_newTuple {vs : List Value} {Q : Value → Shared → Prop} (I : Inv g s₀ T env m W s) (hsz : vs.length ≤ sizeLine) (h : ∀ D s', Inv g s₀ T env m ((D, tupO vs 0) :: W) s' → Q (.ref D) s') : wpAny (model prog w) A (newTuple vs) Q E s :=
  wpAny_newObj_type (h _ _ I.alloc) (by show vs.toArray.size ≤ sizeLine; rw [List.size_toArray]; exact hsz)
/-- a list, wherever it stands -/
noncomputable def LstAt (g : Mp) (W : List (Addr × Obj)) (a : Addr) (vs : List Value) : Prop := (∃ n, g a = some (lstO vs n)) ∨ ∃ n, (a, lstO vs n) ∈ W
theorem LstAt.at {a : Addr} {vs : List Value} (h : LstAt g W a vs) (I : Inv g s₀ T env m W s) : ∃ n, s.heap.get? a = some (lstO vs n) := by
  rcases h with ⟨n, e⟩ | ⟨n, hm⟩
  · exact ⟨n, I.keep _ _ e⟩
  · exact ⟨n, I.led _ hm⟩
theorem LstAt.isList {a : Addr} {vs : List Value} (h : LstAt g W a vs) (I : Inv g s₀ T env m W s) : s.heap.IsList a vs.toArray := by
  obtain ⟨n, e⟩ := h.at I
  exact ⟨_, e, rfl, n, rfl⟩
theorem r_lenL {a : Addr} {vs : List Value} {Q : Value → Shared → Prop} (I : Inv g s₀ T env m W s) (L : LstAt g W a vs) (hsz : vs.length < 2 ^ 40) (h : ∀ t s', Inv g s₀ T env m W s' → Q (.int vs.length t) s') : wpAny (model prog w) A (call (.builtin "len") [.ref a]) Q E s := by
  refine PyProof.Rows.len_list (L.isList I) (by simp; (first | lia | omega)) ?_
  rw [show (vs.toArray.size : Int) = (vs.length : Int) by simp]
  exact h _ _ (I.tok _)
theorem i_list {value slice : Expr} {a : Addr} {vs : List Value} {k : Int} {u : Tok} {v : Value} {Q : Value → Shared → Prop} (I : Inv g s₀ T env m W s) (L : LstAt g W a vs) (h0 : 0 ≤ k) (h1 : k < 2 ^ 40) (hv : vs[k.toNat]? = some v) (h : Q v s)
    (hs : subscripted slice false (.ref a) (.int k u) = operate [.ref a, .int k u] (getItem (.ref a) (.int k u)) := by with_unfolding_all rfl) :
    wpAny (model prog w) A (PyProof.Rows.subscriptTail value slice (.ref a) (.int k u)) Q E s :=
  PyProof.Rows.tail_any (L.isList I).typeIs slot_list_getitem.lookup (wpAny_getItem_list (L.isList I) h0 (by (first | lia | omega)) (by simpa using hv) h) hs
theorem i_listN {value slice : Expr} {a : Addr} {vs : List Value} {k : Int} {u : Tok} {v : Value} {Q : Value → Shared → Prop} (I : Inv g s₀ T env m W s) (L : LstAt g W a vs) (h0 : k < 0) (h1 : -(vs.length : Int) ≤ k) (h2 : -(2 ^ 40) ≤ k) (hv : vs[(k + vs.length).toNat]? = some v) (h : Q v s)
    (hs : subscripted slice false (.ref a) (.int k u) = operate [.ref a, .int k u] (getItem (.ref a) (.int k u)) := by with_unfolding_all rfl) :
    wpAny (model prog w) A (PyProof.Rows.subscriptTail value slice (.ref a) (.int k u)) Q E s :=
  PyProof.Rows.tail_any (L.isList I).typeIs slot_list_getitem.lookup (wpAny_getItem_list_neg (L.isList I) h0 (by simpa using h1) (by (first | lia | omega)) (by simpa using hv) h) hs
theorem c_inS {x y : Str} {t u : Tok} {Q : Value → Shared → Prop} (h : Q (.bool (Txt.contains x y)) s) : wpAny (model prog w) A (compareOp .In (.str y u) (.str x t)) Q E s := P.in_str h
theorem c_ninS {x y : Str} {t u : Tok} {Q : Value → Shared → Prop} (h : Q (.bool (!Txt.contains x y)) s) : wpAny (model prog w) A (compareOp .NotIn (.str y u) (.str x t)) Q E s := P.notIn_str h
theorem b_chr {i : Int} {t : Tok} {Q : Value → Shared → Prop} (I : Inv g s₀ T env m W s) (h0 : 0 ≤ i) (h1 : i ≤ 1114111) (h : ∀ t s', Inv g s₀ T env m W s' → Q (.str (oneS i.toNat) t) s') : wpAny (model prog w) A (call (.builtin "chr") [.int i t]) Q E s :=
  PyProof.Rows.chr_of_range h0 h1 (h _ _ (I.tok _))
theorem b_ord {c : Nat} {t : Tok} {Q : Value → Shared → Prop} (I : Inv g s₀ T env m W s) (h : ∀ t s', Inv g s₀ T env m W s' → Q (.int c t) s') : wpAny (model prog w) A (call (.builtin "ord") [.str ⟨#[c]⟩ t]) Q E s :=
  P.ord_of_char (h _ _ (I.tok _))
theorem k_assert {test : Expr} {msg : Option Expr} {pos : Pos} {Q : Flow → Shared → Prop}
    (h : wpAny (model prog w) A (isTrue test env (eval test env)) (fun b s₁ => b = true ∧ Q .next s₁) E s) : wpAny (model prog w) A (exec (.Assert test msg pos) env) Q E s := wpAny_Assert_holds h
/-- a, b = e1, e2 for two names of the block -/
theorem k_pair {a b : Str} {pa pb tp pos vp : Pos} {k k' : Nat} {e1 e2 : Expr} {Q : Flow → Shared → Prop} (_cw : CW env s₀ T) (el : EnvL env l) (fk : env.scope.kind = .function) (ha : l.lookup a = some .local) (hb : l.lookup b = some .local)
    (hsw : swappedStores [.Tuple [.Name a pa, .Name b pb] k tp] (.Tuple [e1, e2] k' vp) (mkE l) = pure (some [a, b])) (hh : A.handled = none)
    (h : wpAny (model prog w) A (spliced (backTo vp (starEach [e1, e2] env))) (fun vs s₁ => ∃ v1 v2 g₁ m₁ W₁, vs = [v1, v2] ∧ Inv g₁ s₀ T env m₁ W₁ s₁ ∧ ∀ s', Inv g₁ s₀ T env (put (put m₁ b v2) a v1) W₁ s' → Q .next s') E s)
    (hs : swapsWithSole [.Tuple [.Name a pa, .Name b pb] k tp] (.Tuple [e1, e2] k' vp) pos.line env = pure false := by kernel_rfl) :
    wpAny (model prog w) A (exec (.Assign [.Tuple [.Name a pa, .Name b pb] k tp] (.Tuple [e1, e2] k' vp) pos) env) Q E s := by
  have hka : env.kindOf a = some .local := (congrArg (·.lookup a) el.names).trans ha
  have hkb : env.kindOf b = some .local := (congrArg (·.lookup b) el.names).trans hb
  have hsw' := (stores_eq el fk [.Tuple [.Name a pa, .Name b pb] k tp] (.Tuple [e1, e2] k' vp)).trans hsw
  refine PyProof.Rows.Assign_Tuple_swapped (names := [a, b]) (k_tuple (wpAny_mono h (fun vs s₁ h₁ => ?_) fun _ _ e => e)) hs hsw'
  obtain ⟨v1, v2, g₁, m₁, W₁, rfl, I, hq⟩ := h₁
  refine r_newTuple I (by show 2 ≤ sizeLine; decide) fun D s₂ I₂ => ?_
  have htup : s₂.heap.IsTuple D #[v1, v2] := ⟨_, I₂.led _ (.head _), rfl, 0, rfl⟩
  have hu := @wpAny_unpackItems_tuple prog w A E s₂ D #[v1, v2]
  refine hu hh htup fun h' he => ?_
  have I₃ := (I₂.ext (h' := h') (tk := s₂.toks) fun b ob e => he b ob (Nat.ne_of_lt (Heap.lt_size e)) e).tail
  simp only [List.reverse_cons, List.reverse_nil, List.nil_append, List.map_cons, List.map_nil, List.cons_append]
  rw [assignInOrder]
  refine wpAny_bind (wpAny_holding (wpAny_bindName (r_storeL I₃ hkb fun s₄ I₄ => ?_)))
  rw [assignInOrder]
  refine wpAny_bind (wpAny_holding (wpAny_bindName (r_storeL I₄ hka fun s₅ I₅ => ?_)))
  exact wpAny_pure (hq _ I₅)
end
end Mine
namespace Mine
section
variable {prog : Program} {w : World} {A : Around} {E : Value → Shared → Prop} {g : Mp} {s₀ : Shared} {T : List Addr} {env : Env} {m : Str → Option Value} {W : List (Addr × Obj)} {s : Shared} {l : List (Str × NameKind)}
theorem k_neg {i : Int} {k : Nat} {pos pos' : Pos} {Q : Value → Shared → Prop} (I : Inv g s₀ T env m W s) (h : ∀ t s', Inv g s₀ T env m W s' → Q (.int (-i) t) s') : wpAny (model prog w) A (eval (.UnaryOp .USub (.Constant (.int i) k pos) pos') env) Q E s :=
  PyProof.Rows.UnaryOp_ (r_int I fun t s' I' => P.neg_int (h _ _ (I'.tok _)))
theorem k_aug {x : Str} {px pos : Pos} {op : Operator} {value : Expr} {Q : Flow → Shared → Prop}
    (h : wpAny (model prog w) A (loadName env x) (fun old s₁ => wpAny (model prog w) A (eval value env) (fun v s₂ => wpAny (model prog w) A (inplaceOp op old v)
      (fun r s₃ => wpAny (model prog w) A (storeName env x r) (fun _ => Q .next) E s₃) E s₂) E s₁) E s) :
    wpAny (model prog w) A (exec (.AugAssign (.Name x px) op value pos) env) Q E s := wpAny_AugAssign_Name h
theorem a_addI {a b : Int} {t u : Tok} {Q : Value → Shared → Prop} (I : Inv g s₀ T env m W s) (h : ∀ t s', Inv g s₀ T env m W s' → Q (.int (a + b) t) s') : wpAny (model prog w) A (inplaceOp .Add (.int a t) (.int b u)) Q E s := P.iadd_int (h _ _ (I.tok _))
end
end Mine
namespace Mine
section
variable {prog : Program} {w : World} {A : Around} {E : Value → Shared → Prop} {env : Env} {s : Shared}
theorem k_bool {b : Bool} {k : Nat} {pos : Pos} {Q : Value → Shared → Prop} (h : Q (.bool b) s) : wpAny (model prog w) A (eval (.Constant (.bool b) k pos) env) Q E s := PyProof.Rows.Constant_bool h
end
end Mine
end
section
open PySem PySem.W PySem.Calls
set_option Elab.async false
set_option maxRecDepth 100000
namespace Mine
theorem Inv.less {g g' : Mp} {s₀ : Shared} {T : List Addr} {env : Env} {m : Str → Option Value} {W : List (Addr × Obj)} {s : Shared} (I : Inv g' s₀ T env m W s) (le : g.Le g') : Inv g s₀ T env m W s := by
  have off : ∀ a, g' a = none → g a = none := fun a h => by
    cases e : g a with
    | none => rfl
    | some o => rw [le _ _ e] at h; cases h
  exact { I with keep := fun a o e => I.keep a o (le _ _ e), offL := ⟨off _ I.offL.1, I.offL.2⟩, offC := fun q hq => ⟨off _ (I.offC q hq).1, (I.offC q hq).2⟩, offW := fun p hp => ⟨off _ (I.offW p hp).1, (I.offW p hp).2⟩ }
theorem strs_of {g : Mp} : ∀ {vs : List Value} {xs : List Str}, RdAll g vs (xs.map PyData.str) → ∃ l : List (Str × Tok), vs = strValues l ∧ l.map (·.1) = xs
  | [], [], _ => ⟨[], rfl, rfl⟩
  | [], _ :: _, h => by simp [RdAll] at h
  | _ :: _, [], h => by simp [RdAll] at h
  | v :: vs, x :: xs, h => by
    obtain ⟨t, rfl⟩ := h.uncons.1.unstr
    obtain ⟨l, rfl, rfl⟩ := strs_of h.uncons.2
    exact ⟨(x, t) :: l, rfl, rfl⟩
/-- texts one after the other -/
noncomputable def catL (xs : List Str) : List Nat := xs.flatMap fun x => x.cps.toList
theorem catL_nil : catL [] = [] := rfl
theorem catL_cons (x : Str) (r : List Str) : catL (x :: r) = x.cps.toList ++ catL r := rfl
noncomputable def ofL (l : List Nat) : Str := ⟨l.toArray⟩
theorem ofL_toList (l : List Nat) : (ofL l).cps.toList = l := rfl
theorem toList_app (a b : Str) : (a ++ b).cps.toList = a.cps.toList ++ b.cps.toList := by rw [Str.cps_append, Array.toList_append]
theorem ofL_self (x : Str) : ofL x.cps.toList = x := str_ext rfl
theorem ofL_app (a b : List Nat) : ofL a ++ ofL b = ofL (a ++ b) := str_ext (by rw [toList_app]; rfl)
theorem join_emp : ∀ xs : List Str, Txt.join emp xs = ofL (catL xs) := fun xs => by
  show Builtin.Str.glued emp xs = _
  rw [StrLaws.glued_eq_join]
  have : ∀ xs : List Str, (Str.join emp xs).cps.toList = catL xs := by
    intro xs
    induction xs with
    | nil => rfl
    | cons a r ih =>
      cases r with
      | nil => show a.cps.toList = _; simp [catL]
      | cons b r =>
        show (a ++ emp ++ Str.join emp (b :: r)).cps.toList = _
        rw [toList_app, toList_app, ih, catL_cons a]
        simp [emp]
  exact str_ext (this xs)
theorem catL_len (xs : List Str) : (catL xs).length = (xs.map (·.length)).sum := by
  induction xs with
  | nil => rfl
  | cons a r ih => rw [catL_cons]; simp [ih, Str.length]
theorem joinOk_emp {xs : List Str} (h : (catL xs).length ≤ sizeLine) : JoinOk emp xs = true := by
  unfold JoinOk
  rw [StrLaws.joinTotal, ← catL_len]
  show (!Builtin.Str.tooLong ((catL xs).length + xs.length * 0)) = true
  unfold Builtin.Str.tooLong
  simp only [Nat.mul_zero, Nat.add_zero, Bool.not_eq_true', decide_eq_false_iff_not]
  (first | lia | omega)
noncomputable abbrev rngO (a b : Int) (t u v : Tok) : Obj := { cls := .type "range", data := .fields #[.int a t, .int b u, .int 1 v] }
theorem itr_range {prog : Program} {w : World} {g : Mp} {r : Addr} {a b : Int} {t u v : Tok} (e : g r = some (rngO a b t u v)) (ha : -(2 ^ 62) ≤ a) (ha' : a < 2 ^ 62) (hb : -(2 ^ 62) ≤ b) (hb' : b < 2 ^ 62) :
    Itr prog w g (.ref r) (b - a).toNat (fun i x => ∃ t, x = .int (a + i) t) := fun A s Q E hh hg h => by
  have hsz : Builtin.Range.rangeSize a b 1 = ((b - a).toNat : Int) := by rw [rangeSize_one]; split <;> (first | lia | omega)
  refine wpAny_pyIter_range (hg _ _ e) (small_one ha ha' hb hb') ?_
  rw [hsz]
  refine h _ (fun i o => o = { cls := .type "range_iterator", dict := none, data := .fields #[rawInt (a + i), rawInt ((b - a).toNat - i), rawInt 1], slots := #[] }) rfl (fun A' g' hA le => ?_) (by simp)
  refine ⟨fun i s o Q E hi st ho hg' hQ => ?_, fun s o Q E st ho hg' hQ => ?_, fun i s o Q E st ho hQ => ?_⟩
  · subst st
    refine wpAny_pyNext_range_item ho (by (first | lia | omega)) fun h' hit' hs' => hQ _ _ h' _ ⟨_, rfl⟩ ?_ hit' fun b ob hb q => hs'.extBut b ob hb q
    have e1 : (a + i) + 1 = a + ((i + 1 : Nat) : Int) := by (first | lia | omega)
    have e2 : (((b - a).toNat : Int) - i) - 1 = ((b - a).toNat : Int) - ((i + 1 : Nat) : Int) := by (first | lia | omega)
    rw [e1, e2]
  · subst st
    exact wpAny_pyNext_range_end hA ho (by (first | lia | omega)) fun h' he' => hQ h' s.toks fun b ob hb q => he' b ob hb q
  · subst st
    exact wpAny_pyIter_rangeiter ho hQ
section
variable {prog : Program} {w : World} {A : Around} {E : Value → Shared → Prop} {g : Mp} {s₀ : Shared} {T : List Addr} {env : Env} {m : Str → Option Value} {W : List (Addr × Obj)} {s : Shared} {l : List (Str × NameKind)}
theorem r_join {D : Addr} {vs : List Value} {xs : List Str} {t : Tok} {Q : Value → Shared → Prop} (I : Inv g s₀ T env m W s) (L : LstAt g W D vs) (r : RdAll g vs (xs.map PyData.str)) (hok : (catL xs).length ≤ sizeLine)
    (h : ∀ t s', Inv g s₀ T env m W s' → Q (.str (ofL (catL xs)) t) s') : wpAny (model prog w) A (call (.builtin "str.join") [.str emp t, .ref D]) Q E s := by
  obtain ⟨l, rfl, hx⟩ := strs_of r
  refine SC.join (L.isList I) hx (joinOk_emp hok) fun t' k => ?_
  rw [join_emp]
  exact h _ _ (I.tok _)
theorem k_ty {pos : Pos} {id : String} {e : Expr} {rest : List Expr} {Q : Value → Shared → Prop}
    (h : wpAny (model prog w) A (spliced (backTo pos (starEach (e :: rest) env))) (fun vs s₁ => wpAny (model prog w) A (call (.type id) vs) Q E s₁) E s)
    (he : starEach (e :: rest) env = (false, eval e env) :: starEach rest env := by rfl)
    (hplain : (backTo pos (starEach rest env)).any (·.1) = false := by rfl) :
    wpAny (model prog w) A (callWith pos (.type id) [] (backTo pos (starEach (e :: rest) env)) []) Q E s := PyProof.Rows.callWith_type1 h he hplain
theorem r_range1 {n : Int} {t : Tok} {Q : Value → Shared → Prop} (I : Inv g s₀ T env m W s) (h : ∀ D t u v s', Inv g s₀ T env m ((D, rngO 0 n t u v) :: W) s' → Q (.ref D) s') : wpAny (model prog w) A (call (.type "range") [.int n t]) Q E s :=
  call_range_1 (h _ _ _ _ _ (I.push_tok _))
theorem r_addL {a b : Addr} {vs ws : List Value} {Q : Value → Shared → Prop} (I : Inv g s₀ T env m W s) (La : LstAt g W a vs) (Lb : LstAt g W b ws) (hsz : vs.length + ws.length ≤ sizeLine)
    (h : ∀ D s', Inv g s₀ T env m ((D, lstO (vs ++ ws) 0) :: W) s' → Q (.ref D) s') : wpAny (model prog w) A (binaryOp .Add (.ref a) (.ref b)) Q E s := by
  obtain ⟨n, ea⟩ := La.at I
  obtain ⟨k, eb⟩ := Lb.at I
  refine P.add_list ea eb ?_ (by simpa using hsz)
  rw [List.append_toArray]
  exact h _ _ I.alloc
theorem mth_list {D : Addr} {vs : List Value} {name : Str} {id : String} {pl : Sem Bool} {Q : Value × List Value → Shared → Prop} (I : Inv g s₀ T env m W s) (L : LstAt g W D vs) (slot : Slot "list" name id)
    (hty : typeOf (.builtin id) = pure (.type "method_descriptor")) (h : Q (.builtin id, [.ref D]) s) : wpAny (model prog w) A (getMethod (.ref D) name pl) Q E s := by
  obtain ⟨n, e⟩ := L.at I
  exact PyProof.Rows.getMethod_list_of slot hty (L.isList I) ⟨_, e, rfl⟩ h
theorem mth_append {D : Addr} {vs : List Value} {pl : Sem Bool} {Q : Value × List Value → Shared → Prop} (I : Inv g s₀ T env m W s) (L : LstAt g W D vs) (h : Q (.builtin "list.append", [.ref D]) s) : wpAny (model prog w) A (getMethod (.ref D) (Str.ofString "append") pl) Q E s :=
  mth_list I L PySem.F.slot_list_append PySem.F.type_list_append h
theorem mth_pop {D : Addr} {vs : List Value} {pl : Sem Bool} {Q : Value × List Value → Shared → Prop} (I : Inv g s₀ T env m W s) (L : LstAt g W D vs) (h : Q (.builtin "list.pop", [.ref D]) s) : wpAny (model prog w) A (getMethod (.ref D) (Str.ofString "pop") pl) Q E s :=
  mth_list I L PySem.F.slot_list_pop PySem.F.type_list_pop h
/-- the front of a list is taken off -/
theorem r_pop0 {D : Addr} {v : Value} {vs : List Value} {k : Nat} {u : Tok} {f : Obj → List (Addr × Obj)} {Q : Value → Shared → Prop} (I : Inv g s₀ T env m W s) (S : Sel D (lstO (v :: vs) k) W f) (hsz : vs.length + 1 ≤ sizeLine)
    (h : ∀ s', Inv g s₀ T env m (f (lstO vs (k + 1))) s' → Q v s') : wpAny (model prog w) A (call (.builtin "list.pop") [.ref D, .int 0 u]) Q E s := by
  have ea := I.led _ S.mem
  refine call_meets PySem.F.slot_list_pop ⟨_, ea, rfl⟩ PySem.F.entry_list_pop (PySem.F.args_list_pop_2 _ _) (MeetsSeq.list_pop_at D (v :: vs).toArray k 0 u 0 v (by rfl) (by rw [seqIndex_nat (by (first | lia | omega)) (by simp)]; rfl) (by simp) (by simpa using hsz)) ⟨ea, ?_⟩
  refine h _ (I.chg (tk := s.toks) S (fun b ob hb e => (Heap.SameBut.update ..).extBut b ob hb e) ?_)
  have e2 : Obj.mapSeq (fun xs => xs.eraseIdxIfInBounds 0) (lstO (v :: vs) k) = lstO vs (k + 1) := by
    have e3 : ((v :: vs).toArray.eraseIdxIfInBounds 0) = vs.toArray := by simp [Array.eraseIdxIfInBounds]
    show Obj.mk _ _ (Data.seq ((v :: vs).toArray.eraseIdxIfInBounds 0) (if ((v :: vs).toArray.eraseIdxIfInBounds 0).size == (v :: vs).toArray.size then k else k + 1)) _ = _
    rw [e3]
    have : (vs.toArray.size == (v :: vs).toArray.size) = false := by simp
    rw [this]
    rfl
  rw [Heap.get?_update_self _ ea (by rw [e2]; rfl), e2]
theorem part_none {Q : Value → Shared → Prop} (h : Q .none s) : wpAny (model prog w) A (evalPart none env) Q E s := wpAny_pure h
theorem part_some {e : Expr} {Q : Value → Shared → Prop} (h : wpAny (model prog w) A (eval e env) Q E s) : wpAny (model prog w) A (evalPart (some e) env) Q E s := h
/-- a run of a list -/
inductive SlLP (s₀ : Shared) (T : List Addr) (env : Env) (Q : Value → Shared → Prop) (o vl vu : Value) (s₃ : Shared) : Prop
  | mk (a : Addr) (vs : List Value) (lo hi : Option Int) (g₁ : Mp) (m₁ : Str → Option Value) (W₁ : List (Addr × Obj)) (e : o = .ref a) (li : s₃.heap.IsList a vs.toArray) (p1 : IsPart vl lo) (p2 : IsPart vu hi) (sz : vs.length ≤ sizeLine) (I : Inv g₁ s₀ T env m₁ W₁ s₃)
      (done : ∀ D s', Inv g₁ s₀ T env m₁ ((D, lstO (slicePick vs.toArray lo hi none).toList 0) :: W₁) s' → Q (.ref D) s') : SlLP s₀ T env Q o vl vu s₃
inductive SlSP (s₀ : Shared) (T : List Addr) (env : Env) (Q : Value → Shared → Prop) (o vl vu : Value) (s₃ : Shared) : Prop
  | mk (x : Str) (t : Tok) (lo hi : Option Int) (g₁ : Mp) (m₁ : Str → Option Value) (W₁ : List (Addr × Obj)) (e : o = .str x t) (p1 : IsPart vl lo) (p2 : IsPart vu hi) (sz : x.length ≤ sizeLine) (I : Inv g₁ s₀ T env m₁ W₁ s₃)
      (done : ∀ t s', Inv g₁ s₀ T env m₁ W₁ s' → Q (.str (Txt.slice x lo hi) t) s') : SlSP s₀ T env Q o vl vu s₃
theorem k_slL {value : Expr} {lower upper : Option Expr} {p pos : Pos} {Q : Value → Shared → Prop} (_cw : CW env s₀ T)
    (h : wpAny (model prog w) A (eval value env) (fun o s₁ => wpAny (model prog w) A (evalPart lower env) (fun vl s₂ => wpAny (model prog w) A (evalPart upper env) (fun vu s₃ =>
      SlLP s₀ T env Q o vl vu s₃) E s₂) E s₁) E s)
    (ht : ∀ o r, letTemporaryGo value o r = pure () := by intro _ _; rfl) :
    wpAny (model prog w) A (eval (.Subscript value (.Slice lower upper none p) pos) env) Q E s := by
  refine wpAny_Subscript_Slice slot_list_getitem.lookup (wpAny_mono h (fun o s₁ h₁ => wpAny_Slice (wpAny_mono h₁ (fun vl s₂ h₂ => wpAny_mono h₂ (fun vu s₃ h₃ => part_none ?_) fun _ _ e => e) fun _ _ e => e)) fun _ _ e => e) ht
  obtain ⟨a, vs, lo, hi, g₁, m₁, W₁, rfl, hl, pl, pu, hsz, I, hq⟩ := h₃
  have hl' : (s₃.heap.push { cls := .type "slice", data := .fields #[vl, vu, .none] }).IsList a vs.toArray := let ⟨o, ho, r⟩ := hl; ⟨o, Heap.get?_push_of_some _ ho, r⟩
  refine ⟨hl'.typeIs, wpAny_getItem_list_slice hl' (Heap.IsSliceOf.new ..) pl pu .none (by simp) ?_ (by simpa using hsz)⟩
  have J := (I.alloc (o := { cls := .type "slice", data := .fields #[vl, vu, .none] }) rfl).tail.alloc (o := lstO (slicePick vs.toArray lo hi none).toList 0) rfl
  have := hq _ _ J
  simpa using this
/-- a run of a text -/
theorem k_slS {value : Expr} {lower upper : Option Expr} {p pos : Pos} {Q : Value → Shared → Prop} (_cw : CW env s₀ T)
    (h : wpAny (model prog w) A (eval value env) (fun o s₁ => wpAny (model prog w) A (evalPart lower env) (fun vl s₂ => wpAny (model prog w) A (evalPart upper env) (fun vu s₃ =>
      SlSP s₀ T env Q o vl vu s₃) E s₂) E s₁) E s)
    (ht : ∀ o r, letTemporaryGo value o r = pure () := by intro _ _; rfl) :
    wpAny (model prog w) A (eval (.Subscript value (.Slice lower upper none p) pos) env) Q E s := by
  refine wpAny_Subscript_Slice F.slot_str_getitem.lookup (wpAny_mono h (fun o s₁ h₁ => wpAny_Slice (wpAny_mono h₁ (fun vl s₂ h₂ => wpAny_mono h₂ (fun vu s₃ h₃ => part_none ?_) fun _ _ e => e) fun _ _ e => e)) fun _ _ e => e) ht
  obtain ⟨x, t, lo, hi, g₁, m₁, W₁, rfl, pl, pu, hsz, I, hq⟩ := h₃
  have J := (I.alloc (o := { cls := .type "slice", data := .fields #[vl, vu, .none] }) rfl).tail
  refine ⟨typeIs_str _ _ _, ?_⟩
  cases pl with
  | none =>
    cases pu with
    | none => exact wpAny_getItem_str_slice (l := none) (u := none) (st := none) ⟨_, Heap.get?_push_size _ rfl, rfl, rfl⟩ rfl (post_val_or_str ⟨Nat.le_trans (Txt.slice_le x _ _) hsz, fun t' k => hq _ _ (J.tok _)⟩)
    | int j uj => exact wpAny_getItem_str_slice (l := none) (u := some (j, uj)) (st := none) ⟨_, Heap.get?_push_size _ rfl, rfl, rfl⟩ rfl (post_val_or_str ⟨Nat.le_trans (Txt.slice_le x _ _) hsz, fun t' k => hq _ _ (J.tok _)⟩)
  | int i ui =>
    cases pu with
    | none => exact wpAny_getItem_str_slice (l := some (i, ui)) (u := none) (st := none) ⟨_, Heap.get?_push_size _ rfl, rfl, rfl⟩ rfl (post_val_or_str ⟨Nat.le_trans (Txt.slice_le x _ _) hsz, fun t' k => hq _ _ (J.tok _)⟩)
    | int j uj => exact wpAny_getItem_str_slice (l := some (i, ui)) (u := some (j, uj)) (st := none) ⟨_, Heap.get?_push_size _ rfl, rfl, rfl⟩ rfl (post_val_or_str ⟨Nat.le_trans (Txt.slice_le x _ _) hsz, fun t' k => hq _ _ (J.tok _)⟩)
/-- an item of a list is set -/
theorem r_setI {D : Addr} {vs : List Value} {i : Int} {u : Tok} {v : Value} {k : Nat} {f : Obj → List (Addr × Obj)} {Q : Unit → Shared → Prop} (I : Inv g s₀ T env m W s) (S : Sel D (lstO vs k) W f) (h0 : 0 ≤ i) (h1 : i.toNat < vs.length) (h2 : i < 2 ^ 40)
    (h : ∀ k' s', Inv g s₀ T env m (f (lstO (vs.set i.toNat v) k')) s' → Q () s') : wpAny (model prog w) A (setItem (.ref D) (.int i u) v) Q E s := by
  have ea := I.led _ S.mem
  have hl : s.heap.IsList D vs.toArray := ⟨_, ea, rfl, k, rfl⟩
  unfold setItem
  try with_reducible refine wpAny_holding ?_
  first | refine wpAny_bind (wpAny_pure ?_) | skip
  refine wpAny_bind (wpAny_sequenceKey hl.typeIs (by decide) ?_)
  refine wpAny_bind (wpAny_callSpecial?_slot (name := Str.ofString "__setitem__") hl.typeIs slot_list_setitem
    (wpAny_call_entry slot_list_setitem hl.typeIs entry_list_setitem ?_ (args_list_setitem _ _ _)))
  show wpAny _ _ (Builtin.List.listSubscript? (.int i u) >>= _) _ _ s
  refine wpAny_bind (wpAny_listSubscript_int (fitsIndex_of h0 (by (first | lia | omega))) ?_)
  obtain ⟨j, rfl⟩ := Int.eq_ofNat_of_zero_le h0
  have hj : j < vs.toArray.size := by simpa using h1
  have hx' : vs.toArray[j]? = some vs.toArray[j] := Array.getElem?_eq_getElem hj
  show wpAny _ _ ((seqItemAt D j >>= fun r => pure (r.map (j, ·))) >>= _) _ _ s
  refine wpAny_bind (wpAny_bind (wpAny_seqItemAt ea rfl (wpAny_pure ?_)))
  rw [hx']
  show wpAny _ _ (setSeqItemAt D j v >>= _) _ _ s
  have e2 : ∃ k', Obj.mapSeq (·.setIfInBounds j v) (lstO vs k) = lstO (vs.set j v) k' := by
    refine ⟨(if (vs.toArray.setIfInBounds j v).size == vs.toArray.size then k else k + 1), ?_⟩
    show Obj.mk _ _ (Data.seq (vs.toArray.setIfInBounds j v) (if (vs.toArray.setIfInBounds j v).size == vs.toArray.size then k else k + 1)) _ = _
    rw [List.setIfInBounds_toArray]
  obtain ⟨k', e2⟩ := e2
  have fin : Q () { s with heap := s.heap.update D (Obj.mapSeq (·.setIfInBounds j v)) } := by
    refine h k' _ (I.chg (tk := s.toks) S (fun b ob hb e => (Heap.SameBut.update ..).extBut b ob hb e) ?_)
    rw [Heap.get?_update_self _ ea (by rw [e2]; rfl), e2]; rfl
  refine wpAny_bind (wpAny_setSeqItemAt ea rfl ?_)
  first
    | exact wpAny_bind (wpAny_pure (wpAny_pure ⟨.none, rfl, wpAny_pure fin⟩))
    | exact wpAny_pure ⟨.none, rfl, wpAny_pure fin⟩
end
end Mine
end
section
open PySem PySem.W PySem.Calls
set_option Elab.async false
set_option maxRecDepth 100000
namespace Mine
section
variable {g : Mp} {s₀ : Shared} {T : List Addr} {env : Env} {m : Str → Option Value} {W : List (Addr × Obj)} {s : Shared}
theorem Inv.swap23 {p a b : Addr × Obj} (I : Inv g s₀ T env m (p :: a :: b :: W) s) : Inv g s₀ T env m (p :: b :: a :: W) s := by
  refine I.sub (fun q hq => ?_) ?_
  · simp only [List.mem_cons] at hq ⊢
    rcases hq with h | h | h | h
    · exact .inl h
    · exact .inr (.inr (.inl h))
    · exact .inr (.inl h)
    · exact .inr (.inr (.inr h))
  · have nd := I.nd
    simp only [List.pairwise_cons, List.mem_cons] at nd ⊢
    obtain ⟨h1, h2, h3, h4⟩ := nd
    refine ⟨fun q hq => ?_, fun q hq => ?_, fun q hq => h2 q (.inr hq), h4⟩
    · rcases hq with h | h | h
      · exact h1 q (.inr (.inl h))
      · exact h1 q (.inl h)
      · exact h1 q (.inr (.inr h))
    · rcases hq with h | h
      · subst h; exact Ne.symm (h2 b (.inl rfl))
      · exact h3 q h
theorem Inv.swap12 {a b : Addr × Obj} (I : Inv g s₀ T env m (a :: b :: W) s) : Inv g s₀ T env m (b :: a :: W) s := by
  refine I.sub (fun q hq => ?_) ?_
  · simp only [List.mem_cons] at hq ⊢
    rcases hq with h | h | h
    · exact .inr (.inl h)
    · exact .inl h
    · exact .inr (.inr h)
  · have nd := I.nd
    simp only [List.pairwise_cons, List.mem_cons] at nd ⊢
    obtain ⟨h2, h3, h4⟩ := nd
    refine ⟨fun q hq => ?_, fun q hq => h2 q (.inr hq), h4⟩
    rcases hq with h | h
    · subst h; exact Ne.symm (h2 b (.inl rfl))
    · exact h3 q h
/-- a made object comes in -/
theorem Inv.recv (I : Inv g s₀ T env m W s) {s' : Shared} (k : Keeps s s') {a : Addr} {o : Obj} (h0 : s.heap.get? a = none) (h1 : s'.heap.get? a = some o) : Inv g s₀ T env m ((a, o) :: W) s' := by
  obtain ⟨md, hn, _⟩ := I.ns
  obtain ⟨oL, _, _, hoL, _⟩ := hn
  refine (I.keeps k).addW h1 ?_ (fun e => ?_) (fun q hq e => ?_) (fun p hp e => ?_) ?_
  · cases e : g a with
    | none => rfl
    | some o' => rw [I.keep _ _ e] at h0; cases h0
  · rw [e, hoL] at h0; cases h0
  · obtain ⟨oc, ho, _⟩ := I.cell q hq
    rw [e, ho] at h0; cases h0
  · have := I.led p hp
    rw [e, h0] at this; cases this
  · by_cases hT : a ∈ T
    · exact .inl hT
    · refine .inr ?_
      cases e : s₀.heap.get? a with
      | none => rfl
      | some o' => rw [I.keep0 _ _ e hT] at h0; cases h0
end
inductive LcT (prog : Program) (w : World) (A : Around) (x y : Str) (elt : Expr) (l : List (Str × NameKind)) (scope : Scope) (s₁ : Shared) (g : Mp) (m₁ : Str → Option Value) (i : Nat) (J : Nat → Mp → List PyData → Prop) (ds : List PyData) (cenv : Env) (mv : Str → Option Value) (W : List (Addr × Obj)) (v xv : Value) (s' : Shared) : Prop
  | mk (n2 : Nat) (P2 : Nat → Value → Prop) (J2 : Nat → Mp → List PyData → Prop) (I : Inv g s₁ [] cenv mv W s') (it : Itr prog w g xv n2 P2) (h0 : J2 0 g ds) (hsz : ∀ j g ds, J2 j g ds → ds.length ≤ sizeLine)
      (turn : ∀ j u g' ds m' W' s, j < n2 → P2 j u → Gr s₁ g g' → J2 j g' ds → m' x = some v → (∀ z, z ≠ x → z ≠ y → (relab l scope.names).lookup z = some .cell → m' z = m₁ z) → Inv g' s₁ [] cenv (put m' y u) W' s →
        wpAny (model prog w) A (eval elt cenv) (fun r s' => LcE s₁ g' (J2 (j + 1)) ds [] cenv (put m' y u) W' r s') NoE s)
      (back : ∀ g' ds, Gr s₁ g g' → J2 n2 g' ds → J (i + 1) g' ds)
inductive LcK2 (s₁ : Shared) (l names : List (Str × NameKind)) (cenv : Env) (n : Nat) (J : Nat → Mp → List PyData → Prop) (m₁ : Str → Option Value) (x y : Str) (g₁ : Mp) (WW : Obj → Nat → List Value → List (Addr × Obj)) (St : Nat → Obj → Prop) (q : Nat) (s' : Shared) : Prop
  | mk (i : Nat) (g' : Mp) (ds : List PyData) (vs : List Value) (kk : Nat) (m' : Str → Option Value) (o : Obj) (e : q = n + 1 - i) (hle : i ≤ n) (G : Gr s₁ g₁ g') (hJ : J i g' ds) (hR : RdAll g' vs ds) (hm : ∀ z, z ≠ x → z ≠ y → (relab l names).lookup z = some .cell → m' z = m₁ z) (I : Inv g' s₁ [] cenv m' (WW o kk vs) s') (hst : St i o)
/-- what a comprehension over two names does -/
structure LC2 (prog : Program) (w : World) (A : Around) (scope : Scope) (x y : Str) (iter2 elt : Expr) (l : List (Str × NameKind)) (s₁ : Shared) (g₁ : Mp) (m₁ : Str → Option Value) (n : Nat) (P : Nat → Value → Prop) (J : Nat → Mp → List PyData → Prop) : Prop where
  start : J 0 g₁ []
  turn : ∀ i v g ds cenv mc W s, i < n → P i v → Gr s₁ g₁ g → J i g ds → EnvL cenv (relab l scope.names) → (∀ z, z ≠ x → z ≠ y → (relab l scope.names).lookup z = some .cell → mc z = m₁ z) → Inv g s₁ [] cenv (put mc x v) W s →
    wpAny (model prog w) A (eval iter2 cenv) (fun xv s' => LcT prog w A x y elt l scope s₁ g m₁ i J ds cenv (put mc x v) W v xv s') NoE s
inductive Lc2P (prog : Program) (w : World) (A : Around) (scope : Scope) (x z : Str) (iter2 elt : Expr) (l : List (Str × NameKind)) (s₀ : Shared) (T : List Addr) (env : Env) (Q : Value → Shared → Prop) (xv : Value) (s₁ : Shared) : Prop
  | mk (g₁ : Mp) (m₁ : Str → Option Value) (W₁ : List (Addr × Obj)) (n : Nat) (P : Nat → Value → Prop) (J : Nat → Mp → List PyData → Prop) (I : Inv g₁ s₀ T env m₁ W₁ s₁) (it : Itr prog w g₁ xv n P) (lc : LC2 prog w A scope x z iter2 elt l s₁ g₁ m₁ n P J)
      (done : ∀ D g₀ g ds s', Inv g s₀ T env m₁ W₁ s' → Got g₁ s₁ g s' → J n g₀ ds → g₀.Le g → Rd g (.ref D) (.list ds) → s₁.heap.get? D = none → Q (.ref D) s')
section
variable {prog : Program} {w : World} {A : Around} {E : Value → Shared → Prop} {g : Mp} {s₀ : Shared} {T : List Addr} {env : Env} {m : Str → Option Value} {W : List (Addr × Obj)} {s : Shared} {l : List (Str × NameKind)}
theorem comp_core2 {elt iter iter2 : Expr} {x y : Str} {px py : Pos} {scope : Scope} {pos : Pos} {s₁ : Shared} {g₁ : Mp} {m₁ : Str → Option Value} {W₁ : List (Addr × Obj)} {n : Nat} {P : Nat → Value → Prop} {J : Nat → Mp → List PyData → Prop} {xv : Value}
    {RR : Value → Addr → Result → Shared → Prop} (el : EnvL env l) (hok : compOk l scope.names = true) (hkind : scope.kind = .function) (hxl : scope.names.lookup x = some .local) (hyl : scope.names.lookup y = some .local) (hxy : x ≠ y) (hh : A.handled = none)
    (hs2 : ∀ env x, foldedSetIterable iter2 env x = pure x)
    (I₁ : Inv g₁ s₀ T env m₁ W₁ s₁) (hi : Itr prog w g₁ xv n P) (L : LC2 prog w A scope x y iter2 elt l s₁ g₁ m₁ n P J)
    (done : ∀ D C oC g₀ g ds s' mC, Got g₁ s₁ g s' → J n g₀ ds → g₀.Le g → Rd g (.ref D) (.list ds) → s₁.heap.get? C = none → g C = none → s'.heap.get? C = some oC → s'.heap.Ns C mC → C ≠ D → s₁.heap.get? D = none → RR (.ref D) C (.ok .next) s') :
    wpAny (model prog w) A (pyIter xv) (fun it s₂ => wpAny (model prog w) A (newList []) (fun acc s₃ => wpAny (model prog w) A (newFunctionEnv scope env.globals (clos env.cells scope.names []) [] env.qual none .none (some env)) (fun cenv s₄ =>
      codeAny (model prog w) A (.compStart (.ListComp elt [⟨.Name x px, iter, [], 0⟩, ⟨.Name y py, iter2, [], 0⟩] scope pos) 0 it acc { cenv with scope := relabel scope env }) (RR acc cenv.locals) s₄) E s₃) E s₂) E s₁ := by
  refine hi A s₁ _ _ hh I₁.keep fun o St hf hW hst => ?_
  refine wpAny_newObj_type ?_
  have hsz : (s₁.heap.push o).objs.size = s₁.heap.objs.size + 1 := Heap.size_push ..
  have old : ∀ b ob, s₁.heap.get? b = some ob → ((s₁.heap.push o).push (lstO [] 0)).get? b = some ob := fun b ob e => Heap.get?_push_of_some _ (Heap.get?_push_of_some _ e)
  have fresh : ∀ a, s₁.heap.objs.size ≤ a → s₁.heap.get? a = none := fun a ha => by
    cases e : s₁.heap.get? a with
    | none => rfl
    | some o' => exact absurd (Heap.lt_size e) (Nat.not_lt.mpr ha)
  refine comp_frame (Wn := [(s₁.heap.objs.size, o), ((s₁.heap.push o).objs.size, lstO [] 0)]) el I₁.eo.fk I₁.eo hok hkind I₁ ?_ ?_ ⟨_, _, rfl, old⟩ fun C mc s₃ el' hmc I ce hce hcl => ?_
  · intro p hp
    rcases List.mem_cons.mp hp with rfl | hp
    · exact ⟨Heap.get?_push_of_some _ (Heap.get?_push_size _ hf), fresh _ (Nat.le_refl _)⟩
    · rcases List.mem_cons.mp hp with rfl | hp
      · exact ⟨Heap.get?_push_size _ rfl, fresh _ (by rw [hsz]; exact Nat.le_succ _)⟩
      · cases hp
  · refine List.pairwise_cons.mpr ⟨fun p hp => ?_, List.pairwise_singleton _ _⟩
    rw [List.mem_singleton.mp hp]
    show s₁.heap.objs.size ≠ (s₁.heap.push o).objs.size
    rw [hsz]; (first | lia | omega)
  · rw [hce, hcl]
    have hW' := hW A g₁ hh (Mp.Le.refl _)
    have hkx : (compEnvC scope (clos env.cells scope.names []) C env).kindOf x = some .local := lookup_relabel_local hxl
    have hky : (compEnvC scope (clos env.cells scope.names []) C env).kindOf y = some .local := lookup_relabel_local hyl
    have loop : codeAny (model prog w) A (.compLoop (.ListComp elt [⟨.Name x px, iter, [], 0⟩, ⟨.Name y py, iter2, [], 0⟩] scope pos) 0 (.ref s₁.heap.objs.size) (.ref (s₁.heap.push o).objs.size) (compEnvC scope (clos env.cells scope.names []) C env)) (RR (.ref (s₁.heap.push o).objs.size) C) s₃ := by
      refine cs_loop2 (gn := ⟨.Name x px, iter, [], 0⟩) (gn' := ⟨.Name y py, iter2, [], 0⟩) rfl rfl rfl rfl (LcK2 s₁ l scope.names (compEnvC scope (clos env.cells scope.names []) C env) n J m₁ x y g₁ (fun oo kk vs => [(s₁.heap.objs.size, oo), ((s₁.heap.push o).objs.size, lstO vs kk)]) St) ?_ (n + 1)
        ⟨0, g₁, [], [], 0, mc, o, rfl, Nat.zero_le _, Gr.refl _ _, L.start, RdAll.nil, fun z _ _ hz => hmc z hz, I, hst⟩ (fun _ => rfl) (fun z => hs2 _ z)
      rintro q s' ⟨i, g', ds, vs, kk, m', oo, rfl, hle, G, hJ, hR, hm, I, hst⟩
      have hat : s'.heap.get? s₁.heap.objs.size = some oo := I.led _ (.head _)
      have hgg : ∀ a ob, g₁ a = some ob → s'.heap.get? a = some ob := fun a ob e => I.keep _ _ (G.le _ _ e)
      by_cases hlt : i < n
      · refine hW'.item i s' oo _ _ hlt hst hat hgg fun v o' h' tk hP hst' hat' hk => ?_
        have I' := I.chg (o' := o') (tk := tk) Sel.head hk hat'
        refine wpAny_assign_Name (r_storeL I' hkx fun s₂ I₂ => ?_)
        refine tests_nil ?_
        simp only [if_true]
        refine wpAny_mono (L.turn i v g' ds _ m' _ s₂ hlt hP G hJ el' hm I₂) (fun xv s₄ h₄ => ?_) fun _ _ e => e
        obtain ⟨n2, P2, J2, I₄, it2, h20, hsz2, turn2, back⟩ := h₄
        refine it2 A s₄ _ _ hh I₄.keep fun o2 St2 hf2 hW2 hst2 => ?_
        have I₅ := (I₄.alloc hf2).swap23
        refine cs_last (T := []) (d := 1) (x := y) (px := py) (iter := iter2) (ifs := []) (o := o2) (vs := vs) (k := kk) (ds := ds) (mc := put m' x v) (W := [(s₁.heap.objs.size, o')]) rfl rfl hky (hW2 A g' hh (Mp.Le.refl _)) J2 hsz2 I₅ hst2 hR h20 (fun j u g3 ds3 m3 W3 s3 hj hP2 G3 hJ3 hm3 I3 => ?_) fun g3 ds3 vs3 k3 m3 s3 G3 hJ3 hR3 hm3 I3 => ?_
        · refine tests_nil ?_
          simp only [if_true]
          refine turn2 j u g3 ds3 m3 W3 s3 hj hP2 G3 hJ3 ?_ (fun z hz1 hz2 hz3 => ?_) I3
          · rw [hm3 x hxy]; exact put_eq _ _ _
          · rw [hm3 z hz2]; exact put_ne hz1 (hm z hz1 hz2 hz3)
        · refine ⟨rfl, n + 1 - (i + 1), by (first | lia | omega), i + 1, g3, ds3, vs3, k3, m3, o', rfl, hlt, G.trans G3, back _ _ G3 hJ3, hR3, fun z hz1 hz2 hz3 => ?_, I3.swap12, hst'⟩
          rw [hm3 z hz2]; exact put_ne hz1 (hm z hz1 hz2 hz3)
      · have hin : i = n := by (first | lia | omega)
        subst hin
        refine hW'.done s' oo _ _ hst hat hgg fun h' tk hk => ?_
        have I' := I.lose (tk := tk) hk
        obtain ⟨md, hns, _⟩ := I'.ns
        have hCd : (compEnvC scope (clos env.cells scope.names []) C env).locals = C := rfl
        rw [hCd] at hns
        obtain ⟨oC, es, ep, hoC, r⟩ := id hns
        have hDC : C ≠ (s₁.heap.push o).objs.size := fun e => I'.offL.2.2 _ (.head _) (by rw [hCd]; exact e.symm)
        have I'' := I'.absorb1
        have G' := G.trans (I'.grPut (.head _))
        refine done _ C oC _ _ ds _ md (I''.leave G') hJ (I'.grPut (.head _)).le (Rd.lst (Mp.put_self _ _ _) (hR.mono (I'.grPut (.head _)).le)) ?_ ?_ hoC hns hDC (fresh _ (by rw [hsz]; exact Nat.le_succ _))
        · exact (I'.offL.2.1.elim (fun h => (nomatch h)) id)
        · exact I''.offL.1
    exact cs_start (gn := ⟨.Name x px, iter, [], 0⟩) rfl rfl loop (hW'.self 0 s₃ o _ _ hst (I.led _ (.head _)) loop)
/-- a comprehension over two names -/
theorem k_lc2 {elt iter : Expr} {x : Str} {px : Pos} {iter2 : Expr} {z : Str} {pz : Pos} {scope : Scope} {pos : Pos} {Q : Value → Shared → Prop} (_cw : CW env s₀ T) (el : EnvL env l) (hok : compOk l scope.names = true) (hkind : scope.kind = .function) (hxl : scope.names.lookup x = some .local) (hzl : scope.names.lookup z = some .local) (hxz : x ≠ z) (hh : A.handled = none)
    (h : wpAny (model prog w) A (eval iter env) (fun xv s₁ => Lc2P prog w A scope x z iter2 elt l s₀ T env Q xv s₁) E s)
    (hs : ∀ x, foldedSetIterable iter env x = pure x := by intro _; rfl) (hs2 : ∀ env x, foldedSetIterable iter2 env x = pure x := by intro _ _; rfl) :
    wpAny (model prog w) A (eval (.ListComp elt [⟨.Name x px, iter, [], 0⟩, ⟨.Name z pz, iter2, [], 0⟩] scope pos) env) Q E s := by
  rw [eval_ListComp]
  have ⟨hclos, hnames⟩ := comp_pre el hok
  refine wpAny_comprehension_free (use := none) rfl hs hclos hkind hnames (wpAny_mono h (fun xv s₁ h₁ => ?_) fun _ _ e => e)
  obtain ⟨g₁, m₁, W₁, n, P, J, I₁, hi, L, done⟩ := h₁
  refine comp_core2 el hok hkind hxl hzl hxz hh hs2 I₁ hi L (RR := fun acc C => compPost (model prog w) A E none Q acc C) fun D C oC g₀ g ds s' mC G hJ hle hR hC₁ hgC hoC hns hCD hDn => ?_
  refine ⟨mC, hns, fun h' hs' => ?_⟩
  have G' := G.less hC₁ hgC hs'.extBut
  exact done D g₀ g ds _ (I₁.got G') G' hJ hle hR hDn
end
end Mine
end
section
open PySem PySem.W PySem.Calls
set_option Elab.async false
set_option maxRecDepth 100000
namespace Mine
section
variable {prog : Program} {w : World} {A : Around} {E : Value → Shared → Prop} {g : Mp} {s₀ : Shared} {T : List Addr} {env : Env} {m : Str → Option Value} {W : List (Addr × Obj)} {s : Shared} {l : List (Str × NameKind)}
theorem r_div {a b : Int} {t u : Tok} {Q : Value → Shared → Prop} (I : Inv g s₀ T env m W s) (hb : b ≠ 0) (h1 : b.natAbs < 1073741824) (h : ∀ t s', Inv g s₀ T env m W s' → Q (.int (a.fdiv b) t) s') : wpAny (model prog w) A (binaryOp .FloorDiv (.int a t) (.int b u)) Q E s := PyProof.Rows.floordiv_int hb (h _ _ (I.tok _)) (Or.inl (PyProof.noPylong_small h1))
theorem k_expr {e : Expr} {pos : Pos} {Q : Flow → Shared → Prop} (fk : env.scope.kind = .function) (h : wpAny (model prog w) A (eval e env) (fun v s' => v = .none ∧ Q .next s') E s) (hs : swapsWith e none pos.line env = pure false := by rfl) : wpAny (model prog w) A (exec (.Expr e pos) env) Q E s :=
  wpAny_Expr (wpAny_mono h (fun v s' h => by obtain ⟨rfl, h⟩ := h; exact h) fun _ _ e => e) (by unfold interactive; rw [fk]; rfl) hs
end
end Mine
end
section
open PySem PySem.W PySem.Calls
set_option Elab.async false
set_option maxRecDepth 100000
namespace Mine
theorem canInts : ∀ xs : List Int, PyData.canLayAll0 (xs.map PyData.int) = true
  | [] => rfl
  | x :: r => by show (true && _) = true; rw [canInts r]; rfl
theorem depthInts : ∀ xs : List Int, PyData.depthAll (xs.map PyData.int) = 0
  | [] => rfl
  | x :: r => by show max 0 _ = 0; rw [depthInts r]; rfl
theorem eqv_int (a b : Int) : PyData.eqv (.int a) (.int b) = (a == b) := rfl
theorem eqv_nil (ds : List PyData) : PyData.eqv (.list ds) (.list []) = ds.isEmpty := by
  show PyData.eqvAll ds [] = _
  cases ds <;> rfl
section
variable {prog : Program} {w : World} {A : Around} {E : Value → Shared → Prop} {g : Mp} {s₀ : Shared} {T : List Addr} {env : Env} {m : Str → Option Value} {W : List (Addr × Obj)} {s : Shared} {l : List (Str × NameKind)}
theorem c_eqRd {a b : Value} {da db : PyData} {Q : Value → Shared → Prop} (I : Inv g s₀ T env m W s) (ra : Rd g a da) (rb : Rd g b db) (ha : da.canLay0 = true) (hb : db.canLay0 = true) (hu : A.units + min da.depth db.depth < cLine) (h : Q (.bool (PyData.eqv da db)) s) :
    wpAny (model prog w) A (compareOp .Eq a b) Q E s := by
  obtain ⟨as, ra⟩ := ra.reads I.keep
  obtain ⟨bs, rb⟩ := rb.reads I.keep
  exact SeqAt.compareEq_reads ra rb ha hb hu h
theorem c_neRd {a b : Value} {da db : PyData} {Q : Value → Shared → Prop} (I : Inv g s₀ T env m W s) (ra : Rd g a da) (rb : Rd g b db) (ha : da.canLay0 = true) (hb : db.canLay0 = true) (hu : A.units + min da.depth db.depth < cLine) (h : Q (.bool (!PyData.eqv da db)) s) :
    wpAny (model prog w) A (compareOp .NotEq a b) Q E s := by
  obtain ⟨as, ra⟩ := ra.reads I.keep
  obtain ⟨bs, rb⟩ := rb.reads I.keep
  exact SeqAt.compareNe_reads ra rb ha hb hu h
end
end Mine
end
section
open PySem PySem.W PySem.Calls PySem.Builtin PySem.Builtin.Str
set_option Elab.async false
set_option maxRecDepth 100000
namespace Mine
theorem pick_from (vs : List Value) (k : Nat) : (slicePick vs.toArray (some (k : Int)) none none).toList = vs.drop k := by
  rw [kms_pick_eq]
  unfold kms_pick kms_lo kms_hi
  have h : ¬ ((k : Int) < 0) := by (first | lia | omega)
  simp only [h, if_false, Int.toNat_natCast, kmk_drop_min]
  rw [List.take_of_length_le]
  simp; (first | lia | omega)
theorem pick_to (vs : List Value) (k : Nat) : (slicePick vs.toArray none (some (k : Int)) none).toList = vs.take k := by
  rw [kms_pick_eq]
  unfold kms_pick kms_lo kms_hi
  have h : ¬ ((k : Int) < 0) := by (first | lia | omega)
  simp only [h, if_false, Int.toNat_natCast, List.drop_zero, Nat.sub_zero, kmk_take_min]
noncomputable def clipD (v : Option Int) (d : Int) (n : Nat) : Int := match v with | none => d | some i => max 0 (min (if i < 0 then i + n else i) (n : Int))
theorem clip_lo (lo : Option Int) (n : Nat) : ((kms_lo lo n : Nat) : Int) = clipD lo 0 n := by
  unfold kms_lo clipD
  cases lo with
  | none => rfl
  | some i => by_cases q : i < 0 <;> simp only [q, if_true, if_false] <;> (first | lia | omega)
theorem clip_hi (hi : Option Int) (n : Nat) : ((kms_hi hi n : Nat) : Int) = clipD hi n n := by
  unfold kms_hi clipD
  cases hi with
  | none => rfl
  | some i => by_cases q : i < 0 <;> simp only [q, if_true, if_false] <;> (first | lia | omega)
theorem clip_idx (lo hi : Option Int) (n : Nat) : strSliceIndices lo hi 1 n = sliceRange (clipD lo 0 n) (clipD hi n n) 1 := by
  unfold strSliceIndices clipD
  cases lo <;> cases hi <;> simp
theorem idx_kms (lo hi : Option Int) (n : Nat) (h : kms_lo lo n ≤ kms_hi hi n) : strSliceIndices lo hi 1 n = strSliceIndices (some ((kms_lo lo n : Nat) : Int)) (some ((kms_hi hi n : Nat) : Int)) 1 n := by
  have b1 : kms_lo lo n ≤ n := by
    unfold kms_lo; cases lo with
    | none => exact Nat.zero_le _
    | some i => by_cases q : i < 0 <;> simp only [q, if_true, if_false] <;> (first | lia | omega)
  have b2 : kms_hi hi n ≤ n := by
    unfold kms_hi; cases hi with
    | none => exact Nat.le_refl _
    | some i => by_cases q : i < 0 <;> simp only [q, if_true, if_false] <;> (first | lia | omega)
  rw [clip_idx, ← clip_lo, ← clip_hi]
  unfold strSliceIndices
  have q1 : ¬ (((kms_lo lo n : Nat) : Int) < 0) := by (first | lia | omega)
  have q2 : ¬ (((kms_hi hi n : Nat) : Int) < 0) := by (first | lia | omega)
  have e1 : max (0 : Int) (min ((kms_lo lo n : Nat) : Int) (n : Int)) = (kms_lo lo n : Nat) := by (first | lia | omega)
  have e2 : max (0 : Int) (min ((kms_hi hi n : Nat) : Int) (n : Int)) = (kms_hi hi n : Nat) := by (first | lia | omega)
  simp only [q1, q2, if_false, e1, e2, show ((1 : Int) > 0) = True from by simp, if_true]
theorem txt_slice (x : Str) (lo hi : Option Int) (h : kms_lo lo x.length ≤ kms_hi hi x.length) : Txt.slice x lo hi = ofL ((x.cps.toList.drop (kms_lo lo x.length)).take (kms_hi hi x.length - kms_lo lo x.length)) := by
  have b2 : kms_hi hi x.length ≤ x.length := by
    unfold kms_hi; cases hi with
    | none => exact Nat.le_refl _
    | some i => by_cases q : i < 0 <;> simp only [q, if_true, if_false] <;> (first | lia | omega)
  unfold Txt.slice
  rw [idx_kms lo hi _ h]
  have e := StrLaws.sliced_plain x h b2
  split
  · rename_i q
    rw [StrLaws.strSliceIndices_plain h b2] at q
    simp at q
    have hl : kms_lo lo x.length = 0 := by (first | lia | omega)
    have hh : kms_hi hi x.length = x.length := by (first | lia | omega)
    rw [hl, hh]
    refine str_ext ?_
    rw [ofL_toList, List.drop_zero, List.take_of_length_le (by simp [Str.length])]
  · rw [e]; rfl
theorem txt_run (x : Str) (a b : Nat) (h : a ≤ b) (ha : a ≤ x.length) : Txt.slice x (some (a : Int)) (some (b : Int)) = ofL ((x.cps.toList.drop a).take (b - a)) := by
  have q1 : ¬ ((a : Int) < 0) := by (first | lia | omega)
  have q2 : ¬ ((b : Int) < 0) := by (first | lia | omega)
  have k1 : kms_lo (some (a : Int)) x.length = a := by unfold kms_lo; simp only [q1, if_false]; (first | lia | omega)
  have k2 : kms_hi (some (b : Int)) x.length = min b x.length := by unfold kms_hi; simp only [q2, if_false]; (first | lia | omega)
  rw [txt_slice _ _ _ (by rw [k1, k2]; (first | lia | omega)), k1, k2]
  congr 1
  have hl : (x.cps.toList.drop a).length = x.length - a := by simp [Str.length]
  by_cases q : b ≤ x.length
  · rw [Nat.min_eq_left q]
  · rw [Nat.min_eq_right (by (first | lia | omega)), List.take_of_length_le (by (first | lia | omega)), List.take_of_length_le (by (first | lia | omega))]
theorem txt_from (x : Str) (a : Nat) (ha : a ≤ x.length) : Txt.slice x (some (a : Int)) none = ofL (x.cps.toList.drop a) := by
  have q1 : ¬ ((a : Int) < 0) := by (first | lia | omega)
  have k1 : kms_lo (some (a : Int)) x.length = a := by unfold kms_lo; simp only [q1, if_false]; (first | lia | omega)
  have k2 : kms_hi none x.length = x.length := rfl
  rw [txt_slice _ _ _ (by rw [k1, k2]; (first | lia | omega)), k1, k2]
  congr 1
  rw [List.take_of_length_le (by simp [Str.length])]
theorem txt_to (x : Str) (b : Nat) : Txt.slice x none (some (b : Int)) = ofL (x.cps.toList.take b) := by
  have q2 : ¬ ((b : Int) < 0) := by (first | lia | omega)
  have k1 : kms_lo none x.length = 0 := rfl
  have k2 : kms_hi (some (b : Int)) x.length = min b x.length := by unfold kms_hi; simp only [q2, if_false]; (first | lia | omega)
  rw [txt_slice _ _ _ (by rw [k1, k2]; (first | lia | omega)), k1, k2, List.drop_zero, Nat.sub_zero]
  congr 1
  have : x.length = x.cps.toList.length := by simp [Str.length]
  rw [this, kmk_take_min]
theorem pick_from1 (vs : List Value) : (slicePick vs.toArray (some 1) none none).toList = vs.drop 1 := pick_from vs 1
theorem RdAll.drop {g : Mp} {vs : List Value} {ds : List PyData} (h : RdAll g vs ds) (k : Nat) : RdAll g (vs.drop k) (ds.drop k) :=
  ⟨by simp [h.1], fun i h1 h2 => by rw [List.getElem_drop, List.getElem_drop]; exact h.2 _ _ _⟩
theorem RdAll.take {g : Mp} {vs : List Value} {ds : List PyData} (h : RdAll g vs ds) (k : Nat) : RdAll g (vs.take k) (ds.take k) :=
  ⟨by simp [h.1], fun i h1 h2 => by rw [List.getElem_take, List.getElem_take]; exact h.2 _ _ _⟩
theorem int_at {g : Mp} {vs : List Value} {xs : List Int} {j : Nat} {v : Value} (h : RdAll g vs (xs.map PyData.int)) (hv : vs.toArray[j]? = some v) : ∃ x, xs[j]? = some x ∧ ∃ t, v = .int x t := by
  obtain ⟨d, hd1, hd2⟩ := h.get (i := j) (v := v) (by simpa using hv)
  rw [List.getElem?_map] at hd1
  obtain ⟨x, hx, rfl⟩ := Option.map_eq_some_iff.mp hd1
  exact ⟨x, hx, hd2.unint⟩
theorem cutE {α : Type} {M : Model} {A : Around} {E : Value → Shared → Prop} {s : Shared} {t : Sem α} {Q Q' : α → Shared → Prop} (h : wpAny M A t Q' E s) (k : ∀ v s', Q' v s' → Q v s') : wpAny M A t Q E s := wpAny_mono h k fun _ _ e => e
theorem canList {ds : List PyData} (h : PyData.canLayAll0 ds = true) : (PyData.list ds).canLay0 = true := h
theorem depthList (ds : List PyData) : (PyData.list ds).depth = PyData.depthAll ds + 1 := rfl
end Mine
end
section
open PySem PySem.W PySem.Calls
set_option maxRecDepth 100000
namespace Mine
inductive A4 (P1 P2 P3 P4 : Prop) : Prop
  | mk (h1 : P1) (h2 : P2) (h3 : P3) (h4 : P4)
inductive A5 (P1 P2 P3 P4 P5 : Prop) : Prop
  | mk (h1 : P1) (h2 : P2) (h3 : P3) (h4 : P4) (h5 : P5)
inductive A6 (P1 P2 P3 P4 P5 P6 : Prop) : Prop
  | mk (h1 : P1) (h2 : P2) (h3 : P3) (h4 : P4) (h5 : P5) (h6 : P6)
inductive A7 (P1 P2 P3 P4 P5 P6 P7 : Prop) : Prop
  | mk (h1 : P1) (h2 : P2) (h3 : P3) (h4 : P4) (h5 : P5) (h6 : P6) (h7 : P7)
theorem len2 {α : Type} {xs : List α} (h : xs.length = 2) : ∃ a b, xs = [a, b] := by
  obtain ⟨a, r, rfl⟩ := List.exists_cons_of_length_eq_add_one h
  obtain ⟨b, e⟩ := List.length_eq_one_iff.mp (Nat.succ.inj h)
  exact ⟨a, b, by rw [e]⟩
theorem len3 {α : Type} {xs : List α} (h : xs.length = 3) : ∃ a b c, xs = [a, b, c] := by
  obtain ⟨a, r, rfl⟩ := List.exists_cons_of_length_eq_add_one h
  obtain ⟨b, c, e⟩ := len2 (Nat.succ.inj h)
  exact ⟨a, b, c, by rw [e]⟩
theorem at3 {α : Type} {a b c d : α} : ∀ {j : Nat}, [a, b, c][j]? = some d → (j = 0 ∧ d = a) ∨ (j = 1 ∧ d = b) ∨ (j = 2 ∧ d = c)
  | 0, h => .inl ⟨rfl, (Option.some.inj h).symm⟩
  | 1, h => .inr (.inl ⟨rfl, (Option.some.inj h).symm⟩)
  | 2, h => .inr (.inr ⟨rfl, (Option.some.inj h).symm⟩)
theorem at2 {α : Type} {a b d : α} {j : Nat} (h : [a, b][j]? = some d) : (j = 0 ∧ d = a) ∨ (j = 1 ∧ d = b) := by
  have h' : [a, b, d][j]? = some d := by
    show ([a, b] ++ [d])[j]? = some d
    rw [List.getElem?_append_left (l₁ := [a, b]) (l₂ := [d]) (List.getElem?_eq_some_iff.mp h).1]; exact h
  rcases at3 h' with h1 | h1 | h1
  · exact .inl h1
  · exact .inr h1
  · rw [h1.1] at h; cases h
theorem stm {l l' : List Stmt} (h : l = l') : FuncBody.stmts l = .stmts l' := congrArg _ h
section
variable {M : Model} {A : Around} {E : Value → Shared → Prop} {s : Shared} {env : Env}
/-- what follows is kept out of sight -/
theorem hideQ {α : Type} {t : Sem α} {Q : α → Shared → Prop} (h : ∀ Qo : α → Shared → Prop, (∀ v s', Q v s' → Qo v s') → wpAny M A t Qo E s) : wpAny M A t Q E s := h Q fun _ _ x => x
theorem hideT {target : PySem.Expr} {body : List Stmt} {v : Value} {Q : Flow → Shared → Prop} (h : ∀ Qo : Flow → Shared → Prop, (∀ fl s', Q fl s' → Qo fl s') → wpAny M A (assign target env v) (fun _ s => wpAny M A (execs body env) Qo E s) E s) :
    wpAny M A (assign target env v) (fun _ s => wpAny M A (execs body env) Q E s) E s := h Q fun _ _ x => x
theorem hideW {t : Sem Bool} {c : Sem Flow} {Q : Flow → Shared → Prop} {P : Shared → Prop} (h : ∀ (Qo : Flow → Shared → Prop) (Po : Shared → Prop), (∀ fl s', Q fl s' → Qo fl s') → (∀ s', P s' → Po s') → wpAny M A t (fun b s₂ => if b then wpAny M A c Qo E s₂ else Po s₂) E s) :
    wpAny M A t (fun b s₂ => if b then wpAny M A c Q E s₂ else P s₂) E s := h Q P (fun _ _ x => x) fun _ x => x
theorem hideC {t : Sem (Option Value)} {target : PySem.Expr} {body : List Stmt} {Q : Flow → Shared → Prop} {P : Shared → Prop} (h : ∀ (Qo : Flow → Shared → Prop) (Po : Shared → Prop), (∀ fl s', Q fl s' → Qo fl s') → (∀ s', P s' → Po s') → wpAny M A t (fun r s₁ => match r with
      | none => Po s₁
      | some v => wpAny M A (assign target env v) (fun _ s => wpAny M A (execs body env) Qo E s) E s₁) E s) :
    wpAny M A t (fun r s₁ => match r with
      | none => P s₁
      | some v => wpAny M A (assign target env v) (fun _ s => wpAny M A (execs body env) Q E s) E s₁) E s := h Q P (fun _ _ x => x) fun _ x => x
/-- what is to be shown is kept out of sight while things are taken apart -/
theorem hideP {P : Prop} (h : ∀ Po : Prop, (P → Po) → Po) : P := h P id
/-- a cut whose outcome is kept out of sight -/
theorem cutH {α : Type} {t : Sem α} {Q Q' : α → Shared → Prop} (h : ∀ Qo : α → Shared → Prop, (∀ v s', Q' v s' → Qo v s') → wpAny M A t Qo E s) (k : ∀ v s', Q' v s' → Q v s') : wpAny M A t Q E s := cutE (h Q' fun _ _ x => x) k
end
end Mine
end
section
open PySem PySem.W PySem.Calls PyProof.Rows
set_option Elab.async false
set_option maxRecDepth 100000
set_option maxHeartbeats 4000000
namespace Mine
noncomputable abbrev pr1 : Program := PySem.Challenge.rw_re0101_02.row.toRowW.prog
noncomputable def tS (i : Nat) : Stmt := match pr1.main.body[i]? with | some s => s | none => .Pass default
noncomputable def fA : Stmt → Arguments
  | .FunctionDef _ a _ _ _ _ _ _ _ _ => a
  | _ => default
noncomputable def fB : Stmt → List Stmt
  | .FunctionDef _ _ b _ _ _ _ _ _ _ => b
  | _ => []
noncomputable def fS : Stmt → Scope
  | .FunctionDef _ _ _ _ _ _ s _ _ _ => s
  | _ => default
noncomputable def cB : Stmt → List Stmt
  | .ClassDef _ _ _ b _ _ _ _ _ _ _ => b
  | _ => []
noncomputable def cS : Stmt → Scope
  | .ClassDef _ _ _ _ _ _ s _ _ _ _ => s
  | _ => default
noncomputable def mS (c : Stmt) (j : Nat) : Stmt := match (cB c)[j]? with | some s => s | none => .Pass default
noncomputable def de (P : Params) (s : String) (t : Nat) (v : Value) : DictEntry := ⟨PyData.keyHash P (Str.ofString s), .str (Str.ofString s) t, v⟩
noncomputable def o_43 : Params → Obj := fun P => { cls := Value.type "tuple", data := Data.seq #[] }
noncomputable def o_44 : Params → Obj := fun P => { cls := Value.none, data := Data.fields #[] }
noncomputable def o_45 : Params → Obj := fun P =>
  { cls := Value.type "code",
    data :=
      Data.fields
        #[Value.str (Str.ofString "<module>") 182, Value.str (Str.ofString "<module>") 183, Value.str (Str.ofString "/claim/cut.py") 184, Value.int 1 0, Value.int 0 0, Value.int 0 0, Value.int 0 0,
          Value.int 0 0, Value.ref 11, Value.bool false, Value.int 181 0, Value.ref 12, Value.none, Value.none, Value.none, Value.none, Value.int 185 0, Value.int 1 0,
          Value.str (Str.ofString "/claim/cut.py") 186] }
noncomputable def o_46 : Params → Obj := fun P => { cls := Value.type "frame", slots := #[some (Value.ref 13), some (Value.ref 3), some (Value.ref 3), none, some (Value.str (Str.ofString "__main__") 164), none, some (Value.ref 0)] }
noncomputable def o_49 : Params → Obj := fun P =>
  { cls := Value.type "dict",
    data :=
      Data.dict
        #[Mine.de P "__name__" 165 (Value.str (Str.ofString "cpy313.token") 263), Mine.de P "__doc__" 166 Value.none, Mine.de P "__package__" 167 Value.none,
          Mine.de P "__loader__" 168 (Value.builtin "__main__.__loader__#opaque"), Mine.de P "__spec__" 169 Value.none, Mine.de P "__annotations__" 170 (Value.ref 6),
          Mine.de P "__builtins__" 171 (Value.ref 4), Mine.de P "__file__" 173 (Value.str (Str.ofString "/claim/cut.py") 172), Mine.de P "__cached__" 174 Value.none,
          Mine.de P "ELLIPSIS_MARKER" 190 (Value.str (Str.ofString "...") 189), Mine.de P "_ellipsis_match" 202 (Value.ref 21), Mine.de P "_netrclex" 262 (Value.ref 59)]
        12 }
noncomputable def o_50 : Params → Obj := fun P => { cls := Value.none, data := Data.fields #[Value.int 3 0, Value.int 0 0, Value.ref 20, Value.int 32 0, Value.int 0 0, Value.ref 27] }
noncomputable def o_51 : Params → Obj := fun P => { cls := Value.type "tuple", data := Data.seq #[] }
noncomputable def o_52 : Params → Obj := fun P => { cls := Value.none, data := Data.fields #[] }
noncomputable def o_53 : Params → Obj := fun P =>
  { cls := Value.type "tuple",
    data :=
      Data.seq
        #[Value.str (Str.ofString "want") 194, Value.str (Str.ofString "got") 195, Value.str (Str.ofString "ws") 196, Value.str (Str.ofString "startpos") 197, Value.str (Str.ofString "endpos") 198,
          Value.str (Str.ofString "w") 199] }
noncomputable def o_54 : Params → Obj := fun P => { cls := Value.type "tuple", data := Data.seq #[] }
noncomputable def o_55 : Params → Obj := fun P =>
  { cls := Value.none,
    data :=
      Data.func
        { name := Str.ofString "_ellipsis_match", qualname := Str.ofString "_ellipsis_match", params := (fA (tS 2)), body := FuncBody.stmts (fB (tS 2)), scope := (fS (tS 2)), globals := 0, closure := [],
          defaults := Value.none, kwdefaults := Value.none } }
noncomputable def o_56 : Params → Obj := fun P =>
  { cls := Value.type "code",
    data :=
      Data.fields
        #[Value.str (Str.ofString "_ellipsis_match") 191, Value.str (Str.ofString "_ellipsis_match") 192, Value.str (Str.ofString "/claim/cut.py") 193, Value.int 3 0, Value.int 2 0, Value.int 0 0,
          Value.int 0 0, Value.int 3 0, Value.ref 15, Value.bool true, Value.int 181 0, Value.ref 16, Value.none, Value.ref 17, Value.ref 18, Value.ref 19, Value.int 200 0, Value.int 3 0,
          Value.str (Str.ofString "/claim/cut.py") 201] }
noncomputable def o_57 : Params → Obj := fun P =>
  { cls := Value.type "function",
    data :=
      Data.func
        { name := Str.ofString "_ellipsis_match", qualname := Str.ofString "_ellipsis_match", params := (fA (tS 2)), body := FuncBody.stmts (fB (tS 2)), scope := (fS (tS 2)), globals := 3, closure := [],
          defaults := Value.none, kwdefaults := Value.none, pyModule := Value.str (Str.ofString "cpy313.doctest") 187, code := Value.ref 20 } }
noncomputable def o_58 : Params → Obj := fun P => { cls := Value.type "tuple", data := Data.seq #[] }
noncomputable def o_59 : Params → Obj := fun P => { cls := Value.type "builtin_function_or_method", data := Data.fields #[Value.builtin "type.__prepare__", Value.type "type"] }
noncomputable def o_60 : Params → Obj := fun P =>
  { cls := Value.type "dict",
    data :=
      Data.dict
        #[Mine.de P "__module__" 212 (Value.str (Str.ofString "cpy313.netrc") 203), Mine.de P "__qualname__" 214 (Value.str (Str.ofString "_netrclex") 213),
          Mine.de P "__firstlineno__" 216 (Value.int 32 215), Mine.de P "__init__" 224 (Value.ref 35), Mine.de P "_read_char" 232 (Value.ref 42), Mine.de P "get_token" 242 (Value.ref 49),
          Mine.de P "push_token" 250 (Value.ref 56), Mine.de P "__static_attributes__" 255 (Value.ref 57)]
        8 }
noncomputable def o_61 : Params → Obj := fun P => { cls := Value.type "tuple", data := Data.seq #[] }
noncomputable def o_62 : Params → Obj := fun P =>
  { cls := Value.none,
    data :=
      Data.fields
        #[Value.int 34 0, Value.int 4 0, Value.ref 34, Value.int 40 0, Value.int 4 0, Value.ref 41, Value.int 46 0, Value.int 4 0, Value.ref 48, Value.int 73 0, Value.int 4 0, Value.ref 55] }
noncomputable def o_63 : Params → Obj := fun P =>
  { cls := Value.type "code",
    data :=
      Data.fields
        #[Value.str (Str.ofString "_netrclex") 207, Value.str (Str.ofString "_netrclex") 208, Value.str (Str.ofString "/claim/cut.py") 209, Value.int 32 0, Value.int 0 0, Value.int 0 0, Value.int 0 0,
          Value.int 0 0, Value.ref 25, Value.bool false, Value.int 181 0, Value.ref 26, Value.none, Value.none, Value.none, Value.none, Value.int 210 0, Value.int 32 0,
          Value.str (Str.ofString "/claim/cut.py") 211] }
noncomputable def o_64 : Params → Obj := fun P => { cls := Value.type "frame", slots := #[some (Value.ref 27), some (Value.ref 3), some (Value.ref 24), none, some (Value.str (Str.ofString "cpy313.netrc") 203), none, some (Value.ref 0)] }
noncomputable def o_65 : Params → Obj := fun P => { cls := Value.type "tuple", data := Data.seq #[] }
noncomputable def o_66 : Params → Obj := fun P => { cls := Value.none, data := Data.fields #[] }
noncomputable def o_67 : Params → Obj := fun P => { cls := Value.type "tuple", data := Data.seq #[Value.str (Str.ofString "self") 220, Value.str (Str.ofString "fp") 221] }
noncomputable def o_68 : Params → Obj := fun P => { cls := Value.type "tuple", data := Data.seq #[] }
noncomputable def o_69 : Params → Obj := fun P =>
  { cls := Value.none,
    data :=
      Data.func
        { name := Str.ofString "__init__", qualname := Str.ofString "_netrclex.__init__", params := (fA (mS (tS 4) 0)), body := FuncBody.stmts (fB (mS (tS 4) 0)), scope := (fS (mS (tS 4) 0)), globals := 0, closure := [],
          defaults := Value.none, kwdefaults := Value.none } }
noncomputable def o_70 : Params → Obj := fun P =>
  { cls := Value.type "code",
    data :=
      Data.fields
        #[Value.str (Str.ofString "__init__") 217, Value.str (Str.ofString "_netrclex.__init__") 218, Value.str (Str.ofString "/claim/cut.py") 219, Value.int 34 0, Value.int 2 0, Value.int 0 0,
          Value.int 0 0, Value.int 3 0, Value.ref 29, Value.bool true, Value.int 181 0, Value.ref 30, Value.none, Value.ref 31, Value.ref 32, Value.ref 33, Value.int 222 0, Value.int 34 0,
          Value.str (Str.ofString "/claim/cut.py") 223] }
noncomputable def o_71 : Params → Obj := fun P =>
  { cls := Value.type "function",
    data :=
      Data.func
        { name := Str.ofString "__init__", qualname := Str.ofString "_netrclex.__init__", params := (fA (mS (tS 4) 0)), body := FuncBody.stmts (fB (mS (tS 4) 0)), scope := (fS (mS (tS 4) 0)), globals := 3, closure := [],
          defaults := Value.none, kwdefaults := Value.none, pyModule := Value.str (Str.ofString "cpy313.netrc") 203, code := Value.ref 34 } }
noncomputable def o_72 : Params → Obj := fun P => { cls := Value.type "tuple", data := Data.seq #[] }
noncomputable def o_73 : Params → Obj := fun P => { cls := Value.none, data := Data.fields #[] }
noncomputable def o_74 : Params → Obj := fun P => { cls := Value.type "tuple", data := Data.seq #[Value.str (Str.ofString "self") 228, Value.str (Str.ofString "ch") 229] }
noncomputable def o_75 : Params → Obj := fun P => { cls := Value.type "tuple", data := Data.seq #[] }
noncomputable def o_76 : Params → Obj := fun P =>
  { cls := Value.none,
    data :=
      Data.func
        { name := Str.ofString "_read_char", qualname := Str.ofString "_netrclex._read_char", params := (fA (mS (tS 4) 1)), body := FuncBody.stmts (fB (mS (tS 4) 1)), scope := (fS (mS (tS 4) 1)), globals := 0, closure := [],
          defaults := Value.none, kwdefaults := Value.none } }
noncomputable def o_77 : Params → Obj := fun P =>
  { cls := Value.type "code",
    data :=
      Data.fields
        #[Value.str (Str.ofString "_read_char") 225, Value.str (Str.ofString "_netrclex._read_char") 226, Value.str (Str.ofString "/claim/cut.py") 227, Value.int 40 0, Value.int 1 0, Value.int 0 0,
          Value.int 0 0, Value.int 3 0, Value.ref 36, Value.bool true, Value.int 181 0, Value.ref 37, Value.none, Value.ref 38, Value.ref 39, Value.ref 40, Value.int 230 0, Value.int 40 0,
          Value.str (Str.ofString "/claim/cut.py") 231] }
noncomputable def o_78 : Params → Obj := fun P =>
  { cls := Value.type "function",
    data :=
      Data.func
        { name := Str.ofString "_read_char", qualname := Str.ofString "_netrclex._read_char", params := (fA (mS (tS 4) 1)), body := FuncBody.stmts (fB (mS (tS 4) 1)), scope := (fS (mS (tS 4) 1)), globals := 3, closure := [],
          defaults := Value.none, kwdefaults := Value.none, pyModule := Value.str (Str.ofString "cpy313.netrc") 203, code := Value.ref 41 } }
noncomputable def o_79 : Params → Obj := fun P => { cls := Value.type "tuple", data := Data.seq #[] }
noncomputable def o_80 : Params → Obj := fun P => { cls := Value.none, data := Data.fields #[] }
noncomputable def o_81 : Params → Obj := fun P =>
  { cls := Value.type "tuple", data := Data.seq #[Value.str (Str.ofString "self") 236, Value.str (Str.ofString "token") 237, Value.str (Str.ofString "fiter") 238, Value.str (Str.ofString "ch") 239] }
noncomputable def o_82 : Params → Obj := fun P => { cls := Value.type "tuple", data := Data.seq #[] }
noncomputable def o_83 : Params → Obj := fun P =>
  { cls := Value.none,
    data :=
      Data.func
        { name := Str.ofString "get_token", qualname := Str.ofString "_netrclex.get_token", params := (fA (mS (tS 4) 2)), body := FuncBody.stmts (fB (mS (tS 4) 2)), scope := (fS (mS (tS 4) 2)), globals := 0, closure := [],
          defaults := Value.none, kwdefaults := Value.none } }
noncomputable def o_84 : Params → Obj := fun P =>
  { cls := Value.type "code",
    data :=
      Data.fields
        #[Value.str (Str.ofString "get_token") 233, Value.str (Str.ofString "_netrclex.get_token") 234, Value.str (Str.ofString "/claim/cut.py") 235, Value.int 46 0, Value.int 1 0, Value.int 0 0,
          Value.int 0 0, Value.int 3 0, Value.ref 43, Value.bool true, Value.int 181 0, Value.ref 44, Value.none, Value.ref 45, Value.ref 46, Value.ref 47, Value.int 240 0, Value.int 46 0,
          Value.str (Str.ofString "/claim/cut.py") 241] }
noncomputable def o_85 : Params → Obj := fun P =>
  { cls := Value.type "function",
    data :=
      Data.func
        { name := Str.ofString "get_token", qualname := Str.ofString "_netrclex.get_token", params := (fA (mS (tS 4) 2)), body := FuncBody.stmts (fB (mS (tS 4) 2)), scope := (fS (mS (tS 4) 2)), globals := 3, closure := [],
          defaults := Value.none, kwdefaults := Value.none, pyModule := Value.str (Str.ofString "cpy313.netrc") 203, code := Value.ref 48 } }
noncomputable def o_86 : Params → Obj := fun P => { cls := Value.type "tuple", data := Data.seq #[] }
noncomputable def o_87 : Params → Obj := fun P => { cls := Value.none, data := Data.fields #[] }
noncomputable def o_88 : Params → Obj := fun P => { cls := Value.type "tuple", data := Data.seq #[Value.str (Str.ofString "self") 246, Value.str (Str.ofString "token") 247] }
noncomputable def o_89 : Params → Obj := fun P => { cls := Value.type "tuple", data := Data.seq #[] }
noncomputable def o_90 : Params → Obj := fun P =>
  { cls := Value.none,
    data :=
      Data.func
        { name := Str.ofString "push_token", qualname := Str.ofString "_netrclex.push_token", params := (fA (mS (tS 4) 3)), body := FuncBody.stmts (fB (mS (tS 4) 3)), scope := (fS (mS (tS 4) 3)), globals := 0, closure := [],
          defaults := Value.none, kwdefaults := Value.none } }
noncomputable def o_91 : Params → Obj := fun P =>
  { cls := Value.type "code",
    data :=
      Data.fields
        #[Value.str (Str.ofString "push_token") 243, Value.str (Str.ofString "_netrclex.push_token") 244, Value.str (Str.ofString "/claim/cut.py") 245, Value.int 73 0, Value.int 2 0, Value.int 0 0,
          Value.int 0 0, Value.int 3 0, Value.ref 50, Value.bool true, Value.int 181 0, Value.ref 51, Value.none, Value.ref 52, Value.ref 53, Value.ref 54, Value.int 248 0, Value.int 73 0,
          Value.str (Str.ofString "/claim/cut.py") 249] }
noncomputable def o_92 : Params → Obj := fun P =>
  { cls := Value.type "function",
    data :=
      Data.func
        { name := Str.ofString "push_token", qualname := Str.ofString "_netrclex.push_token", params := (fA (mS (tS 4) 3)), body := FuncBody.stmts (fB (mS (tS 4) 3)), scope := (fS (mS (tS 4) 3)), globals := 3, closure := [],
          defaults := Value.none, kwdefaults := Value.none, pyModule := Value.str (Str.ofString "cpy313.netrc") 203, code := Value.ref 55 } }
noncomputable def o_93 : Params → Obj := fun P =>
  { cls := Value.type "tuple",
    data := Data.seq #[Value.str (Str.ofString "instream") 251, Value.str (Str.ofString "lineno") 252, Value.str (Str.ofString "pushback") 253, Value.str (Str.ofString "whitespace") 254] }
noncomputable def o_94 : Params → Obj := fun P =>
  { cls := Value.type "dict",
    data :=
      Data.dict
        #[Mine.de P "__module__" 212 (Value.str (Str.ofString "cpy313.netrc") 203), Mine.de P "__firstlineno__" 216 (Value.int 32 215), Mine.de P "__init__" 224 (Value.ref 35),
          Mine.de P "_read_char" 232 (Value.ref 42), Mine.de P "get_token" 242 (Value.ref 49), Mine.de P "push_token" 250 (Value.ref 56), Mine.de P "__static_attributes__" 255 (Value.ref 57),
          Mine.de P "__dict__" 257 (Value.ref 60), Mine.de P "__weakref__" 259 (Value.ref 61), Mine.de P "__doc__" 260 Value.none]
        4 }
noncomputable def o_95 : Params → Obj := fun P =>
  { cls := Value.type "type",
    data := Data.cls { name := Str.ofString "_netrclex", bases := [Value.type "object"], mro := [Value.ref 59, Value.type "object"], ns := 58, qualname := Str.ofString "_netrclex" },
    slots := #[none, none, some (Value.str (Str.ofString "_netrclex") 205), some (Value.str (Str.ofString "_netrclex") 213), some (Value.builtin "object.__new__"), some (Value.bool true)] }
noncomputable def o_96 : Params → Obj := fun P =>
  { cls := Value.type "getset_descriptor", data := Data.fields #[Value.str (Str.ofString "__dict__") 256, Value.ref 59, Value.builtin "function.__dict__", Value.builtin "function.__dict__#set"] }
noncomputable def o_97 : Params → Obj := fun P => { cls := Value.type "getset_descriptor", data := Data.fields #[Value.str (Str.ofString "__weakref__") 258, Value.ref 59, Value.builtin "ExceptionGroup.__weakref__", Value.none] }
noncomputable def o_98 : Params → Obj := fun P => { cls := Value.type "super", data := Data.fields #[Value.ref 59, Value.ref 59, Value.ref 59] }
noncomputable def o_99 : Params → Obj := fun P => { cls := Value.type "builtin_function_or_method", data := Data.fields #[Value.builtin "object.__init_subclass__", Value.ref 59] }
noncomputable def o_100 : Params → Obj := fun P =>
  { cls := Value.type "dict",
    data :=
      Data.dict
        #[Mine.de P "__name__" 165 (Value.str (Str.ofString "cpy313.token") 263), Mine.de P "__doc__" 166 Value.none, Mine.de P "__package__" 167 Value.none,
          Mine.de P "__loader__" 168 (Value.builtin "__main__.__loader__#opaque"), Mine.de P "__spec__" 169 Value.none, Mine.de P "__annotations__" 170 (Value.ref 6),
          Mine.de P "__builtins__" 171 (Value.ref 4), Mine.de P "__file__" 173 (Value.str (Str.ofString "/claim/cut.py") 172), Mine.de P "__cached__" 174 Value.none,
          Mine.de P "ELLIPSIS_MARKER" 190 (Value.str (Str.ofString "...") 189), Mine.de P "_ellipsis_match" 202 (Value.ref 21), Mine.de P "_netrclex" 262 (Value.ref 59),
          Mine.de P "LPAR" 266 (Value.int 7 265), Mine.de P "RPAR" 268 (Value.int 8 267), Mine.de P "LSQB" 270 (Value.int 9 269), Mine.de P "RSQB" 272 (Value.int 10 271),
          Mine.de P "COLON" 274 (Value.int 11 273), Mine.de P "COMMA" 276 (Value.int 12 275), Mine.de P "SEMI" 278 (Value.int 13 277), Mine.de P "PLUS" 280 (Value.int 14 279),
          Mine.de P "MINUS" 282 (Value.int 15 281), Mine.de P "STAR" 284 (Value.int 16 283), Mine.de P "SLASH" 286 (Value.int 17 285), Mine.de P "VBAR" 288 (Value.int 18 287),
          Mine.de P "AMPER" 290 (Value.int 19 289), Mine.de P "LESS" 292 (Value.int 20 291), Mine.de P "GREATER" 294 (Value.int 21 293), Mine.de P "EQUAL" 296 (Value.int 22 295),
          Mine.de P "DOT" 298 (Value.int 23 297), Mine.de P "PERCENT" 300 (Value.int 24 299), Mine.de P "LBRACE" 302 (Value.int 25 301), Mine.de P "RBRACE" 304 (Value.int 26 303),
          Mine.de P "EQEQUAL" 306 (Value.int 27 305), Mine.de P "NOTEQUAL" 308 (Value.int 28 307), Mine.de P "LESSEQUAL" 310 (Value.int 29 309), Mine.de P "GREATEREQUAL" 312 (Value.int 30 311),
          Mine.de P "TILDE" 314 (Value.int 31 313), Mine.de P "CIRCUMFLEX" 316 (Value.int 32 315), Mine.de P "LEFTSHIFT" 318 (Value.int 33 317), Mine.de P "RIGHTSHIFT" 320 (Value.int 34 319),
          Mine.de P "DOUBLESTAR" 322 (Value.int 35 321), Mine.de P "PLUSEQUAL" 324 (Value.int 36 323), Mine.de P "MINEQUAL" 326 (Value.int 37 325), Mine.de P "STAREQUAL" 328 (Value.int 38 327),
          Mine.de P "SLASHEQUAL" 330 (Value.int 39 329), Mine.de P "PERCENTEQUAL" 332 (Value.int 40 331), Mine.de P "AMPEREQUAL" 334 (Value.int 41 333), Mine.de P "VBAREQUAL" 336 (Value.int 42 335),
          Mine.de P "CIRCUMFLEXEQUAL" 338 (Value.int 43 337), Mine.de P "LEFTSHIFTEQUAL" 340 (Value.int 44 339), Mine.de P "RIGHTSHIFTEQUAL" 342 (Value.int 45 341),
          Mine.de P "DOUBLESTAREQUAL" 344 (Value.int 46 343), Mine.de P "DOUBLESLASH" 346 (Value.int 47 345), Mine.de P "DOUBLESLASHEQUAL" 348 (Value.int 48 347),
          Mine.de P "AT" 350 (Value.int 49 349), Mine.de P "ATEQUAL" 352 (Value.int 50 351)]
        56 }
noncomputable def o_102 : Params → Obj := fun P =>
  { cls := Value.type "dict",
    data :=
      Data.dict
        #[Mine.de P "__name__" 165 (Value.str (Str.ofString "cpy313.token") 263), Mine.de P "__doc__" 166 Value.none, Mine.de P "__package__" 167 Value.none,
          Mine.de P "__loader__" 168 (Value.builtin "__main__.__loader__#opaque"), Mine.de P "__spec__" 169 Value.none, Mine.de P "__annotations__" 170 (Value.ref 6),
          Mine.de P "__builtins__" 171 (Value.ref 4), Mine.de P "__file__" 173 (Value.str (Str.ofString "/claim/cut.py") 172), Mine.de P "__cached__" 174 Value.none,
          Mine.de P "ELLIPSIS_MARKER" 190 (Value.str (Str.ofString "...") 189), Mine.de P "_ellipsis_match" 202 (Value.ref 21), Mine.de P "_netrclex" 262 (Value.ref 59),
          Mine.de P "LPAR" 266 (Value.int 7 265), Mine.de P "RPAR" 268 (Value.int 8 267), Mine.de P "LSQB" 270 (Value.int 9 269), Mine.de P "RSQB" 272 (Value.int 10 271),
          Mine.de P "COLON" 274 (Value.int 11 273), Mine.de P "COMMA" 276 (Value.int 12 275), Mine.de P "SEMI" 278 (Value.int 13 277), Mine.de P "PLUS" 280 (Value.int 14 279),
          Mine.de P "MINUS" 282 (Value.int 15 281), Mine.de P "STAR" 284 (Value.int 16 283), Mine.de P "SLASH" 286 (Value.int 17 285), Mine.de P "VBAR" 288 (Value.int 18 287),
          Mine.de P "AMPER" 290 (Value.int 19 289), Mine.de P "LESS" 292 (Value.int 20 291), Mine.de P "GREATER" 294 (Value.int 21 293), Mine.de P "EQUAL" 296 (Value.int 22 295),
          Mine.de P "DOT" 298 (Value.int 23 297), Mine.de P "PERCENT" 300 (Value.int 24 299), Mine.de P "LBRACE" 302 (Value.int 25 301), Mine.de P "RBRACE" 304 (Value.int 26 303),
          Mine.de P "EQEQUAL" 306 (Value.int 27 305), Mine.de P "NOTEQUAL" 308 (Value.int 28 307), Mine.de P "LESSEQUAL" 310 (Value.int 29 309), Mine.de P "GREATEREQUAL" 312 (Value.int 30 311),
          Mine.de P "TILDE" 314 (Value.int 31 313), Mine.de P "CIRCUMFLEX" 316 (Value.int 32 315), Mine.de P "LEFTSHIFT" 318 (Value.int 33 317), Mine.de P "RIGHTSHIFT" 320 (Value.int 34 319),
          Mine.de P "DOUBLESTAR" 322 (Value.int 35 321), Mine.de P "PLUSEQUAL" 324 (Value.int 36 323), Mine.de P "MINEQUAL" 326 (Value.int 37 325), Mine.de P "STAREQUAL" 328 (Value.int 38 327),
          Mine.de P "SLASHEQUAL" 330 (Value.int 39 329), Mine.de P "PERCENTEQUAL" 332 (Value.int 40 331), Mine.de P "AMPEREQUAL" 334 (Value.int 41 333), Mine.de P "VBAREQUAL" 336 (Value.int 42 335),
          Mine.de P "CIRCUMFLEXEQUAL" 338 (Value.int 43 337), Mine.de P "LEFTSHIFTEQUAL" 340 (Value.int 44 339), Mine.de P "RIGHTSHIFTEQUAL" 342 (Value.int 45 341),
          Mine.de P "DOUBLESTAREQUAL" 344 (Value.int 46 343), Mine.de P "DOUBLESLASH" 346 (Value.int 47 345), Mine.de P "DOUBLESLASHEQUAL" 348 (Value.int 48 347),
          Mine.de P "AT" 350 (Value.int 49 349), Mine.de P "ATEQUAL" 352 (Value.int 50 351), Mine.de P "RARROW" 354 (Value.int 51 353), Mine.de P "ELLIPSIS" 356 (Value.int 52 355),
          Mine.de P "COLONEQUAL" 358 (Value.int 53 357), Mine.de P "EXCLAMATION" 360 (Value.int 54 359), Mine.de P "NT_OFFSET" 362 (Value.int 256 361)]
        61 }
noncomputable def o_104 : Params → Obj := fun P =>
  { cls := Value.type "dict",
    data :=
      Data.dict
        #[Mine.de P "__name__" 165 (Value.str (Str.ofString "cpy313.token") 263), Mine.de P "__doc__" 166 Value.none, Mine.de P "__package__" 167 Value.none,
          Mine.de P "__loader__" 168 (Value.builtin "__main__.__loader__#opaque"), Mine.de P "__spec__" 169 Value.none, Mine.de P "__annotations__" 170 (Value.ref 6),
          Mine.de P "__builtins__" 171 (Value.ref 4), Mine.de P "__file__" 173 (Value.str (Str.ofString "/claim/cut.py") 172), Mine.de P "__cached__" 174 Value.none,
          Mine.de P "ELLIPSIS_MARKER" 190 (Value.str (Str.ofString "...") 189), Mine.de P "_ellipsis_match" 202 (Value.ref 21), Mine.de P "_netrclex" 262 (Value.ref 59),
          Mine.de P "LPAR" 266 (Value.int 7 265), Mine.de P "RPAR" 268 (Value.int 8 267), Mine.de P "LSQB" 270 (Value.int 9 269), Mine.de P "RSQB" 272 (Value.int 10 271),
          Mine.de P "COLON" 274 (Value.int 11 273), Mine.de P "COMMA" 276 (Value.int 12 275), Mine.de P "SEMI" 278 (Value.int 13 277), Mine.de P "PLUS" 280 (Value.int 14 279),
          Mine.de P "MINUS" 282 (Value.int 15 281), Mine.de P "STAR" 284 (Value.int 16 283), Mine.de P "SLASH" 286 (Value.int 17 285), Mine.de P "VBAR" 288 (Value.int 18 287),
          Mine.de P "AMPER" 290 (Value.int 19 289), Mine.de P "LESS" 292 (Value.int 20 291), Mine.de P "GREATER" 294 (Value.int 21 293), Mine.de P "EQUAL" 296 (Value.int 22 295),
          Mine.de P "DOT" 298 (Value.int 23 297), Mine.de P "PERCENT" 300 (Value.int 24 299), Mine.de P "LBRACE" 302 (Value.int 25 301), Mine.de P "RBRACE" 304 (Value.int 26 303),
          Mine.de P "EQEQUAL" 306 (Value.int 27 305), Mine.de P "NOTEQUAL" 308 (Value.int 28 307), Mine.de P "LESSEQUAL" 310 (Value.int 29 309), Mine.de P "GREATEREQUAL" 312 (Value.int 30 311),
          Mine.de P "TILDE" 314 (Value.int 31 313), Mine.de P "CIRCUMFLEX" 316 (Value.int 32 315), Mine.de P "LEFTSHIFT" 318 (Value.int 33 317), Mine.de P "RIGHTSHIFT" 320 (Value.int 34 319),
          Mine.de P "DOUBLESTAR" 322 (Value.int 35 321), Mine.de P "PLUSEQUAL" 324 (Value.int 36 323), Mine.de P "MINEQUAL" 326 (Value.int 37 325), Mine.de P "STAREQUAL" 328 (Value.int 38 327),
          Mine.de P "SLASHEQUAL" 330 (Value.int 39 329), Mine.de P "PERCENTEQUAL" 332 (Value.int 40 331), Mine.de P "AMPEREQUAL" 334 (Value.int 41 333), Mine.de P "VBAREQUAL" 336 (Value.int 42 335),
          Mine.de P "CIRCUMFLEXEQUAL" 338 (Value.int 43 337), Mine.de P "LEFTSHIFTEQUAL" 340 (Value.int 44 339), Mine.de P "RIGHTSHIFTEQUAL" 342 (Value.int 45 341),
          Mine.de P "DOUBLESTAREQUAL" 344 (Value.int 46 343), Mine.de P "DOUBLESLASH" 346 (Value.int 47 345), Mine.de P "DOUBLESLASHEQUAL" 348 (Value.int 48 347),
          Mine.de P "AT" 350 (Value.int 49 349), Mine.de P "ATEQUAL" 352 (Value.int 50 351), Mine.de P "RARROW" 354 (Value.int 51 353), Mine.de P "ELLIPSIS" 356 (Value.int 52 355),
          Mine.de P "COLONEQUAL" 358 (Value.int 53 357), Mine.de P "EXCLAMATION" 360 (Value.int 54 359), Mine.de P "NT_OFFSET" 362 (Value.int 256 361),
          Mine.de P "EXACT_TOKEN_TYPES" 459 (Value.ref 64)]
        62 }
noncomputable def o_105 : Params → Obj := fun P =>
  { cls := Value.type "dict",
    data :=
      Data.dict
        #[Mine.de P "!" 363 (Value.int 54 359), Mine.de P "!=" 365 (Value.int 28 307), Mine.de P "%" 367 (Value.int 24 299), Mine.de P "%=" 369 (Value.int 40 331),
          Mine.de P "&" 371 (Value.int 19 289), Mine.de P "&=" 373 (Value.int 41 333), Mine.de P "(" 375 (Value.int 7 265), Mine.de P ")" 377 (Value.int 8 267), Mine.de P "*" 379 (Value.int 16 283),
          Mine.de P "**" 381 (Value.int 35 321), Mine.de P "**=" 383 (Value.int 46 343), Mine.de P "*=" 385 (Value.int 38 327), Mine.de P "+" 387 (Value.int 14 279),
          Mine.de P "+=" 389 (Value.int 36 323), Mine.de P "," 391 (Value.int 12 275), Mine.de P "-" 393 (Value.int 15 281), Mine.de P "-=" 395 (Value.int 37 325),
          Mine.de P "->" 397 (Value.int 51 353), Mine.de P "." 399 (Value.int 23 297), Mine.de P "..." 401 (Value.int 52 355), Mine.de P "/" 403 (Value.int 17 285),
          Mine.de P "//" 405 (Value.int 47 345), Mine.de P "//=" 407 (Value.int 48 347), Mine.de P "/=" 409 (Value.int 39 329), Mine.de P ":" 411 (Value.int 11 273),
          Mine.de P ":=" 413 (Value.int 53 357), Mine.de P ";" 415 (Value.int 13 277), Mine.de P "<" 417 (Value.int 20 291), Mine.de P "<<" 419 (Value.int 33 317),
          Mine.de P "<<=" 421 (Value.int 44 339), Mine.de P "<=" 423 (Value.int 29 309), Mine.de P "=" 425 (Value.int 22 295), Mine.de P "==" 427 (Value.int 27 305),
          Mine.de P ">" 429 (Value.int 21 293), Mine.de P ">=" 431 (Value.int 30 311), Mine.de P ">>" 432 (Value.int 34 319), Mine.de P ">>=" 433 (Value.int 45 341),
          Mine.de P "@" 434 (Value.int 49 349), Mine.de P "@=" 435 (Value.int 50 351), Mine.de P "[" 436 (Value.int 9 269), Mine.de P "]" 437 (Value.int 10 271), Mine.de P "^" 438 (Value.int 32 315),
          Mine.de P "^=" 439 (Value.int 43 337), Mine.de P "{" 440 (Value.int 25 301), Mine.de P "|" 441 (Value.int 18 287), Mine.de P "|=" 442 (Value.int 42 335),
          Mine.de P "}" 443 (Value.int 26 303), Mine.de P "~" 444 (Value.int 31 313)]
        48 }
noncomputable def o_106 : Params → Obj := fun P =>
  { cls := Value.type "dict",
    data :=
      Data.dict
        #[Mine.de P "->" 397 (Value.int 51 353), Mine.de P "." 399 (Value.int 23 297), Mine.de P "..." 401 (Value.int 52 355), Mine.de P "/" 403 (Value.int 17 285),
          Mine.de P "//" 405 (Value.int 47 345), Mine.de P "//=" 407 (Value.int 48 347), Mine.de P "/=" 409 (Value.int 39 329), Mine.de P ":" 411 (Value.int 11 273),
          Mine.de P ":=" 413 (Value.int 53 357), Mine.de P ";" 415 (Value.int 13 277), Mine.de P "<" 417 (Value.int 20 291), Mine.de P "<<" 419 (Value.int 33 317),
          Mine.de P "<<=" 421 (Value.int 44 339), Mine.de P "<=" 423 (Value.int 29 309), Mine.de P "=" 425 (Value.int 22 295), Mine.de P "==" 427 (Value.int 27 305),
          Mine.de P ">" 429 (Value.int 21 293)]
        17 }
noncomputable def o_107 : Params → Obj := fun P =>
  { cls := Value.type "dict",
    data :=
      Data.dict
        #[Mine.de P ">=" 431 (Value.int 30 311), Mine.de P ">>" 432 (Value.int 34 319), Mine.de P ">>=" 433 (Value.int 45 341), Mine.de P "@" 434 (Value.int 49 349),
          Mine.de P "@=" 435 (Value.int 50 351), Mine.de P "[" 436 (Value.int 9 269), Mine.de P "]" 437 (Value.int 10 271), Mine.de P "^" 438 (Value.int 32 315), Mine.de P "^=" 439 (Value.int 43 337),
          Mine.de P "{" 440 (Value.int 25 301), Mine.de P "|" 441 (Value.int 18 287), Mine.de P "|=" 442 (Value.int 42 335), Mine.de P "}" 443 (Value.int 26 303), Mine.de P "~" 444 (Value.int 31 313)]
        14 }
noncomputable def o_111 : Params → Obj := fun P =>
  { cls := Value.type "dict",
    data :=
      Data.dict
        #[Mine.de P "__name__" 165 (Value.str (Str.ofString "law_re0101_02") 467), Mine.de P "__doc__" 166 Value.none, Mine.de P "__package__" 167 Value.none,
          Mine.de P "__loader__" 168 (Value.builtin "__main__.__loader__#opaque"), Mine.de P "__spec__" 169 Value.none, Mine.de P "__annotations__" 170 (Value.ref 6),
          Mine.de P "__builtins__" 171 (Value.ref 4), Mine.de P "__file__" 173 (Value.str (Str.ofString "/claim/cut.py") 172), Mine.de P "__cached__" 174 Value.none,
          Mine.de P "ELLIPSIS_MARKER" 190 (Value.str (Str.ofString "...") 189), Mine.de P "_ellipsis_match" 202 (Value.ref 21), Mine.de P "_netrclex" 262 (Value.ref 59),
          Mine.de P "LPAR" 266 (Value.int 7 265), Mine.de P "RPAR" 268 (Value.int 8 267), Mine.de P "LSQB" 270 (Value.int 9 269), Mine.de P "RSQB" 272 (Value.int 10 271),
          Mine.de P "COLON" 274 (Value.int 11 273), Mine.de P "COMMA" 276 (Value.int 12 275), Mine.de P "SEMI" 278 (Value.int 13 277), Mine.de P "PLUS" 280 (Value.int 14 279),
          Mine.de P "MINUS" 282 (Value.int 15 281), Mine.de P "STAR" 284 (Value.int 16 283), Mine.de P "SLASH" 286 (Value.int 17 285), Mine.de P "VBAR" 288 (Value.int 18 287),
          Mine.de P "AMPER" 290 (Value.int 19 289), Mine.de P "LESS" 292 (Value.int 20 291), Mine.de P "GREATER" 294 (Value.int 21 293), Mine.de P "EQUAL" 296 (Value.int 22 295),
          Mine.de P "DOT" 298 (Value.int 23 297), Mine.de P "PERCENT" 300 (Value.int 24 299), Mine.de P "LBRACE" 302 (Value.int 25 301), Mine.de P "RBRACE" 304 (Value.int 26 303),
          Mine.de P "EQEQUAL" 306 (Value.int 27 305), Mine.de P "NOTEQUAL" 308 (Value.int 28 307), Mine.de P "LESSEQUAL" 310 (Value.int 29 309), Mine.de P "GREATEREQUAL" 312 (Value.int 30 311),
          Mine.de P "TILDE" 314 (Value.int 31 313), Mine.de P "CIRCUMFLEX" 316 (Value.int 32 315), Mine.de P "LEFTSHIFT" 318 (Value.int 33 317), Mine.de P "RIGHTSHIFT" 320 (Value.int 34 319),
          Mine.de P "DOUBLESTAR" 322 (Value.int 35 321), Mine.de P "PLUSEQUAL" 324 (Value.int 36 323), Mine.de P "MINEQUAL" 326 (Value.int 37 325), Mine.de P "STAREQUAL" 328 (Value.int 38 327),
          Mine.de P "SLASHEQUAL" 330 (Value.int 39 329), Mine.de P "PERCENTEQUAL" 332 (Value.int 40 331), Mine.de P "AMPEREQUAL" 334 (Value.int 41 333), Mine.de P "VBAREQUAL" 336 (Value.int 42 335),
          Mine.de P "CIRCUMFLEXEQUAL" 338 (Value.int 43 337), Mine.de P "LEFTSHIFTEQUAL" 340 (Value.int 44 339), Mine.de P "RIGHTSHIFTEQUAL" 342 (Value.int 45 341),
          Mine.de P "DOUBLESTAREQUAL" 344 (Value.int 46 343), Mine.de P "DOUBLESLASH" 346 (Value.int 47 345), Mine.de P "DOUBLESLASHEQUAL" 348 (Value.int 48 347),
          Mine.de P "AT" 350 (Value.int 49 349), Mine.de P "ATEQUAL" 352 (Value.int 50 351), Mine.de P "RARROW" 354 (Value.int 51 353), Mine.de P "ELLIPSIS" 356 (Value.int 52 355),
          Mine.de P "COLONEQUAL" 358 (Value.int 53 357), Mine.de P "EXCLAMATION" 360 (Value.int 54 359), Mine.de P "NT_OFFSET" 362 (Value.int 256 361),
          Mine.de P "EXACT_TOKEN_TYPES" 459 (Value.ref 64), Mine.de P "ISTERMINAL" 466 (Value.ref 73), Mine.de P "_law_machine" 479 (Value.ref 80), Mine.de P "_law_rule" 491 (Value.ref 87),
          Mine.de P "_law_written" 497 (Value.ref 92), Mine.de P "_law_heard" 503 (Value.ref 97), Mine.de P "_law_holds" 509 (Value.ref 102), Mine.de P "_law_needed" 515 (Value.ref 107),
          Mine.de P "_law_arrives" 530 (Value.ref 114), Mine.de P "_law_goes" 536 (Value.ref 119), Mine.de P "_law_reached" 542 (Value.ref 124), Mine.de P "_law_stands" 552 (Value.ref 131),
          Mine.de P "_law_lowest" 558 (Value.ref 136), Mine.de P "law" 564 (Value.ref 141)]
        75 }
noncomputable def o_112 : Params → Obj := fun P =>
  { cls := Value.none,
    data :=
      Data.fields
        #[Value.int 3 0, Value.int 0 0, Value.ref 20, Value.int 32 0, Value.int 0 0, Value.ref 27, Value.int 126 0, Value.int 0 0, Value.ref 72, Value.int 129 0, Value.int 0 0, Value.ref 79,
          Value.int 139 0, Value.int 0 0, Value.ref 86, Value.int 144 0, Value.int 0 0, Value.ref 91, Value.int 147 0, Value.int 0 0, Value.ref 96, Value.int 154 0, Value.int 0 0, Value.ref 101,
          Value.int 159 0, Value.int 0 0, Value.ref 106, Value.int 181 0, Value.int 0 0, Value.ref 113, Value.int 199 0, Value.int 0 0, Value.ref 118, Value.int 214 0, Value.int 0 0, Value.ref 123,
          Value.int 225 0, Value.int 0 0, Value.ref 130, Value.int 231 0, Value.int 0 0, Value.ref 135, Value.int 237 0, Value.int 0 0, Value.ref 140] }
noncomputable def o_113 : Params → Obj := fun P => { cls := Value.type "tuple", data := Data.seq #[] }
noncomputable def o_114 : Params → Obj := fun P => { cls := Value.none, data := Data.fields #[] }
noncomputable def o_115 : Params → Obj := fun P => { cls := Value.type "tuple", data := Data.seq #[Value.str (Str.ofString "x") 463] }
noncomputable def o_116 : Params → Obj := fun P => { cls := Value.type "tuple", data := Data.seq #[] }
noncomputable def o_117 : Params → Obj := fun P =>
  { cls := Value.none,
    data :=
      Data.func
        { name := Str.ofString "ISTERMINAL", qualname := Str.ofString "ISTERMINAL", params := (fA (tS 56)), body := FuncBody.stmts (fB (tS 56)), scope := (fS (tS 56)), globals := 0, closure := [],
          defaults := Value.none, kwdefaults := Value.none } }
noncomputable def o_118 : Params → Obj := fun P =>
  { cls := Value.type "code",
    data :=
      Data.fields
        #[Value.str (Str.ofString "ISTERMINAL") 460, Value.str (Str.ofString "ISTERMINAL") 461, Value.str (Str.ofString "/claim/cut.py") 462, Value.int 126 0, Value.int 1 0, Value.int 0 0,
          Value.int 0 0, Value.int 3 0, Value.ref 67, Value.bool true, Value.int 181 0, Value.ref 68, Value.none, Value.ref 69, Value.ref 70, Value.ref 71, Value.int 464 0, Value.int 126 0,
          Value.str (Str.ofString "/claim/cut.py") 465] }
noncomputable def o_119 : Params → Obj := fun P =>
  { cls := Value.type "function",
    data :=
      Data.func
        { name := Str.ofString "ISTERMINAL", qualname := Str.ofString "ISTERMINAL", params := (fA (tS 56)), body := FuncBody.stmts (fB (tS 56)), scope := (fS (tS 56)), globals := 3, closure := [],
          defaults := Value.none, kwdefaults := Value.none, pyModule := Value.str (Str.ofString "cpy313.token") 263, code := Value.ref 72 } }
noncomputable def o_120 : Params → Obj := fun P => { cls := Value.type "tuple", data := Data.seq #[] }
noncomputable def o_121 : Params → Obj := fun P => { cls := Value.none, data := Data.fields #[] }
noncomputable def o_122 : Params → Obj := fun P => { cls := Value.type "tuple", data := Data.seq #[Value.str (Str.ofString "text") 472, Value.str (Str.ofString "_law_read_on") 473, Value.str (Str.ofString "stream") 474] }
noncomputable def o_123 : Params → Obj := fun P => { cls := Value.type "tuple", data := Data.seq #[Value.str (Str.ofString "text") 475, Value.str (Str.ofString "at") 476] }
noncomputable def o_124 : Params → Obj := fun P =>
  { cls := Value.none,
    data :=
      Data.func
        { name := Str.ofString "_law_machine", qualname := Str.ofString "_law_machine", params := (fA (tS 58)), body := FuncBody.stmts (fB (tS 58)), scope := (fS (tS 58)), globals := 0, closure := [],
          defaults := Value.none, kwdefaults := Value.none } }
noncomputable def o_125 : Params → Obj := fun P =>
  { cls := Value.type "code",
    data :=
      Data.fields
        #[Value.str (Str.ofString "_law_machine") 469, Value.str (Str.ofString "_law_machine") 470, Value.str (Str.ofString "/claim/cut.py") 471, Value.int 129 0, Value.int 1 0, Value.int 0 0,
          Value.int 0 0, Value.int 3 0, Value.ref 74, Value.bool true, Value.int 181 0, Value.ref 75, Value.none, Value.ref 76, Value.ref 77, Value.ref 78, Value.int 477 0, Value.int 129 0,
          Value.str (Str.ofString "/claim/cut.py") 478] }
noncomputable def o_126 : Params → Obj := fun P =>
  { cls := Value.type "function",
    data :=
      Data.func
        { name := Str.ofString "_law_machine", qualname := Str.ofString "_law_machine", params := (fA (tS 58)), body := FuncBody.stmts (fB (tS 58)), scope := (fS (tS 58)), globals := 3, closure := [],
          defaults := Value.none, kwdefaults := Value.none, pyModule := Value.str (Str.ofString "law_re0101_02") 467, code := Value.ref 79 } }
noncomputable def o_127 : Params → Obj := fun P => { cls := Value.type "tuple", data := Data.seq #[] }
noncomputable def o_128 : Params → Obj := fun P => { cls := Value.none, data := Data.fields #[] }
noncomputable def o_129 : Params → Obj := fun P =>
  { cls := Value.type "tuple",
    data :=
      Data.seq
        #[Value.str (Str.ofString "k") 483, Value.str (Str.ofString "number") 484, Value.str (Str.ofString "letters") 485, Value.str (Str.ofString "start") 486, Value.str (Str.ofString "goal") 487,
          Value.str (Str.ofString "letter") 488] }
noncomputable def o_130 : Params → Obj := fun P => { cls := Value.type "tuple", data := Data.seq #[] }
noncomputable def o_131 : Params → Obj := fun P =>
  { cls := Value.none,
    data :=
      Data.func
        { name := Str.ofString "_law_rule", qualname := Str.ofString "_law_rule", params := (fA (tS 59)), body := FuncBody.stmts (fB (tS 59)), scope := (fS (tS 59)), globals := 0, closure := [], defaults := Value.none,
          kwdefaults := Value.none } }
noncomputable def o_132 : Params → Obj := fun P =>
  { cls := Value.type "code",
    data :=
      Data.fields
        #[Value.str (Str.ofString "_law_rule") 480, Value.str (Str.ofString "_law_rule") 481, Value.str (Str.ofString "/claim/cut.py") 482, Value.int 139 0, Value.int 3 0, Value.int 0 0,
          Value.int 0 0, Value.int 3 0, Value.ref 81, Value.bool true, Value.int 181 0, Value.ref 82, Value.none, Value.ref 83, Value.ref 84, Value.ref 85, Value.int 489 0, Value.int 139 0,
          Value.str (Str.ofString "/claim/cut.py") 490] }
noncomputable def o_133 : Params → Obj := fun P =>
  { cls := Value.type "function",
    data :=
      Data.func
        { name := Str.ofString "_law_rule", qualname := Str.ofString "_law_rule", params := (fA (tS 59)), body := FuncBody.stmts (fB (tS 59)), scope := (fS (tS 59)), globals := 3, closure := [], defaults := Value.none,
          kwdefaults := Value.none, pyModule := Value.str (Str.ofString "law_re0101_02") 467, code := Value.ref 86 } }
noncomputable def o_134 : Params → Obj := fun P => { cls := Value.type "tuple", data := Data.seq #[] }
noncomputable def o_135 : Params → Obj := fun P => { cls := Value.none, data := Data.fields #[] }
noncomputable def o_136 : Params → Obj := fun P =>
  { cls := Value.none,
    data :=
      Data.func
        { name := Str.ofString "_law_written", qualname := Str.ofString "_law_written", params := (fA (tS 60)), body := FuncBody.stmts (fB (tS 60)), scope := (fS (tS 60)), globals := 0, closure := [],
          defaults := Value.none, kwdefaults := Value.none } }
noncomputable def o_137 : Params → Obj := fun P =>
  { cls := Value.type "code",
    data :=
      Data.fields
        #[Value.str (Str.ofString "_law_written") 492, Value.str (Str.ofString "_law_written") 493, Value.str (Str.ofString "/claim/cut.py") 494, Value.int 144 0, Value.int 3 0, Value.int 0 0,
          Value.int 0 0, Value.int 3 0, Value.ref 88, Value.bool true, Value.int 181 0, Value.ref 89, Value.none, Value.none, Value.none, Value.ref 90, Value.int 495 0, Value.int 144 0,
          Value.str (Str.ofString "/claim/cut.py") 496] }
noncomputable def o_138 : Params → Obj := fun P =>
  { cls := Value.type "function",
    data :=
      Data.func
        { name := Str.ofString "_law_written", qualname := Str.ofString "_law_written", params := (fA (tS 60)), body := FuncBody.stmts (fB (tS 60)), scope := (fS (tS 60)), globals := 3, closure := [],
          defaults := Value.none, kwdefaults := Value.none, pyModule := Value.str (Str.ofString "law_re0101_02") 467, code := Value.ref 91 } }
noncomputable def o_139 : Params → Obj := fun P => { cls := Value.type "tuple", data := Data.seq #[] }
noncomputable def o_140 : Params → Obj := fun P => { cls := Value.none, data := Data.fields #[] }
noncomputable def o_141 : Params → Obj := fun P =>
  { cls := Value.none,
    data :=
      Data.func
        { name := Str.ofString "_law_heard", qualname := Str.ofString "_law_heard", params := (fA (tS 61)), body := FuncBody.stmts (fB (tS 61)), scope := (fS (tS 61)), globals := 0, closure := [],
          defaults := Value.none, kwdefaults := Value.none } }
noncomputable def o_142 : Params → Obj := fun P =>
  { cls := Value.type "code",
    data :=
      Data.fields
        #[Value.str (Str.ofString "_law_heard") 498, Value.str (Str.ofString "_law_heard") 499, Value.str (Str.ofString "/claim/cut.py") 500, Value.int 147 0, Value.int 2 0, Value.int 0 0,
          Value.int 0 0, Value.int 3 0, Value.ref 93, Value.bool true, Value.int 181 0, Value.ref 94, Value.none, Value.none, Value.none, Value.ref 95, Value.int 501 0, Value.int 147 0,
          Value.str (Str.ofString "/claim/cut.py") 502] }
noncomputable def o_143 : Params → Obj := fun P =>
  { cls := Value.type "function",
    data :=
      Data.func
        { name := Str.ofString "_law_heard", qualname := Str.ofString "_law_heard", params := (fA (tS 61)), body := FuncBody.stmts (fB (tS 61)), scope := (fS (tS 61)), globals := 3, closure := [],
          defaults := Value.none, kwdefaults := Value.none, pyModule := Value.str (Str.ofString "law_re0101_02") 467, code := Value.ref 96 } }
noncomputable def o_144 : Params → Obj := fun P => { cls := Value.type "tuple", data := Data.seq #[] }
noncomputable def o_145 : Params → Obj := fun P => { cls := Value.none, data := Data.fields #[] }
noncomputable def o_146 : Params → Obj := fun P =>
  { cls := Value.none,
    data :=
      Data.func
        { name := Str.ofString "_law_holds", qualname := Str.ofString "_law_holds", params := (fA (tS 62)), body := FuncBody.stmts (fB (tS 62)), scope := (fS (tS 62)), globals := 0, closure := [],
          defaults := Value.none, kwdefaults := Value.none } }
noncomputable def o_147 : Params → Obj := fun P =>
  { cls := Value.type "code",
    data :=
      Data.fields
        #[Value.str (Str.ofString "_law_holds") 504, Value.str (Str.ofString "_law_holds") 505, Value.str (Str.ofString "/claim/cut.py") 506, Value.int 154 0, Value.int 2 0, Value.int 0 0,
          Value.int 0 0, Value.int 3 0, Value.ref 98, Value.bool true, Value.int 181 0, Value.ref 99, Value.none, Value.none, Value.none, Value.ref 100, Value.int 507 0, Value.int 154 0,
          Value.str (Str.ofString "/claim/cut.py") 508] }
noncomputable def o_148 : Params → Obj := fun P =>
  { cls := Value.type "function",
    data :=
      Data.func
        { name := Str.ofString "_law_holds", qualname := Str.ofString "_law_holds", params := (fA (tS 62)), body := FuncBody.stmts (fB (tS 62)), scope := (fS (tS 62)), globals := 3, closure := [],
          defaults := Value.none, kwdefaults := Value.none, pyModule := Value.str (Str.ofString "law_re0101_02") 467, code := Value.ref 101 } }
noncomputable def o_149 : Params → Obj := fun P => { cls := Value.type "tuple", data := Data.seq #[] }
noncomputable def o_150 : Params → Obj := fun P => { cls := Value.none, data := Data.fields #[] }
noncomputable def o_151 : Params → Obj := fun P =>
  { cls := Value.none,
    data :=
      Data.func
        { name := Str.ofString "_law_needed", qualname := Str.ofString "_law_needed", params := (fA (tS 63)), body := FuncBody.stmts (fB (tS 63)), scope := (fS (tS 63)), globals := 0, closure := [],
          defaults := Value.none, kwdefaults := Value.none } }
noncomputable def o_152 : Params → Obj := fun P =>
  { cls := Value.type "code",
    data :=
      Data.fields
        #[Value.str (Str.ofString "_law_needed") 510, Value.str (Str.ofString "_law_needed") 511, Value.str (Str.ofString "/claim/cut.py") 512, Value.int 159 0, Value.int 2 0, Value.int 0 0,
          Value.int 0 0, Value.int 3 0, Value.ref 103, Value.bool true, Value.int 181 0, Value.ref 104, Value.none, Value.none, Value.none, Value.ref 105, Value.int 513 0, Value.int 159 0,
          Value.str (Str.ofString "/claim/cut.py") 514] }
noncomputable def o_153 : Params → Obj := fun P =>
  { cls := Value.type "function",
    data :=
      Data.func
        { name := Str.ofString "_law_needed", qualname := Str.ofString "_law_needed", params := (fA (tS 63)), body := FuncBody.stmts (fB (tS 63)), scope := (fS (tS 63)), globals := 3, closure := [],
          defaults := Value.none, kwdefaults := Value.none, pyModule := Value.str (Str.ofString "law_re0101_02") 467, code := Value.ref 106 } }
noncomputable def o_154 : Params → Obj := fun P => { cls := Value.type "tuple", data := Data.seq #[] }
noncomputable def o_155 : Params → Obj := fun P => { cls := Value.none, data := Data.fields #[] }
noncomputable def o_156 : Params → Obj := fun P =>
  { cls := Value.type "tuple",
    data :=
      Data.seq
        #[Value.str (Str.ofString "rules") 519, Value.str (Str.ofString "state") 520, Value.str (Str.ofString "word") 521, Value.str (Str.ofString "plan") 522, Value.str (Str.ofString "line") 523,
          Value.str (Str.ofString "letter") 524, Value.str (Str.ofString "here") 525, Value.str (Str.ofString "sign") 526, Value.str (Str.ofString "rule") 527] }
noncomputable def o_157 : Params → Obj := fun P => { cls := Value.type "tuple", data := Data.seq #[] }
noncomputable def o_158 : Params → Obj := fun P =>
  { cls := Value.none,
    data :=
      Data.func
        { name := Str.ofString "_law_arrives", qualname := Str.ofString "_law_arrives", params := (fA (tS 64)), body := FuncBody.stmts (fB (tS 64)), scope := (fS (tS 64)), globals := 0, closure := [],
          defaults := Value.none, kwdefaults := Value.none } }
noncomputable def o_159 : Params → Obj := fun P =>
  { cls := Value.type "code",
    data :=
      Data.fields
        #[Value.str (Str.ofString "_law_arrives") 516, Value.str (Str.ofString "_law_arrives") 517, Value.str (Str.ofString "/claim/cut.py") 518, Value.int 181 0, Value.int 4 0, Value.int 0 0,
          Value.int 0 0, Value.int 3 0, Value.ref 108, Value.bool true, Value.int 181 0, Value.ref 109, Value.none, Value.ref 110, Value.ref 111, Value.ref 112, Value.int 528 0, Value.int 181 0,
          Value.str (Str.ofString "/claim/cut.py") 529] }
noncomputable def o_160 : Params → Obj := fun P =>
  { cls := Value.type "function",
    data :=
      Data.func
        { name := Str.ofString "_law_arrives", qualname := Str.ofString "_law_arrives", params := (fA (tS 64)), body := FuncBody.stmts (fB (tS 64)), scope := (fS (tS 64)), globals := 3, closure := [],
          defaults := Value.none, kwdefaults := Value.none, pyModule := Value.str (Str.ofString "law_re0101_02") 467, code := Value.ref 113 } }
noncomputable def o_161 : Params → Obj := fun P => { cls := Value.type "tuple", data := Data.seq #[] }
noncomputable def o_162 : Params → Obj := fun P => { cls := Value.none, data := Data.fields #[] }
noncomputable def o_163 : Params → Obj := fun P =>
  { cls := Value.none,
    data :=
      Data.func
        { name := Str.ofString "_law_goes", qualname := Str.ofString "_law_goes", params := (fA (tS 65)), body := FuncBody.stmts (fB (tS 65)), scope := (fS (tS 65)), globals := 0, closure := [], defaults := Value.none,
          kwdefaults := Value.none } }
noncomputable def o_164 : Params → Obj := fun P =>
  { cls := Value.type "code",
    data :=
      Data.fields
        #[Value.str (Str.ofString "_law_goes") 531, Value.str (Str.ofString "_law_goes") 532, Value.str (Str.ofString "/claim/cut.py") 533, Value.int 199 0, Value.int 4 0, Value.int 0 0,
          Value.int 0 0, Value.int 3 0, Value.ref 115, Value.bool true, Value.int 181 0, Value.ref 116, Value.none, Value.none, Value.none, Value.ref 117, Value.int 534 0, Value.int 199 0,
          Value.str (Str.ofString "/claim/cut.py") 535] }
noncomputable def o_165 : Params → Obj := fun P =>
  { cls := Value.type "function",
    data :=
      Data.func
        { name := Str.ofString "_law_goes", qualname := Str.ofString "_law_goes", params := (fA (tS 65)), body := FuncBody.stmts (fB (tS 65)), scope := (fS (tS 65)), globals := 3, closure := [], defaults := Value.none,
          kwdefaults := Value.none, pyModule := Value.str (Str.ofString "law_re0101_02") 467, code := Value.ref 118 } }
noncomputable def o_166 : Params → Obj := fun P => { cls := Value.type "tuple", data := Data.seq #[] }
noncomputable def o_167 : Params → Obj := fun P => { cls := Value.none, data := Data.fields #[] }
noncomputable def o_168 : Params → Obj := fun P =>
  { cls := Value.none,
    data :=
      Data.func
        { name := Str.ofString "_law_reached", qualname := Str.ofString "_law_reached", params := (fA (tS 66)), body := FuncBody.stmts (fB (tS 66)), scope := (fS (tS 66)), globals := 0, closure := [],
          defaults := Value.none, kwdefaults := Value.none } }
noncomputable def o_169 : Params → Obj := fun P =>
  { cls := Value.type "code",
    data :=
      Data.fields
        #[Value.str (Str.ofString "_law_reached") 537, Value.str (Str.ofString "_law_reached") 538, Value.str (Str.ofString "/claim/cut.py") 539, Value.int 214 0, Value.int 2 0, Value.int 0 0,
          Value.int 0 0, Value.int 3 0, Value.ref 120, Value.bool true, Value.int 181 0, Value.ref 121, Value.none, Value.none, Value.none, Value.ref 122, Value.int 540 0, Value.int 214 0,
          Value.str (Str.ofString "/claim/cut.py") 541] }
noncomputable def o_170 : Params → Obj := fun P =>
  { cls := Value.type "function",
    data :=
      Data.func
        { name := Str.ofString "_law_reached", qualname := Str.ofString "_law_reached", params := (fA (tS 66)), body := FuncBody.stmts (fB (tS 66)), scope := (fS (tS 66)), globals := 3, closure := [],
          defaults := Value.none, kwdefaults := Value.none, pyModule := Value.str (Str.ofString "law_re0101_02") 467, code := Value.ref 123 } }
noncomputable def o_171 : Params → Obj := fun P => { cls := Value.type "tuple", data := Data.seq #[] }
noncomputable def o_172 : Params → Obj := fun P => { cls := Value.none, data := Data.fields #[] }
noncomputable def o_173 : Params → Obj := fun P =>
  { cls := Value.type "tuple", data := Data.seq #[Value.str (Str.ofString "short") 546, Value.str (Str.ofString "long") 547, Value.str (Str.ofString "at") 548, Value.str (Str.ofString "sign") 549] }
noncomputable def o_174 : Params → Obj := fun P => { cls := Value.type "tuple", data := Data.seq #[] }
noncomputable def o_175 : Params → Obj := fun P =>
  { cls := Value.none,
    data :=
      Data.func
        { name := Str.ofString "_law_stands", qualname := Str.ofString "_law_stands", params := (fA (tS 67)), body := FuncBody.stmts (fB (tS 67)), scope := (fS (tS 67)), globals := 0, closure := [],
          defaults := Value.none, kwdefaults := Value.none } }
noncomputable def o_176 : Params → Obj := fun P =>
  { cls := Value.type "code",
    data :=
      Data.fields
        #[Value.str (Str.ofString "_law_stands") 543, Value.str (Str.ofString "_law_stands") 544, Value.str (Str.ofString "/claim/cut.py") 545, Value.int 225 0, Value.int 2 0, Value.int 0 0,
          Value.int 0 0, Value.int 3 0, Value.ref 125, Value.bool true, Value.int 181 0, Value.ref 126, Value.none, Value.ref 127, Value.ref 128, Value.ref 129, Value.int 550 0, Value.int 225 0,
          Value.str (Str.ofString "/claim/cut.py") 551] }
noncomputable def o_177 : Params → Obj := fun P =>
  { cls := Value.type "function",
    data :=
      Data.func
        { name := Str.ofString "_law_stands", qualname := Str.ofString "_law_stands", params := (fA (tS 67)), body := FuncBody.stmts (fB (tS 67)), scope := (fS (tS 67)), globals := 3, closure := [],
          defaults := Value.none, kwdefaults := Value.none, pyModule := Value.str (Str.ofString "law_re0101_02") 467, code := Value.ref 130 } }
noncomputable def o_178 : Params → Obj := fun P => { cls := Value.type "tuple", data := Data.seq #[] }
noncomputable def o_179 : Params → Obj := fun P => { cls := Value.none, data := Data.fields #[] }
noncomputable def o_180 : Params → Obj := fun P =>
  { cls := Value.none,
    data :=
      Data.func
        { name := Str.ofString "_law_lowest", qualname := Str.ofString "_law_lowest", params := (fA (tS 68)), body := FuncBody.stmts (fB (tS 68)), scope := (fS (tS 68)), globals := 0, closure := [],
          defaults := Value.none, kwdefaults := Value.none } }
noncomputable def o_181 : Params → Obj := fun P =>
  { cls := Value.type "code",
    data :=
      Data.fields
        #[Value.str (Str.ofString "_law_lowest") 553, Value.str (Str.ofString "_law_lowest") 554, Value.str (Str.ofString "/claim/cut.py") 555, Value.int 231 0, Value.int 1 0, Value.int 0 0,
          Value.int 0 0, Value.int 3 0, Value.ref 132, Value.bool true, Value.int 181 0, Value.ref 133, Value.none, Value.none, Value.none, Value.ref 134, Value.int 556 0, Value.int 231 0,
          Value.str (Str.ofString "/claim/cut.py") 557] }
noncomputable def o_182 : Params → Obj := fun P =>
  { cls := Value.type "function",
    data :=
      Data.func
        { name := Str.ofString "_law_lowest", qualname := Str.ofString "_law_lowest", params := (fA (tS 68)), body := FuncBody.stmts (fB (tS 68)), scope := (fS (tS 68)), globals := 3, closure := [],
          defaults := Value.none, kwdefaults := Value.none, pyModule := Value.str (Str.ofString "law_re0101_02") 467, code := Value.ref 135 } }
noncomputable def o_183 : Params → Obj := fun P => { cls := Value.type "tuple", data := Data.seq #[] }
noncomputable def o_184 : Params → Obj := fun P => { cls := Value.none, data := Data.fields #[] }
noncomputable def o_185 : Params → Obj := fun P =>
  { cls := Value.none,
    data :=
      Data.func
        { name := Str.ofString "law", qualname := Str.ofString "law", params := (fA (tS 69)), body := FuncBody.stmts (fB (tS 69)), scope := (fS (tS 69)), globals := 0, closure := [], defaults := Value.none,
          kwdefaults := Value.none } }
noncomputable def o_186 : Params → Obj := fun P =>
  { cls := Value.type "code",
    data :=
      Data.fields
        #[Value.str (Str.ofString "law") 559, Value.str (Str.ofString "law") 560, Value.str (Str.ofString "/claim/cut.py") 561, Value.int 237 0, Value.int 1 0, Value.int 0 0, Value.int 0 0,
          Value.int 3 0, Value.ref 137, Value.bool true, Value.int 181 0, Value.ref 138, Value.none, Value.none, Value.none, Value.ref 139, Value.int 562 0, Value.int 237 0,
          Value.str (Str.ofString "/claim/cut.py") 563] }
noncomputable def o_187 : Params → Obj := fun P =>
  { cls := Value.type "function",
    data :=
      Data.func
        { name := Str.ofString "law", qualname := Str.ofString "law", params := (fA (tS 69)), body := FuncBody.stmts (fB (tS 69)), scope := (fS (tS 69)), globals := 3, closure := [], defaults := Value.none,
          kwdefaults := Value.none, pyModule := Value.str (Str.ofString "law_re0101_02") 467, code := Value.ref 140 } }
noncomputable def tree_47 : Params → BT := fun P =>
  BT.node (boot_o_0 P)
    (BT.node (boot_o_1 P) (BT.node (boot_o_3 P) (BT.node (boot_o_7 P) BT.nil BT.nil) (BT.node (o_43 P) BT.nil BT.nil))
      (BT.node (boot_o_5 P) (BT.node (boot_o_9 P) BT.nil BT.nil) (BT.node (o_45 P) BT.nil BT.nil)))
    (BT.node (boot_o_2 P) (BT.node (boot_o_4 P) (BT.node (boot_o_8 P) BT.nil BT.nil) (BT.node (o_44 P) BT.nil BT.nil))
      (BT.node (boot_o_6 P) (BT.node (boot_o_10 P) BT.nil BT.nil) (BT.node (o_46 P) BT.nil BT.nil)))
noncomputable def tree_99 : Params → BT := fun P =>
  BT.node (boot_o_0 P)
    (BT.node (boot_o_1 P)
      (BT.node (o_49 P)
        (BT.node (boot_o_7 P) (BT.node (o_51 P) (BT.node (o_67 P) (BT.node (o_99 P) BT.nil BT.nil) BT.nil) (BT.node (o_83 P) BT.nil BT.nil))
          (BT.node (o_59 P) (BT.node (o_75 P) BT.nil BT.nil) (BT.node (o_91 P) BT.nil BT.nil)))
        (BT.node (o_43 P) (BT.node (o_55 P) (BT.node (o_71 P) BT.nil BT.nil) (BT.node (o_87 P) BT.nil BT.nil))
          (BT.node (o_63 P) (BT.node (o_79 P) BT.nil BT.nil) (BT.node (o_95 P) BT.nil BT.nil))))
      (BT.node (boot_o_5 P)
        (BT.node (boot_o_9 P) (BT.node (o_53 P) (BT.node (o_69 P) BT.nil BT.nil) (BT.node (o_85 P) BT.nil BT.nil))
          (BT.node (o_61 P) (BT.node (o_77 P) BT.nil BT.nil) (BT.node (o_93 P) BT.nil BT.nil)))
        (BT.node (o_45 P) (BT.node (o_57 P) (BT.node (o_73 P) BT.nil BT.nil) (BT.node (o_89 P) BT.nil BT.nil))
          (BT.node (o_65 P) (BT.node (o_81 P) BT.nil BT.nil) (BT.node (o_97 P) BT.nil BT.nil)))))
    (BT.node (boot_o_2 P)
      (BT.node (boot_o_4 P)
        (BT.node (boot_o_8 P) (BT.node (o_52 P) (BT.node (o_68 P) BT.nil BT.nil) (BT.node (o_84 P) BT.nil BT.nil))
          (BT.node (o_60 P) (BT.node (o_76 P) BT.nil BT.nil) (BT.node (o_92 P) BT.nil BT.nil)))
        (BT.node (o_50 P) (BT.node (o_56 P) (BT.node (o_72 P) BT.nil BT.nil) (BT.node (o_88 P) BT.nil BT.nil))
          (BT.node (o_64 P) (BT.node (o_80 P) BT.nil BT.nil) (BT.node (o_96 P) BT.nil BT.nil))))
      (BT.node (boot_o_6 P)
        (BT.node (boot_o_10 P) (BT.node (o_54 P) (BT.node (o_70 P) BT.nil BT.nil) (BT.node (o_86 P) BT.nil BT.nil))
          (BT.node (o_62 P) (BT.node (o_78 P) BT.nil BT.nil) (BT.node (o_94 P) BT.nil BT.nil)))
        (BT.node (o_46 P) (BT.node (o_58 P) (BT.node (o_74 P) BT.nil BT.nil) (BT.node (o_90 P) BT.nil BT.nil))
          (BT.node (o_66 P) (BT.node (o_82 P) BT.nil BT.nil) (BT.node (o_98 P) BT.nil BT.nil)))))
noncomputable def tree_100 : Params → BT := fun P =>
  BT.node (boot_o_0 P)
    (BT.node (boot_o_1 P)
      (BT.node (o_100 P)
        (BT.node (boot_o_7 P) (BT.node (o_51 P) (BT.node (o_67 P) (BT.node (o_99 P) BT.nil BT.nil) BT.nil) (BT.node (o_83 P) BT.nil BT.nil))
          (BT.node (o_59 P) (BT.node (o_75 P) BT.nil BT.nil) (BT.node (o_91 P) BT.nil BT.nil)))
        (BT.node (o_43 P) (BT.node (o_55 P) (BT.node (o_71 P) BT.nil BT.nil) (BT.node (o_87 P) BT.nil BT.nil))
          (BT.node (o_63 P) (BT.node (o_79 P) BT.nil BT.nil) (BT.node (o_95 P) BT.nil BT.nil))))
      (BT.node (boot_o_5 P)
        (BT.node (boot_o_9 P) (BT.node (o_53 P) (BT.node (o_69 P) BT.nil BT.nil) (BT.node (o_85 P) BT.nil BT.nil))
          (BT.node (o_61 P) (BT.node (o_77 P) BT.nil BT.nil) (BT.node (o_93 P) BT.nil BT.nil)))
        (BT.node (o_45 P) (BT.node (o_57 P) (BT.node (o_73 P) BT.nil BT.nil) (BT.node (o_89 P) BT.nil BT.nil))
          (BT.node (o_65 P) (BT.node (o_81 P) BT.nil BT.nil) (BT.node (o_97 P) BT.nil BT.nil)))))
    (BT.node (boot_o_2 P)
      (BT.node (boot_o_4 P)
        (BT.node (boot_o_8 P) (BT.node (o_52 P) (BT.node (o_68 P) BT.nil BT.nil) (BT.node (o_84 P) BT.nil BT.nil))
          (BT.node (o_60 P) (BT.node (o_76 P) BT.nil BT.nil) (BT.node (o_92 P) BT.nil BT.nil)))
        (BT.node (o_50 P) (BT.node (o_56 P) (BT.node (o_72 P) BT.nil BT.nil) (BT.node (o_88 P) BT.nil BT.nil))
          (BT.node (o_64 P) (BT.node (o_80 P) BT.nil BT.nil) (BT.node (o_96 P) BT.nil BT.nil))))
      (BT.node (boot_o_6 P)
        (BT.node (boot_o_10 P) (BT.node (o_54 P) (BT.node (o_70 P) BT.nil BT.nil) (BT.node (o_86 P) BT.nil BT.nil))
          (BT.node (o_62 P) (BT.node (o_78 P) BT.nil BT.nil) (BT.node (o_94 P) BT.nil BT.nil)))
        (BT.node (o_46 P) (BT.node (o_58 P) (BT.node (o_74 P) BT.nil BT.nil) (BT.node (o_90 P) BT.nil BT.nil))
          (BT.node (o_66 P) (BT.node (o_82 P) BT.nil BT.nil) (BT.node (o_98 P) BT.nil BT.nil)))))
noncomputable def tree_102 : Params → BT := fun P =>
  BT.node (boot_o_0 P)
    (BT.node (boot_o_1 P)
      (BT.node (o_102 P)
        (BT.node (boot_o_7 P) (BT.node (o_51 P) (BT.node (o_67 P) (BT.node (o_99 P) BT.nil BT.nil) BT.nil) (BT.node (o_83 P) BT.nil BT.nil))
          (BT.node (o_59 P) (BT.node (o_75 P) BT.nil BT.nil) (BT.node (o_91 P) BT.nil BT.nil)))
        (BT.node (o_43 P) (BT.node (o_55 P) (BT.node (o_71 P) BT.nil BT.nil) (BT.node (o_87 P) BT.nil BT.nil))
          (BT.node (o_63 P) (BT.node (o_79 P) BT.nil BT.nil) (BT.node (o_95 P) BT.nil BT.nil))))
      (BT.node (boot_o_5 P)
        (BT.node (boot_o_9 P) (BT.node (o_53 P) (BT.node (o_69 P) BT.nil BT.nil) (BT.node (o_85 P) BT.nil BT.nil))
          (BT.node (o_61 P) (BT.node (o_77 P) BT.nil BT.nil) (BT.node (o_93 P) BT.nil BT.nil)))
        (BT.node (o_45 P) (BT.node (o_57 P) (BT.node (o_73 P) BT.nil BT.nil) (BT.node (o_89 P) BT.nil BT.nil))
          (BT.node (o_65 P) (BT.node (o_81 P) BT.nil BT.nil) (BT.node (o_97 P) BT.nil BT.nil)))))
    (BT.node (boot_o_2 P)
      (BT.node (boot_o_4 P)
        (BT.node (boot_o_8 P) (BT.node (o_52 P) (BT.node (o_68 P) BT.nil BT.nil) (BT.node (o_84 P) BT.nil BT.nil))
          (BT.node (o_60 P) (BT.node (o_76 P) BT.nil BT.nil) (BT.node (o_92 P) BT.nil BT.nil)))
        (BT.node (o_50 P) (BT.node (o_56 P) (BT.node (o_72 P) BT.nil BT.nil) (BT.node (o_88 P) BT.nil BT.nil))
          (BT.node (o_64 P) (BT.node (o_80 P) BT.nil BT.nil) (BT.node (o_96 P) BT.nil BT.nil))))
      (BT.node (boot_o_6 P)
        (BT.node (boot_o_10 P) (BT.node (o_54 P) (BT.node (o_70 P) BT.nil BT.nil) (BT.node (o_86 P) BT.nil BT.nil))
          (BT.node (o_62 P) (BT.node (o_78 P) BT.nil BT.nil) (BT.node (o_94 P) BT.nil BT.nil)))
        (BT.node (o_46 P) (BT.node (o_58 P) (BT.node (o_74 P) BT.nil BT.nil) (BT.node (o_90 P) BT.nil BT.nil))
          (BT.node (o_66 P) (BT.node (o_82 P) BT.nil BT.nil) (BT.node (o_98 P) BT.nil BT.nil)))))
noncomputable def tree_107 : Params → BT := fun P =>
  BT.node (boot_o_0 P)
    (BT.node (boot_o_1 P)
      (BT.node (o_104 P)
        (BT.node (boot_o_7 P) (BT.node (o_51 P) (BT.node (o_67 P) (BT.node (o_99 P) BT.nil BT.nil) BT.nil) (BT.node (o_83 P) BT.nil BT.nil))
          (BT.node (o_59 P) (BT.node (o_75 P) BT.nil BT.nil) (BT.node (o_91 P) BT.nil BT.nil)))
        (BT.node (o_43 P) (BT.node (o_55 P) (BT.node (o_71 P) BT.nil BT.nil) (BT.node (o_87 P) BT.nil BT.nil))
          (BT.node (o_63 P) (BT.node (o_79 P) BT.nil BT.nil) (BT.node (o_95 P) BT.nil BT.nil))))
      (BT.node (boot_o_5 P)
        (BT.node (boot_o_9 P) (BT.node (o_53 P) (BT.node (o_69 P) (BT.node (o_106 P) BT.nil BT.nil) BT.nil) (BT.node (o_85 P) BT.nil BT.nil))
          (BT.node (o_61 P) (BT.node (o_77 P) BT.nil BT.nil) (BT.node (o_93 P) BT.nil BT.nil)))
        (BT.node (o_45 P) (BT.node (o_57 P) (BT.node (o_73 P) BT.nil BT.nil) (BT.node (o_89 P) BT.nil BT.nil))
          (BT.node (o_65 P) (BT.node (o_81 P) BT.nil BT.nil) (BT.node (o_97 P) BT.nil BT.nil)))))
    (BT.node (boot_o_2 P)
      (BT.node (boot_o_4 P)
        (BT.node (boot_o_8 P) (BT.node (o_52 P) (BT.node (o_68 P) (BT.node (o_105 P) BT.nil BT.nil) BT.nil) (BT.node (o_84 P) BT.nil BT.nil))
          (BT.node (o_60 P) (BT.node (o_76 P) BT.nil BT.nil) (BT.node (o_92 P) BT.nil BT.nil)))
        (BT.node (o_50 P) (BT.node (o_56 P) (BT.node (o_72 P) BT.nil BT.nil) (BT.node (o_88 P) BT.nil BT.nil))
          (BT.node (o_64 P) (BT.node (o_80 P) BT.nil BT.nil) (BT.node (o_96 P) BT.nil BT.nil))))
      (BT.node (boot_o_6 P)
        (BT.node (boot_o_10 P) (BT.node (o_54 P) (BT.node (o_70 P) (BT.node (o_107 P) BT.nil BT.nil) BT.nil) (BT.node (o_86 P) BT.nil BT.nil))
          (BT.node (o_62 P) (BT.node (o_78 P) BT.nil BT.nil) (BT.node (o_94 P) BT.nil BT.nil)))
        (BT.node (o_46 P) (BT.node (o_58 P) (BT.node (o_74 P) BT.nil BT.nil) (BT.node (o_90 P) BT.nil BT.nil))
          (BT.node (o_66 P) (BT.node (o_82 P) BT.nil BT.nil) (BT.node (o_98 P) BT.nil BT.nil)))))
noncomputable def tree_187 : Params → BT := fun P =>
  BT.node (boot_o_0 P)
    (BT.node (boot_o_1 P)
      (BT.node (o_111 P)
        (BT.node (boot_o_7 P)
          (BT.node (o_51 P) (BT.node (o_67 P) (BT.node (o_99 P) (BT.node (o_173 P) BT.nil BT.nil) BT.nil) (BT.node (o_141 P) BT.nil BT.nil))
            (BT.node (o_83 P) (BT.node (o_125 P) BT.nil BT.nil) (BT.node (o_157 P) BT.nil BT.nil)))
          (BT.node (o_59 P) (BT.node (o_75 P) (BT.node (o_117 P) (BT.node (o_181 P) BT.nil BT.nil) BT.nil) (BT.node (o_149 P) BT.nil BT.nil))
            (BT.node (o_91 P) (BT.node (o_133 P) BT.nil BT.nil) (BT.node (o_165 P) BT.nil BT.nil))))
        (BT.node (o_43 P)
          (BT.node (o_55 P) (BT.node (o_71 P) (BT.node (o_113 P) (BT.node (o_177 P) BT.nil BT.nil) BT.nil) (BT.node (o_145 P) BT.nil BT.nil))
            (BT.node (o_87 P) (BT.node (o_129 P) BT.nil BT.nil) (BT.node (o_161 P) BT.nil BT.nil)))
          (BT.node (o_63 P) (BT.node (o_79 P) (BT.node (o_121 P) (BT.node (o_185 P) BT.nil BT.nil) BT.nil) (BT.node (o_153 P) BT.nil BT.nil))
            (BT.node (o_95 P) (BT.node (o_137 P) BT.nil BT.nil) (BT.node (o_169 P) BT.nil BT.nil)))))
      (BT.node (boot_o_5 P)
        (BT.node (boot_o_9 P)
          (BT.node (o_53 P) (BT.node (o_69 P) (BT.node (o_106 P) (BT.node (o_175 P) BT.nil BT.nil) BT.nil) (BT.node (o_143 P) BT.nil BT.nil))
            (BT.node (o_85 P) (BT.node (o_127 P) BT.nil BT.nil) (BT.node (o_159 P) BT.nil BT.nil)))
          (BT.node (o_61 P) (BT.node (o_77 P) (BT.node (o_119 P) (BT.node (o_183 P) BT.nil BT.nil) BT.nil) (BT.node (o_151 P) BT.nil BT.nil))
            (BT.node (o_93 P) (BT.node (o_135 P) BT.nil BT.nil) (BT.node (o_167 P) BT.nil BT.nil))))
        (BT.node (o_45 P)
          (BT.node (o_57 P) (BT.node (o_73 P) (BT.node (o_115 P) (BT.node (o_179 P) BT.nil BT.nil) BT.nil) (BT.node (o_147 P) BT.nil BT.nil))
            (BT.node (o_89 P) (BT.node (o_131 P) BT.nil BT.nil) (BT.node (o_163 P) BT.nil BT.nil)))
          (BT.node (o_65 P) (BT.node (o_81 P) (BT.node (o_123 P) (BT.node (o_187 P) BT.nil BT.nil) BT.nil) (BT.node (o_155 P) BT.nil BT.nil))
            (BT.node (o_97 P) (BT.node (o_139 P) BT.nil BT.nil) (BT.node (o_171 P) BT.nil BT.nil))))))
    (BT.node (boot_o_2 P)
      (BT.node (boot_o_4 P)
        (BT.node (boot_o_8 P)
          (BT.node (o_52 P) (BT.node (o_68 P) (BT.node (o_105 P) (BT.node (o_174 P) BT.nil BT.nil) BT.nil) (BT.node (o_142 P) BT.nil BT.nil))
            (BT.node (o_84 P) (BT.node (o_126 P) BT.nil BT.nil) (BT.node (o_158 P) BT.nil BT.nil)))
          (BT.node (o_60 P) (BT.node (o_76 P) (BT.node (o_118 P) (BT.node (o_182 P) BT.nil BT.nil) BT.nil) (BT.node (o_150 P) BT.nil BT.nil))
            (BT.node (o_92 P) (BT.node (o_134 P) BT.nil BT.nil) (BT.node (o_166 P) BT.nil BT.nil))))
        (BT.node (o_112 P)
          (BT.node (o_56 P) (BT.node (o_72 P) (BT.node (o_114 P) (BT.node (o_178 P) BT.nil BT.nil) BT.nil) (BT.node (o_146 P) BT.nil BT.nil))
            (BT.node (o_88 P) (BT.node (o_130 P) BT.nil BT.nil) (BT.node (o_162 P) BT.nil BT.nil)))
          (BT.node (o_64 P) (BT.node (o_80 P) (BT.node (o_122 P) (BT.node (o_186 P) BT.nil BT.nil) BT.nil) (BT.node (o_154 P) BT.nil BT.nil))
            (BT.node (o_96 P) (BT.node (o_138 P) BT.nil BT.nil) (BT.node (o_170 P) BT.nil BT.nil)))))
      (BT.node (boot_o_6 P)
        (BT.node (boot_o_10 P)
          (BT.node (o_54 P) (BT.node (o_70 P) (BT.node (o_107 P) (BT.node (o_176 P) BT.nil BT.nil) BT.nil) (BT.node (o_144 P) BT.nil BT.nil))
            (BT.node (o_86 P) (BT.node (o_128 P) BT.nil BT.nil) (BT.node (o_160 P) BT.nil BT.nil)))
          (BT.node (o_62 P) (BT.node (o_78 P) (BT.node (o_120 P) (BT.node (o_184 P) BT.nil BT.nil) BT.nil) (BT.node (o_152 P) BT.nil BT.nil))
            (BT.node (o_94 P) (BT.node (o_136 P) BT.nil BT.nil) (BT.node (o_168 P) BT.nil BT.nil))))
        (BT.node (o_46 P)
          (BT.node (o_58 P) (BT.node (o_74 P) (BT.node (o_116 P) (BT.node (o_180 P) BT.nil BT.nil) BT.nil) (BT.node (o_148 P) BT.nil BT.nil))
            (BT.node (o_90 P) (BT.node (o_132 P) BT.nil BT.nil) (BT.node (o_164 P) BT.nil BT.nil)))
          (BT.node (o_66 P) (BT.node (o_82 P) (BT.node (o_124 P) BT.nil BT.nil) (BT.node (o_156 P) BT.nil BT.nil))
            (BT.node (o_98 P) (BT.node (o_140 P) BT.nil BT.nil) (BT.node (o_172 P) BT.nil BT.nil))))))
noncomputable def sts_49 : List Stmt := (pr1.main.body.drop 0).take 6 -- true
noncomputable def sts_100 : List Stmt := (pr1.main.body.drop 6).take 44 -- true
noncomputable def sts_102 : List Stmt := (pr1.main.body.drop 50).take 5 -- true
noncomputable def sts_104 : List Stmt := (pr1.main.body.drop 55).take 1 -- true
noncomputable def sts_111 : List Stmt := (pr1.main.body.drop 56).take 14 -- true
noncomputable def env_41 : Env := { scope := Module.scope (Program.main pr1), locals := mainNs, globals := mainNs, cells := [], code := Value.ref 13, frame := some 14 }
-- view 66 of 70, 66
noncomputable def view_39 : Program := { pr1 with main := { pr1.main with body := [1, 2, 4, 6, 7, 8, 9, 10, 11, 12, 13, 14, 15, 16, 17, 18, 19, 20, 21, 22, 23, 24, 25, 26, 27, 28, 29, 30, 31, 32, 33, 34, 35, 36, 37, 38, 39, 40, 41, 42, 43, 44, 45, 46, 47, 48, 49, 50, 51, 52, 53, 54, 55, 56, 58, 59, 60, 61, 62, 63, 64, 65, 66, 67, 68, 69].filterMap (pr1.main.body[·]?) } }
noncomputable def heap_46 : Params → Heap := fun P =>
  {
    objs :=
      {
        toList :=
          [boot_o_0 P, boot_o_1 P, boot_o_2 P, boot_o_3 P, boot_o_4 P, boot_o_5 P, boot_o_6 P, boot_o_7 P, boot_o_8 P, boot_o_9 P, boot_o_10 P, o_43 P, o_44 P, o_45 P,
            o_46 P] } }
noncomputable def heap_188 : Params → Heap := fun P =>
  {
    objs :=
      {
        toList :=
          [boot_o_0 P, boot_o_1 P, boot_o_2 P, o_111 P, boot_o_4 P, boot_o_5 P, boot_o_6 P, boot_o_7 P, boot_o_8 P, boot_o_9 P, boot_o_10 P, o_43 P, o_112 P,
            o_45 P, o_46 P, o_51 P, o_52 P, o_53 P, o_54 P, o_55 P, o_56 P, o_57 P, o_58 P, o_59 P,
            o_60 P, o_61 P, o_62 P, o_63 P, o_64 P, o_65 P, o_66 P, o_67 P, o_68 P, o_69 P, o_70 P,
            o_71 P, o_72 P, o_73 P, o_74 P, o_75 P, o_76 P, o_77 P, o_78 P, o_79 P, o_80 P, o_81 P,
            o_82 P, o_83 P, o_84 P, o_85 P, o_86 P, o_87 P, o_88 P, o_89 P, o_90 P, o_91 P, o_92 P,
            o_93 P, o_94 P, o_95 P, o_96 P, o_97 P, o_98 P, o_99 P, o_105 P, o_106 P, o_107 P,
            o_113 P, o_114 P, o_115 P, o_116 P, o_117 P, o_118 P, o_119 P, o_120 P, o_121 P, o_122 P,
            o_123 P, o_124 P, o_125 P, o_126 P, o_127 P, o_128 P, o_129 P, o_130 P, o_131 P, o_132 P,
            o_133 P, o_134 P, o_135 P, o_136 P, o_137 P, o_138 P, o_139 P, o_140 P, o_141 P, o_142 P,
            o_143 P, o_144 P, o_145 P, o_146 P, o_147 P, o_148 P, o_149 P, o_150 P, o_151 P, o_152 P,
            o_153 P, o_154 P, o_155 P, o_156 P, o_157 P, o_158 P, o_159 P, o_160 P, o_161 P, o_162 P,
            o_163 P, o_164 P, o_165 P, o_166 P, o_167 P, o_168 P, o_169 P, o_170 P, o_171 P, o_172 P,
            o_173 P, o_174 P, o_175 P, o_176 P, o_177 P, o_178 P, o_179 P, o_180 P, o_181 P, o_182 P,
            o_183 P, o_184 P, o_185 P, o_186 P, o_187 P] } }
-- parts that differ in writing: 0
noncomputable def heap_39 : Params → Frag := fun P => [(2, boot_o_2 P), (3, o_111 P), (6, boot_o_6 P), (15, o_51 P), (17, o_53 P), (18, o_54 P), (20, o_56 P), (21, o_57 P), (29, o_65 P), (31, o_67 P), (32, o_68 P), (34, o_70 P), (35, o_71 P), (36, o_72 P), (38, o_74 P), (39, o_75 P), (41, o_77 P), (42, o_78 P), (43, o_79 P), (45, o_81 P), (46, o_82 P), (48, o_84 P), (49, o_85 P), (50, o_86 P), (52, o_88 P), (53, o_89 P), (55, o_91 P), (56, o_92 P), (57, o_93 P), (58, o_94 P), (59, o_95 P), (60, o_96 P), (61, o_97 P), (64, o_105 P), (67, o_113 P), (69, o_115 P), (70, o_116 P), (72, o_118 P), (73, o_119 P), (74, o_120 P), (76, o_122 P), (77, o_123 P), (79, o_125 P), (80, o_126 P), (81, o_127 P), (83, o_129 P), (84, o_130 P), (86, o_132 P), (87, o_133 P), (88, o_134 P), (91, o_137 P), (92, o_138 P), (93, o_139 P), (96, o_142 P), (97, o_143 P), (98, o_144 P), (101, o_147 P), (102, o_148 P), (103, o_149 P), (106, o_152 P), (107, o_153 P), (108, o_154 P), (110, o_156 P), (111, o_157 P), (113, o_159 P), (114, o_160 P), (115, o_161 P), (118, o_164 P), (119, o_165 P), (120, o_166 P), (123, o_169 P), (124, o_170 P), (125, o_171 P), (127, o_173 P), (128, o_174 P), (130, o_176 P), (131, o_177 P), (132, o_178 P), (135, o_181 P), (136, o_182 P), (137, o_183 P), (140, o_186 P), (141, o_187 P)]
theorem pf_42 : opening pr1 = plainProg (Scope.names (Module.scope (Program.main pr1))) := by kernel_rfl
theorem pf_43 : ∀ (s : Shared), fenceModules? pr1 s = some s := fun s => Eq.refl (some s)
theorem pf_47 : ∀ (w : World),
  (fun os =>
      topGo treeTable pr1 w 11 (some (Value.ref 6)) 12 { heap := boot_heap (World.params w), drawn := boot_drawn, toks := boot_toks, os := os }
        (topStub pr1)) =
    fun os =>
    some
      ({ heap := heap_46 (World.params w), toks := 187, os := os },
        { cur := denote treeTable (Code.body (behindTheImports pr1) env_41),
          code := Code.body (behindTheImports pr1) env_41, pos := { line := 0, col := 0, endLine := 0, endCol := 0 },
          stack := [topFrame { line := 0, col := 0, endLine := 0, endCol := 0 }] }) := fun w => by kernel_rfl
theorem pf_49 : ∀ (w : World),
  (fun os =>
      segRun treeTable pr1 w 11 (some (Value.ref 6)) 1 1 { heap := heap_46 (World.params w), toks := 187, os := os }
        (blockOf (behindTheImports pr1) env_41
          (Code.body (behindTheImports pr1) env_41) { line := 0, col := 0, endLine := 0, endCol := 0 }
          [topFrame { line := 0, col := 0, endLine := 0, endCol := 0 }])) =
    fun os =>
    some
      (Flow.next, SharedT.abs { tree := tree_47 (World.params w), n := 15, life := { }, gens := { toList := [] }, drawn := { }, toks := 187, os := os },
        Code.body (behindTheImports pr1) env_41, { line := 0, col := 0, endLine := 0, endCol := 0 }) := fun w => by kernel_rfl
theorem pf_100 : ∀ (w : World),
  (fun os =>
      segRunT treeTable pr1 w 11 (some (Value.ref 6)) 1 394
        { tree := tree_47 (World.params w), n := 15, life := { }, gens := { toList := [] }, drawn := { }, toks := 187, os := os }
        (piecesOf sts_49 env_41 (Code.body (behindTheImports pr1) env_41)
          { line := 0, col := 0, endLine := 0, endCol := 0 } [topFrame { line := 0, col := 0, endLine := 0, endCol := 0 }])) =
    fun os =>
    some
      (Flow.next, { tree := tree_99 (World.params w), n := 64, life := { }, gens := { toList := [] }, drawn := { }, toks := 265, os := os },
        Code.body (behindTheImports pr1) env_41, { line := 75, col := 0, endLine := 75, endCol := 8 }) := fun w => by kernel_rfl
theorem pf_102 : ∀ (w : World),
  (fun os =>
      segRunT treeTable pr1 w 11 (some (Value.ref 6)) 1 397
        { tree := tree_99 (World.params w), n := 64, life := { }, gens := { toList := [] }, drawn := { }, toks := 265, os := os }
        (piecesOf sts_100 env_41 (Code.body (behindTheImports pr1) env_41)
          { line := 75, col := 0, endLine := 75, endCol := 8 } [topFrame { line := 0, col := 0, endLine := 0, endCol := 0 }])) =
    fun os =>
    some
      (Flow.next, { tree := tree_100 (World.params w), n := 64, life := { }, gens := { toList := [] }, drawn := { }, toks := 353, os := os },
        Code.body (behindTheImports pr1) env_41, { line := 119, col := 0, endLine := 119, endCol := 7 }) := fun w => by kernel_rfl
theorem pf_104 : ∀ (w : World),
  (fun os =>
      segRunT treeTable pr1 w 11 (some (Value.ref 6)) 1 46
        { tree := tree_100 (World.params w), n := 64, life := { }, gens := { toList := [] }, drawn := { }, toks := 353, os := os }
        (piecesOf sts_102 env_41 (Code.body (behindTheImports pr1) env_41)
          { line := 119, col := 0, endLine := 119, endCol := 7 } [topFrame { line := 0, col := 0, endLine := 0, endCol := 0 }])) =
    fun os =>
    some
      (Flow.next, { tree := tree_102 (World.params w), n := 64, life := { }, gens := { toList := [] }, drawn := { }, toks := 363, os := os },
        Code.body (behindTheImports pr1) env_41, { line := 124, col := 0, endLine := 124, endCol := 9 }) := fun w => by kernel_rfl
theorem pf_108 : ∀ (w : World),
  (fun os =>
      segRunT treeTable pr1 (World.withFollow w "special-get-raises" false) 11 (some (Value.ref 6)) 1 979
        { tree := tree_102 (World.params (World.withFollow w "special-get-raises" false)), n := 64, life := { }, gens := { toList := [] }, drawn := { }, toks := 363, os := os }
        (piecesOf sts_104 env_41 (Code.body (behindTheImports pr1) env_41)
          { line := 124, col := 0, endLine := 124, endCol := 9 } [topFrame { line := 0, col := 0, endLine := 0, endCol := 0 }])) =
    fun os =>
    some
      (Flow.next, { tree := tree_107 (World.params (World.withFollow w "special-get-raises" false)), n := 67, life := { }, gens := { toList := [] }, drawn := { }, toks := 460, os := os },
        Code.body (behindTheImports pr1) env_41, { line := 125, col := 0, endLine := 125, endCol := 17 }) := fun w => by kernel_rfl
theorem pf_110 : ∀ (w : World),
  (fun os =>
      segRunT treeTable pr1 (World.withFollow w "special-get-raises" true) 11 (some (Value.ref 6)) 1 979
        { tree := tree_102 (World.params (World.withFollow w "special-get-raises" true)), n := 64, life := { }, gens := { toList := [] }, drawn := { }, toks := 363, os := os }
        (piecesOf sts_104 env_41 (Code.body (behindTheImports pr1) env_41)
          { line := 124, col := 0, endLine := 124, endCol := 9 } [topFrame { line := 0, col := 0, endLine := 0, endCol := 0 }])) =
    fun os =>
    some
      (Flow.next, { tree := tree_107 (World.params (World.withFollow w "special-get-raises" true)), n := 67, life := { }, gens := { toList := [] }, drawn := { }, toks := 460, os := os },
        Code.body (behindTheImports pr1) env_41, { line := 125, col := 0, endLine := 125, endCol := 17 }) := fun w => by kernel_rfl
theorem pf_111 : ∀ (w : World),
  (fun os =>
      segRun treeTable pr1 w 11 (some (Value.ref 6)) 1 979
        (SharedT.abs { tree := tree_102 (World.params w), n := 64, life := { }, gens := { toList := [] }, drawn := { }, toks := 363, os := os })
        (piecesOf sts_104 env_41 (Code.body (behindTheImports pr1) env_41)
          { line := 124, col := 0, endLine := 124, endCol := 9 } [topFrame { line := 0, col := 0, endLine := 0, endCol := 0 }])) =
    fun os =>
    some
      (Flow.next, SharedT.abs { tree := tree_107 (World.params w), n := 67, life := { }, gens := { toList := [] }, drawn := { }, toks := 460, os := os },
        Code.body (behindTheImports pr1) env_41, { line := 125, col := 0, endLine := 125, endCol := 17 }) := fun w => funext fun os => segRun_of (congrFun (byRow2 "special-get-raises" (P := fun w =>
  (fun os =>
      segRunT treeTable pr1 w 11 (some (Value.ref 6)) 1 979
        { tree := tree_102 (World.params w), n := 64, life := { }, gens := { toList := [] }, drawn := { }, toks := 363, os := os }
        (piecesOf sts_104 env_41 (Code.body (behindTheImports pr1) env_41)
          { line := 124, col := 0, endLine := 124, endCol := 9 } [topFrame { line := 0, col := 0, endLine := 0, endCol := 0 }])) =
    fun os =>
    some
      (Flow.next, { tree := tree_107 (World.params w), n := 67, life := { }, gens := { toList := [] }, drawn := { }, toks := 460, os := os },
        Code.body (behindTheImports pr1) env_41, { line := 125, col := 0, endLine := 125, endCol := 17 })) pf_108 pf_110 w) os)
theorem pf_188 : ∀ (w : World),
  (fun os =>
      segRunT treeTable pr1 w 11 (some (Value.ref 6)) 1 383
        { tree := tree_107 (World.params w), n := 67, life := { }, gens := { toList := [] }, drawn := { }, toks := 460, os := os }
        (piecesOf sts_111 env_41 (Code.body (behindTheImports pr1) env_41)
          { line := 125, col := 0, endLine := 125, endCol := 17 } [topFrame { line := 0, col := 0, endLine := 0, endCol := 0 }])) =
    fun os =>
    some
      (Flow.next, { tree := tree_187 (World.params w), n := 142, life := { }, gens := { toList := [] }, drawn := { }, toks := 565, os := os },
        Code.body (behindTheImports pr1) env_41, { line := 237, col := 0, endLine := 256, endCol := 91 }) := fun w => by kernel_rfl
theorem pf_190 : ∀ (w : World),
  (fun os =>
      topRun treeTable pr1 w 11 (some (Value.ref 6)) 2
        (SharedT.abs { tree := tree_187 (World.params w), n := 142, life := { }, gens := { toList := [] }, drawn := { }, toks := 565, os := os })
        { cur := doneF Flow.next, code := Code.body (behindTheImports pr1) env_41,
          pos := { line := 237, col := 0, endLine := 256, endCol := 91 }, stack := [topFrame { line := 0, col := 0, endLine := 0, endCol := 0 }] }) =
    fun os => some { heap := heap_188 (World.params w), toks := 565, os := os } := fun w => by kernel_rfl
theorem restEq {tb : String → Option Builtin} {p : Program} {w : World} {n₀ : Nat} {ann : Option Value} {N : Nat} {s r : Shared} {l b : List Stmt} {env : Env} {c : Code} {pos : Pos} {B : List Frame} (e : l = b) (k : topRun tb p w n₀ ann N s (restOf l env c pos B) = some r) : topRun tb p w n₀ ann N s (restOf b env c pos B) = some r := e ▸ k
theorem pf_rest : (sts_49 ++ (sts_100 ++ (sts_102 ++ (sts_104 ++ (sts_111 ++ []))))) = behindTheImports pr1 := by kernel_rfl
theorem pf_run : ∀ (w : World) (os : OsState),
  topRun treeTable pr1 w 11 (some (Value.ref 6)) (Nat.add 12 (Nat.add 1 (Nat.add 394 (Nat.add 397 (Nat.add 46 (Nat.add 979 (Nat.add 383 2)))))))
      { heap := boot_heap (World.params w), drawn := boot_drawn, toks := boot_toks, os := os } (topStub pr1) =
    some { heap := heap_188 (World.params w), toks := 565, os := os } := fun w os =>
  go_top (congrFun (pf_47 w) os) (piece_block (congrFun (pf_49 w) os) (restEq pf_rest (piece_app (segRun_of (congrFun (pf_100 w) os)) (piece_app (segRun_of (congrFun (pf_102 w) os)) (piece_app (segRun_of (congrFun (pf_104 w) os)) (piece_app (congrFun (pf_111 w) os) (piece_app (segRun_of (congrFun (pf_188 w) os)) (piece_nil (congrFun (pf_190 w) os)))))))))
theorem pf_size : ∀ (w : World),
  (Heap.isNs (boot_heap (World.params w)) mainGlobals && Array.size (#[] : Array GenState) == 0, Array.size (Heap.objs (boot_heap (World.params w))),
      Heap.nsMap (boot_heap (World.params w)) mainGlobals (Str.ofString "__annotations__")) =
    (true, 11, some (Value.ref 6)) := fun w => by kernel_rfl
theorem pf_stat : ∀ (w : World),
  (fun os =>
      staticsOk (importedModules (Module.body (Program.main pr1))) (boot_heap (World.params w)) (heap_188 (World.params w)) &&
            namesBound pr1 (heap_188 (World.params w)) &&
          gensDone { heap := heap_188 (World.params w), toks := 565, os := os } &&
        laidKept (boot_heap (World.params w)) (heap_188 (World.params w))) =
    fun os => true := fun w => by kernel_rfl
theorem pf_l1 : ∀ (w : World),
  (fun os =>
      PyProof.Rows.seen (List.map (fun x => DefRec.name x) (PyProof.Rows.recsOf view_39)) (PyProof.Rows.ownsOf view_39) []
        { heap := Shared.heap { heap := heap_188 (World.params w), toks := 565, os := os }, toks := Shared.toks { heap := heap_188 (World.params w), toks := 565, os := os },
          os := Shared.os { heap := heap_188 (World.params w), toks := 565, os := os } }) =
    fun os => PyProof.Rows.expectedOf view_39 := fun w => by kernel_rfl
theorem pf_l2 : ∀ (w : World), (fun os => Heap.bltView (Shared.heap { heap := heap_188 (World.params w), toks := 565, os := os })) = fun os => bltViewBooted := fun w => by kernel_rfl
theorem pf_l3 : ∀ (w : World),
  (fun os =>
      Heap.keysOk (Shared.heap { heap := heap_188 (World.params w), toks := 565, os := os }) (looseW view_39 [Str.ofString "EXACT_TOKEN_TYPES"])
                    (List.map (fun x => DefRec.name x) (PyProof.Rows.recsOf view_39)) (List.map (fun x => Prod.fst x) (PyProof.Rows.litsOf view_39))
                    (List.map (fun x => ClsRec.name x) (PyProof.Rows.clssOf view_39 (looseW view_39 [Str.ofString "EXACT_TOKEN_TYPES"]))) &&
                  Heap.accountedOkI (Shared.heap { heap := heap_188 (World.params w), toks := 565, os := os })
                    (importedModules (Module.body (Program.main pr1))) &&
                Heap.isNs (Shared.heap { heap := heap_188 (World.params w), toks := 565, os := os }) mainGlobals &&
              Heap.isNs (Shared.heap { heap := heap_188 (World.params w), toks := 565, os := os }) builtinsNs &&
            PyProof.Rows.tablesOk view_39 (Shared.heap { heap := heap_188 (World.params w), toks := 565, os := os }) &&
          (fun s => xlAt view_39 [] s && recOk (RowW.records (OpenRow.toRowW (OpenLaw.row Challenge.rw_re0101_02))) s) { heap := heap_188 (World.params w), toks := 565, os := os } &&
        if true = true then Array.size (Shared.gens { heap := heap_188 (World.params w), toks := 565, os := os }) == 0
        else !leftWithCleanup (Shared.gens { heap := heap_188 (World.params w), toks := 565, os := os })) =
    fun os => true := fun w => by kernel_rfl
theorem pf_l4 : ∀ (w : World), (fun os => PyProof.Rows.tabsOk view_39 { heap := heap_188 (World.params w), toks := 565, os := os }) = fun os => true := fun w => by kernel_rfl
theorem pf_l5 : ∀ (w : World),
  (fun os => pinSeenD view_39 (PyProof.Rows.drecsOf view_39) { heap := heap_188 (World.params w), toks := 565, os := os }) = fun os =>
    pinGoodD (PyProof.Rows.drecsOf view_39) := fun w => by kernel_rfl
theorem pf_l6 : ∀ (w : World),
  (fun os => PyProof.Rows.plainSeenE view_39 (looseW view_39 [Str.ofString "EXACT_TOKEN_TYPES"]) { heap := heap_188 (World.params w), toks := 565, os := os }) = fun os =>
    PyProof.Rows.plainGoodE view_39 (looseW view_39 [Str.ofString "EXACT_TOKEN_TYPES"]) := fun w => by kernel_rfl
theorem pf_l7 : ∀ (w : World),
  (fun os => PyProof.Rows.plainSeenD view_39 [Str.ofString "EXACT_TOKEN_TYPES"] { heap := heap_188 (World.params w), toks := 565, os := os }) = fun os =>
    PyProof.Rows.plainGoodD view_39 [Str.ofString "EXACT_TOKEN_TYPES"] := fun w => by kernel_rfl
theorem pf_l8 : ∀ (w : World), (fun os => wideSeen view_39 { heap := heap_188 (World.params w), toks := 565, os := os }) = fun os => wideGood view_39 := fun w => by kernel_rfl
theorem pf_l9 : ∀ (w : World),
  (fun os => clsSeenW view_39 [Str.ofString "EXACT_TOKEN_TYPES"] { heap := heap_188 (World.params w), toks := 565, os := os }) = fun os =>
    clsGoodW view_39 [Str.ofString "EXACT_TOKEN_TYPES"] := fun w => by kernel_rfl
noncomputable def asK : List Addr := [2, 3, 6, 15, 17, 18, 20, 21, 29, 31, 32, 34, 35, 36, 38, 39, 41, 42, 43, 45, 46, 48, 49, 50, 52, 53, 55, 56, 57, 58, 59, 60, 61, 64, 67, 69, 70, 72, 73, 74, 76, 77, 79, 80, 81, 83, 84, 86, 87, 88, 91, 92, 93, 96, 97, 98, 101, 102, 103, 106, 107, 108, 110, 111, 113, 114, 115, 118, 119, 120, 123, 124, 125, 127, 128, 130, 131, 132, 135, 136, 137, 140, 141]
noncomputable abbrev hk1 : Hook := kmHook heap_39 asK (fun _ => by kernel_rfl) [75]
noncomputable abbrev xt1 (s : Shared) : Bool := xlAt view_39 [] s && recOk (RowW.records (PySem.Challenge.rw_re0101_02.row.toRowW)) s
noncomputable abbrev sh1 (w : World) (os : OsState) : Shared := { heap := heap_188 (World.params w), toks := 565, os := os }
theorem pf_open (w : World) (os : OsState) : openSeen view_39 [Str.ofString "EXACT_TOKEN_TYPES"] (importedModules pr1.main.body) xt1 true (sh1 w os) = openGood view_39 [Str.ofString "EXACT_TOKEN_TYPES"] :=
  looks_pair (congrFun (pf_l1 w) os) (looks_pair (congrFun (pf_l2 w) os) (looks_pair (congrFun (pf_l3 w) os) (looks_pair (congrFun (pf_l4 w) os) (looks_pair (congrFun (pf_l5 w) os) (looks_pair (congrFun (pf_l6 w) os) (looks_pair (congrFun (pf_l7 w) os) (looks_pair (congrFun (pf_l8 w) os) (congrFun (pf_l9 w) os))))))))
theorem pf_hook (w : World) (os : OsState) : hk1.obs (sh1 w os) = hk1.val w := by kernel_rfl
theorem left1 : LeftO pr1 view_39 [Str.ofString "EXACT_TOKEN_TYPES"] xt1 hk1.obs hk1.val 4514 true :=
  LeftO.of_pieces (H₀ := boot_heap) (H₁ := heap_188) (gs₀ := #[]) (gs₁ := #[]) (d₀ := boot_drawn) (d₁ := { }) (k₀ := boot_toks) (k₁ := 565) (m₀ := 11) (ann := some (Value.ref 6)) (M := Nat.add 12 (Nat.add 1 (Nat.add 394 (Nat.add 397 (Nat.add 46 (Nat.add 979 (Nat.add 383 2)))))))
    (boot_open pf_42 (by decide +kernel) pf_43) pf_size pf_run (by decide +kernel)
    (fun w => funext fun os => looks_pair (congrFun (pf_stat w) os) (looks_pair (pf_open w os) (pf_hook w os)))
noncomputable def dK : DefRec × List (Str × Expr) := (defOf view_39 (Str.ofString "law")).get (by kernel_rfl)
theorem hd1 (h : WalkO view_39 [Str.ofString "EXACT_TOKEN_TYPES"] (XL view_39 []) hk1.says PySem.Challenge.rw_re0101_02.row.toRowW dK.1 dK.2 fun f vs => PySem.call f vs) : PySem.Challenge.rw_re0101_02.Holds :=
  holds_law (by decide +kernel) fun said => holds_open left1 (Hook.of hk1) (Hook.keeps hk1) (fun s e => xl_of s (Bool.and_eq_true_iff.mp e).1) XL.keeps (by kernel_rfl) (by kernel_rfl) (by kernel_rfl) (fun s e => recFacts_of (Bool.and_eq_true_iff.mp e).2) rfl said (by decide +kernel) ⟨rfl, rfl, rfl, rfl, rfl, by decide +kernel⟩ ⟨[.list []], by decide +kernel, by decide +kernel⟩ h
end Mine
end
section
open PySem PySem.W PySem.Calls
set_option Elab.async false
set_option maxRecDepth 100000
namespace Mine
noncomputable abbrev K1 (w : World) : Frag := heap_39 w.params
noncomputable def fd1 (w : World) (f : Addr) : FuncData := fdAt (K1 w) f
theorem g_len (w : World) : Blt (K1 w) (Str.ofString "len") (.builtin "len") := ⟨by kernel_rfl, by kernel_rfl, by decide, by decide⟩
theorem g_mark (w : World) : Glo (K1 w) (Str.ofString "ELLIPSIS_MARKER") (.str dots 189) := ⟨by kernel_rfl, by decide⟩
theorem g_range (w : World) : Blt (K1 w) (Str.ofString "range") (.type "range") := ⟨by kernel_rfl, by kernel_rfl, by decide, by decide⟩
theorem g_chr (w : World) : Blt (K1 w) (Str.ofString "chr") (.builtin "chr") := ⟨by kernel_rfl, by kernel_rfl, by decide, by decide⟩
theorem g_ord (w : World) : Blt (K1 w) (Str.ofString "ord") (.builtin "ord") := ⟨by kernel_rfl, by kernel_rfl, by decide, by decide⟩
theorem g_sorted (w : World) : Blt (K1 w) (Str.ofString "sorted") (.builtin "sorted") := ⟨by kernel_rfl, by kernel_rfl, by decide, by decide⟩
theorem g_sum (w : World) : Blt (K1 w) (Str.ofString "sum") (.builtin "sum") := ⟨by kernel_rfl, by kernel_rfl, by decide, by decide⟩
theorem g_match (w : World) : Glo (K1 w) (Str.ofString "_ellipsis_match") (.ref 21) := ⟨by kernel_rfl, by decide⟩
theorem g_holds (w : World) : Glo (K1 w) (Str.ofString "_law_holds") (.ref 102) := ⟨by kernel_rfl, by decide⟩
theorem g_term (w : World) : Glo (K1 w) (Str.ofString "ISTERMINAL") (.ref 73) := ⟨by kernel_rfl, by decide⟩
theorem g_stands (w : World) : Glo (K1 w) (Str.ofString "_law_stands") (.ref 131) := ⟨by kernel_rfl, by decide⟩
theorem g_lowest (w : World) : Glo (K1 w) (Str.ofString "_law_lowest") (.ref 136) := ⟨by kernel_rfl, by decide⟩
theorem g_rule (w : World) : Glo (K1 w) (Str.ofString "_law_rule") (.ref 87) := ⟨by kernel_rfl, by decide⟩
theorem g_written (w : World) : Glo (K1 w) (Str.ofString "_law_written") (.ref 92) := ⟨by kernel_rfl, by decide⟩
theorem g_machine (w : World) : Glo (K1 w) (Str.ofString "_law_machine") (.ref 80) := ⟨by kernel_rfl, by decide⟩
theorem g_heard (w : World) : Glo (K1 w) (Str.ofString "_law_heard") (.ref 97) := ⟨by kernel_rfl, by decide⟩
theorem g_lex (w : World) : Glo (K1 w) (Str.ofString "_netrclex") (.ref 59) := ⟨by kernel_rfl, by decide⟩
theorem g_needed (w : World) : Glo (K1 w) (Str.ofString "_law_needed") (.ref 107) := ⟨by kernel_rfl, by decide⟩
theorem g_arrives (w : World) : Glo (K1 w) (Str.ofString "_law_arrives") (.ref 114) := ⟨by kernel_rfl, by decide⟩
theorem g_goes (w : World) : Glo (K1 w) (Str.ofString "_law_goes") (.ref 119) := ⟨by kernel_rfl, by decide⟩
theorem g_reached (w : World) : Glo (K1 w) (Str.ofString "_law_reached") (.ref 124) := ⟨by kernel_rfl, by decide⟩
theorem g_ett (w : World) : Glo (K1 w) (Str.ofString "EXACT_TOKEN_TYPES") (.ref 64) := ⟨by kernel_rfl, by decide⟩
noncomputable def tokOf : Option (Option Value) → Tok
  | some (some (.int _ t)) => t
  | _ => 0
noncomputable def tOff (w : World) : Tok := tokOf (nsIn (K1 w) mainGlobals (Str.ofString "NT_OFFSET"))
theorem g_off (w : World) : Glo (K1 w) (Str.ofString "NT_OFFSET") (.int 256 (tOff w)) := ⟨by kernel_rfl, by decide⟩
noncomputable def fo (w : World) (f : Addr) : Obj := ⟨.type "function", none, .func (fd1 w f), #[]⟩
theorem ko21 (w : World) : (K1 w).lookup 21 = some (fo w 21) := by kernel_rfl
theorem ko73 (w : World) : (K1 w).lookup 73 = some (fo w 73) := by kernel_rfl
theorem ko80 (w : World) : (K1 w).lookup 80 = some (fo w 80) := by kernel_rfl
theorem ko87 (w : World) : (K1 w).lookup 87 = some (fo w 87) := by kernel_rfl
theorem ko92 (w : World) : (K1 w).lookup 92 = some (fo w 92) := by kernel_rfl
theorem ko97 (w : World) : (K1 w).lookup 97 = some (fo w 97) := by kernel_rfl
theorem ko102 (w : World) : (K1 w).lookup 102 = some (fo w 102) := by kernel_rfl
theorem ko107 (w : World) : (K1 w).lookup 107 = some (fo w 107) := by kernel_rfl
theorem ko114 (w : World) : (K1 w).lookup 114 = some (fo w 114) := by kernel_rfl
theorem ko119 (w : World) : (K1 w).lookup 119 = some (fo w 119) := by kernel_rfl
theorem ko124 (w : World) : (K1 w).lookup 124 = some (fo w 124) := by kernel_rfl
theorem ko131 (w : World) : (K1 w).lookup 131 = some (fo w 131) := by kernel_rfl
theorem ko136 (w : World) : (K1 w).lookup 136 = some (fo w 136) := by kernel_rfl
theorem ko141 (w : World) : (K1 w).lookup 141 = some (fo w 141) := by kernel_rfl
end Mine
end
section
open PySem PySem.W PySem.Calls PyProof.Rows
set_option Elab.async false
set_option maxRecDepth 100000
namespace Mine
/-- what a tree of questions gives when they are answered by lt -/
noncomputable def Sp {α : Type} (lt : Nat → Nat → Bool) (n : Nat) : KasT α → (α → Prop) → Prop
  | .ret a, Q => Q a
  | .ask i j k, Q => i < n ∧ j < n ∧ Sp lt n (k (lt i j)) Q
theorem Sp.mono {α : Type} {lt : Nat → Nat → Bool} {n : Nat} {Q Q' : α → Prop} (hq : ∀ a, Q a → Q' a) : ∀ t : KasT α, Sp lt n t Q → Sp lt n t Q'
  | .ret a, h => hq a h
  | .ask i j k, h => ⟨h.1, h.2.1, Sp.mono hq (k (lt i j)) h.2.2⟩
theorem Sp.bind {α β : Type} {lt : Nat → Nat → Bool} {n : Nat} {Q : β → Prop} {f : α → KasT β} : ∀ t : KasT α, Sp lt n t (fun a => Sp lt n (f a) Q) → Sp lt n (t.bind f) Q
  | .ret _, h => h
  | .ask i j k, h => ⟨h.1, h.2.1, Sp.bind (k (lt i j)) h.2.2⟩
theorem Sp.wp {α : Type} {lt : Nat → Nat → Bool} {n : Nat} {Q' : α → Prop} {Q : α → Shared → Prop} {s : Shared} {cmp : Nat → Nat → (Bool → Shared → Prop) → Shared → Prop}
    (hc : ∀ i j C, i < n → j < n → C (lt i j) s → cmp i j C s) (hq : ∀ a, Q' a → Q a s) : ∀ t : KasT α, Sp lt n t Q' → t.kasWp cmp Q s
  | .ret a, h => hq a h
  | .ask i j k, h => hc i j _ h.1 h.2.1 (Sp.wp hc hq (k (lt i j)) h.2.2)
structure LtOrd (lt : Nat → Nat → Bool) : Prop where
  irr : ∀ a, lt a a = false
  asy : ∀ a b, lt a b = true → lt b a = false
  tr : ∀ a b c, lt b a = false → lt c b = false → lt c a = false
noncomputable def Ka (p : Array Nat) (i : Nat) : Nat := p.getD i 0
theorem Ka_eq (p : Array Nat) (i : Nat) : Ka p i = p[i]?.getD 0 := by unfold Ka; rw [Array.getD_eq_getD_getElem?]
noncomputable def PN (n : Nat) (p : Array Nat) : Prop := p.Perm (List.range n).toArray
theorem PN.size {n : Nat} {p : Array Nat} (h : PN n p) : p.size = n := by have := h.size_eq; simpa using this
theorem PN.lt {n : Nat} {p : Array Nat} (h : PN n p) {i : Nat} (hi : i < n) : Ka p i < n := by
  have hs := h.size
  have : p[i]? = some p[i] := Array.getElem?_eq_getElem (by (first | lia | omega))
  rw [Ka_eq, this]
  have hm : p[i] ∈ p.toList := by simp
  have := (Array.perm_iff_toList_perm.mp h).mem_iff.mp hm
  simpa using this
theorem Ka_rev {p : Array Nat} {i j : Nat} (hj : j ≤ p.size) (k : Nat) : Ka (kas_rev p i j) k = if i ≤ k ∧ k < j then Ka p (i + j - 1 - k) else Ka p k := by
  unfold kas_rev
  rw [Ka_eq, getElem?_mirror_all hj]
  split <;> rw [Ka_eq]
theorem Ka_bub {p : Array Nat} {src d : Nat} (hs : src < p.size) (hd : d ≤ src) (k : Nat) : Ka (bubble p src d) k = if k = src - d then Ka p src else if src - d < k ∧ k ≤ src then Ka p (k - 1) else Ka p k := by
  rw [Ka_eq, getElem?_bubble hs d hd]
  split
  · rw [Ka_eq]
  · split <;> rw [Ka_eq]
theorem PN.rev {n : Nat} {p : Array Nat} (h : PN n p) (i j : Nat) : PN n (kas_rev p i j) := (mirror_perm p i j _).trans h
theorem PN.bub {n : Nat} {p : Array Nat} (h : PN n p) (i j : Nat) : PN n (bubble p i j) := (bubble_perm p i j).trans h
section
variable {lt : Nat → Nat → Bool} {n : Nat}
noncomputable def So (lt : Nat → Nat → Bool) (p : Array Nat) (k : Nat) : Prop := ∀ i j, i ≤ j → j < k → lt (Ka p j) (Ka p i) = false
noncomputable def Ni (lt : Nat → Nat → Bool) (p : Array Nat) (k : Nat) : Prop := ∀ i j, i ≤ j → j < k → lt (Ka p i) (Ka p j) = false
noncomputable def Tl (lt : Nat → Nat → Bool) (p : Array Nat) (m q : Nat) : Prop := ∀ i, m - (q + 1) ≤ i → i < m → lt (Ka p i) (Ka p (m - 1)) = false ∧ lt (Ka p (m - 1)) (Ka p i) = false
theorem sp_asc (O : LtOrd lt) {p : Array Nat} (hp : PN n p) : ∀ f m, 1 ≤ m → m + f ≤ n → So lt p m → Sp lt n (kas_asc p f m) (fun r => m ≤ r ∧ r ≤ m + f ∧ So lt p r ∧ (r < m + f → lt (Ka p r) (Ka p (r - 1)) = true))
  | 0, m, h1, h2, h3 => ⟨Nat.le_refl _, Nat.le_refl _, h3, fun h => absurd h (by (first | lia | omega))⟩
  | f + 1, m, h1, h2, h3 => by
    refine ⟨hp.lt (by (first | lia | omega)), hp.lt (by (first | lia | omega)), ?_⟩
    show Sp lt n (if lt (Ka p m) (Ka p (m - 1)) = true then KasT.ret m else kas_asc p f (m + 1)) _
    by_cases c : lt (Ka p m) (Ka p (m - 1)) = true
    · rw [if_pos c]
      exact ⟨Nat.le_refl _, by (first | lia | omega), h3, fun _ => c⟩
    · rw [if_neg c]
      have c : lt (Ka p m) (Ka p (m - 1)) = false := by simpa using c
      refine Sp.mono (fun r hr => ⟨by (first | lia | omega), by (first | lia | omega), hr.2.2.1, fun h => hr.2.2.2 (by (first | lia | omega))⟩) _ (sp_asc O hp f (m + 1) (by (first | lia | omega)) (by (first | lia | omega)) fun i j hij hj => ?_)
      by_cases hjm : j = m
      · subst hjm
        by_cases hi : i = j
        · subst hi; exact O.irr _
        · exact O.tr _ _ _ (h3 i (j - 1) (by (first | lia | omega)) (by (first | lia | omega))) c
      · exact h3 i j hij (by (first | lia | omega))
theorem ni_rev (O : LtOrd lt) {p : Array Nat} (hp : PN n p) {m q : Nat} (hm : m ≤ n) (hn : Ni lt p m) (ht : Tl lt p m q) : Ni lt (kas_rev p (m - (q + 1)) m) m := by
  intro i j hij hj
  rw [Ka_rev (by rw [hp.size]; exact hm), Ka_rev (by rw [hp.size]; exact hm)]
  by_cases h1 : m - (q + 1) ≤ i ∧ i < m
  · rw [if_pos h1, if_pos (by (first | lia | omega))]
    exact O.tr _ _ _ (ht (m - (q + 1) + m - 1 - j) (by (first | lia | omega)) (by (first | lia | omega))).2 (ht (m - (q + 1) + m - 1 - i) (by (first | lia | omega)) (by (first | lia | omega))).1
  · rw [if_neg h1]
    split
    · exact hn _ _ (by (first | lia | omega)) (by (first | lia | omega))
    · exact hn _ _ hij hj
theorem ni_step (O : LtOrd lt) {p : Array Nat} {m : Nat} (h1 : 1 ≤ m) (hn : Ni lt p m) (c : lt (Ka p (m - 1)) (Ka p m) = false) : Ni lt p (m + 1) := by
  intro i j hij hj
  by_cases hjm : j = m
  · subst hjm
    by_cases hi : i = j
    · subst hi; exact O.irr _
    · exact O.tr _ _ _ c (hn i (j - 1) (by (first | lia | omega)) (by (first | lia | omega)))
  · exact hn i j hij (by (first | lia | omega))
theorem tl_zero (O : LtOrd lt) {p : Array Nat} {m : Nat} : Tl lt p (m + 1) 0 := fun i h1 h2 => by
  have : i = m := by (first | lia | omega)
  subst this
  exact ⟨O.irr _, O.irr _⟩
theorem sp_desc (O : LtOrd lt) : ∀ f p m q, PN n p → 1 ≤ m → m + f ≤ n → Ni lt p m → Tl lt p m q →
    Sp lt n (kas_desc f p m q) (fun r => PN n r.1 ∧ 1 ≤ r.2.1 ∧ r.2.1 ≤ n ∧ Ni lt r.1 r.2.1 ∧ Tl lt r.1 r.2.1 r.2.2)
  | 0, p, m, q, hp, h1, h2, hn, ht => ⟨hp, h1, by (first | lia | omega), hn, ht⟩
  | f + 1, p, m, q, hp, h1, h2, hn, ht => by
    refine ⟨hp.lt (by (first | lia | omega)), hp.lt (by (first | lia | omega)), ?_⟩
    show Sp lt n (if lt (Ka p m) (Ka p (m - 1)) = true then (if q > 0 then kas_desc f (kas_rev p (m - (q + 1)) m) (m + 1) 0 else kas_desc f p (m + 1) 0)
      else KasT.ask (Ka p (m - 1)) (Ka p m) fun d => if d = true then KasT.ret (p, m, q) else kas_desc f p (m + 1) (q + 1)) _
    by_cases c : lt (Ka p m) (Ka p (m - 1)) = true
    · rw [if_pos c]
      have c' := O.asy _ _ c
      by_cases hq : q > 0
      · rw [if_pos hq]
        have hs : m ≤ p.size := by rw [hp.size]; (first | lia | omega)
        refine sp_desc O f _ (m + 1) 0 (hp.rev _ _) (by (first | lia | omega)) (by (first | lia | omega)) (ni_step O h1 (ni_rev O hp (by (first | lia | omega)) hn ht) ?_) (tl_zero O)
        rw [Ka_rev hs, Ka_rev hs]
        by_cases h3 : m - (q + 1) ≤ m - 1 ∧ m - 1 < m
        · rw [if_pos h3, if_neg (by (first | lia | omega))]
          exact O.tr _ _ _ c' (ht (m - (q + 1) + m - 1 - (m - 1)) (by (first | lia | omega)) (by (first | lia | omega))).1
        · (first | lia | omega)
      · rw [if_neg hq]
        exact sp_desc O f _ (m + 1) 0 hp (by (first | lia | omega)) (by (first | lia | omega)) (ni_step O h1 hn c') (tl_zero O)
    · rw [if_neg c]
      have c : lt (Ka p m) (Ka p (m - 1)) = false := by simpa using c
      refine ⟨hp.lt (by (first | lia | omega)), hp.lt (by (first | lia | omega)), ?_⟩
      by_cases d : lt (Ka p (m - 1)) (Ka p m) = true
      · dsimp only
        rw [if_pos d]
        exact ⟨hp, h1, by show m ≤ n; (first | lia | omega), hn, ht⟩
      · dsimp only
        rw [if_neg d]
        have d : lt (Ka p (m - 1)) (Ka p m) = false := by simpa using d
        refine sp_desc O f _ (m + 1) (q + 1) hp (by (first | lia | omega)) (by (first | lia | omega)) (ni_step O h1 hn d) fun i h3 h4 => ?_
        show lt (Ka p i) (Ka p m) = false ∧ lt (Ka p m) (Ka p i) = false
        by_cases hi : i = m
        · subst hi; exact ⟨O.irr _, O.irr _⟩
        · have := ht i (by (first | lia | omega)) (by (first | lia | omega))
          exact ⟨O.tr _ _ _ d this.1, O.tr _ _ _ this.2 c⟩
theorem sp_tail3 (O : LtOrd lt) {p : Array Nat} {m : Nat} (hp : PN n p) (h1 : 1 ≤ m) (h2 : m ≤ n) (hn : Ni lt p m) : Sp lt n (kas_tail3 m n p) (fun r => PN n r.2 ∧ r.1 ≤ n ∧ So lt r.2 r.1) := by
  have hs : m ≤ p.size := by rw [hp.size]; (first | lia | omega)
  refine Sp.bind _ (Sp.mono (fun r hr => ⟨hp.rev _ _, by show r ≤ n; (first | lia | omega), hr.2.2.1⟩) _ (sp_asc O (hp.rev 0 m) (n - m) m h1 (by (first | lia | omega)) fun i j hij hj => ?_))
  rw [Ka_rev hs, Ka_rev hs, if_pos (by (first | lia | omega)), if_pos (by (first | lia | omega))]
  exact hn _ _ (by (first | lia | omega)) (by (first | lia | omega))
theorem sp_descPart (O : LtOrd lt) {p : Array Nat} {m : Nat} (hp : PN n p) (h1 : 1 ≤ m) (h2 : m + 1 ≤ n) (hn : Ni lt p m) (c : lt (Ka p m) (Ka p (m - 1)) = true) : Sp lt n (kas_descPart m n p) (fun r => PN n r.2 ∧ r.1 ≤ n ∧ So lt r.2 r.1) := by
  refine Sp.bind _ (Sp.mono (fun r hr => ?_) _ (sp_desc O (n - (m + 1)) p (m + 1) 0 hp (by (first | lia | omega)) (by (first | lia | omega)) (ni_step O h1 hn (O.asy _ _ c)) (tl_zero O)))
  obtain ⟨h3, h4, h5, h6, h7⟩ := hr
  split
  · exact sp_tail3 O (h3.rev _ _) h4 h5 (ni_rev O h3 h5 h6 h7)
  · exact sp_tail3 O h3 h4 h5 h6
theorem sp_count (O : LtOrd lt) {p : Array Nat} (hp : PN n p) (h1 : 1 ≤ n) : Sp lt n (kas_count n p) (fun r => PN n r.2 ∧ r.1 ≤ n ∧ So lt r.2 r.1) := by
  refine Sp.bind _ (Sp.mono (fun r hr => ?_) _ (sp_asc O hp (n - 1) 1 (by (first | lia | omega)) (by (first | lia | omega)) fun i j hij hj => ?_))
  · obtain ⟨h2, h3, h4, h5⟩ := hr
    split
    · exact ⟨hp, by (first | lia | omega), h4⟩
    · rename_i hne
      have hne : r ≠ n := by simpa using hne
      have c := h5 (by (first | lia | omega))
      split
      · refine ⟨hp.lt (by (first | lia | omega)), hp.lt (by (first | lia | omega)), ?_⟩
        show Sp lt n (if lt (Ka p 0) (Ka p (r - 1)) = true then KasT.ret (r, p) else kas_descPart r n (kas_rev p 0 r)) _
        split
        · exact ⟨hp, by (first | lia | omega), h4⟩
        · rename_i d
          have d : lt (Ka p 0) (Ka p (r - 1)) = false := by simpa using d
          have hs : r ≤ p.size := by rw [hp.size]; (first | lia | omega)
          refine sp_descPart O (hp.rev _ _) h2 (by (first | lia | omega)) (fun i j hij hj => ?_) ?_
          · rw [Ka_rev hs, Ka_rev hs, if_pos (by (first | lia | omega)), if_pos (by (first | lia | omega))]
            exact h4 _ _ (by (first | lia | omega)) (by (first | lia | omega))
          · rw [Ka_rev hs, Ka_rev hs, if_neg (by (first | lia | omega)), if_pos (by (first | lia | omega))]
            rw [show 0 + r - 1 - (r - 1) = 0 by (first | lia | omega)]
            cases e : lt (Ka p r) (Ka p 0) with
            | true => rfl
            | false => rw [O.tr _ _ _ d e] at c; cases c
      · have : r = 1 := by (first | lia | omega)
        subst this
        refine sp_descPart O hp h2 (by (first | lia | omega)) (fun i j hij hj => ?_) c
        have : i = j := by (first | lia | omega)
        subst this; exact O.irr _
  · have : i = j := by (first | lia | omega)
    subst this; exact O.irr _
theorem sp_place (O : LtOrd lt) {p : Array Nat} (hp : PN n p) {k : Nat} (hk : k < n) (hs : So lt p k) : ∀ f l r, l ≤ r → r ≤ k → r - l ≤ f → (∀ i, i < l → lt (Ka p k) (Ka p i) = false) → (∀ i, r ≤ i → i < k → lt (Ka p k) (Ka p i) = true) →
    Sp lt n (kas_place p k f l r) (fun x => x ≤ k ∧ (∀ i, i < x → lt (Ka p k) (Ka p i) = false) ∧ ∀ i, x ≤ i → i < k → lt (Ka p k) (Ka p i) = true)
  | 0, l, r, h1, h2, h3, h4, h5 => ⟨by (first | lia | omega), h4, fun i h6 h7 => h5 i (by (first | lia | omega)) h7⟩
  | f + 1, l, r, h1, h2, h3, h4, h5 => by
    unfold kas_place
    split
    · exact ⟨by (first | lia | omega), h4, fun i h6 h7 => h5 i (by (first | lia | omega)) h7⟩
    · refine ⟨hp.lt hk, hp.lt (by (first | lia | omega)), ?_⟩
      show Sp lt n (if lt (Ka p k) (Ka p ((l + r) / 2)) = true then kas_place p k f l ((l + r) / 2) else kas_place p k f ((l + r) / 2 + 1) r) _
      split
      · rename_i c
        refine sp_place O hp hk hs f l ((l + r) / 2) (by (first | lia | omega)) (by (first | lia | omega)) (by (first | lia | omega)) h4 fun i h6 h7 => ?_
        cases e : lt (Ka p k) (Ka p i) with
        | true => rfl
        | false => rw [O.tr _ _ _ (hs ((l + r) / 2) i h6 h7) e] at c; cases c
      · rename_i c
        have c : lt (Ka p k) (Ka p ((l + r) / 2)) = false := by simpa using c
        refine sp_place O hp hk hs f ((l + r) / 2 + 1) r (by (first | lia | omega)) (by (first | lia | omega)) (by (first | lia | omega)) (fun i h6 => ?_) h5
        exact O.tr _ _ _ (hs i ((l + r) / 2) (by (first | lia | omega)) (by (first | lia | omega))) c
theorem sp_bin (O : LtOrd lt) : ∀ f p k, k + f = n → PN n p → So lt p k → Sp lt n (kas_bin f p k) (fun p' => PN n p' ∧ So lt p' n)
  | 0, p, k, h, hp, hs => ⟨hp, by rw [← h]; exact hs⟩
  | f + 1, p, k, h, hp, hs => by
    refine Sp.bind _ (Sp.mono (fun l hl => ?_) _ (sp_place O hp (by (first | lia | omega)) hs k 0 k (by (first | lia | omega)) (by (first | lia | omega)) (by (first | lia | omega)) (fun i h => by (first | lia | omega)) (fun i h1 h2 => by (first | lia | omega))))
    obtain ⟨h1, h2, h3⟩ := hl
    have hks : k < p.size := by rw [hp.size]; (first | lia | omega)
    refine sp_bin O f _ (k + 1) (by (first | lia | omega)) (hp.bub _ _) fun i j hij hj => ?_
    rw [Ka_bub hks (by (first | lia | omega)), Ka_bub hks (by (first | lia | omega)), show k - (k - l) = l by (first | lia | omega)]
    have asy : ∀ i, l ≤ i → i < k → lt (Ka p i) (Ka p k) = false := fun i a b => O.asy _ _ (h3 i a b)
    repeat' split
    all_goals first
      | (exfalso; (first | lia | omega))
      | exact O.irr _
      | exact h2 _ (by (first | lia | omega))
      | exact asy _ (by (first | lia | omega)) (by (first | lia | omega))
      | exact hs _ _ (by (first | lia | omega)) (by (first | lia | omega))
theorem sp_sort (O : LtOrd lt) (h1 : 1 ≤ n) : Sp lt n (kas_sort n) (fun p => PN n p ∧ So lt p n) := by
  refine Sp.bind _ (Sp.mono (fun r hr => ?_) _ (sp_count O (p := (List.range n).toArray) (Array.Perm.refl _) h1))
  obtain ⟨h2, h3, h4⟩ := hr
  split
  · rename_i hlt
    refine sp_bin O (n - max r.1 1) r.2 (max r.1 1) (by (first | lia | omega)) h2 fun i j hij hj => ?_
    by_cases h0 : r.1 = 0
    · have : i = j := by (first | lia | omega)
      subst this; exact O.irr _
    · exact h4 i j hij (by (first | lia | omega))
  · have : r.1 = n := by (first | lia | omega)
    rw [this] at h4
    exact ⟨h2, h4⟩
end
end Mine
end
section
open PySem PySem.W PySem.Calls PySem.Builtin PyProof.Rows
set_option Elab.async false
set_option maxRecDepth 100000
namespace Mine
noncomputable def ltW (x y : Str) : Bool := decide (x.length < y.length) || (x.length == y.length && decide (x.cps.toList < y.cps.toList))
theorem ltW_irr (a : Str) : ltW a a = false := by
  unfold ltW
  simp only [Nat.lt_irrefl, decide_false, Bool.false_or, beq_self_eq_true, Bool.true_and, decide_eq_false_iff_not]
  exact List.lt_irrefl _
theorem ltW_iff (x y : Str) : ltW x y = true ↔ x.length < y.length ∨ (x.length = y.length ∧ x.cps.toList < y.cps.toList) := by
  unfold ltW
  simp only [Bool.or_eq_true, decide_eq_true_eq, Bool.and_eq_true, beq_iff_eq]
theorem ltW_tr (a b c : Str) (h1 : ltW b a = false) (h2 : ltW c b = false) : ltW c a = false := by
  cases e : ltW c a with
  | false => rfl
  | true =>
    have n1 : ¬ ltW b a = true := by rw [h1]; decide
    have n2 : ¬ ltW c b = true := by rw [h2]; decide
    rw [ltW_iff] at e n1 n2
    simp only [not_or, not_and] at n1 n2
    exfalso
    rcases e with e | ⟨e, e'⟩
    · (first | lia | omega)
    · have h3 : c.length = b.length := by (first | lia | omega)
      have h4 : b.length = a.length := by (first | lia | omega)
      have l1 : a.cps.toList ≤ b.cps.toList := List.not_lt.mp (n1.2 h4)
      have l2 : b.cps.toList ≤ c.cps.toList := List.not_lt.mp (n2.2 h3)
      exact absurd e' (List.not_lt.mpr (List.le_trans l1 l2))
theorem ltW_asy (a b : Str) (h : ltW a b = true) : ltW b a = false := by
  cases e : ltW b a with
  | false => rfl
  | true =>
    rw [ltW_iff] at h e
    exfalso
    rcases h with h | ⟨h, h'⟩ <;> rcases e with e | ⟨e, e'⟩
    · (first | lia | omega)
    · (first | lia | omega)
    · (first | lia | omega)
    · exact List.lt_irrefl _ (List.lt_trans h' e')
theorem ltW_anti (a b : Str) (h1 : ltW b a = false) (h2 : ltW a b = false) : a = b := by
  have n1 : ¬ ltW b a = true := by rw [h1]; decide
  have n2 : ¬ ltW a b = true := by rw [h2]; decide
  rw [ltW_iff] at n1 n2
  simp only [not_or, not_and] at n1 n2
  have e : a.length = b.length := by (first | lia | omega)
  exact str_ext (List.le_antisymm (List.not_lt.mp (n1.2 e.symm)) (List.not_lt.mp (n2.2 e)))
theorem ltW_ord (ws : List Str) : LtOrd fun i j => ltW (ws.getD i emp) (ws.getD j emp) := ⟨fun a => ltW_irr _, fun a b h => ltW_asy _ _ h, fun a b c h1 h2 => ltW_tr _ _ _ h1 h2⟩
noncomputable def sortW (ws : List Str) : List Str := ws.mergeSort fun a b => !ltW b a
theorem sortW_perm (ws : List Str) : (sortW ws).Perm ws := List.mergeSort_perm _ _
theorem sortW_pw (ws : List Str) : (sortW ws).Pairwise fun a b => ltW b a = false := by
  have := List.pairwise_mergeSort (le := fun a b => !ltW b a) (fun a b c h1 h2 => by
    simp only [Bool.not_eq_true'] at h1 h2 ⊢
    exact ltW_tr _ _ _ h1 h2) (fun a b => by
    cases e : ltW b a with
    | false => rfl
    | true => rw [ltW_asy _ _ e]; rfl) ws
  exact this.imp fun h => by simpa using h
theorem sortW_uniq {ws l : List Str} (hp : l.Perm ws) (hs : l.Pairwise fun a b => ltW b a = false) : l = sortW ws :=
  List.Perm.eq_of_pairwise (fun a b _ _ h1 h2 => ltW_anti a b h1 h2) hs (sortW_pw ws) (hp.trans (sortW_perm ws).symm)
theorem sort_out {ws : List Str} {p : Array Nat} (hp : PN ws.length p) (hs : So (fun i j => ltW (ws.getD i emp) (ws.getD j emp)) p ws.length) : p.toList.map (fun i => ws.getD i emp) = sortW ws := by
  refine sortW_uniq ?_ ?_
  · have h1 : p.toList.Perm (List.range ws.length) := by
      have := Array.perm_iff_toList_perm.mp hp
      simpa using this
    have h2 := h1.map fun i => ws.getD i emp
    refine h2.trans (List.Perm.of_eq ?_)
    apply List.ext_getElem?
    intro i
    rw [List.getElem?_map]
    by_cases hi : i < ws.length
    · rw [List.getElem?_range hi, List.getElem?_eq_getElem hi]
      simp [List.getD, hi]
    · rw [List.getElem?_eq_none (by simp; (first | lia | omega)), List.getElem?_eq_none (by (first | lia | omega))]; rfl
  · rw [List.pairwise_map, List.pairwise_iff_getElem]
    intro i j hi hj hij
    have sz := hp.size
    have := hs i j (Nat.le_of_lt hij) (by rw [← sz]; simpa using hj)
    rw [Ka_eq, Ka_eq] at this
    have e1 : p[i]? = some p.toList[i] := by rw [← Array.getElem?_toList]; exact List.getElem?_eq_getElem hi
    have e2 : p[j]? = some p.toList[j] := by rw [← Array.getElem?_toList]; exact List.getElem?_eq_getElem hj
    rw [e1, e2] at this
    exact this
end Mine
end
section
open PySem PySem.W PySem.Calls PySem.Builtin PyProof.Rows
set_option Elab.async false
set_option maxRecDepth 100000
namespace Mine
noncomputable abbrev pairD (x : Str) : PyData := .tuple [.int x.length, .str x]
section
variable {prog : Program} {w : World} {A : Around} {E : Value → Shared → Prop} {g : Mp} {s₀ : Shared} {T : List Addr} {env : Env} {m : Str → Option Value} {W : List (Addr × Obj)} {s : Shared}
/-- all objects but one -/
noncomputable def othersOf (h : Heap) (L : Addr) : List (Addr × Obj) := (List.range h.objs.size).filterMap fun a => if a = L then none else (h.get? a).map fun o => (a, o)
theorem mem_others {h : Heap} {L a : Addr} {o : Obj} : (a, o) ∈ othersOf h L ↔ a ≠ L ∧ h.get? a = some o := by
  unfold othersOf
  rw [List.mem_filterMap]
  constructor
  · rintro ⟨b, _, hb⟩
    split at hb
    · cases hb
    · rename_i hne
      obtain ⟨o', e, e2⟩ := Option.map_eq_some_iff.mp hb
      cases e2
      exact ⟨hne, e⟩
  · rintro ⟨hne, e⟩
    exact ⟨a, List.mem_range.mpr (Heap.lt_size e), by rw [if_neg hne, e]; rfl⟩
theorem pair_un {g : Mp} {v : Value} {x : Str} (h : Rd g v (pairD x)) : ∃ a n t u, v = .ref a ∧ g a = some (tupO [.int x.length t, .str x u] n) := by
  obtain ⟨a, vs, n, rfl, e, r⟩ := h.untuple
  match vs, r with
  | [v1, v2], r =>
    obtain ⟨t, rfl⟩ := r.uncons.1.unint
    obtain ⟨u, rfl⟩ := r.uncons.2.uncons.1.unstr
    exact ⟨a, n, t, u, rfl, e⟩
  | [], r => simp [RdAll] at r
  | [_], r => simp [RdAll] at r
  | _ :: _ :: _ :: _, r => simp [RdAll] at r
theorem pair_lt {g : Mp} {x y : Str} {v u : Value} {Q : Bool → Shared → Prop} (hg : ∀ a o, g a = some o → s.heap.get? a = some o) (hx : Rd g v (pairD x)) (hy : Rd g u (pairD y)) (h : Q (ltW x y) s) : wpAny (model prog w) A (keyLt' (tuples' true) v u) Q (fun _ _ => False) s := by
  obtain ⟨a, n, t1, t2, rfl, ea⟩ := pair_un hx
  obtain ⟨b, k, t3, t4, rfl, eb⟩ := pair_un hy
  refine kat_lt (hg _ _ ea) rfl (hg _ _ eb) rfl ?_
  refine kat_cons (wpAny_eqBool_int ?_)
  refine kat_go (fun e1 => kat_yes ?_) (fun e1 => kat_no ?_)
  · have hl : x.length = y.length := by have := eq_of_beq e1; (first | lia | omega)
    refine kat_cons (eqBool_str ?_)
    refine kat_go (fun e2 => kat_yes (kat_nil ?_)) (fun e2 => kat_no ?_)
    · have : x = y := eq_of_beq e2
      subst this
      rw [ltW_irr] at h
      exact h
    · refine kat_one _ _ (P.lt_str ?_)
      show Q _ s
      have : ltW x y = decide (x.cps.toList < y.cps.toList) := by
        unfold ltW
        have n1 : ¬ x.length < y.length := by (first | lia | omega)
        simp [n1, hl]
      rw [← this]; exact h
  · have hl : x.length ≠ y.length := fun e => by rw [e] at e1; simp at e1
    refine oneLt_int ?_
    have : ltW x y = decide ((x.length : Int) < (y.length : Int)) := by
      unfold ltW
      have : (x.length == y.length) = false := by simpa using hl
      rw [this]
      simp
    rw [← this]; exact h
theorem r_sortedBig {l : Addr} {vs : List Value} {ws : List Str} {Q : Value → Shared → Prop} (I : Inv g s₀ T env m W s) (hL : LstAt g W l vs) (r : RdAll g vs (ws.map pairD)) (h2 : 2 ≤ ws.length) (h64 : ws.length < 64)
    (h : ∀ D vs' c s', Inv g s₀ T env m ((D, lstO vs' c) :: W) s' → RdAll g vs' ((sortW ws).map pairD) → Q (.ref D) s') : wpAny (model prog w) A (call (.builtin "sorted") [.ref l]) Q E s := by
  obtain ⟨md, hns, hmd⟩ := I.ns
  have hlen : vs.length = ws.length := by rw [r.1]; simp
  have F : Fr (default : Heap) env.locals s.heap md := ⟨hns, (fun b o e => by cases e), Nat.zero_le _⟩
  have N : News (default : Heap) env.locals s.heap (othersOf s.heap env.locals) := fun p hp => ⟨(mem_others.mp hp).2, (mem_others.mp hp).1, rfl⟩
  refine kat_sorted F N (hL.isList I) (by (first | lia | omega)) (by (first | lia | omega)) fun D e1 h' F' N' lt => ?_
  have keep' : ∀ {h'' : Heap} {o : Obj}, News (default : Heap) env.locals h'' ((D, o) :: othersOf s.heap env.locals) → ∀ b ob, b ≠ env.locals → s.heap.get? b = some ob → h''.get? b = some ob := fun N b ob hb e => (N _ (.tail _ (mem_others.mpr ⟨hb, e⟩))).1
  have hgL : ∀ a o, g a = some o → a ≠ env.locals := fun a o e q => by rw [q, I.offL.1] at e; cases e
  have hg' : ∀ a o, g a = some o → h'.get? a = some o := fun a o e => keep' N' a o (hgL _ _ e) (I.keep _ _ e)
  -- the kind of the keys
  have tups : ∀ (vs : List Value) (ws : List Str), RdAll g vs (ws.map pairD) → ∃ fs, fs.length = vs.length ∧ KatTups h' vs fs ∧ ∀ v ∈ fs, Looks (model prog w) h' (typeOf v) (.type "int") := by
    intro vs
    induction vs with
    | nil => intro ws _; exact ⟨[], rfl, KatTups.nil, fun _ h => (nomatch h)⟩
    | cons v vs ih =>
      intro ws r
      cases ws with
      | nil => simp [RdAll] at r
      | cons x ws =>
        have rr := r.uncons
        obtain ⟨a, n, t, u, rfl, ea⟩ := pair_un rr.1
        obtain ⟨fs, h1, h2, h3⟩ := ih ws rr.2
        refine ⟨.int x.length t :: fs, by simp [h1], KatTups.cons (hg' _ _ ea) rfl rfl rfl h2, fun v hv => ?_⟩
        rcases List.mem_cons.mp hv with rfl | hv
        · exact Looks.of_pure rfl
        · exact h3 v hv
  obtain ⟨fs, f1, f2, f3⟩ := tups vs ws r
  refine kat_kind (T := .type "int") f2 (by (first | lia | omega)) f3 (by decide) ?_
  rw [show (Value.type "int" != Value.type "tuple") = true by decide]
  -- the sort
  have O := ltW_ord ws
  have sp := sp_sort (n := vs.length) O (by (first | lia | omega))
  refine Sp.wp (Q' := fun p => PN vs.length p ∧ So (fun i j => ltW (ws.getD i emp) (ws.getD j emp)) p vs.length) (fun i j C hi hj hC => ?_) (fun p hp => ?_) _ sp
  · unfold kas_ask
    have e : ∀ i, i < vs.length → Rd g (vs.getD i .none) (pairD (ws.getD i emp)) := fun i hi => by
      have := r.2 i hi (by rw [List.length_map]; (first | lia | omega))
      have hi' : i < ws.length := by (first | lia | omega)
      rw [List.getElem_map] at this
      simpa [List.getD, hi, hi'] using this
    exact pair_lt (fun a o q => hg' a o q) (e i hi) (e j hj) hC
  · obtain ⟨hp1, hp2⟩ := hp
    refine KasFin.intro F' N' (.head fun q hq => Nat.ne_of_lt (lt q hq)) fun h'' c F'' N'' => ?_
    rw [hlen] at hp1 hp2
    have hout := sort_out hp1 hp2
    have hD : h''.get? D = some (lstO (p.toList.map fun i => vs.getD i .none) c) := (N'' _ (.head _)).1
    have fD : s.heap.get? D = none := by
      cases e : s.heap.get? D with
      | none => rfl
      | some o =>
        have hDL := (N'' _ (.head _)).2.1
        exact absurd (lt _ (mem_others.mpr ⟨hDL, e⟩)) (Nat.lt_irrefl _)
    have gD : g D = none := by
      cases e : g D with
      | none => rfl
      | some o => rw [I.keep _ _ e] at fD; cases fD
    refine h D (p.toList.map fun i => vs.getD i .none) c _ ?_ ?_
    · have k := @keep' h'' _ N''
      have J : Inv g s₀ T env m W { s with heap := h'' } :=
        { eo := I.eo, ns := ⟨md, F''.ns, hmd⟩, cell := fun q hq => let ⟨oc, ho, hd⟩ := I.cell q hq; ⟨oc, k _ _ (I.eo.capart q hq) ho, hd⟩, led := fun p hp => k _ _ (I.offL.2.2 p hp) (I.led p hp), nd := I.nd,
          keep := fun a o e => k _ _ (hgL _ _ e) (I.keep _ _ e), keep0 := fun a o e t => k _ _ (fun q => by
            rcases I.offL.2.1 with h1 | h1
            · exact t (q ▸ h1)
            · rw [q, h1] at e; cases e) (I.keep0 a o e t), offL := I.offL, offC := I.offC, offW := I.offW,
          same := by obtain ⟨h, tk', e⟩ := I.same; subst e; exact ⟨_, _, rfl⟩ }
      refine J.addW hD gD (N'' _ (.head _)).2.1 (fun q hq e => ?_) (fun q hq e => ?_) ?_
      · obtain ⟨oc, ho, _⟩ := I.cell q hq
        rw [← e, fD] at ho; cases ho
      · have := I.led q hq
        rw [e, fD] at this; cases this
      · by_cases hT : D ∈ T
        · exact .inl hT
        · refine .inr ?_
          cases e : s₀.heap.get? D with
          | none => rfl
          | some o => rw [I.keep0 _ _ e hT] at fD; cases fD
    · rw [← hout, List.map_map]
      refine ⟨by simp, fun i h1 h2 => ?_⟩
      rw [List.getElem_map, List.getElem_map]
      have hi : i < p.toList.length := by simpa using h1
      show Rd g (vs.getD (p.toList[i]'hi) .none) (pairD (ws.getD (p.toList[i]'hi) emp))
      have hm : p.toList[i] < ws.length := by
        have hlt : i < ws.length := by rw [← hp1.size]; simpa using hi
        have := hp1.lt hlt
        rw [Ka_eq, ← Array.getElem?_toList, List.getElem?_eq_getElem hi] at this
        exact this
      have hmv : p.toList[i] < vs.length := by (first | lia | omega)
      have := r.2 p.toList[i] hmv (by rw [List.length_map]; exact hm)
      rw [List.getElem_map] at this
      have ea : vs.getD (p.toList[i]'hi) .none = vs[p.toList[i]'hi] := by simp only [List.getD, List.getElem?_eq_getElem hmv, Option.getD_some]
      have eb : ws.getD (p.toList[i]'hi) emp = ws[p.toList[i]'hi] := by simp only [List.getD, List.getElem?_eq_getElem hm, Option.getD_some]
      rw [ea, eb]; exact this
theorem r_sortedSmall {l : Addr} {vs : List Value} {Q : Value → Shared → Prop} (I : Inv g s₀ T env m W s) (hL : LstAt g W l vs) (h2 : vs.length < 2)
    (h : ∀ D c s', Inv g s₀ T env m ((D, lstO vs c) :: W) s' → Q (.ref D) s') : wpAny (model prog w) A (call (.builtin "sorted") [.ref l]) Q E s := by
  refine Calls.call_function_entry kind_sorted plain_sorted entry_sorted (args_sorted1 _) ?_
  unfold Builtin.«sorted»
  refine wpAny_bind (m := checkCount "sorted" 1 1 _) (wpAny_pure ?_)
  have sz : vs.length ≤ sizeLine := by rw [sizeLine_eq]; (first | lia | omega)
  refine wpAny_bind (collect_list (hL.isList I) ?_ sz)
  refine wpAny_bind (wpAny_newList ?_ sz)
  -- the first made list is dropped
  have I1 : Inv g s₀ T env m W { s with heap := (s.heap.push (seqObj "list" #[] 0)).update s.heap.objs.size (Obj.mapSeq (· ++ vs.toArray)) } := (I.alloc (o := seqObj "list" #[] 0) rfl).lose fun b ob hb e => (Heap.SameBut.update ..).extBut b ob hb e
  have I2 := I1.alloc (o := lstO vs 0) rfl
  have hD := I2.led _ (.head _)
  dsimp only at hD
  generalize hs2 : ({ s with heap := ((s.heap.push (seqObj "list" #[] 0)).update s.heap.objs.size (Obj.mapSeq (· ++ vs.toArray))).push (lstO vs 0) } : Shared) = s2 at *
  generalize ((s.heap.push (seqObj "list" #[] 0)).update s.heap.objs.size (Obj.mapSeq (· ++ vs.toArray))).objs.size = D at *
  have hD : s2.heap.get? D = some (seqObj "list" vs.toArray 0) := by subst hs2; exact hD
  have I2 : Inv g s₀ T env m ((D, lstO vs 0) :: W) s2 := by subst hs2; exact I2
  refine wpAny_bind (wpAny_holding (wpAny_call_entry slot_list_sort ⟨_, hD, rfl⟩ entry_list_sort ?_ (args_list_sort _)))
  rw [list_sort_plain]
  obtain ⟨e1, ho1⟩ : ∃ e1, (s2.heap.update D (Obj.mapSeq fun _ => (#[] : Array Value))).get? D = some (seqObj "list" #[] e1) := ⟨_, get?_update_seq hD fun _ => #[]⟩
  have I3 := I2.chg (tk := s2.toks) .head (fun b ob hb e => (Heap.SameBut.update s2.heap D (Obj.mapSeq fun _ => (#[] : Array Value))).extBut b ob hb e) ho1
  refine wpAny_bind (listItems_at hD rfl ?_)
  refine wpAny_bind (listUpdate_at hD rfl ?_ (by rw [List.size_toArray]; exact sz) (Nat.zero_le _))
  refine wpAny_bind (seqEpoch_at ho1 rfl ?_)
  refine wpAny_bind (wpAny_newTuple ?_ sz)
  refine wpAny_bind (wpAny_newList ?_ (Nat.zero_le _))
  refine wpAny_holding ?_
  have I4 := ((I3.alloc (o := seqObj "tuple" vs.toArray 0) rfl).tail.alloc (o := seqObj "list" #[] 0) rfl).tail
  have hn2 : vs.toArray.size < 2 := by rw [List.size_toArray]; exact h2
  rw [if_pos hn2, if_pos hn2]
  refine wpAny_bind (wpAny_pure (wpAny_bind ?_))
  refine wpAny_pure ?_
  have hout : (arrOf (SortSt.mk' general' (vs.toArray.zip vs.toArray) #[] 7 none)).map (·.2) = vs.toArray := by
    show (vs.toArray.zip vs.toArray).map (·.2) = vs.toArray
    apply Array.toList_inj.mp
    rw [Array.toList_map, ksk_zip]
    have : ∀ l : List Value, (List.zipWith Prod.mk l l).map (·.2) = l := by
      intro l; induction l with
      | nil => rfl
      | cons a r ih => rw [List.zipWith_cons_cons, List.map_cons, ih]
    exact this vs
  dsimp only
  rw [hout]
  have ho4 := I4.led _ (.head _)
  dsimp only at ho4
  refine wpAny_bind (seqEpoch_at ho4 rfl ?_)
  obtain ⟨c2, hc2⟩ : ∃ c2, (((s2.heap.update D (Obj.mapSeq fun _ => (#[] : Array Value))).push (seqObj "tuple" vs.toArray 0)).push (seqObj "list" #[] 0) |>.update D (Obj.mapSeq fun _ => vs.toArray)).get? D = some (seqObj "list" vs.toArray c2) := ⟨_, get?_update_seq ho4 fun _ => vs.toArray⟩
  have I5 := I4.chg (tk := s2.toks) .head (fun b ob hb e => (Heap.SameBut.update _ D (Obj.mapSeq fun _ => vs.toArray)).extBut b ob hb e) hc2
  refine wpAny_bind (listUpdate_at ho4 rfl ?_ (Nat.zero_le _) (by rw [List.size_toArray]; (first | lia | omega)))
  simp only [bne_self_eq_false, Bool.false_eq_true, if_false]
  exact wpAny_pure ⟨_, rfl, wpAny_pure ⟨_, rfl, h D c2 _ I5⟩⟩
/-- sorted, of pairs of lengths and words -/
theorem r_sorted {l : Addr} {vs : List Value} {ws : List Str} {Q : Value → Shared → Prop} (I : Inv g s₀ T env m W s) (hL : LstAt g W l vs) (r : RdAll g vs (ws.map pairD)) (h64 : ws.length < 64)
    (h : ∀ D vs' c s', Inv g s₀ T env m ((D, lstO vs' c) :: W) s' → RdAll g vs' ((sortW ws).map pairD) → Q (.ref D) s') : wpAny (model prog w) A (call (.builtin "sorted") [.ref l]) Q E s := by
  by_cases h2 : 2 ≤ ws.length
  · exact r_sortedBig I hL r h2 h64 h
  · have hl : vs.length = ws.length := by rw [r.1]; simp
    refine r_sortedSmall I hL (by (first | lia | omega)) fun D c s' I' => h D vs c s' I' ?_
    have : sortW ws = ws := (sortW_uniq (List.Perm.refl _) (by
      match ws with
      | [] => exact .nil
      | [x] => exact List.pairwise_singleton _ _
      | _ :: _ :: _ => exact absurd (by simp) h2)).symm
    rw [this]; exact r
end
end Mine
end
section
open PySem PySem.W PySem.Calls PySem.Builtin
set_option Elab.async false
set_option maxRecDepth 100000
namespace Mine
/-- the end of a call by a value -/
noncomputable def RV (Q : Value → Shared → Prop) (r : Result) (s' : Shared) : Prop := match r with | .ok (.ret v) => Q v s' | _ => False
theorem of_code {prog : Program} {w : World} {A : Around} {E : Value → Shared → Prop} {s : Shared} {f : Value} {vals : List Value} {Q : Value → Shared → Prop} (h : codeAny (model prog w) A (.call f ⟨vals, []⟩) (RV Q) s) : wpAny (model prog w) A (call f vals) Q E s :=
  wpAny_call (codeAny_mono h fun r s' h => by rcases r with e | (v | _ | _ | _) <;> first | exact h | exact h.elim)
theorem slot_calliter_next : Slot "callable_iterator" "__next__" "callable_iterator.__next__" :=
  .of (owner := "callable_iterator") (n := "__next__") (by rw [typeLookup_type, builtinLookup_eq_fast]; kernel_rfl) (by decide +kernel) (by decide +kernel) (by decide +kernel)
    (by first | exact .inl (by decide +kernel) | exact .inr (by decide +kernel)) (by rw [isSubtype_type]; kernel_rfl)
theorem slot_calliter_iter : Slot "callable_iterator" "__iter__" "callable_iterator.__iter__" :=
  .of (owner := "callable_iterator") (n := "__iter__") (by rw [typeLookup_type, builtinLookup_eq_fast]; kernel_rfl) (by decide +kernel) (by decide +kernel) (by decide +kernel)
    (by first | exact .inl (by decide +kernel) | exact .inr (by decide +kernel)) (by rw [isSubtype_type]; kernel_rfl)
theorem entry_calliter_next : entryFor table "callable_iterator.__next__" = some Builtin.«callable_iterator.__next__» := entryFor_of_fast (by kernel_rfl)
theorem entry_calliter_iter : entryFor table "callable_iterator.__iter__" = some Builtin.«dict_keyiterator.__iter__» :=
  entryFor_alias (id' := "dict_keyiterator.__iter__") (by kernel_rfl) rfl (by decide +kernel) (by kernel_rfl)
theorem args_calliter_next (a : Value) : argsOk "callable_iterator.__next__" ⟨[a], []⟩ := by unfold argsOk; kernel_rfl
theorem args_calliter_iter (a : Value) : argsOk "callable_iterator.__iter__" ⟨[a], []⟩ := by unfold argsOk; kernel_rfl
noncomputable abbrev citO (f sen : Value) : Obj := { cls := .type "callable_iterator", data := .fields #[f, sen, .bool false] }
noncomputable abbrev citE : Obj := { cls := .type "callable_iterator", data := .fields #[.none, .none, .bool true] }
section
variable {prog : Program} {w : World} {A : Around} {E : Value → Shared → Prop} {s : Shared}
theorem cit_self {it : Addr} {o : Obj} {Q : Value → Shared → Prop} (ho : s.heap.get? it = some o) (hc : o.cls = .type "callable_iterator") (h : Q (.ref it) s) : wpAny (model prog w) A (pyIter (.ref it)) Q E s := by
  have hT : s.TypeIs (.ref it) "callable_iterator" := ⟨o, ho, hc⟩
  refine wpAny_pyIter_slot hT slot_calliter_iter (wpAny_call_entry slot_calliter_iter hT entry_calliter_iter ?_ (args_calliter_iter _))
  exact wpAny_pure ⟨_, rfl, "callable_iterator", _, hT, slot_calliter_next.lookup, h⟩
/-- a call of what a slot holds -/
theorem callBorrowed_of {f : Value} {Q : Value → Shared → Prop} (hc : codeAny (model prog w) A (.call f ⟨[], []⟩) (RV Q) s) : wpAny (model prog w) A (callBorrowed f []) Q E s := by
  intro Γ p hΓ
  show wpCode (model prog w) (Γ.enter (.call f ⟨[], []⟩) none p) _ p s
  refine wpCode_mono (fun r s' h => ?_) (hc (Γ.enter (.call f ⟨[], []⟩) none p) p rfl (hΓ.enter _ none p (by intro x; cases x)))
  rcases r with e | (v | _ | _ | _) <;> first | exact h | exact h.elim
theorem borrows_meth {q f : Addr} {self : Value} {of : Obj} {fd : FuncData} {Q : Bool → Shared → Prop} (hq : s.heap.get? q = some (methodObj (.ref f) self)) (hf : s.heap.get? f = some of) (hd : of.data = .func fd) (h : Q true s) : wpAny (model prog w) A (borrowsExactly (.ref q)) Q E s := by
  unfold borrowsExactly
  refine wpAny_bind (wpAny_load hq ?_)
  show wpAny _ _ (load f >>= _) _ _ s
  refine wpAny_bind (wpAny_load hf ?_)
  rw [hd]
  exact wpAny_pure h
theorem stop_raise {α : Type} {Q : α → Shared → Prop} (hh : A.handled = none) (h : ∀ e h', s.heap.StaysIn h' → (({ s with heap := h' } : Shared)).TypeIs e "StopIteration" → E e { s with heap := h' }) : wpAny (model prog w) A (newExc (.type "StopIteration") [] >>= fun e => raiseNew e : Sem α) Q E s := by
  refine wpAny_bind ?_
  simp only [newExc, newTuple]
  refine wpAny_bind (wpAny_newObj_type ?_ (by size_fits))
  refine wpAny_bind (m := firstArgMember _ _) (wpAny_of_eq (a := Value.none) (by first | rfl | (simp only [firstArgMember]; rfl)) ?_)
  refine wpAny_newObj_type ?_ (by size_fits)
  simp only [raiseNew]
  refine wpAny_bind (wpAny_handled ?_)
  rw [hh]
  refine wpAny_bind (wpAny_pure (wpAny_throw ?_))
  exact h _ _ (fun b o e => Heap.get?_push_of_some _ (Heap.get?_push_of_some _ e)) ⟨_, Heap.get?_push_size _ rfl, rfl⟩
/-- the next of a callable iterator -/
theorem cit_next {it q f : Addr} {self : Value} {o of : Obj} {fd : FuncData} {t0 : Tok} {Q : Option Value → Shared → Prop} (hh : A.handled = none)
    (ho : s.heap.get? it = some (citO (.ref q) (.str emp t0))) (hq : s.heap.get? q = some (methodObj (.ref f) self)) (hf : s.heap.get? f = some of) (hd : of.data = .func fd)
    (hc : codeAny (model prog w) A.in1 (.call (.ref f) ⟨[self], []⟩) (RV fun v s' => ∃ x t, v = .str x t ∧ s'.heap.get? it = some (citO (.ref q) (.str emp t0)) ∧ s'.heap.get? q = some (methodObj (.ref f) self) ∧ s'.heap.get? f = some of ∧
      (x ≠ emp → Q (some v) s') ∧ (x = emp → ∀ h', (∀ b o, b ≠ it → s'.heap.get? b = some o → h'.get? b = some o) → h'.get? it = some citE → Q none { s' with heap := h' })) s) :
    wpAny (model prog w) A (pyNext (.ref it)) Q E s := by
  have hT : s.TypeIs (.ref it) "callable_iterator" := ⟨_, ho, rfl⟩
  unfold pyNext
  refine wpAny_bind (wpAny_attempt (wpAny_callSpecial?_slot (name := Str.ofString "__next__") hT slot_calliter_next (wpAny_call_entry slot_calliter_next hT entry_calliter_next ?_ (args_calliter_next _))))
  show wpAny _ _ (field (.ref it) 2 >>= _) _ _ s
  refine wpAny_bind (wpAny_field ho rfl (x := .bool false) rfl ?_)
  show wpAny _ _ (if (Value.bool false == Value.bool true) = true then _ else _) _ _ s
  rw [if_neg (by decide)]
  show wpAny _ _ (field (.ref it) 0 >>= _) _ _ s
  refine wpAny_bind (wpAny_field ho rfl (x := .ref q) rfl ?_)
  show wpAny _ _ ((callOutOfASlot (.ref q)).attempt >>= _) _ _ s
  refine wpAny_bind (wpAny_attempt ?_)
  unfold callOutOfASlot
  refine wpAny_bind (borrows_meth hq hf hd ?_)
  rw [if_pos rfl]
  refine callBorrowed_of (method_call hq (codeAny_mono hc fun r s' h => ?_))
  rcases r with e | (v | _ | _ | _) <;> try exact h.elim
  obtain ⟨x, t, rfl, ho', hq', hf', h1, h2⟩ := h
  show wpAny _ _ (field (.ref it) 2 >>= _) _ _ s'
  refine wpAny_bind (wpAny_field ho' rfl (x := .bool false) rfl ?_)
  show wpAny _ _ (if (Value.bool false == Value.bool true) = true then _ else _) _ _ s'
  rw [if_neg (by decide)]
  show wpAny _ _ (field (.ref it) 1 >>= _) _ _ s'
  refine wpAny_bind (wpAny_field ho' rfl (x := .str emp t0) rfl ?_)
  refine wpAny_bind (wpAny_holding (PyProof.Rows.eqBool_str ?_))
  by_cases hx : x = emp
  · subst hx
    have e1 : (emp == emp) = true := by decide
    rw [e1]
    show wpAny _ _ ((rule "callable_iterator.__next__.sentinel") >>= _) _ _ s'
    refine wpAny_bind (wpAny_rule (wpAny_bind ?_))
    show wpAny _ _ (field (.ref it) 0 >>= _) _ _ s'
    refine wpAny_bind (wpAny_field ho' rfl (x := .ref q) rfl ?_)
    show wpAny _ _ (slotLetsGo _ (.ref q) _ >>= _) _ _ s'
    refine wpAny_bind ?_
    unfold slotLetsGo
    refine wpAny_bind (borrows_meth hq' hf' hd ?_)
    rw [if_pos rfl]
    refine wpAny_pure ?_
    show wpAny _ _ (setField (.ref it) 0 .none >>= _) _ _ s'
    refine wpAny_bind (wpAny_setField ho' rfl (by simp) ?_)
    have g1 : (s'.heap.update it (Obj.mapFields fun xs => xs.setIfInBounds 0 .none)).get? it = some { cls := .type "callable_iterator", data := .fields #[.none, .str emp t0, .bool false] } := Heap.get?_update_self _ ho' rfl
    show wpAny _ _ (setField (.ref it) 1 .none >>= _) _ _ _
    refine wpAny_bind (wpAny_setField g1 rfl (by simp) ?_)
    have g2 : ((s'.heap.update it (Obj.mapFields fun xs => xs.setIfInBounds 0 .none)).update it (Obj.mapFields fun xs => xs.setIfInBounds 1 .none)).get? it = some { cls := .type "callable_iterator", data := .fields #[.none, .none, .bool false] } := Heap.get?_update_self _ g1 rfl
    show wpAny _ _ (setField (.ref it) 2 (.bool true)) _ _ _
    refine wpAny_setField g2 rfl (by simp) ?_
    have g3 : (((s'.heap.update it (Obj.mapFields fun xs => xs.setIfInBounds 0 .none)).update it (Obj.mapFields fun xs => xs.setIfInBounds 1 .none)).update it (Obj.mapFields fun xs => xs.setIfInBounds 2 (.bool true))).get? it = some citE := Heap.get?_update_self _ g2 rfl
    refine stop_raise hh fun e h' hk ht => ?_
    refine wpAny_bind (wpAny_isInstance ht isSubtype_stop (wpAny_pure (h2 rfl h' (fun b o hb e => hk b o ?_) (hk _ _ g3))))
    exact (Heap.SameBut.update ..).extBut b o hb ((Heap.SameBut.update ..).extBut b o hb ((Heap.SameBut.update ..).extBut b o hb e))
  · have e1 : (emp == x) = false := by simpa using Ne.symm hx
    rw [e1]
    exact wpAny_pure ⟨_, rfl, wpAny_pure (h1 hx)⟩
theorem cit_ended {it : Addr} {Q : Option Value → Shared → Prop} (hh : A.handled = none) (ho : s.heap.get? it = some citE) (h : ∀ h', (∀ b o, s.heap.get? b = some o → h'.get? b = some o) → Q none { s with heap := h' }) : wpAny (model prog w) A (pyNext (.ref it)) Q E s := by
  have hT : s.TypeIs (.ref it) "callable_iterator" := ⟨_, ho, rfl⟩
  unfold pyNext
  refine wpAny_bind (wpAny_attempt (wpAny_callSpecial?_slot (name := Str.ofString "__next__") hT slot_calliter_next (wpAny_call_entry slot_calliter_next hT entry_calliter_next ?_ (args_calliter_next _))))
  show wpAny _ _ (field (.ref it) 2 >>= _) _ _ s
  refine wpAny_bind (wpAny_field ho rfl (x := .bool true) rfl ?_)
  show wpAny _ _ (if (Value.bool true == Value.bool true) = true then _ else _) _ _ s
  rw [if_pos (by decide)]
  refine wpAny_bind (wpAny_rule ?_)
  refine wpAny_bind (stop_raise hh fun e h' hk ht => ?_)
  exact wpAny_bind (wpAny_isInstance ht isSubtype_stop (wpAny_pure (h h' hk)))
theorem kind_iter : builtinKind "iter" = none := by decide +kernel
theorem plain_iter : plainId "iter" = true := by decide +kernel
theorem entry_iter : entryFor table "iter" = some Builtin.«iter» := entryFor_of_tree (by kernel_rfl)
theorem args_iter_2 (a b : Value) : argsOk "iter" ⟨[a, b], []⟩ := by unfold argsOk; kernel_rfl
theorem call_iter2 {q f : Addr} {self sen : Value} {Q : Value → Shared → Prop} (hq : s.heap.get? q = some (methodObj (.ref f) self)) (h : Q (.ref s.heap.objs.size) { s with heap := s.heap.push (citO (.ref q) sen) }) : wpAny (model prog w) A (call (.builtin "iter") [.ref q, sen]) Q E s := by
  refine Calls.call_function_entry kind_iter plain_iter entry_iter (args_iter_2 _ _) ?_
  unfold Builtin.«iter»
  refine wpAny_bind (wpAny_of_eq (a := [.ref q, sen]) (by first | rfl | kernel_rfl) ?_)
  dsimp only
  refine wpAny_bind (wpAny_specialOf (T := "method") (r := some (.builtin "method.__call__")) ⟨_, hq, rfl⟩ (by rw [typeLookup_type, builtinLookup_eq_fast]; kernel_rfl) ?_)
  rw [if_neg (by decide)]
  exact wpAny_bind (wpAny_rule (wpAny_bind (wpAny_newObj_type (wpAny_pure ⟨_, rfl, h⟩) (by size_fits))))
end
end Mine
end
section
open PySem PySem.W PySem.Calls PySem.Builtin
set_option Elab.async false
set_option maxRecDepth 100000
namespace Mine
/-- an object that is known, or of the ledger -/
noncomputable def At (g : Mp) (W : List (Addr × Obj)) (a : Addr) (o : Obj) : Prop := g a = some o ∨ (a, o) ∈ W
section
variable {g : Mp} {s₀ : Shared} {T : List Addr} {env : Env} {m : Str → Option Value} {W : List (Addr × Obj)} {s : Shared}
theorem At.get {a : Addr} {o : Obj} (h : At g W a o) (I : Inv g s₀ T env m W s) : s.heap.get? a = some o := h.elim (I.keep _ _) (I.led _)
/-- the ledger behind a call that changed some of it -/
theorem Inv.upd (I : Inv g s₀ T env m W s) {Tc : List Addr} {W' : List (Addr × Obj)} {s' : Shared} (k : ∀ b o, s.heap.get? b = some o → b ∉ Tc → s'.heap.get? b = some o) (hT : ∀ a ∈ Tc, ∃ o, (a, o) ∈ W)
    (hk : W'.map (·.1) = W.map (·.1)) (hW : ∀ p ∈ W', s'.heap.get? p.1 = some p.2) (same : ∃ h tk, s' = { s with heap := h, toks := tk }) : Inv g s₀ T env m W' s' := by
  have key : ∀ p ∈ W', ∃ o, (p.1, o) ∈ W := fun p hp => by
    have : p.1 ∈ W.map (·.1) := hk ▸ List.mem_map_of_mem hp
    obtain ⟨q, hq, e⟩ := List.mem_map.mp this
    exact ⟨q.2, by rw [← e]; exact hq⟩
  have off : ∀ a, g a ≠ none → a ∉ Tc := fun a ha hm => by
    obtain ⟨o, ho⟩ := hT a hm
    exact ha (I.offW _ ho).1
  exact
  { eo := I.eo
    ns := let ⟨md, hn, b⟩ := I.ns; ⟨md, hn.at' (fun ob e => k _ ob e fun hm => by obtain ⟨o, ho⟩ := hT _ hm; exact I.offL.2.2 _ ho rfl), b⟩
    cell := fun q hq => let ⟨oc, ho, hd⟩ := I.cell q hq; ⟨oc, k _ _ ho fun hm => by obtain ⟨o, ho⟩ := hT _ hm; exact (I.offC q hq).2 _ ho rfl, hd⟩
    led := hW
    nd := pw_keys I.nd hk
    keep := fun a o e => k _ _ (I.keep a o e) (off a (by rw [e]; simp))
    keep0 := fun a o e ht => k _ _ (I.keep0 a o e ht) fun hm => by
      obtain ⟨o', ho⟩ := hT _ hm
      rcases (I.offW _ ho).2 with h | h
      · exact ht h
      · dsimp only at h; rw [h] at e; cases e
    offL := ⟨I.offL.1, I.offL.2.1, fun p hp => by obtain ⟨o, ho⟩ := key p hp; exact I.offL.2.2 (p.1, o) ho⟩
    offC := fun q hq => ⟨(I.offC q hq).1, fun p hp => by obtain ⟨o, ho⟩ := key p hp; exact (I.offC q hq).2 (p.1, o) ho⟩
    offW := fun p hp => by obtain ⟨o, ho⟩ := key p hp; exact I.offW (p.1, o) ho
    same := by
      obtain ⟨h, tk, e⟩ := I.same
      obtain ⟨h', tk', e'⟩ := same
      subst e e'; exact ⟨_, _, rfl⟩ }
theorem Inv.moreT {T' : List Addr} (I : Inv g s₀ T env m W s) (h : ∀ a ∈ T, a ∈ T') : Inv g s₀ T' env m W s :=
  { I with keep0 := fun a o e t => I.keep0 a o e fun q => t (h a q), offL := ⟨I.offL.1, I.offL.2.1.imp (h _) id, I.offL.2.2⟩, offW := fun p hp => ⟨(I.offW p hp).1, (I.offW p hp).2.imp (h _) id⟩ }
theorem CW.moreT {T' : List Addr} (c : CW env s₀ T) (h : ∀ a ∈ T, a ∈ T') : CW env s₀ T' := fun q hq => (c q hq).imp (h _) id
end
theorem putL_len (name : Str) (hsh : Int) (key v : Value) : ∀ es : List DictEntry, (putL name hsh key v es).length ≤ es.length + 1
  | [] => by simp [putL]
  | e :: r => by
    have := putL_len name hsh key v r
    unfold putL
    split
    · simp
    · simp only [List.length_cons]; (first | lia | omega)
section
variable {prog : Program} {w : World} {A : Around} {E : Value → Shared → Prop} {g : Mp} {s₀ : Shared} {T : List Addr} {env : Env} {m : Str → Option Value} {W : List (Addr × Obj)} {s : Shared} {K : Frag} {x dx C : Addr} {es : List DictEntry} {n : Nat} {name : Str} {v : Value}
theorem inst_at {h : Heap} (h1 : h.get? x = some (instObj C dx)) (h2 : h.get? dx = some (dictOf es n)) : PySem.W.InstAt h x (instObj C dx) C (some (dictOf es n)) := ⟨h1, rfl, rfl, h2⟩
theorem Bs.inK (b : Bs K g) (I : Inv g s₀ T env m W s) : K.In s.heap := fun a o e => I.keep _ _ (b.k a o e)
theorem o_get {expr : Bool} {attr : Option Value} {Q : Value → Shared → Prop} (I : Inv g s₀ T env m W s) (b : Bs K g) (hx : At g W x (instObj C dx)) (hd : At g W dx (dictOf es n)) (hg : plainGet K C name = true) (hh : hasDictIn K C = true)
    (ha : findIn K (.ref C) name = some attr) (hn : noGet K attr = true) (hl : getL name es = some (some v)) (hv : handedIn v = true) (h : ∀ s', Inv g s₀ T env m W s' → Q v s') : wpAny (model prog w) A (getAttr (.ref x) name expr) Q E s :=
  get_value (b.inK I) (inst_at (hx.get I) (hd.get I)) (plainGet_of hg).1 (findObj_own hh ha hn hl) hv (h _ (I.tok _))
theorem o_meth {f : Addr} {pl : Sem Bool} {Q : Value × List Value → Shared → Prop} (I : Inv g s₀ T env m W s) (b : Bs K g) (hx : At g W x (instObj C dx)) (hd : At g W dx (dictOf es n)) (hg : plainGet K C name = true)
    (hf : findIn K (.ref C) name = some (some (.ref f))) (ht : isFn K (.ref f) = true) (hl : getL name es = some none) (h : Q (.ref f, [.ref x]) s) : wpAny (model prog w) A (getMethod (.ref x) name pl) Q E s :=
  method_fn (b.inK I) (inst_at (hx.get I) (hd.get I)) (plainGet_of hg).1 (plainGet_of hg).2 hf (beq_iff_eq.mp ht) (by show (lookIn name (dictOf es n)).map _ = _; rw [lookIn_dict, hl]; rfl) h
theorem o_bound {f : Addr} {expr : Bool} {Q : Value → Shared → Prop} (I : Inv g s₀ T env m W s) (b : Bs K g) (hx : At g W x (instObj C dx)) (hd : At g W dx (dictOf es n)) (hg : plainGet K C name = true) (hh : hasDictIn K C = true)
    (ha : findIn K (.ref C) name = some (some (.ref f))) (hf : isFn K (.ref f) = true) (hgf : specialIn K (.ref f) "__get__" = some (some (.builtin "function.__get__"))) (ht : takesIn K (.ref f) = some false) (hc : copiedNames.contains name = false)
    (hl : getL name es = some none) (h : ∀ q s', Inv g s₀ T env m ((q, methodObj (.ref f) (.ref x)) :: W) s' → Q (.ref q) s') : wpAny (model prog w) A (getAttr (.ref x) name expr) Q E s :=
  get_bind (b.inK I) (inst_at (hx.get I) (hd.get I)) (plainGet_of hg).1 (findObj_fn hh ha hgf ht hc (by show lookIn name (dictOf es n) = _; rw [lookIn_dict, hl])) (plainGet_of hg).2
    (wpAny_call (fn_get (s := { s with toks := s.toks + 1 }) (b.inK (I.tok (s.toks + 1))) (beq_iff_eq.mp hf) (by
      show wpAny _ _ (handedOut (.ref _)) _ _ _
      rw [handedOut_of rfl]
      exact wpAny_pure (h _ _ ((I.tok (s.toks + 1)).alloc)))))
theorem o_set {f : Obj → List (Addr × Obj)} {Q : Unit → Shared → Prop} (I : Inv g s₀ T env m W s) (b : Bs K g) (hx : At g W x (instObj C dx)) (S : Sel dx (dictOf es n) W f)
    (hs : findIn K (.ref C) "__setattr__" = some (some (.builtin "object.__setattr__"))) (hp : plainOver K C = true) (ht : takerIn K C name = some none) (hh : hasDictIn K C = true) (hl : (getL name es).isSome = true)
    (hz : es.length ≤ 900) (h : ∀ tk s', Inv g s₀ T env m (f (dictOf (putL name (PyData.keyHash w.params name) (.str name tk) v es) (putN name es n))) s' → Q () s') : wpAny (model prog w) A (setAttr (.ref x) name v) Q E s := by
  have X := b.inK I
  have D := I.led _ S.mem
  refine set_plain X (inst_at (hx.get I) D) hs ?_
  refine osa_open (s := { s with toks := s.toks + 1 }) X (inst_at (n := n) (hx.get (I.tok (s.toks + 1))) D) hp ht fun bb => ?_
  obtain ⟨cd, hc, hd'⟩ := any_some hh
  have hxx := hx.get I
  refine wpAny_bind (wpAny_pure (wpAny_bind (wpAny_bind (wpAny_loadPart hxx (wpAny_bind (looks_clsIn (M := model prog w) X hc _ _ _ _ (fun _ _ e => e) ?_))))))
  rw [hd']
  refine wpAny_pure (a := some dx) (wpAny_bind (wpAny_pure (wpAny_bind ?_)))
  unfold nsSet
  refine wpAny_bind (wpAny_bind (wpAny_askSetting (wpAny_pure (wpAny_bind (wpAny_mkText (wpAny_bind (wpAny_loadPart D ?_)))))))
  have c : (!es.toArray.any (·.key.isStr name) && es.toArray.any (·.refKey)) = false := by
    unfold getL at hl
    rw [← Array.any_toList, ← Array.any_toList]
    split at hl
    · rename_i en he
      rw [List.any_eq_true.mpr ⟨en, List.mem_of_find?_eq_some he, List.find?_some he⟩]; rfl
    · split at hl
      · cases hl
      · rename_i z; rw [Bool.not_eq_true] at z
        show (!_ && es.any _) = false
        rw [z, Bool.and_false]
  dsimp only
  rw [aRefKeyMayBeTheName_at, c]
  refine wpAny_updatePart D ?_
  have e1 : Obj.putName name (PyData.keyHash w.params name) (.str name (s.toks + 1)) v (dictOf es n) = dictOf (putL name (PyData.keyHash w.params name) (.str name (s.toks + 1)) v es) (putN name es n) := putName_dict ..
  have D' : (s.heap.update dx (Obj.putName name (PyData.keyHash w.params name) (.str name (s.toks + 1)) v)).get? dx = some (dictOf (putL name (PyData.keyHash w.params name) (.str name (s.toks + 1)) v es) (putN name es n)) := by
    rw [Heap.get?_update_self _ D (by rw [e1]; rfl), e1]
  have len := putL_len name (PyData.keyHash w.params name) (.str name (s.toks + 1)) v es
  refine wpAny_bind (wpAny_lookBehind D' (pastItsLine_dict (by rw [List.size_toArray, sizeLine_eq]; (first | lia | omega))) ?_)
  refine wpAny_pure ?_
  exact h _ _ (I.chg S (fun b ob hb e => (Heap.SameBut.update ..).extBut b ob hb e) D')
end
end Mine
end
section
open PySem PySem.W PySem.Calls PySem.Builtin PySem.Builtin.ObjectAttr
set_option Elab.async false
set_option maxRecDepth 100000
namespace Mine
theorem Room.under {A : Around} {n : Nat} (r : Room A (n + 1)) (C : Addr) (vals : List Value) : Room (A.under (.builtin "type.__call__" ⟨.ref C :: vals, []⟩)) n := ⟨r.hand, by have := r.depth; show A.depth + 1 + n < _; (first | lia | omega), by have := r.units; show A.units + 1 + 10 * n < _; (first | lia | omega)⟩
theorem Room.in1 {A : Around} {n : Nat} (r : Room A (n + 1)) : Room A.in1 n := ⟨r.hand, by have := r.depth; show A.depth + n < _; (first | lia | omega), by have := r.units; show A.units + 1 + 10 * n < _; (first | lia | omega)⟩
theorem slot_fn_sa : Slot "function" "__setattr__" "object.__setattr__" :=
  .of (owner := "object") (n := "__setattr__") (by rw [typeLookup_type, builtinLookup_eq_fast]; kernel_rfl) (by decide +kernel) (by decide +kernel) (by decide +kernel)
    (by first | exact .inl (by decide +kernel) | exact .inr (by decide +kernel)) (by rw [isSubtype_type]; kernel_rfl)
theorem slot_fn_ga : Slot "function" "__getattribute__" "object.__getattribute__" :=
  .of (owner := "object") (n := "__getattribute__") (by rw [typeLookup_type, builtinLookup_eq_fast]; kernel_rfl) (by decide +kernel) (by decide +kernel) (by decide +kernel)
    (by first | exact .inl (by decide +kernel) | exact .inr (by decide +kernel)) (by rw [isSubtype_type]; kernel_rfl)
theorem mro_fn : mroOf (.type "function") = pure [.type "function", .type "object"] := by kernel_rfl
theorem passes_fn (self : Value) : refuseLoop self "__setattr__" [.type "function", .type "object"] = pure () := by kernel_rfl
theorem fn_no_read : typeLookup (.type "function") (Str.ofString "read") = pure none := by rw [typeLookup_type, builtinLookup_eq_fast]; kernel_rfl
theorem fn_no_hook : typeLookup (.type "function") (Str.ofString "__getattr__") = pure none := by rw [typeLookup_type, builtinLookup_eq_fast]; kernel_rfl
theorem entry_oga : entryFor table "object.__getattribute__" = some Builtin.«object.__getattribute__» := entryFor_of_tree (by kernel_rfl)
theorem args_oga (a b : Value) : argsOk "object.__getattribute__" ⟨[a, b], []⟩ := by unfold argsOk; kernel_rfl
section
variable {prog : Program} {w : World} {A : Around} {E : Value → Shared → Prop} {g : Mp} {s₀ : Shared} {T : List Addr} {env : Env} {m : Str → Option Value} {W : List (Addr × Obj)} {s : Shared} {K : Frag} {C : Addr}
/-- a new one is made -/
theorem r_new {fI : Addr} {vals : List Value} {Q : Value → Shared → Prop} (I : Inv g s₀ T env m W s) (b : Bs K g) (hm : makesIn K C = true) (hi : findIn K (.ref C) "__init__" = some (some (.ref fI))) (hf : isFn K (.ref fI) = true)
    (h : ∀ x dx s', Inv g s₀ T env m ((x, instObj C dx) :: (dx, dictOf [] 0) :: W) s' → codeAny (model prog w) (A.under (.builtin "type.__call__" ⟨.ref C :: vals, []⟩)) (.call (.ref fI) ⟨.ref x :: vals, []⟩) (RV fun v s'' => v = .none ∧ Q (.ref x) s'') s') :
    wpAny (model prog w) A (call (.ref C) vals) Q E s := by
  have X := b.inK I
  have I2 := (I.alloc (o := dictOf [] 0) rfl).alloc (o := instObj C s.heap.objs.size) rfl
  obtain ⟨hh, gg, d, t, os⟩ := s
  refine of_code (make_core (makes_of X hm) (looks_findIn X hi) (fun self => bind_fn X self (beq_iff_eq.mp hf)) (.inl rfl) ?_)
  refine codeAny_mono (h (hh.objs.size + 1) hh.objs.size _ ?_) fun r s' z => ?_
  · simpa [Heap.size_push] using I2
  · rcases r with e | (v | _ | _ | _) <;> first | exact z.elim | exact z
/-- a first attribute of a function -/
theorem f_set {F : Addr} {fd : FuncData} {v : Value} {Q : Unit → Shared → Prop} (I : Inv g s₀ T env m ((F, { cls := .type "function", data := .func fd }) :: W) s)
    (h : ∀ D tk s', Inv g s₀ T env m ((D, dictOf [⟨PyData.keyHash w.params (Str.ofString "read"), .str (Str.ofString "read") tk, v⟩] 1) :: (F, { cls := .type "function", dict := some D, data := .func fd }) :: W) s' → Q () s') :
    wpAny (model prog w) A (setAttr (.ref F) (Str.ofString "read") v) Q E s := by
  have hF := I.led _ (.head _)
  dsimp only at hF
  have hT : s.TypeIs (.ref F) "function" := ⟨_, hF, rfl⟩
  have hT' : ({ s with toks := s.toks + 1 } : Shared).TypeIs (.ref F) "function" := ⟨_, hF, rfl⟩
  unfold setAttr
  refine wpAny_bind (wpAny_mkText (wpAny_bind ?_))
  refine wpAny_callSpecial?_slot hT' slot_fn_sa ?_
  refine wpAny_call_entry slot_fn_sa hT' PySem.F.entry_object_sa ?_ (PySem.F.store_object.args _ _ _)
  rw [osa_eq, refuse_eq]
  refine wpAny_bind (wpAny_bind (wpAny_typeOf hT' (wpAny_bind (wpAny_of_eq mro_fn ?_))))
  rw [passes_fn]
  refine wpAny_pure (wpAny_bind (wpAny_typeOf hT' (wpAny_bind (wpAny_of_eq fn_no_read (wpAny_bind (wpAny_pure ?_))))))
  have Dn : (s.heap.push emptyDict).get? s.heap.objs.size = some emptyDict := Heap.get?_push_size _ rfl
  have F1 : (s.heap.push emptyDict).get? F = some { cls := .type "function", data := .func fd } := Heap.get?_push_of_some _ hF
  have hne : F ≠ s.heap.objs.size := Nat.ne_of_lt (Heap.lt_size hF)
  have F2 : ((s.heap.push emptyDict).update F fun o => { o with dict := some s.heap.objs.size }).get? F = some { cls := .type "function", dict := some s.heap.objs.size, data := .func fd } := Heap.get?_update_self _ F1 rfl
  have D2 : ((s.heap.push emptyDict).update F fun o => { o with dict := some s.heap.objs.size }).get? s.heap.objs.size = some emptyDict := (Heap.SameBut.update ..).extBut _ _ (Ne.symm hne) Dn
  refine wpAny_bind (wpAny_pure (wpAny_bind (wpAny_bind (wpAny_loadPart hF ?_))))
  dsimp only
  rw [if_neg (by decide)]
  refine wpAny_bind (wpAny_alloc (wpAny_bind (wpAny_update F1 ?_)))
  refine wpAny_pure (wpAny_bind (wpAny_pure (wpAny_bind ?_)))
  unfold nsSet
  refine wpAny_bind (wpAny_bind (wpAny_askSetting (wpAny_pure (wpAny_bind (wpAny_mkText (wpAny_bind (wpAny_loadPart D2 ?_)))))))
  dsimp only
  rw [aRefKeyMayBeTheName_at, if_neg (by simp)]
  refine wpAny_updatePart D2 ?_
  have e1 : ∀ tk, Obj.putName (Str.ofString "read") (PyData.keyHash w.params (Str.ofString "read")) (.str (Str.ofString "read") tk) v emptyDict = dictOf [⟨PyData.keyHash w.params (Str.ofString "read"), .str (Str.ofString "read") tk, v⟩] 1 := fun tk => by
    rw [show emptyDict = dictOf [] 0 from rfl, putName_dict]; rfl
  have D3 := Heap.get?_update_self (Obj.putName (Str.ofString "read") (PyData.keyHash w.params (Str.ofString "read")) (.str (Str.ofString "read") (s.toks + 1)) v) D2 (by rw [e1]; rfl)
  rw [e1] at D3
  refine wpAny_bind (wpAny_lookBehind D3 (pastItsLine_dict (by simp)) ?_)
  refine wpAny_pure ⟨_, rfl, ?_⟩
  refine wpAny_pure (h s.heap.objs.size (s.toks + 1) _ ?_)
  have J := (I.alloc (o := emptyDict) rfl).swap12
  have J2 := J.chg (o' := { cls := .type "function", dict := some s.heap.objs.size, data := .func fd }) (tk := s.toks) Sel.head (fun b ob hb e => (Heap.SameBut.update ..).extBut b ob hb e) F2
  exact J2.swap12.chg (tk := s.toks + 1 + 1) Sel.head (fun b ob hb e => (Heap.SameBut.update ..).extBut b ob hb e) D3
/-- a function's own attribute -/
theorem f_attr {F D : Addr} {fd : FuncData} {v : Value} {tk : Tok} {hk : Int} {n : Nat} {pl : Sem Bool} {Q : Value × List Value → Shared → Prop} (I : Inv g s₀ T env m W s) (hF : At g W F { cls := .type "function", dict := some D, data := .func fd }) (hD : At g W D (dictOf [⟨hk, .str (Str.ofString "read") tk, v⟩] n))
    (hv : handedIn v = true) (h : ∀ s', Inv g s₀ T env m W s' → Q (v, []) s') : wpAny (model prog w) A (getMethod (.ref F) (Str.ofString "read") pl) Q E s := by
  have eF := hF.get I
  have eD := hD.get I
  have hT : s.TypeIs (.ref F) "function" := ⟨_, eF, rfl⟩
  have hT' : ({ s with toks := s.toks + 1 } : Shared).TypeIs (.ref F) "function" := ⟨_, eF, rfl⟩
  unfold getMethod
  refine wpAny_bind (wpAny_specialOf hT slot_fn_ga.lookup ?_)
  dsimp only
  rw [PySem.F.canon_object_ga, if_neg (by decide)]
  refine wpAny_bind (wpAny_specialOf hT fn_no_hook ?_)
  rw [if_neg (by decide)]
  refine wpAny_bind (wpAny_specialOf hT fn_no_read ?_)
  dsimp only
  refine wpAny_bind ?_
  unfold getAttr getAttrBy
  refine wpAny_bind (wpAny_mkText (wpAny_holding (wpAny_bind (wpAny_typeOf hT' (wpAny_bind (wpAny_of_eq slot_fn_ga.lookup ?_))))))
  dsimp only
  rw [if_neg (by simp [onTheHeap])]
  unfold getAttrByItsOwn hookBefore
  rw [if_neg (by simp [onTheHeap])]
  refine wpAny_bind (wpAny_pure (wpAny_bind (wpAny_attempt (wpAny_holding ?_))))
  unfold callGetattribute
  rw [if_neg (by simp [onTheHeap])]
  unfold boundAndCalled
  rw [slot_fn_ga.bind]
  refine wpAny_bind (wpAny_pure ?_)
  refine wpAny_call_entry slot_fn_ga hT' entry_oga ?_ (args_oga _ _)
  unfold Builtin.«object.__getattribute__»
  refine wpAny_bind (wpAny_of_eq (a := (.ref F, [.str (Str.ofString "read") s.toks])) (by first | rfl | kernel_rfl) ?_)
  dsimp only
  refine wpAny_bind (wpAny_of_eq (a := Str.ofString "read") (by first | rfl | kernel_rfl) ?_)
  refine wpAny_bind (wpAny_typeOf hT' (wpAny_bind ?_))
  unfold find
  refine wpAny_bind (wpAny_of_eq fn_no_read (wpAny_bind (wpAny_pure (wpAny_bind (wpAny_pure ?_)))))
  dsimp only
  unfold ownThenClass inOwnDict
  dsimp only
  refine wpAny_bind (wpAny_bind ?_)
  unfold ObjectAttr.ownDict
  refine wpAny_bind (wpAny_loadPart eF ?_)
  dsimp only
  unfold instanceDict
  refine wpAny_bind (wpAny_loadPart eF (wpAny_pure ?_))
  unfold inDict
  refine wpAny_bind (wpAny_loadPart eD ?_)
  rw [nsLook_of (r := some v) (by rw [lookIn_dict]; unfold getL; simp [Value.isStr])]
  refine wpAny_pure (wpAny_bind (wpAny_rule (wpAny_pure ?_)))
  refine wpAny_pure ⟨_, rfl, ?_⟩
  rw [handedOut_of hv]
  exact wpAny_pure (wpAny_pure (h _ (I.tok _)))
end
end Mine
end
section
open PySem PySem.W PySem.Calls PySem.Builtin
set_option Elab.async false
set_option maxRecDepth 100000
namespace Mine
structure Bm (g : Mp) : Prop where
  of : ∃ mg bm ob, NsM g mainGlobals mg ∧ mg "__builtins__" = some (.ref bm) ∧ bm ≠ builtinsNs ∧ g bm = some ob ∧ ob.cls = .type "module" ∧ ob.dict = some builtinsNs ∧ ob.data = .plain
theorem Bm.mono {g g' : Mp} (b : Bm g) (le : g.Le g') : Bm g' := let ⟨mg, bm, ob, a, c, d, e, f⟩ := b.of; ⟨mg, bm, ob, a.mono le, c, d, le _ _ e, f⟩
section
variable {prog : Program} {w : World} {A : Around} {g : Mp} {s : Shared} {K : Frag}
/-- a def of the text is called (as code) -/
theorem r_callA {f : Addr} {fd : FuncData} {body : List Stmt} {vals : List Value} {binds : List (Str × Value)} {names : List Str} {oc : Value} {od : Option Addr} {osl : Array (Option Value)} {n : Nat} {Q : Value → Shared → Prop}
    (r : Room A n) (b : Bs K g) (hg : ∀ a o, g a = some o → s.heap.get? a = some o) (ho : K.lookup f = some ⟨oc, od, .func fd, osl⟩) (hcd : codeIn K fd.code fd.qualname = true) (hbody : fd.body = .stmts body)
    (hbind : bindArgs fd ⟨vals, []⟩ = pure binds) (hclo : fd.closure = []) (hn : binds.map (·.1) = names)
    (hkind : (names.all fun y => fd.scope.names.lookup y == some .local || fd.scope.names.lookup y == some .cell) = true) (hnn : names.Nodup) (hcn : ((cellsFrom 0 fd.scope.names []).map (·.1)).Nodup)
    (hck : (((cellsFrom 0 fd.scope.names []).map (·.1)).all fun q => fd.scope.names.lookup q != some .local) = true)
    (h : ∀ L s₁, Inv g s [] (callEnvC fd L f) (fun x => binds.lookup x) [] s₁ → CW (callEnvC fd L f) s [] →
      wpAny (model prog w) (A.deeper (callEnvC fd L f)) (execs body (callEnvC fd L f)) (fun fl s' => Q (retV fl) s') NoE s₁)
    (hco : fd.scope.isCoroutine = false := by rfl) (hgen : fd.scope.isGenerator = false := by rfl) (hk : fd.scope.kind = .function := by rfl) :
    codeAny (model prog w) A (.call (.ref f) ⟨vals, []⟩) (RV Q) s := by
  obtain ⟨mc, hmc, hl⟩ := b.lim
  have hX : K.In s.heap := fun a o e => hg _ _ (b.k a o e)
  refine codeAny_call_cells (by have := r.depth; (first | lia | omega)) (hX _ _ ho) rfl ⟨mc, hmc.at hg, hl⟩ (codeRec_of hX hcd) hbody hbind hclo ?_ (fun s₁ x => ?_) hco hgen hk
  · intro y hy
    have hm : y.1 ∈ names := hn ▸ List.mem_map_of_mem hy
    have := List.all_eq_true.mp hkind _ hm
    rcases Bool.or_eq_true_iff.mp this with q | q
    · exact .inl (by simpa using q)
    · have q' : fd.scope.names.lookup y.1 = some .cell := by simpa using q
      exact .inr ⟨q', cellsFrom_some _ _ _ (.inl q')⟩
  · have hfst : (callEnvC fd s.heap.objs.size f).cells.map (·.1) = (cellsFrom 0 fd.scope.names []).map (·.1) := cellsFrom_fst _ _ _ _ _ rfl
    have hcn' : ((callEnvC fd s.heap.objs.size f).cells.map (·.1)).Nodup := hfst ▸ hcn
    have hkd : ∀ y, (callEnvC fd s.heap.objs.size f).kindOf y = fd.scope.names.lookup y := fun _ => rfl
    have hck' : ∀ q ∈ (callEnvC fd s.heap.objs.size f).cells, (callEnvC fd s.heap.objs.size f).kindOf q.1 ≠ some .local := fun q hq => by
      have hm : q.1 ∈ (cellsFrom 0 fd.scope.names []).map (·.1) := hfst ▸ List.mem_map_of_mem hq
      have := List.all_eq_true.mp hck _ hm
      simpa [hkd] using this
    have hnd : (binds.map (·.1)).Nodup := hn ▸ hnn
    have hLe : ∀ a o, s.heap.get? a = some o → s₁.heap.get? a = some o := x.toInCall.keep
    have newOf : ∀ a, s.heap.objs.size ≤ a → s.heap.get? a = none := fun a ha => by
      cases e : s.heap.get? a with
      | none => rfl
      | some o => exact absurd (Heap.lt_size e) (Nat.not_lt.mpr ha)
    have offOf : ∀ a, s.heap.get? a = none → g a = none := fun a ha => by
      cases e : g a with
      | none => rfl
      | some o => rw [hg _ _ e] at ha; cases ha
    have hL : (callEnvC fd s.heap.objs.size f).locals = s.heap.objs.size := rfl
    refine wpAny_mono (h s.heap.objs.size s₁ ?_ ?_) (fun fl s' hq => by cases fl <;> exact hq) fun _ _ e => e.elim
    · refine { eo := ⟨hk, x.apart, ?_, ?_, hck'⟩, ns := ⟨_, x.toInCall.ns, fun y hy => ?_⟩, cell := fun q hq => ?_, led := fun _ hp => (nomatch hp), nd := .nil, keep := fun a o e => hLe _ _ (hg _ _ e), keep0 := fun a o e _ => hLe _ _ e,
               offL := ⟨offOf _ (newOf _ (Nat.le_refl _)), .inr (newOf _ (Nat.le_refl _)), fun _ hp => (nomatch hp)⟩, offC := fun q hq => ⟨offOf _ (newOf _ (Nat.le_of_lt (x.above q.1 q.2 hq))), fun _ hp => (nomatch hp)⟩, offW := fun _ hp => (nomatch hp),
               same := let ⟨h1, tk, e⟩ := x.toInCall.same; ⟨h1, tk, e⟩ }
      · exact List.pairwise_map.mp hcn'
      · intro q hq; exact Nat.ne_of_gt (x.above q.1 q.2 hq)
      · rw [bindL_lookup hy _ _ hnd]; simp
      · have hlk : (callEnvC fd s.heap.objs.size f).cells.lookup q.1 = some q.2 := PyProof.Rows.lookup_of_mem_nodup hcn' hq
        have := x.cell q.1 q.2 hlk
        rw [bindC_lookup (hck' q hq) _ _ hnd] at this
        simpa using this
    · intro q hq
      exact .inr (newOf _ (Nat.le_of_lt (x.above q.1 q.2 hq)))
theorem r_defA {f : Addr} {fd : FuncData} {body : List Stmt} {l : List (Str × NameKind)} {ps : List Str} (F : Fn K f fd l ps body) {vals : List Value} {n : Nat} {Q : Value → Shared → Prop}
    (r : Room A n) (b : Bs K g) (hg : ∀ a o, g a = some o → s.heap.get? a = some o) (hlen : vals.length = ps.length)
    (hbind : bindArgs fd ⟨vals, []⟩ = pure (ps.zip vals))
    (h : ∀ env s₁, EnvL env l → env.code = fd.code → env.qual = fd.qualname ++ ".<locals>." → Room (A.deeper env) (n - 1) → Inv g s [] env (fun x => (ps.zip vals).lookup x) [] s₁ → CW env s [] →
      wpAny (model prog w) (A.deeper env) (execs body env) (fun fl s' => Q (retV fl) s') NoE s₁) (hn : 0 < n := by decide) :
    codeAny (model prog w) A (.call (.ref f) ⟨vals, []⟩) (RV Q) s := by
  have ok := F.ok
  unfold fnOk at ok
  simp only [Bool.and_eq_true, decide_eq_true_eq] at ok
  refine r_callA (names := ps) r b hg F.ho F.hcd F.hbody hbind F.hclo ?_ (F.hl.symm ▸ ok.1.1.1) ok.1.1.2 (F.hl.symm ▸ ok.1.2) (F.hl.symm ▸ ok.2) (fun L s₁ I cw => h _ s₁ ⟨F.hl, F.hgl, F.hbl, fun x q => ?_⟩ rfl rfl ?_ I cw) F.hco F.hgen F.hk
  · rw [List.map_fst_zip]
    (first | lia | omega)
  · exact cellsFrom_some _ _ _ (.inl (F.hl.symm ▸ q))
  · obtain ⟨k, rfl⟩ : ∃ k, n = k + 1 := ⟨n - 1, by (first | lia | omega)⟩
    exact r.deeper _
/-- a function with a closure is called -/
theorem r_defF {f : Addr} {fd : FuncData} {body : List Stmt} {l : List (Str × NameKind)} {ps : List Str} {vals : List Value} {n : Nat} {cm : Str → Option Value} {oc : Value} {od : Option Addr} {osl : Array (Option Value)} {Q : Value → Shared → Prop}
    (r : Room A n) (b : Bs K g) (hg : ∀ a o, g a = some o → s.heap.get? a = some o) (ho : s.heap.get? f = some ⟨oc, od, .func fd, osl⟩) (hcd : s.heap.CodeRec fd.code fd.qualname) (hbody : fd.body = .stmts body)
    (hlen : vals.length = ps.length) (hbind : bindArgs fd ⟨vals, []⟩ = pure (ps.zip vals)) (hl : fd.scope.names = l) (hgl : fd.globals = mainGlobals) (hbl : fd.builtins = builtinsNs)
    (hps : (ps.all fun y => l.lookup y == some .local) = true) (hpn : ps.Nodup) (hnc : (l.all fun y => y.2 != .cell) = true)
    (hcl : ∀ q ∈ fd.closure, s.heap.IsCell q.2 (cm q.1) ∧ g q.2 = none ∧ l.lookup q.1 = some .free) (hap : fd.closure.Pairwise fun x y => x.2 ≠ y.2) (hun : fd.closure.Pairwise fun x y => x.1 ≠ y.1)
    (h : ∀ env s₁, env.cells = fd.closure → EnvL env l → Room (A.deeper env) (n - 1) → Inv g s [] env (fun x => if l.lookup x = some .local then (ps.zip vals).lookup x else cm x) [] s₁ →
      wpAny (model prog w) (A.deeper env) (execs body env) (fun fl s' => Q (retV fl) s') NoE s₁) (hn : 0 < n := by decide)
    (hco : fd.scope.isCoroutine = false := by rfl) (hgen : fd.scope.isGenerator = false := by rfl) (hk : fd.scope.kind = .function := by rfl) :
    codeAny (model prog w) A (.call (.ref f) ⟨vals, []⟩) (RV Q) s := by
  subst hl
  obtain ⟨mc, hmc, hlm⟩ := b.lim
  have hzip : (ps.zip vals).map (·.1) = ps := by rw [List.map_fst_zip]; (first | lia | omega)
  have hloc : ∀ x ∈ ps.zip vals, fd.scope.names.lookup x.1 = some .local := fun x hx => by
    have hm : x.1 ∈ ps := hzip ▸ List.mem_map_of_mem hx
    simpa using List.all_eq_true.mp hps _ hm
  have hcell : ∀ x ∈ fd.scope.names, x.2 ≠ .cell := fun x hx => by simpa using List.all_eq_true.mp hnc x hx
  refine codeAny_call_def (by have := r.depth; (first | lia | omega)) ho rfl ⟨mc, hmc.at hg, hlm⟩ hcd hbody (.of_eq hbind) hcell hloc (fun h₀ hns hk₀ => ?_) hco hgen hk
  have newOf : s.heap.get? s.heap.objs.size = none := by
    cases e : s.heap.get? s.heap.objs.size with
    | none => rfl
    | some o => exact absurd (Heap.lt_size e) (Nat.lt_irrefl _)
  have offOf : g s.heap.objs.size = none := by
    cases e : g s.heap.objs.size with
    | none => rfl
    | some o => rw [hg _ _ e] at newOf; cases newOf
  have hnd : ((ps.zip vals).map (·.1)).Nodup := hzip.symm ▸ hpn
  refine wpAny_mono (h (callEnv fd s.heap.objs.size f) _ rfl ⟨rfl, hgl, hbl, fun x q => ?_⟩ ?_ ?_) (fun fl s' hq => by cases fl <;> exact hq) fun _ _ e => e.elim
  · have := mem_of_lookup q
    exact absurd rfl (hcell _ this)
  · obtain ⟨k, rfl⟩ : ∃ k, n = k + 1 := ⟨n - 1, by (first | lia | omega)⟩
    exact r.deeper _
  · refine { eo := ⟨hk, hap, hun, fun q hq e => ?_, fun q hq e => ?_⟩, ns := ⟨_, hns, fun y hy => ?_⟩, cell := fun q hq => ?_, led := fun _ hp => (nomatch hp), nd := .nil, keep := fun a o e => hk₀ _ _ (hg _ _ e), keep0 := fun a o e _ => hk₀ _ _ e,
             offL := ⟨offOf, .inr newOf, fun _ hp => (nomatch hp)⟩, offC := fun q hq => ⟨(hcl q hq).2.1, fun _ hp => (nomatch hp)⟩, offW := fun _ hp => (nomatch hp), same := ⟨_, _, rfl⟩ }
    · have := (hcl q hq).1.lt
      rw [e] at this; exact absurd this (Nat.lt_irrefl _)
    · have e' : fd.scope.names.lookup q.1 = some .local := e
      rw [(hcl q hq).2.2] at e'; cases e'
    · have hy' : fd.scope.names.lookup y = some .local := hy
      rw [if_pos hy']
      have : ∀ (bs : List (Str × Value)), (bs.map (·.1)).Nodup → bs.reverse.lookup y = bs.lookup y := by
        intro bs
        induction bs with
        | nil => intro _; rfl
        | cons p r ih =>
          intro hnd
          obtain ⟨n1, v1⟩ := p
          have hnd' := List.nodup_cons.mp hnd
          rw [List.reverse_cons, List.lookup_append, ih hnd'.2, List.lookup_cons, List.lookup_cons]
          by_cases e : y = n1
          · subst e
            have hnone : r.lookup y = none := by
              rw [List.lookup_eq_none_iff]
              intro p hp
              simp only [bne_iff_ne, ne_eq]
              intro e
              exact hnd'.1 (List.mem_map.mpr ⟨p, hp, (by simpa using e.symm)⟩)
            rw [hnone]; simp
          · have hb : (y == n1) = false := by simpa using e
            rw [hb]; simp
      exact this _ hnd
    · have hne : fd.scope.names.lookup q.1 ≠ some .local := by rw [(hcl q hq).2.2]; decide
      have := (hcl q hq).1.keeps hk₀
      rw [if_neg hne]; exact this
end
section
variable {prog : Program} {w : World} {A : Around} {E : Value → Shared → Prop} {g : Mp} {s₀ : Shared} {T : List Addr} {env : Env} {m : Str → Option Value} {W : List (Addr × Obj)} {s : Shared} {l : List (Str × NameKind)}
/-- a free name -/
theorem n_free {x : Str} {c : Addr} {pos : Pos} {v : Value} {Q : Value → Shared → Prop} (e : EnvL env l) (I : Inv g s₀ T env m W s) (hx : l.lookup x = some .free) (hc : env.cells.lookup x = some c) (hv : m x = some v) (h : Q v s) (hd : (x == ("__debug__" : Str)) = false := by decide) (hcl : (x == ("__classdict__" : Str)) = false := by decide) :
    wpAny (model prog w) A (eval (.Name x pos) env) Q E s := by
  refine wpAny_Name ?_ hd
  have hk : env.kindOf x = some .free := (congrArg (·.lookup x) e.names).trans hx
  have hcell := I.cell (x, c) (mem_of_lookup hc)
  dsimp only at hcell
  rw [hv] at hcell
  unfold loadName
  have ha : env.scope.kind.isAnnotationScope = false := by rw [I.eo.fk]; rfl
  have hb : env.blockKind = .function := by unfold Env.blockKind; rw [I.eo.fk]; rfl
  simp only [ha, Bool.false_and, Bool.false_eq_true, if_false, hb, hk]
  unfold cellOf
  rw [hc]
  simp only [hcl, Bool.false_eq_true, if_false]
  exact wpAny_bind (wpAny_pure (wpAny_bind (wpAny_cellGet hcell (wpAny_pure h))))
end
end Mine
end
section
open PySem PySem.W PySem.Calls PySem.Builtin PySem.Spec
set_option Elab.async false
set_option maxRecDepth 100000
namespace Mine
section
variable {prog : Program} {w : World} {A : Around} {E : Value → Shared → Prop} {g : Mp} {s₀ : Shared} {T : List Addr} {env : Env} {m : Str → Option Value} {W : List (Addr × Obj)} {s : Shared} {K : Frag} {c P : Addr}
theorem Bm.at' {f : Obj → List (Addr × Obj)} {ps : Array Value} (b : Bm g) (I : Inv g s₀ T env m W s) (S : Sel P (tabObj ps) W f) : ∃ mg, s.heap.Ns mainGlobals mg ∧ s.heap.BuiltinsAt mg P ∧ mainGlobals ≠ P := by
  obtain ⟨mg, bm, ob, a, c1, d, e, f1, f2, f3⟩ := b.of
  have hP := (I.offW _ S.mem).1
  dsimp only at hP
  have hne : bm ≠ P := fun q => by rw [q, hP] at e; cases e
  obtain ⟨o, es, ep, a1, a2, a3⟩ := id a
  have hgP : mainGlobals ≠ P := fun q => by rw [q, hP] at a1; cases a1
  have hbG : bm ≠ mainGlobals := fun q => by rw [q, a1] at e; cases e; rw [a2] at f3; cases f3
  exact ⟨mg, a.at I.keep, ⟨bm, ob, c1, d, hbG, hne, I.keep _ _ e, f1, f2, f3⟩, hgP⟩
/-- what a new code object leaves -/
theorem made_inv {f : Obj → List (Addr × Obj)} {ps ps' : Array Value} {h' : Heap} {c' : Addr} {oc oF : Obj} {tk : Tok} (I : Inv g s₀ T env m W s) (S : Sel P (tabObj ps) W f) (hx : Heap.ExtBut P s.heap h') (hge : s.heap.objs.size ≤ c') (_hlt : c' < h'.objs.size) (hoc : h'.get? c' = some oc)
    (hP : h'.get? P = some (tabObj ps')) (hf : oF.isFreed = false) : Inv g s₀ T env m ((h'.objs.size, oF) :: (c', oc) :: f (tabObj ps')) { s with heap := h'.push oF, toks := tk } := by
  have fresh : s.heap.get? c' = none := by
    cases e : s.heap.get? c' with
    | none => rfl
    | some o => exact absurd (Heap.lt_size e) (Nat.not_lt.mpr hge)
  have I1 := I.chg (o' := tabObj ps') (tk := tk) S (fun b ob hb e => hx b ob hb e) hP
  have I2 : Inv g s₀ T env m ((c', oc) :: f (tabObj ps')) { s with heap := h', toks := tk } := by
    refine I1.addW hoc ?_ (fun e => ?_) (fun q hq e => ?_) (fun p hp e => ?_) ?_
    · cases e : g c' with
      | none => rfl
      | some o => rw [I.keep _ _ e] at fresh; cases fresh
    · obtain ⟨md, ⟨oL, _, _, hoL, _⟩, _⟩ := I.ns
      rw [e, hoL] at fresh; cases fresh
    · obtain ⟨o, ho, _⟩ := I.cell q hq
      rw [e, ho] at fresh; cases fresh
    · rcases S.back p hp with rfl | hp
      · have := I.led _ S.mem
        dsimp only at this e
        rw [e, fresh] at this; cases this
      · have := I.led p hp
        rw [e, fresh] at this; cases this
    · by_cases hT : c' ∈ T
      · exact .inl hT
      · refine .inr ?_
        cases e : s₀.heap.get? c' with
        | none => rfl
        | some o => rw [I.keep0 _ _ e hT] at fresh; cases fresh
  exact I2.alloc hf
theorem r_mkfn {name qual : Str} {params : Arguments} {body : List Stmt} {scope : Scope} {pos : Pos} {firstLine : Nat} {clos : List (Str × Addr)} {ps : Array Value} {f : Obj → List (Addr × Obj)} {Q : Value → Shared → Prop}
    (I : Inv g s₀ T env m W s) (b : Bs K g) (bm : Bm g) (hge0 : env.globals = mainGlobals) (hcode : env.code = .ref c) (hC : codeHdIn K c P = true) (S : Sel P (tabObj ps) W f) (ht : TriplesOk ps.toList) (hnf : codeAmong pos ps.toList = none) (hcl : closureFor scope env = pure clos)
    (h : ∀ F c' ctv doc pm oc vs t s', Inv g s₀ T env m ((F, fnMade name qual params body scope clos doc pm c' ctv) :: (c', oc) :: f (tabObj (ps ++ #[rawInt pos.line, rawInt pos.col, .ref c']))) s' → oc.data = .fields vs → vs[1]? = some (.str qual t) → Q (.ref F) s') :
    wpAny (model prog w) A (makeFunction name qual params (.stmts body) scope env [] [] [] pos firstLine) Q E s := by
  obtain ⟨mg, hg, hb, hgP⟩ := bm.at' I S
  refine makeFunction_K (mg := mg) hcl hge0 hg hcode (codeHd_of_K (b.inK I) hC) (I.led _ S.mem) ht hnf hgP hb fun c' ctv doc h' tk hx hge hlt hrec htb => ?_
  obtain ⟨c₂, oc, vs, t, e2, hoc, hd, hv⟩ := hrec
  cases e2
  exact h _ c' ctv doc _ oc vs t _ (made_inv I S hx hge hlt hoc htb rfl) hd hv
theorem r_mklam {qual : Str} {params : Arguments} {body : PySem.Expr} {scope : Scope} {pos : Pos} {clos : List (Str × Addr)} {ps : Array Value} {f : Obj → List (Addr × Obj)} {Q : Value → Shared → Prop}
    (I : Inv g s₀ T env m W s) (b : Bs K g) (bm : Bm g) (hge0 : env.globals = mainGlobals) (hcode : env.code = .ref c) (hC : codeHdIn K c P = true) (S : Sel P (tabObj ps) W f) (ht : TriplesOk ps.toList) (hnf : codeAmong pos ps.toList = none) (hcl : closureFor scope env = pure clos)
    (hq : env.qual ++ "<lambda>" = qual) (hdef : defaultsOf params env = ([], []))
    (h : ∀ F c' ctv pm oc s', Inv g s₀ T env m ((F, kla_obj "<lambda>" qual params body scope clos pm c' ctv) :: (c', oc) :: f (tabObj (ps ++ #[rawInt pos.line, rawInt pos.col, .ref c']))) s' → Q (.ref F) s') :
    wpAny (model prog w) A (eval (.Lambda params body scope pos) env) Q E s := by
  subst hq
  obtain ⟨mg, hg, hb, hgP⟩ := bm.at' I S
  refine kla_eval hdef (kla_makeFunction (mg := mg) hcl hge0 hg hcode (codeHd_of_K (b.inK I) hC) (I.led _ S.mem) ht hnf hgP hb fun c' ctv h' tk hx hge hlt hrec htb => ?_)
  obtain ⟨c₂, oc, vs, t, e2, hoc, hd, hv⟩ := hrec
  cases e2
  exact h _ c' ctv _ oc _ (made_inv I S hx hge hlt hoc htb rfl)
theorem r_mkfnHit {name qual : Str} {params : Arguments} {body : List Stmt} {scope : Scope} {pos : Pos} {firstLine : Nat} {clos : List (Str × Addr)} {ps : Array Value} {f : Obj → List (Addr × Obj)} {c' : Addr} {Q : Value → Shared → Prop}
    (I : Inv g s₀ T env m W s) (b : Bs K g) (bm : Bm g) (hge0 : env.globals = mainGlobals) (hcode : env.code = .ref c) (hC : codeHdIn K c P = true) (S : Sel P (tabObj ps) W f) (ht : TriplesOk ps.toList) (hnf : codeAmong pos ps.toList = some (.ref c')) (hcl : closureFor scope env = pure clos)
    (h : ∀ F ctv doc pm s', Inv g s₀ T env m ((F, fnMade name qual params body scope clos doc pm c' ctv) :: W) s' → Q (.ref F) s') :
    wpAny (model prog w) A (makeFunction name qual params (.stmts body) scope env [] [] [] pos firstLine) Q E s := by
  obtain ⟨mg, hg, hb, _⟩ := bm.at' I S
  refine makeFunction_hit (mg := mg) hcl hge0 hg hcode (codeHd_of_K (b.inK I) hC) (I.led _ S.mem) ht hnf hb fun ctv doc h' tk hk _ => ?_
  exact h _ ctv doc _ _ ((I.ext (tk := tk) hk).alloc rfl)
theorem r_mklamHit {qual : Str} {params : Arguments} {body : PySem.Expr} {scope : Scope} {pos : Pos} {clos : List (Str × Addr)} {ps : Array Value} {f : Obj → List (Addr × Obj)} {c' : Addr} {Q : Value → Shared → Prop}
    (I : Inv g s₀ T env m W s) (b : Bs K g) (bm : Bm g) (hge0 : env.globals = mainGlobals) (hcode : env.code = .ref c) (hC : codeHdIn K c P = true) (S : Sel P (tabObj ps) W f) (ht : TriplesOk ps.toList) (hnf : codeAmong pos ps.toList = some (.ref c')) (hcl : closureFor scope env = pure clos)
    (hq : env.qual ++ "<lambda>" = qual) (hdef : defaultsOf params env = ([], []))
    (h : ∀ F ctv pm s', Inv g s₀ T env m ((F, kla_obj "<lambda>" qual params body scope clos pm c' ctv) :: W) s' → Q (.ref F) s') :
    wpAny (model prog w) A (eval (.Lambda params body scope pos) env) Q E s := by
  subst hq
  obtain ⟨mg, hg, hb, _⟩ := bm.at' I S
  refine kla_eval hdef (kla_makeFunctionHit (mg := mg) hcl hge0 hg hcode (codeHd_of_K (b.inK I) hC) (I.led _ S.mem) ht hnf hb fun ctv h' tk hk _ => ?_)
  exact h _ ctv _ _ ((I.ext (tk := tk) hk).alloc rfl)
end
section
variable {prog : Program} {w : World} {A : Around} {E : Value → Shared → Prop} {g : Mp} {s₀ : Shared} {T : List Addr} {env : Env} {m : Str → Option Value} {W : List (Addr × Obj)} {s : Shared}
/-- a loop over an iterator by its own steps -/
theorem r_forC {target iter : PySem.Expr} {body : List Stmt} {pos : Pos} {Q : Flow → Shared → Prop} {It : Addr}
    (J : Nat → Mp → (Str → Option Value) → List (Addr × Obj) → Prop)
    (hiter : wpAny (model prog w) A (eval iter env) (fun xv s₁ => xv = .ref It ∧ (∃ o, s₁.heap.get? It = some o ∧ o.cls = .type "callable_iterator") ∧ ∃ n g₁ m₁ W₁, J n g₁ m₁ W₁ ∧ Inv g₁ s₀ T env m₁ W₁ s₁) E s)
    (turn : ∀ k g m W s, J k g m W → Inv g s₀ T env m W s → wpAny (model prog w) A (pyNext (.ref It)) (fun r s₁ => match r with
      | none => Q .next s₁
      | some v => wpAny (model prog w) A (assign target env v) (fun _ s => wpAny (model prog w) A (execs body env) (Tn (WhE J k s₀ T env) Q) NoE s) NoE s₁) NoE s)
    (hs : ∀ x, foldedSetIterable iter env x = pure x := by intro _; rfl) (ht : ∀ it v, letOwnedTupleGo target it v = pure () := by intro _ _; rfl) :
    wpAny (model prog w) A (exec (.For target iter body [] pos) env) Q E s := by
  refine wpAny_For (wpAny_mono hiter (fun xv s₁ h₁ => ?_) fun _ _ e => e) hs
  obtain ⟨rfl, ⟨o, ho, hc⟩, n, g₁, m₁, W₁, h0, I₁⟩ := h₁
  refine cit_self ho hc ?_
  refine codeAny_forLoop (WhK J s₀ T env) ?_ n ⟨g₁, m₁, W₁, h0, I₁⟩ (fun v => ht _ v)
  rintro k s' ⟨g, m, W, hJ, I⟩
  refine wpAny_mono (turn k g m W s' hJ I) (fun r s₂ h₂ => ?_) fun _ _ e => e.elim
  cases r with
  | none => exact wpAny_execs_nil h₂
  | some v =>
    refine wpAny_mono h₂ (fun _ s₃ h₃ => wpAny_mono h₃ (fun fl s₄ h₄ => ?_) fun _ _ e => e.elim) fun _ _ e => e.elim
    cases fl with
    | next => obtain ⟨k', g', m', W', hk, hJ', I''⟩ := h₄; exact ⟨k', hk, g', m', W', hJ', I''⟩
    | cont => obtain ⟨k', g', m', W', hk, hJ', I''⟩ := h₄; exact ⟨k', hk, g', m', W', hJ', I''⟩
    | brk => exact h₄
    | ret v => exact h₄
theorem a_addS {x y : Str} {t u : Tok} {Q : Value → Shared → Prop} (I : Inv g s₀ T env m W s) (hl : (x ++ y).length ≤ sizeLine) (h : ∀ t s', Inv g s₀ T env m W s' → Q (.str (x ++ y) t) s') : wpAny (model prog w) A (inplaceOp .Add (.str x t) (.str y u)) Q E s := by
  refine P.iadd_str ?_
  by_cases hx : (x.length == 0) = true
  · rw [if_pos hx]
    have e : x ++ y = y := by
      have : x = ⟨#[]⟩ := by
        have h0 : x.cps.size = 0 := by simpa [Str.length] using hx
        exact Str.ext' (Array.eq_empty_of_size_eq_zero h0)
      subst this; exact Str.empty_append _
    show Q (.str y u) s
    have := h u s I
    rwa [e] at this
  · rw [if_neg hx]
    by_cases hy : (y.length == 0) = true
    · rw [if_pos hy]
      have e : x ++ y = x := by
        have h0 : y.cps.size = 0 := by simpa [Str.length] using hy
        refine Str.ext' ?_
        rw [Str.cps_append, Array.eq_empty_of_size_eq_zero h0]; simp
      show Q (.str x t) s
      have := h t s I
      rwa [e] at this
    · rw [if_neg hy]
      exact ⟨hl, h _ _ (I.tok _)⟩
theorem k_contStmt {pos : Pos} {Q : Flow → Shared → Prop} (h : Q .cont s) : wpAny (model prog w) A (exec (.Continue pos) env) Q E s := wpAny_Continue h
/-- e.a = v -/
theorem k_setA {o value : PySem.Expr} {attr : Str} {pos' pos : Pos} {Q : Flow → Shared → Prop}
    (h : wpAny (model prog w) A (eval value env) (fun v s₁ => wpAny (model prog w) A (eval o env) (fun ov s₂ => wpAny (model prog w) A (setAttr ov attr v) (fun _ => Q .next) E s₂) E s₁) E s)
    (hs : swapsWith value (some (.Attribute o attr pos')) pos.line env = pure false := by rfl) :
    wpAny (model prog w) A (exec (.Assign [.Attribute o attr pos'] value pos) env) Q E s := plainObj_wpAny_Assign_Attribute h hs
/-- a run of a text -/
theorem k_slF {value : Expr} {lower upper : Option Expr} {p pos : Pos} {Q : Value → Shared → Prop} 
    (h : wpAny (model prog w) A (eval value env) (fun o s₁ => wpAny (model prog w) A (evalPart lower env) (fun vl s₂ => wpAny (model prog w) A (evalPart upper env) (fun vu s₃ =>
      SlSP s₀ T env Q o vl vu s₃) E s₂) E s₁) E s)
    (ht : ∀ o r, letTemporaryGo value o r = pure () := by intro _ _; rfl) :
    wpAny (model prog w) A (eval (.Subscript value (.Slice lower upper none p) pos) env) Q E s := by
  refine wpAny_Subscript_Slice F.slot_str_getitem.lookup (wpAny_mono h (fun o s₁ h₁ => wpAny_Slice (wpAny_mono h₁ (fun vl s₂ h₂ => wpAny_mono h₂ (fun vu s₃ h₃ => part_none ?_) fun _ _ e => e) fun _ _ e => e)) fun _ _ e => e) ht
  obtain ⟨x, t, lo, hi, g₁, m₁, W₁, rfl, pl, pu, hsz, I, hq⟩ := h₃
  have J := (I.alloc (o := { cls := .type "slice", data := .fields #[vl, vu, .none] }) rfl).tail
  refine ⟨typeIs_str _ _ _, ?_⟩
  cases pl with
  | none =>
    cases pu with
    | none => exact wpAny_getItem_str_slice (l := none) (u := none) (st := none) ⟨_, Heap.get?_push_size _ rfl, rfl, rfl⟩ rfl (post_val_or_str ⟨Nat.le_trans (Txt.slice_le x _ _) hsz, fun t' k => hq _ _ (J.tok _)⟩)
    | int j uj => exact wpAny_getItem_str_slice (l := none) (u := some (j, uj)) (st := none) ⟨_, Heap.get?_push_size _ rfl, rfl, rfl⟩ rfl (post_val_or_str ⟨Nat.le_trans (Txt.slice_le x _ _) hsz, fun t' k => hq _ _ (J.tok _)⟩)
  | int i ui =>
    cases pu with
    | none => exact wpAny_getItem_str_slice (l := some (i, ui)) (u := none) (st := none) ⟨_, Heap.get?_push_size _ rfl, rfl, rfl⟩ rfl (post_val_or_str ⟨Nat.le_trans (Txt.slice_le x _ _) hsz, fun t' k => hq _ _ (J.tok _)⟩)
    | int j uj => exact wpAny_getItem_str_slice (l := some (i, ui)) (u := some (j, uj)) (st := none) ⟨_, Heap.get?_push_size _ rfl, rfl, rfl⟩ rfl (post_val_or_str ⟨Nat.le_trans (Txt.slice_le x _ _) hsz, fun t' k => hq _ _ (J.tok _)⟩)
end
section
variable {g : Mp} {s₀ : Shared} {T : List Addr} {env : Env} {m : Str → Option Value} {W : List (Addr × Obj)} {s : Shared}
/-- an object of the caller's that the call will change -/
theorem Inv.addT {a : Addr} {o : Obj} (I : Inv g s₀ T env m W s) (h0 : s₀.heap.get? a = some o) (ha : a ∉ T) (hg : g a = none) (hC : ∀ q ∈ env.cells, a ≠ q.2) (hW : ∀ p ∈ W, p.1 ≠ a) : Inv g s₀ (a :: T) env m ((a, o) :: W) s := by
  refine (I.moreT fun b hb => List.mem_cons_of_mem _ hb).addW (I.keep0 _ _ h0 ha) hg (fun e => ?_) hC hW (.inl (List.mem_cons_self ..))
  rcases I.offL.2.1 with h | h
  · exact ha (e ▸ h)
  · rw [← e, h0] at h; cases h
end
end Mine
end
section
open PySem PySem.W PySem.Calls
set_option maxRecDepth 100000
namespace Mine
theorem lx_plain (w : World) (n : Str) : plainGet (K1 w) 59 n = true := by kernel_rfl
theorem lx_dict (w : World) : hasDictIn (K1 w) 59 = true := by kernel_rfl
theorem lx_makes (w : World) : makesIn (K1 w) 59 = true := by kernel_rfl
theorem lx_over (w : World) : plainOver (K1 w) 59 = true := by kernel_rfl
theorem lx_sa (w : World) : findIn (K1 w) (.ref 59) "__setattr__" = some (some (.builtin "object.__setattr__")) := by kernel_rfl
theorem lx_init (w : World) : findIn (K1 w) (.ref 59) "__init__" = some (some (.ref 35)) := by kernel_rfl
theorem lx_rc (w : World) : findIn (K1 w) (.ref 59) (Str.ofString "_read_char") = some (some (.ref 42)) := by kernel_rfl
theorem lx_gt (w : World) : findIn (K1 w) (.ref 59) (Str.ofString "get_token") = some (some (.ref 49)) := by kernel_rfl
theorem lx_pt (w : World) : findIn (K1 w) (.ref 59) (Str.ofString "push_token") = some (some (.ref 56)) := by kernel_rfl
theorem lx_no1 (w : World) : findIn (K1 w) (.ref 59) (Str.ofString "lineno") = some none := by kernel_rfl
theorem lx_no2 (w : World) : findIn (K1 w) (.ref 59) (Str.ofString "instream") = some none := by kernel_rfl
theorem lx_no3 (w : World) : findIn (K1 w) (.ref 59) (Str.ofString "whitespace") = some none := by kernel_rfl
theorem lx_no4 (w : World) : findIn (K1 w) (.ref 59) (Str.ofString "pushback") = some none := by kernel_rfl
theorem lx_fn (w : World) : isFn (K1 w) (.ref 35) = true ∧ isFn (K1 w) (.ref 42) = true ∧ isFn (K1 w) (.ref 49) = true ∧ isFn (K1 w) (.ref 56) = true := ⟨by kernel_rfl, by kernel_rfl, by kernel_rfl, by kernel_rfl⟩
theorem lx_get (w : World) : specialIn (K1 w) (.ref 42) "__get__" = some (some (.builtin "function.__get__")) := by kernel_rfl
theorem lx_takes (w : World) : takesIn (K1 w) (.ref 42) = some false := by kernel_rfl
theorem lx_tab (w : World) : codeHdIn (K1 w) 79 75 = true := by kernel_rfl
theorem lx_code (w : World) : (fd1 w 80).code = .ref 79 := by kernel_rfl
end Mine
end
section
open PySem PySem.W PySem.Calls PySem.Builtin
set_option Elab.async false
set_option maxRecDepth 100000
namespace Mine
section
variable {prog : Program} {w : World} {A : Around} {E : Value → Shared → Prop} {g : Mp} {s₀ : Shared} {T : List Addr} {env : Env} {m : Str → Option Value} {W : List (Addr × Obj)} {s : Shared}
theorem r_forE {target iter : PySem.Expr} {body : List Stmt} {pos : Pos} {Q : Flow → Shared → Prop} (_cw : CW env s₀ T) (hh : A.handled = none)
    (hiter : wpAny (model prog w) A (eval iter env) (fun xv s₁ => ForP prog w A s₀ T env target body Q xv s₁) E s)
    (hs : ∀ x, foldedSetIterable iter env x = pure x := by intro _; rfl) (ht : ∀ it v, letOwnedTupleGo target it v = pure () := by intro _ _; rfl) :
    wpAny (model prog w) A (exec (.For target iter body [] pos) env) Q E s := r_forG hh hiter hs ht
end
end Mine
end
section
open PySem PySem.W PySem.Calls
set_option Elab.async false
set_option maxRecDepth 100000
namespace Mine
section
variable {prog : Program} {w : World} {A : Around} {E : Value → Shared → Prop} {g : Mp} {s₀ : Shared} {T : List Addr} {env : Env} {m : Str → Option Value} {W : List (Addr × Obj)} {s : Shared} {l : List (Str × NameKind)}
theorem Inv.updS (I : Inv g s₀ T env m W s) {Tc : List Addr} {W' : List (Addr × Obj)} {s' : Shared} (k : ∀ b o, s.heap.get? b = some o → b ∉ Tc → s'.heap.get? b = some o) (hT : ∀ a ∈ Tc, ∃ o, (a, o) ∈ W)
    (hk : W'.Sublist W) (hW : ∀ p ∈ W', s'.heap.get? p.1 = some p.2) (same : ∃ h tk, s' = { s with heap := h, toks := tk }) : Inv g s₀ T env m W' s' := by
  have key : ∀ p ∈ W', ∃ o, (p.1, o) ∈ W := fun p hp => by
    exact ⟨p.2, hk.subset hp⟩
  have off : ∀ a, g a ≠ none → a ∉ Tc := fun a ha hm => by
    obtain ⟨o, ho⟩ := hT a hm
    exact ha (I.offW _ ho).1
  exact
  { eo := I.eo
    ns := let ⟨md, hn, b⟩ := I.ns; ⟨md, hn.at' (fun ob e => k _ ob e fun hm => by obtain ⟨o, ho⟩ := hT _ hm; exact I.offL.2.2 _ ho rfl), b⟩
    cell := fun q hq => let ⟨oc, ho, hd⟩ := I.cell q hq; ⟨oc, k _ _ ho fun hm => by obtain ⟨o, ho⟩ := hT _ hm; exact (I.offC q hq).2 _ ho rfl, hd⟩
    led := hW
    nd := I.nd.sublist hk
    keep := fun a o e => k _ _ (I.keep a o e) (off a (by rw [e]; simp))
    keep0 := fun a o e ht => k _ _ (I.keep0 a o e ht) fun hm => by
      obtain ⟨o', ho⟩ := hT _ hm
      rcases (I.offW _ ho).2 with h | h
      · exact ht h
      · dsimp only at h; rw [h] at e; cases e
    offL := ⟨I.offL.1, I.offL.2.1, fun p hp => by obtain ⟨o, ho⟩ := key p hp; exact I.offL.2.2 (p.1, o) ho⟩
    offC := fun q hq => ⟨(I.offC q hq).1, fun p hp => by obtain ⟨o, ho⟩ := key p hp; exact (I.offC q hq).2 (p.1, o) ho⟩
    offW := fun p hp => by obtain ⟨o, ho⟩ := key p hp; exact I.offW (p.1, o) ho
    same := by
      obtain ⟨h, tk, e⟩ := I.same
      obtain ⟨h', tk', e'⟩ := same
      subst e e'; exact ⟨_, _, rfl⟩ }
theorem k_lcN {m0 : Str → Option Value} {W0 : List (Addr × Obj)} {g0 : Mp} {elt iter : Expr} {x : Str} {px : Pos} {ifs : List Expr} {scope : Scope} {pos : Pos} {Q : Value → Shared → Prop} (_I0 : Inv g0 s₀ T env m0 W0 s) (el : EnvL env l) (hok : compOk l scope.names = true) (hkind : scope.kind = .function) (hxl : scope.names.lookup x = some .local) (hh : A.handled = none)
    (h : wpAny (model prog w) A (eval iter env) (fun xv s₁ => LcP prog w A scope x ifs elt l s₀ T env Q xv s₁) E s)
    (hs : ∀ x, foldedSetIterable iter env x = pure x := by intro _; rfl) :
    wpAny (model prog w) A (eval (.ListComp elt [⟨.Name x px, iter, ifs, 0⟩] scope pos) env) Q E s := by
  rw [eval_ListComp]
  have ⟨hclos, hnames⟩ := comp_pre el hok
  refine wpAny_comprehension_free (use := none) rfl hs hclos hkind hnames (wpAny_mono h (fun xv s₁ h₁ => ?_) fun _ _ e => e)
  obtain ⟨g₁, m₁, W₁, n, P, J, I₁, hi, L, done⟩ := h₁
  refine comp_core el hok hkind hxl hh I₁ hi L (RR := fun acc C => compPost (model prog w) A E none Q acc C) fun D C oC g₀ g ds s' mC G hJ hle hR hC₁ hgC hoC hns hCD hDn => ?_
  refine ⟨mC, hns, fun h' hs' => ?_⟩
  have G' := G.less hC₁ hgC hs'.extBut
  exact done D g₀ g ds _ (I₁.got G') G' hJ hle hR hDn
theorem all_ints {g : Mp} : ∀ {vs : List Value} {ns : List Int}, RdAll g vs (ns.map PyData.int) → (∀ v ∈ vs, ∃ a t, v = .int a t) ∧ numsOf vs = ns
  | [], [], _ => ⟨fun _ h => (nomatch h), rfl⟩
  | [], _ :: _, h => by have := h.1; simp at this
  | _ :: _, [], h => by have := h.1; simp at this
  | v :: vs, n :: ns, h => by
    have ⟨h1, h2⟩ := h.uncons
    obtain ⟨t, rfl⟩ := h1.unint
    have ⟨i1, i2⟩ := all_ints h2
    refine ⟨fun v hv => ?_, ?_⟩
    · cases hv with
      | head => exact ⟨_, _, rfl⟩
      | tail _ hv => exact i1 v hv
    · show n :: numsOf vs = _
      rw [i2]
theorem r_sum {l : Addr} {vs : List Value} {ns : List Int} {Q : Value → Shared → Prop} (I : Inv g s₀ T env m W s) (hh : A.handled = none) (hl : LstAt g W l vs) (hi : RdAll g vs (ns.map PyData.int))
    (h : ∀ t s', Inv g s₀ T env m W s' → Q (.int ns.sum t) s') : wpAny (model prog w) A (call (.builtin "sum") [.ref l]) Q E s := by
  have ⟨ha, hn⟩ := all_ints hi
  have hall : AllInts vs.toArray := fun v hv => ha v (by simpa using hv)
  obtain ⟨xs, e⟩ := hall.items
  have hl' := hl.isList I
  rw [e] at hl'
  refine PySem.sum_intListG hh hl' fun h' tk t' hk => ?_
  have e2 : numsOf vs = (numsOf (PySem.intItems xs).toList) := by rw [← e]
  rw [nums_intItems] at e2
  rw [preSum_eq, List.take_of_length_le (by simp), ← e2, hn]
  exact h _ _ (I.ext hk)
theorem r_mulS {x : Str} {n : Int} {t u : Tok} {Q : Value → Shared → Prop} (I : Inv g s₀ T env m W s) (hn : n = 0 ∨ n = 1)
    (h : ∀ t s', Inv g s₀ T env m W s' → Q (.str (if n = 0 then emp else x) t) s') : wpAny (model prog w) A (binaryOp .Mult (.str x t) (.int n u)) Q E s := by
  rcases hn with rfl | rfl
  · refine P.mul_str_none (by decide) (by decide) ?_
    exact h _ _ (I.tok _)
  · refine P.mul_str (by decide) (fun _ q => absurd q (by simp)) (fun _ q => absurd q (by simp)) ?_
    exact h _ _ I
theorem slice_temp {value : Expr} {lower upper : Option Expr} {p pos : Pos} {T id : String} {Q : Value → Shared → Prop}
    (hl : typeLookup (.type T) "__getitem__" = pure (some (.builtin id)))
    (h : wpAny (model prog w) A (eval value env) (fun o s₁ => wpAny (model prog w) A (eval (.Slice lower upper none p) env) (fun i s₂ => s₂.TypeIs o T ∧ wpAny (model prog w) A (getItem o i) Q E s₂) E s₁) E s) :
    wpAny (model prog w) A (eval (.Subscript value (.Slice lower upper none p) pos) env) Q E s := by
  rw [eval_Subscript]
  refine wpAny_bind (wpAny_mono h (fun o s₁ h₁ => wpAny_bind (wpAny_holding (wpAny_mono h₁ (fun i s₂ h₂ => wpAny_bind (wpAny_standAt ?_)) fun _ _ x => x)))
    fun _ _ x => x)
  have fin : wpAny (model prog w) A (operate [i, o] (getItem o i)) (fun r s₃ => wpAny (model prog w) A (letTemporaryGo value o r >>= fun _ => pure r) Q E s₃) E s₂ :=
    wpAny_operating (wpAny_mono h₂.2 (fun r s₃ h₃ => wpAny_bind (wpAny_letTemporaryGo (wpAny_pure h₃))) fun _ _ x => x)
  first
    | (refine wpAny_bind ?_
       rw [getitemInPython_of_ne h₂.1.not_modules]
       refine wpAny_bind (wpAny_specialOf h₂.1 hl ?_)
       first
         | exact wpAny_pure (wpAny_bind fin)
         | exact wpAny_bind (wpAny_pure (wpAny_bind fin))
         | exact wpAny_bind fin)
    | (refine wpAny_bind (wpAny_specialOf h₂.1 hl ?_)
       first
         | exact wpAny_bind (wpAny_pure (wpAny_bind fin))
         | exact wpAny_bind fin)
theorem k_slLT {value : Expr} {lower upper : Option Expr} {p pos : Pos} {Q : Value → Shared → Prop} (_cw : CW env s₀ T)
    (h : wpAny (model prog w) A (eval value env) (fun o s₁ => wpAny (model prog w) A (evalPart lower env) (fun vl s₂ => wpAny (model prog w) A (evalPart upper env) (fun vu s₃ =>
      SlLP s₀ T env Q o vl vu s₃) E s₂) E s₁) E s) :
    wpAny (model prog w) A (eval (.Subscript value (.Slice lower upper none p) pos) env) Q E s := by
  refine slice_temp slot_list_getitem.lookup (wpAny_mono h (fun o s₁ h₁ => wpAny_Slice (wpAny_mono h₁ (fun vl s₂ h₂ => wpAny_mono h₂ (fun vu s₃ h₃ => part_none ?_) fun _ _ e => e) fun _ _ e => e)) fun _ _ e => e)
  obtain ⟨a, vs, lo, hi, g₁, m₁, W₁, rfl, hl, pl, pu, hsz, I, hq⟩ := h₃
  have hl' : (s₃.heap.push { cls := .type "slice", data := .fields #[vl, vu, .none] }).IsList a vs.toArray := let ⟨o, ho, r⟩ := hl; ⟨o, Heap.get?_push_of_some _ ho, r⟩
  refine ⟨hl'.typeIs, wpAny_getItem_list_slice hl' (Heap.IsSliceOf.new ..) pl pu .none (by simp) ?_ (by simpa using hsz)⟩
  have J := (I.alloc (o := { cls := .type "slice", data := .fields #[vl, vu, .none] }) rfl).tail.alloc (o := lstO (slicePick vs.toArray lo hi none).toList 0) rfl
  have := hq _ _ J
  simpa using this
theorem k_slFT {value : Expr} {lower upper : Option Expr} {p pos : Pos} {Q : Value → Shared → Prop} (_cw : CW env s₀ T)
    (h : wpAny (model prog w) A (eval value env) (fun o s₁ => wpAny (model prog w) A (evalPart lower env) (fun vl s₂ => wpAny (model prog w) A (evalPart upper env) (fun vu s₃ =>
      ∃ (x : Str) (t : Tok) (i j : Int) (ti tj : Tok) (g₁ : Mp) (m₁ : Str → Option Value) (W₁ : List (Addr × Obj)), o = .str x t ∧ vl = .int i ti ∧ vu = .int j tj ∧ x.length ≤ sizeLine ∧ Inv g₁ s₀ T env m₁ W₁ s₃ ∧
        (∀ t s', Inv g₁ s₀ T env m₁ W₁ s' → Q (.str (Txt.slice x (some i) (some j)) t) s')) E s₂) E s₁) E s) :
    wpAny (model prog w) A (eval (.Subscript value (.Slice lower upper none p) pos) env) Q E s := by
  refine slice_temp F.slot_str_getitem.lookup (wpAny_mono h (fun o s₁ h₁ => wpAny_Slice (wpAny_mono h₁ (fun vl s₂ h₂ => wpAny_mono h₂ (fun vu s₃ h₃ => part_none ?_) fun _ _ e => e) fun _ _ e => e)) fun _ _ e => e)
  obtain ⟨x, t, i, j, ti, tj, g₁, m₁, W₁, rfl, rfl, rfl, hsz, I, hq⟩ := h₃
  have J := (I.alloc (o := { cls := .type "slice", data := .fields #[.int i ti, .int j tj, .none] }) rfl).tail
  refine ⟨typeIs_str _ _ _, ?_⟩
  exact wpAny_getItem_str_slice (l := some (i, ti)) (u := some (j, tj)) (st := none) ⟨_, Heap.get?_push_size _ rfl, rfl, rfl⟩ rfl (post_val_or_str ⟨Nat.le_trans (Txt.slice_le x _ _) hsz, fun t' k => hq _ _ (J.tok _)⟩)
end
end Mine
end
section
open PySem PySem.W PySem.Calls PyProof.Rows
set_option maxRecDepth 100000
namespace Mine
section
variable {prog : Program} {w : World} {A : Around} {E : Value → Shared → Prop} {g : Mp} {s₀ : Shared} {T : List Addr} {env : Env} {m : Str → Option Value} {W : List (Addr × Obj)} {s : Shared} {l : List (Str × NameKind)}
/-- two things are taken out of one -/
theorem r_unpack2 {a b : Str} {pa pb pos : Pos} {k : Nat} {xv : Value} {P : Nat → Value → Prop} {Q : Unit → Shared → Prop} {Ty id : String} (el : EnvL env l) (cw : CW env s₀ T) (ha : okIn l a = true) (hb : okIn l b = true) (hh : A.handled = none) (I : Inv g s₀ T env m W s) (it : Itr prog w g xv 2 P)
    (hT : s.TypeIs xv Ty) (sl : Slot Ty "__iter__" id)
    (h : ∀ v0 v1 s', P 0 v0 → P 1 v1 → Inv g s₀ T env (put (put m a v0) b v1) W s' → Q () s') : wpAny (model prog w) A (assign (.Tuple [.Name a pa, .Name b pb] k pos) env xv) Q E s := by
  rw [assign_Tuple]
  refine wpAny_bind (wpAny_standAt ?_)
  have e1 : assignEach [Expr.Name a pa, Expr.Name b pb] env = [(false, assign (.Name a pa) env), (false, assign (.Name b pb) env)] := by rfl
  rw [e1]
  unfold unpack
  show wpAny _ _ (do let items ← holding [xv] (unpackItems xv 2 none); assignInOrder [assign (.Name a pa) env, assign (.Name b pb) env] items) Q E s
  refine wpAny_bind (wpAny_holding ?_)
  unfold unpackItems
  refine wpAny_bind ?_
  unfold notIterableAtAll
  refine wpAny_bind (wpAny_specialOf hT sl.lookup ?_)
  refine wpAny_pure ?_
  simp only [Bool.false_eq_true, if_false]
  refine wpAny_bind (wpAny_holding ?_)
  refine it A s _ _ hh I.keep fun o St hf hW hst => ?_
  have I0 := I.alloc (o := o) hf
  have hW' := hW A g hh (Mp.Le.refl _)
  refine wpAny_bind (wpAny_holding ?_)
  show wpAny _ _ (pyNext _ >>= _) _ _ _
  refine wpAny_bind (hW'.item 0 _ _ _ _ (by decide) hst (I0.led _ (.head _)) I0.keep fun v0 o1 h1 tk1 p0 st1 e1 k1 => ?_)
  have I1 := I0.chg (o' := o1) (tk := tk1) Sel.head (fun b ob hb e => k1 b ob hb e) e1
  refine wpAny_bind (wpAny_holding ?_)
  show wpAny _ _ (pyNext _ >>= _) _ _ _
  refine wpAny_bind (hW'.item 1 _ _ _ _ (by decide) st1 e1 I1.keep fun v1 o2 h2 tk2 p1 st2 e2 k2 => ?_)
  have I2 := I1.chg (o' := o2) (tk := tk2) Sel.head (fun b ob hb e => k2 b ob hb e) e2
  refine wpAny_bind (wpAny_holding ?_)
  show wpAny _ _ (pure []) _ _ _
  refine wpAny_pure (wpAny_pure (wpAny_pure ?_))
  simp only [List.length_cons, List.length_nil, Nat.lt_irrefl, if_false]
  refine wpAny_bind (wpAny_holding ?_)
  refine hW'.done _ _ _ _ st2 e2 I2.keep fun h3 tk3 k3 => ?_
  have I3 := I2.lose (tk := tk3) k3
  simp only [Option.isSome_none, Bool.false_eq_true, if_false]
  refine wpAny_pure ?_
  show wpAny _ _ (assignInOrder [assign (.Name a pa) env, assign (.Name b pb) env] [v0, v1]) _ _ _
  show wpAny _ _ (do holding [v1] (assign (.Name a pa) env v0); assignInOrder [assign (.Name b pb) env] [v1]) _ _ _
  refine wpAny_bind (wpAny_holding (assign_Name (n_store el cw I3 ha fun s4 I4 => ?_)))
  show wpAny _ _ (do holding [] (assign (.Name b pb) env v1); assignInOrder [] []) _ _ _
  refine wpAny_bind (wpAny_holding (assign_Name (n_store el cw I4 hb fun s5 I5 => ?_)))
  exact wpAny_pure (h v0 v1 s5 p0 p1 I5)
theorem r_unpackL {a b : Str} {pa pb pos : Pos} {k : Nat} {D : Addr} {x0 x1 : Value} {n : Nat} {Q : Unit → Shared → Prop} (el : EnvL env l) (cw : CW env s₀ T) (ha : okIn l a = true) (hb : okIn l b = true) (hh : A.handled = none) (I : Inv g s₀ T env m W s) (e : g D = some (lstO [x0, x1] n))
    (h : ∀ s', Inv g s₀ T env (put (put m a x0) b x1) W s' → Q () s') : wpAny (model prog w) A (assign (.Tuple [.Name a pa, .Name b pb] k pos) env (.ref D)) Q E s :=
  r_unpack2 el cw ha hb hh I (itr_list e rfl rfl) ⟨_, I.keep _ _ e, rfl⟩ slot_list_iter fun v0 v1 s' h0 h1 I' => by
    cases h0; cases h1; exact h s' I'
theorem r_unpackT {a b : Str} {pa pb pos : Pos} {k : Nat} {D : Addr} {x0 x1 : Value} {n : Nat} {Q : Unit → Shared → Prop} (el : EnvL env l) (cw : CW env s₀ T) (ha : okIn l a = true) (hb : okIn l b = true) (hh : A.handled = none) (I : Inv g s₀ T env m W s) (e : g D = some (tupO [x0, x1] n))
    (h : ∀ s', Inv g s₀ T env (put (put m a x0) b x1) W s' → Q () s') : wpAny (model prog w) A (assign (.Tuple [.Name a pa, .Name b pb] k pos) env (.ref D)) Q E s :=
  r_unpack2 el cw ha hb hh I (itr_tuple e rfl rfl) ⟨_, I.keep _ _ e, rfl⟩ slot_tuple_iter fun v0 v1 s' h0 h1 I' => by
    cases h0; cases h1; exact h s' I'
end
end Mine
end
section
open PySem PySem.W PySem.Calls PySem.Builtin
set_option Elab.async false
set_option maxRecDepth 100000
namespace Mine
section
variable {prog : Program} {w : World} {A : Around} {E : Value → Shared → Prop} {g : Mp} {s₀ : Shared} {T : List Addr} {env : Env} {m : Str → Option Value} {W : List (Addr × Obj)} {s : Shared}
inductive ForL (prog : Program) (w : World) (A : Around) (s₀ : Shared) (T : List Addr) (env : Env) (target : PySem.Expr) (body : List Stmt) (Q : Flow → Shared → Prop) (xv : Value) (s₁ : Shared) : Prop
  | mk (l : Addr) (items : List Value) (nn : Nat) (J : Nat → Mp → (Str → Option Value) → List (Addr × Obj) → Prop) (g₁ : Mp) (m₁ : Str → Option Value) (W₁ : List (Addr × Obj)) (hx : xv = .ref l) (I : Inv g₁ s₀ T env m₁ W₁ s₁) (e : g₁ l = some (lstO items nn)) (h0 : J 0 g₁ m₁ W₁)
      (turn : ∀ i v g m W It s, i < items.length → items[i]? = some v → g₁.Le g → J i g m W → Inv g s₀ T env m (It :: W) s →
        wpAny (model prog w) A (assign target env v) (fun _ s => wpAny (model prog w) A (execs body env) (Tn (TnI g₁ (J (i + 1)) s₀ T env It) Q) NoE s) NoE s)
      (done : ∀ g m W s, g₁.Le g → J items.length g m W → Inv g s₀ T env m W s → Q .next s) : ForL prog w A s₀ T env target body Q xv s₁
/-- a for over a list whose target may be a tuple of names -/
theorem r_forL {target iter : PySem.Expr} {body : List Stmt} {pos : Pos} {Q : Flow → Shared → Prop} (_cw : CW env s₀ T) (hh : A.handled = none)
    (hiter : wpAny (model prog w) A (eval iter env) (fun xv s₁ => ForL prog w A s₀ T env target body Q xv s₁) E s)
    (hs : ∀ x, foldedSetIterable iter env x = pure x := by intro _; rfl) :
    wpAny (model prog w) A (exec (.For target iter body [] pos) env) Q E s := by
  refine wpAny_For (wpAny_mono hiter (fun xv s₁ h₁ => ?_) fun _ _ e => e) hs
  obtain ⟨l, items, nn, J, g₁, m₁, W₁, rfl, I₁, e, h0, turn, done⟩ := h₁
  have hl : ∀ {g' : Mp} {h : Heap}, g₁.Le g' → (∀ a ob, g' a = some ob → h.get? a = some ob) → h.IsList l items.toArray := fun le k => ⟨_, k _ _ (le _ _ e), rfl, nn, rfl⟩
  refine wpAny_pyIter_list (hl (Mp.Le.refl _) I₁.keep) ?_
  refine codeAny_forLoop_any (ForK s₀ T env items.length J (fun i o => o.cls = .type "list_iterator" ∧ o.data = .fields #[.ref l, .int i 0]) g₁ s₁.heap.objs.size) ?_ (items.length + 1) ⟨0, g₁, m₁, W₁, _, rfl, Nat.zero_le _, Mp.Le.refl _, h0, I₁.alloc rfl, rfl, rfl⟩
  rintro k s' ⟨i, g, m, W, o, rfl, hle, le, hJ, I, ⟨hc, hd⟩⟩
  have hat : s'.heap.get? s₁.heap.objs.size = some o := I.led _ (.head _)
  by_cases hlt : i < items.length
  · refine wpAny_pyNext_list_item ⟨o, hat, hc, hd⟩ (hl le I.keep) (x := items[i]) (by simp [hlt]) fun h' hit' hs' => ?_
    obtain ⟨o', ho', hc', hd'⟩ := hit'
    have I' : Inv g s₀ T env m ((s₁.heap.objs.size, o') :: W) _ := I.chg (o' := o') (tk := s'.toks) Sel.head (fun b ob hb e => hs'.extBut b ob hb e) ho'
    refine PyProof.Rows.letGo_listiter ⟨o', ho', hc', hd'⟩ ?_
    refine wpAny_mono (turn i items[i] g m W _ _ hlt (by simp [hlt]) le hJ I') (fun _ s₂ h₂ => ?_) fun _ _ e => e.elim
    refine wpAny_mono h₂ (fun fl s₃ h₃ => ?_) fun _ _ e => e.elim
    cases fl with
    | next => obtain ⟨g', m', W', le', hJ', I''⟩ := h₃; exact ⟨items.length + 1 - (i + 1), by (first | lia | omega), i + 1, g', m', W', o', rfl, hlt, le', hJ', I'', ⟨hc', hd'⟩⟩
    | cont => obtain ⟨g', m', W', le', hJ', I''⟩ := h₃; exact ⟨items.length + 1 - (i + 1), by (first | lia | omega), i + 1, g', m', W', o', rfl, hlt, le', hJ', I'', ⟨hc', hd'⟩⟩
    | brk => exact h₃
    | ret v => exact h₃
  · have hin : i = items.length := by (first | lia | omega)
    subst hin
    refine wpAny_pyNext_list_end hh ⟨o, hat, hc, hd⟩ (hl le I.keep) (by simp) fun h' he' => wpAny_execs_nil ?_
    exact done g m W _ le hJ (I.lose (h' := h') (tk := s'.toks) (fun b ob hb q => he' b ob hb q))
end
end Mine
end
section
open PySem PySem.W PySem.Calls PySem.Builtin PySem.Builtin.Str
set_option maxRecDepth 100000
namespace Mine
noncomputable def spc : Str := ofL [32]
theorem spc_eq : Str.ofString " " = spc := by decide +kernel
noncomputable def facS (w p : List Nat) : Str := ofL (w ++ 32 :: p)
theorem facS_len (w p : List Nat) : (facS w p).length = w.length + (p.length + 1) := by
  show (w ++ 32 :: p).toArray.size = _
  simp
theorem one_at (k : Nat) : ∀ (n a : Nat), a ≤ k → k < a + n → ((List.range' a n).filter fun i => decide (i = k)) = [k]
  | 0, a, h1, h2 => by (first | lia | omega)
  | n + 1, a, h1, h2 => by
    rw [List.range'_succ, List.filter_cons]
    by_cases e : a = k
    · subst e
      rw [if_pos (by simp)]
      congr 1
      rw [List.filter_eq_nil_iff]
      intro x hx
      have := (List.mem_range'_1.mp hx).1
      simp only [decide_eq_true_eq]; (first | lia | omega)
    · rw [if_neg (by simpa using e)]
      exact one_at k n (a + 1) (by (first | lia | omega)) (by (first | lia | omega))
theorem occ_fac (w p : List Nat) (hw : 32 ∉ w) (hp : 32 ∉ p) : occurrences (facS w p) spc 0 (facS w p).length ((facS w p).length + 1) = [w.length] := by
  rw [StrLaws.occ_eq]
  have hlen := facS_len w p
  have hsub : ∀ i, i + spc.length ≤ (facS w p).length → subAt (facS w p) spc i = decide (i = w.length) := fun i hi => by
    rw [StrLaws.subAt_eq]
    have hi : i + 1 ≤ w.length + (p.length + 1) := by rw [← hlen]; exact hi
    show (((w ++ 32 :: p).drop i).take 1 == [32]) = _
    have hlt : i < (w ++ 32 :: p).length := by simp; (first | lia | omega)
    rw [List.drop_eq_getElem_cons hlt]
    show ([(w ++ 32 :: p)[i]] == [32]) = _
    have e : ([(w ++ 32 :: p)[i]] == [32]) = decide ((w ++ 32 :: p)[i] = 32) := by
      rw [Bool.eq_iff_iff]; simp
    rw [e]
    rw [decide_eq_decide]
    by_cases h1 : i < w.length
    · rw [List.getElem_append_left h1]
      constructor
      · intro q; exact absurd (q ▸ List.getElem_mem h1) hw
      · intro q; (first | lia | omega)
    · by_cases h2 : i = w.length
      · subst h2; simp
      · constructor
        · intro q
          rw [List.getElem_append_right (by (first | lia | omega))] at q
          obtain ⟨d, hd⟩ : ∃ d, i - w.length = d + 1 := ⟨i - w.length - 1, by (first | lia | omega)⟩
          simp only [hd, List.getElem_cons_succ] at q
          exact absurd (q ▸ List.getElem_mem _) hp
        · intro q; exact absurd q h2
  obtain ⟨f, e⟩ := occ_fold (facS w p) spc (facS w p).length ((facS w p).length + 1) (fun i => decide (i = w.length)) hsub (fun i j h1 h2 hij => by
    simp only [decide_eq_true_eq] at h1 h2; (first | lia | omega))
    ((facS w p).length + 1 - 0) 0 [] 0 (fun _ _ _ => Nat.zero_le _) (by simp)
  rw [show (#[] : Array Nat) = ([] : List Nat).toArray from rfl, e]
  simp only [List.nil_append]
  have e1 : spc.length = 1 := rfl
  rw [e1]
  have : (List.range' 0 ((facS w p).length + 1 - 0)).filter (fun i => decide (i + 1 ≤ (facS w p).length) && decide (i = w.length)) = (List.range' 0 ((facS w p).length + 1 - 0)).filter fun i => decide (i = w.length) := by
    refine List.filter_congr fun x _ => ?_
    by_cases h : x = w.length
    · subst h
      rw [decide_eq_true (show w.length + 1 ≤ (facS w p).length by (first | lia | omega))]; simp
    · simp [h]
  rw [this, one_at _ _ _ (Nat.zero_le _) (by (first | lia | omega))]
theorem split_fac (w p : List Nat) (hw : 32 ∉ w) (hp : 32 ∉ p) : partsBetween (facS w p) (occurrences (facS w p) spc 0 (facS w p).length ((facS w p).length + 1)) spc.length = [ofL w, ofL p] := by
  rw [occ_fac w p hw hp, StrLaws.partsBetween_eq]
  show [strSub (facS w p) 0 w.length, strSub (facS w p) (w.length + 1) (facS w p).length] = _
  congr 1
  · refine str_ext ?_
    rw [StrLaws.strSub_toList]
    show ((w ++ 32 :: p).drop 0).take (w.length - 0) = w
    simp
  · congr 1
    refine str_ext ?_
    rw [StrLaws.strSub_toList, facS_len]
    show ((w ++ 32 :: p).drop (w.length + 1)).take (w.length + (p.length + 1) - (w.length + 1)) = p
    have e : (w ++ 32 :: p).drop (w.length + 1) = p := by
      rw [List.drop_append]; simp
    rw [e, List.take_of_length_le (by (first | lia | omega))]
section
variable {prog : Program} {w : World} {A : Around} {E : Value → Shared → Prop} {g : Mp} {s₀ : Shared} {T : List Addr} {env : Env} {m : Str → Option Value} {W : List (Addr × Obj)} {s : Shared}
theorem strKind_spc (x : Str) : (decide (Builtin.Str.strKind x < Builtin.Str.strKind spc)) = false := by
  have : Builtin.Str.strKind spc = 1 := by decide +kernel
  rw [this]
  unfold Builtin.Str.strKind
  split <;> (try split) <;> decide
/-- a fact cut at its blank -/
theorem r_splitF {wd pl : List Nat} {t u : Tok} {Q : Value → Shared → Prop} (I : Inv g s₀ T env m W s) (hw : 32 ∉ wd) (hp : 32 ∉ pl) (hl : wd.length + pl.length ≤ 2 ^ 20)
    (h : ∀ D t1 t2 s', Inv g s₀ T env m ((D, lstO [.str (ofL wd) t1, .str (ofL pl) t2] 0) :: W) s' → Q (.ref D) s') :
    wpAny (model prog w) A (call (.builtin "str.split") [.str (facS wd pl) t, .str spc u]) Q E s := by
  have hlen := facS_len wd pl
  refine call_meets F.slot_str_split (typeIs_str _ _ _) F.entry_str_split (F.args_str_split_2 _ _) (meets_str_split_sep (facS wd pl) spc t u ?_ (by decide) ?_ ?_ ?_) ?_
  · rw [strKind_spc]
    have e3 : spc.length = 1 := rfl
    simp only [Bool.or_false, decide_eq_false_iff_not]
    rw [hlen, e3]; (first | lia | omega)
  · rw [occ_fac wd pl hw hp]; simp
  · rw [hlen, sizeLine_eq]; (first | lia | omega)
  · rw [split_fac wd pl hw hp]; simp; rw [sizeLine_eq]; (first | lia | omega)
  · rw [split_fac wd pl hw hp]
    exact h _ _ _ _ (I.push_tok _)
end
end Mine
end
section
open PySem PySem.W PySem.Calls
set_option compiler.extract_closed false
namespace Mine
set_option hygiene false
local macro_rules | `(tactic| walk_at "v") => `(tactic| first | exact put_eq _ _ _ | (refine put_ne (by decide) ?_; walk_at "v") | assumption | (with_unfolding_all rfl))
local macro_rules | `(tactic| walk_at "blt") => `(tactic| first | exact g_len _ | exact g_range _ | exact g_chr _ | exact g_ord _ | exact g_sorted _ | exact g_sum _)
local macro_rules | `(tactic| walk_at "glo") => `(tactic| first | exact g_mark _ | exact g_match _ | exact g_holds _ | exact g_term _ | exact g_off _ | exact g_stands _ | exact g_lowest _ | exact g_rule _ | exact g_written _ | exact g_machine _ | exact g_heard _ | exact g_needed _ | exact g_arrives _ | exact g_goes _ | exact g_reached _ | exact g_lex _ | exact g_ett _)
local macro_rules | `(tactic| walk_at "q") => `(tactic| first | with_reducible refine hQ1 _ _ ?_ | with_reducible refine hQ2 _ _ ?_ | with_reducible refine hQ3 _ _ ?_ | with_reducible refine hQ4 _ _ ?_ | with_reducible refine hQ5 _ _ ?_ | with_reducible refine hQ6 _ _ ?_ | with_reducible refine hQ7 _ _ ?_ | with_reducible refine hP1 _ ?_ | with_reducible refine hP2 _ ?_ | with_reducible refine hP3 _ ?_ | with_reducible refine hP4 _ ?_)
local macro_rules | `(tactic| walk_at "s") => `(tactic| first
  | with_reducible (first | refine x_cons ?_ | refine Sq.next ?_ | refine Sq.ret ?_ | refine x_nil ?_ | refine r_ret ?_ | refine k_if ?_ | refine k_and ?_ | refine k_and0 ?_ | refine k_or ?_ | refine k_or0 ?_ | refine k_not ?_ | refine k_ifx ?_ | refine k_test ?_ | refine k_cmp ?_ | refine k_bin ?_ | refine k_sub ?_ | refine k_assert ?_)
  | ((with_reducible show wpAny _ _ (exec (Stmt.Expr _ _) _) _ _ _); rename Inv _ _ _ _ _ _ _ => Iold; refine k_expr Iold.eo.fk ?_)
  | with_reducible refine k_list ?_
  | ((with_reducible show wpAny _ _ (eval (Expr.Attribute _ _ _) _) _ _ _); refine k_attr ?_)
  | ((with_reducible show wpAny _ _ (exec (Stmt.Assign [Expr.Attribute _ _ _] _ _) _) _ _ _); refine k_setA ?_)
  | with_reducible (first | refine k_contStmt ?_ | refine k_tuple ?_)
  | ((with_reducible show wpAny _ _ (PySem.isTrue (Expr.Name _ _) _ _) _ _ _); refine k_truth ?_)
  | ((with_reducible show wpAny _ _ (PySem.isTrue (Expr.Call _ _ _ _) _ _) _ _ _); refine k_truth ?_)
  | ((with_reducible show wpAny _ _ (PySem.isTrue (Expr.Attribute _ _ _) _ _) _ _ _); refine k_truth ?_)
  | ((with_reducible show wpAny _ _ (eval (Expr.Call (Expr.Attribute _ _ _) _ _ _) _) _ _ _); refine k_meth ?_)
  | ((with_reducible show wpAny _ _ (eval (Expr.Call _ _ _ _) _) _ _ _); refine k_call ?_)
  | ((with_reducible show wpAny _ _ (exec (Stmt.Assign [Expr.Name _ _] _ _) _) _ _ _); refine r_assign ?_)
  | (rename Inv _ _ _ _ _ _ _ => Iold; with_reducible (first | refine r_int Iold (fun t' s' I' => ?_) | refine r_str Iold (fun t' s' I' => ?_) | refine r_sub Iold (fun t' s' I' => ?_) | refine r_mod Iold (by decide) (fun t' s' I' => ?_) | refine r_add Iold (fun t' s' I' => ?_) | refine n_store (by assumption) (by assumption) Iold (by decide) (fun s' I' => ?_) | refine k_neg Iold (fun t' s' I' => ?_) | refine a_addI Iold (fun t' s' I' => ?_)); clear Iold)
  | ((with_reducible show wpAny _ _ (eval (Expr.Name _ _) _) _ _ _); rename Inv _ _ _ _ _ _ _ => Iold; first
     | refine n_var (by assumption) Iold (by decide) (by walk_at "v") ?_
     | refine n_blt (by assumption) Iold (by assumption) (by walk_at "blt") (by decide) ?_
     | refine n_glo (by assumption) Iold (by assumption) (by walk_at "glo") (by decide) ?_)
  | ((with_reducible show wpAny _ _ (callWith _ (Value.builtin _) _ _ _) _ _ _); refine k_bi ?_)
  | ((with_reducible show wpAny _ _ (callWith _ (Value.type _) _ _ _) _ _ _); refine k_ty ?_)
  | ((with_reducible show wpAny _ _ (spliced (backTo _ (starEach (_ :: _) _))) _ _ _); refine k_arg ?_)
  | ((with_reducible show wpAny _ _ (spliced (backTo _ (starEach [] _))) _ _ _); refine k_argn ?_)
  | with_reducible (first | refine r_target ?_ | refine k_bool ?_ | refine c_ltI ?_ | refine c_gtI ?_ | refine c_geI ?_ | refine c_eqI ?_ | refine c_eqS ?_ | refine c_neS ?_ | refine c_ninS ?_ | refine t_bool ?_ | refine Tn.next ?_ | refine Tn.cont ?_ | refine Sq.cont ?_ | refine part_none ?_ | refine part_some ?_ | refine Tn.ret ?_)
  | with_reducible refine k_aug ?_
  | (rename Inv _ _ _ _ _ _ _ => Iold; with_reducible refine n_load (by assumption) Iold (by decide) (by walk_at "v") ?_)
  | ((with_reducible show wpAny _ _ (getMethod (Value.str _ _) _ _) _ _ _); first | with_reducible refine mth_split ?_ | with_reducible refine mth_find ?_ | with_reducible refine mth_join ?_)
  | walk_at "q"
  )
local macro_rules | `(tactic| walk_at "w") => `(tactic| ((repeat walk_at "s"); rename Inv _ _ _ _ _ _ _ => I; revert I; (repeat (rename Inv _ _ _ _ _ _ _ => Iz; clear Iz)); intro I))
section
open PySem PySem.W PySem.Calls
set_option Elab.async false
set_option compiler.extract_closed false
set_option maxRecDepth 100000
theorem pat_has (x : Str) : Txt.contains (pat x) dots = true := by
  unfold Txt.contains
  refine (StrLaws.found_iff _ _).mpr ⟨0, ?_, ?_⟩
  · rw [pat_len]; show 0 + 3 ≤ _; (first | lia | omega)
  · rw [StrLaws.subAt_eq]
    have : (pat x).cps.toList = patL x.cps.toList := rfl
    rw [this]
    cases x.cps.toList <;> rfl
/-- from a place on -/
theorem sub_step (c : Nat) (r : List Nat) : ∀ (l : List Nat) (k : Nat), l[k]? = some c → (∀ j, j < k → l[j]? ≠ some c) → ((c :: r).Sublist l ↔ r.Sublist (l.drop (k + 1)))
  | [], k, h, _ => by simp at h
  | a :: l, 0, h, _ => by
    have : a = c := by simpa using h
    subst this
    simp
  | a :: l, k + 1, h, hn => by
    have hne : a ≠ c := fun e => hn 0 (by (first | lia | omega)) (by simp [e])
    have ih := sub_step c r l k (by simpa using h) fun j hj => by
      have := hn (j + 1) (by (first | lia | omega))
      simpa using this
    rw [List.drop_succ_cons, ← ih]
    constructor
    · intro q
      cases q with
      | cons _ q => exact q
      | cons_cons _ q => exact absurd rfl hne
    · intro q; exact q.cons _
theorem sub_none {c : Nat} {r l : List Nat} (h : c ∉ l) : ¬ (c :: r).Sublist l := fun q => h (q.subset (.head _))
noncomputable abbrev l21 : List (Str × NameKind) := [(Str.ofString "want", .local), (Str.ofString "got", .local), (Str.ofString "ws", .local), (Str.ofString "startpos", .local), (Str.ofString "endpos", .local), (Str.ofString "w", .local), (Str.ofString "ELLIPSIS_MARKER", .globalImplicit), (Str.ofString "len", .globalImplicit)]
theorem f21b (w : World) (a b : Value) : bindArgs (fd1 w 21) ⟨[a, b], []⟩ = pure ([Str.ofString "want", Str.ofString "got"].zip [a, b]) := by kernel_rfl
set_option maxHeartbeats 4000000 in
theorem c_match {w : World} {A : Around} {s : Shared} {g : Mp} {Q E : Value → Shared → Prop} {x got : Str} {t1 t2 : Tok} (r : Room A 1) (b : Bs (K1 w) g) (hg : ∀ a o, g a = some o → s.heap.get? a = some o) (hx : x.length ≤ 2 ^ 20) (hd : 46 ∉ x.cps.toList) (hl : got.length < 2 ^ 40)
    (h : ∀ s', Keeps s s' → Q (.bool (decide (x.cps.toList.Sublist got.cps.toList))) s') : wpAny (model pr1 w) A (call (.ref 21) [.str (pat x) t1, .str got t2]) Q E s := by
  have F : Fn (K1 w) 21 (fd1 w 21) l21 [Str.ofString "want", Str.ofString "got"] _ := ⟨by kernel_rfl, by kernel_rfl, by rfl, by kernel_rfl, by kernel_rfl, by kernel_rfl, by kernel_rfl, by kernel_rfl, by kernel_rfl, by kernel_rfl, by decide⟩
  refine r_def F r b hg rfl (f21b w _ _) ?_
  clear F
  intro env s₁ el r I cw
  conv in (fB _) => whnf
  generalize A.deeper env = A1 at r ⊢
  repeat walk_at "s"
  refine bfalse (by rw [pat_has]; rfl) ?_
  walk_at "w"
  refine r_splitP I hd hx (fun D vs s' hvs I => ?_)
  repeat walk_at "s"
  have hlen : vs.length = x.length + 2 := by rw [hvs.1]; simp [Str.length]
  rename Inv _ _ _ _ _ _ _ => I
  refine r_lenL I (.inr ⟨_, .head _⟩) (by (first | lia | omega)) (fun t s' I => ?_)
  repeat walk_at "s"
  refine ⟨by simp; (first | lia | omega), ?_⟩
  walk_at "w"
  refine k_pair cw el I.eo.fk (by decide) (by decide) (by kernel_rfl) r.hand ?_
  walk_at "w"
  refine r_lenS I hl (fun t s' I => ?_)
  repeat walk_at "s"
  refine ⟨_, _, _, _, _, rfl, by assumption, fun s' I => ?_⟩
  have hds : ∀ i, ((emp :: (x.cps.toList.map oneS ++ [emp])).map PyData.str)[i]? = ((emp :: (x.cps.toList.map oneS ++ [emp]))[i]?).map PyData.str := fun i => List.getElem?_map ..
  refine hideP fun Po hPo => ?_
  obtain ⟨v0, hv0, r0⟩ := hvs.get' (i := 0) (d := .str emp) (by rfl)
  obtain ⟨u0, rfl⟩ := r0.unstr
  obtain ⟨v1, hv1, r1⟩ := hvs.get' (i := x.length + 1) (d := .str emp) (by
    rw [hds, List.getElem?_cons_succ, List.getElem?_append_right (by simp [Str.length])]
    simp [Str.length])
  obtain ⟨u1, rfl⟩ := r1.unstr
  refine hPo ?_; clear hPo Po
  walk_at "w"
  refine i_list I (.inr ⟨_, .head _⟩) (by decide) (by decide) hv0 ?_
  walk_at "w"
  refine t_str I (by decide) (fun s' I => ?_)
  refine bfalse rfl ?_
  walk_at "w"
  refine i_listN I (.inr ⟨_, .head _⟩) (by decide) (by (first | lia | omega)) (by decide) (by rw [show ((-1 : Int) + vs.length).toNat = x.length + 1 by (first | lia | omega)]; exact hv1) ?_
  walk_at "w"
  refine t_str I (by decide) (fun s' I => ?_)
  refine bfalse rfl ?_
  repeat walk_at "s"
  refine bfalse (by simp) ?_
  walk_at "w"
  have offD := I.off (.head _)
  have I' := I.absorb1
  have hle : g.Le (g.put D (lstO vs 0)) := Mp.le_put offD
  have b' := b.mono hle
  refine r_for' (n := vs.toArray.size) (P := fun i v => vs.toArray[i]? = some v) cw (fun i g' m W => g' = g.put D (lstO vs 0) ∧ W = [] ∧ (∃ t, m (Str.ofString "got") = some (.str got t)) ∧ (∃ t, m (Str.ofString "endpos") = some (.int got.length t)) ∧
    ∃ (p : Nat) (t : Tok), p ≤ got.length ∧ m (Str.ofString "startpos") = some (.int p t) ∧ (x.cps.toList.Sublist got.cps.toList ↔ (x.cps.toList.drop (i - 1)).Sublist (got.cps.toList.drop p))) r.hand ?_
  refine n_var el I (by decide) (by walk_at "v") ?_
  refine ⟨_, _, _, I', itr_list (Mp.put_self _ _ _) rfl rfl, ⟨rfl, rfl, ⟨_, by walk_at "v"⟩, ⟨_, by walk_at "v"⟩, 0, _, Nat.zero_le _, by walk_at "v", by simp⟩, ?_, ?_⟩
  · rintro i v g' m W It s' hi hv le hz1 I
    refine hideP fun Po hPo => ?_
    obtain ⟨rfl, rfl, ⟨tg, hgot⟩, ⟨te, hend⟩, p, tp, hp, hsp, hiff⟩ := hz1
    refine hPo ?_; clear hPo Po
    refine hideT fun Qo1 hQ1 => ?_
    have hv' : vs[i]? = some v := by simpa using hv
    refine hideP fun Po hPo => ?_
    obtain ⟨d, hd1, hd2⟩ := hvs.get hv'
    refine hPo ?_; clear hPo Po
    have hi' : i < x.length + 2 := by simpa [hlen] using hi
    rw [hds] at hd1
    have hx0 : x.cps.toList.length = x.length := by simp [Str.length]
    by_cases hmid : 0 < i ∧ i ≤ x.length
    · -- a sign
      refine hideP fun Po hPo => ?_
      obtain ⟨k, rfl⟩ : ∃ k, i = k + 1 := ⟨i - 1, by (first | lia | omega)⟩
      refine hPo ?_; clear hPo Po
      have hk : k < x.cps.toList.length := by (first | lia | omega)
      rw [List.getElem?_cons_succ, List.getElem?_append_left (by simpa using hk), List.getElem?_map, List.getElem?_eq_getElem hk] at hd1
      refine hideP fun Po hPo => ?_
      obtain rfl : d = .str (oneS x.cps.toList[k]) := by simpa using hd1.symm
      obtain ⟨tv, rfl⟩ := hd2.unstr
      refine hPo ?_; clear hPo Po
      walk_at "w"
      rw [show k + 1 - 1 = k by (first | lia | omega), List.drop_eq_getElem_cons hk] at hiff
      refine r_find4 I (fun t s' I => ?_)
      rcases find_one got x.cps.toList[k] p hp with ⟨e, hno⟩ | ⟨j, e, h1, h2⟩
      · rw [e]
        repeat walk_at "s"
        refine btrue (by rfl) ?_
        repeat walk_at "s"
        have : decide (x.cps.toList.Sublist got.cps.toList) = false := decide_eq_false fun q => sub_none hno (hiff.mp q)
        rename Inv _ _ _ _ _ _ _ => I
        have hq := h _ I.keptAll
        rw [this] at hq
        exact hq
      · have hj : p + j < got.cps.toList.length := by
          obtain ⟨hj, _⟩ := List.getElem?_eq_some_iff.mp h1
          simp at hj ⊢; (first | lia | omega)
        rw [e]
        repeat walk_at "s"
        refine bfalse (by simp; (first | lia | omega)) ?_
        walk_at "w"
        refine r_lenS I (by show 1 < _; decide) (fun t s' I => ?_)
        repeat walk_at "s"
        refine ⟨_, _, _, Mp.Le.refl _, ?_, by assumption⟩
        refine ⟨rfl, rfl, ⟨_, by walk_at "v"⟩, ⟨_, by walk_at "v"⟩, p + j + 1, _, by simp [Str.length] at hj ⊢; (first | lia | omega), by walk_at "v", ?_⟩
        rw [hiff, show k + 1 + 1 - 1 = k + 1 by (first | lia | omega), sub_step _ _ _ j h1 h2, List.drop_drop]
        rw [show p + (j + 1) = p + j + 1 by (first | lia | omega)]
    · -- the empty text at either end
      refine hideP fun Po hPo => ?_
      obtain rfl : d = .str emp := by
        rcases Nat.eq_zero_or_pos i with rfl | hpos
        · simpa using hd1.symm
        · have : i = x.length + 1 := by (first | lia | omega)
          subst this
          rw [List.getElem?_cons_succ, List.getElem?_append_right (by simp [Str.length])] at hd1
          simp [Str.length] at hd1
          exact hd1.symm
      obtain ⟨tv, rfl⟩ := hd2.unstr
      refine hPo ?_; clear hPo Po
      walk_at "w"
      refine r_find4 I (fun t s' I => ?_)
      rw [find_emp got p hp]
      repeat walk_at "s"
      refine bfalse (by simp) ?_
      walk_at "w"
      refine r_lenS I (by decide) (fun t s' I => ?_)
      repeat walk_at "s"
      refine ⟨_, _, _, Mp.Le.refl _, ?_, by assumption⟩
      refine ⟨rfl, rfl, ⟨_, by walk_at "v"⟩, ⟨_, by walk_at "v"⟩, p, _, hp, by show put _ _ _ _ = some (.int (p + (0 : Nat)) _); walk_at "v", ?_⟩
      rw [hiff]
      rcases Nat.eq_zero_or_pos i with rfl | hpos
      · rfl
      · have : i = x.length + 1 := by (first | lia | omega)
        subst this
        have e1 : x.cps.toList.drop (x.length + 1 - 1) = [] := List.drop_eq_nil_of_le (by (first | lia | omega))
        have e2 : x.cps.toList.drop (x.length + 1 + 1 - 1) = [] := List.drop_eq_nil_of_le (by (first | lia | omega))
        rw [e1, e2]
  · rintro g' m W s' le hz1 I
    refine hideP fun Po hPo => ?_
    obtain ⟨rfl, rfl, ⟨tg, hgot⟩, ⟨te, hend⟩, p, tp, hp, hsp, hiff⟩ := hz1
    refine hPo ?_; clear hPo Po
    walk_at "w"
    have : decide (x.cps.toList.Sublist got.cps.toList) = true := decide_eq_true (hiff.mpr (by
      rw [List.drop_eq_nil_of_le (by simp [hlen, Str.length])]; exact List.nil_sublist _))
    have hq := h _ I.keptAll
    rw [this] at hq
    exact hq
end
section
open PySem PySem.W PySem.Calls
set_option Elab.async false
set_option compiler.extract_closed false
set_option maxRecDepth 100000
noncomputable def stStep (sh : Str) (at_ : Nat) (c : Nat) : Nat := if at_ < sh.cps.size ∧ sh.cps[at_]? = some c then at_ + 1 else at_
noncomputable def standsF (sh lo : Str) : Bool := lo.cps.toList.foldl (stStep sh) 0 == sh.cps.size
noncomputable abbrev l117 : List (Str × NameKind) := [(Str.ofString "short", .local), (Str.ofString "long", .local), (Str.ofString "at", .local), (Str.ofString "sign", .local), (Str.ofString "len", .globalImplicit)]
theorem f117b (w : World) (a b : Value) : bindArgs (fd1 w 131) ⟨[a, b], []⟩ = pure ([Str.ofString "short", Str.ofString "long"].zip [a, b]) := by kernel_rfl
theorem c_stands {w : World} {A : Around} {s : Shared} {g : Mp} {Q E : Value → Shared → Prop} {sh lo : Str} {t1 t2 : Tok} (r : Room A 1) (b : Bs (K1 w) g) (hg : ∀ a o, g a = some o → s.heap.get? a = some o) (hl : sh.length < 2 ^ 40)
    (h : ∀ s', Keeps s s' → Q (.bool (standsF sh lo)) s') : wpAny (model pr1 w) A (call (.ref 131) [.str sh t1, .str lo t2]) Q E s := by
  have F : Fn (K1 w) 131 (fd1 w 131) l117 [Str.ofString "short", Str.ofString "long"] _ := ⟨by kernel_rfl, by kernel_rfl, by rfl, by kernel_rfl, by kernel_rfl, by kernel_rfl, by kernel_rfl, by kernel_rfl, by kernel_rfl, by kernel_rfl, by decide⟩
  refine r_def F r b hg rfl (f117b w _ _) ?_
  clear F
  intro env s₁ el r I cw
  conv in (fB _) => whnf
  generalize A.deeper env = A1 at r ⊢
  iterate 6 walk_at "s"
  refine r_for' (n := lo.cps.size) (P := SignAt lo) cw (fun i g' m W => g = g' ∧ W = [] ∧ m (Str.ofString "short") = some (.str sh t1) ∧ ∃ t, m (Str.ofString "at") = some (.int ((lo.cps.toList.take i).foldl (stStep sh) 0 : Nat) t)) r.hand ?_
  walk_at "s"
  refine ⟨_, _, _, by assumption, itr_str, ⟨rfl, rfl, by walk_at "v", _, by walk_at "v"⟩, ?_, ?_⟩
  · rintro i v g' m W It s' hi hz1 le hz2 I
    refine hideP fun Po hPo => ?_
    obtain ⟨c, u, hc, rfl⟩ := hz1
    obtain ⟨rfl, rfl, hsh, ta, hat⟩ := hz2
    refine hPo ?_; clear hPo Po
    refine hideT fun Qo1 hQ1 => ?_
    have hfold : (lo.cps.toList.take (i + 1)).foldl (stStep sh) 0 = stStep sh ((lo.cps.toList.take i).foldl (stStep sh) 0) c := by
      rw [List.take_add_one, List.foldl_append]
      simp [hc]
    generalize hk : (lo.cps.toList.take i).foldl (stStep sh) 0 = k at *
    walk_at "w"
    refine r_lenS I hl (fun t s' I => ?_)
    repeat walk_at "s"
    refine bsplit (fun h1 => ?_) (fun h1 => ?_)
    · have hlt : k < sh.cps.size := by simpa [Str.length] using h1
      walk_at "w"
      refine i_str I (by (first | lia | omega)) (by simp only [Str.length] at hl; (first | lia | omega)) (c := sh.cps[k]) (by simp [hlt]) (fun t s' I => ?_)
      repeat walk_at "s"
      refine bsplit (fun h2 => ?_) (fun h2 => ?_)
      · have hcc : sh.cps[k] = c := by simpa using h2
        have hst : stStep sh k c = k + 1 := by unfold stStep; rw [if_pos ⟨hlt, by simp [hlt, hcc]⟩]
        repeat walk_at "s"
        refine btrue rfl ?_
        repeat walk_at "s"
        refine ⟨_, _, _, Mp.Le.refl _, ?_, by assumption⟩; exact ⟨rfl, rfl, by walk_at "v", _, by rw [hfold, hst]; walk_at "v"⟩
      · have hcc : ¬ sh.cps[k] = c := by simpa using h2
        have hst : stStep sh k c = k := by unfold stStep; rw [if_neg (fun q => hcc (by simpa [hlt] using q.2))]
        refine bfalse rfl ?_
        repeat walk_at "s"
        refine ⟨_, _, _, Mp.Le.refl _, ?_, by assumption⟩; exact ⟨rfl, rfl, by walk_at "v", _, by rw [hfold, hst]; walk_at "v"⟩
    · have hlt : ¬ k < sh.cps.size := by simpa [Str.length] using h1
      have hst : stStep sh k c = k := by unfold stStep; rw [if_neg (fun q => hlt q.1)]
      refine bfalse rfl ?_
      repeat walk_at "s"
      refine ⟨_, _, _, Mp.Le.refl _, ?_, by assumption⟩; exact ⟨rfl, rfl, by walk_at "v", _, by rw [hfold, hst]; walk_at "v"⟩
  · rintro g' m W s' le hz1 I
    refine hideP fun Po hPo => ?_
    obtain ⟨rfl, rfl, hsh, ta, hat⟩ := hz1
    refine hPo ?_; clear hPo Po
    walk_at "w"
    refine r_lenS I hl (fun t s' I => ?_)
    walk_at "w"
    have e : ((((List.foldl (stStep sh) 0 (List.take lo.cps.size lo.cps.toList) : Nat) : Int)) == (sh.length : Int)) = standsF sh lo := by
      unfold standsF
      have e1 : List.take lo.cps.size lo.cps.toList = lo.cps.toList := by rw [List.take_of_length_le]; simp
      rw [e1, Bool.eq_iff_iff]
      simp [Str.length]
      (first | lia | omega)
    rw [e]
    exact h _ I.keptAll
end
section
open PySem PySem.W PySem.Calls
set_option Elab.async false
set_option compiler.extract_closed false
set_option maxRecDepth 100000
theorem cat_pat (x : Str) : dots ++ ofL (catL (x.cps.toList.map fun c => oneS c ++ dots)) = pat x := by
  refine str_ext ?_
  rw [toList_app, ofL_toList]
  show [46, 46, 46] ++ _ = patL x.cps.toList
  induction x.cps.toList with
  | nil => rfl
  | cons c r ih =>
    rw [List.map_cons, catL_cons, toList_app]
    show 46 :: 46 :: 46 :: c :: ([46, 46, 46] ++ catL (List.map (fun c => oneS c ++ dots) r)) = 46 :: 46 :: 46 :: c :: patL r
    rw [ih]
theorem cat_len (x : Str) : (catL (x.cps.toList.map fun c => oneS c ++ dots)).length = 4 * x.length := by
  show _ = 4 * x.cps.size
  rw [← Array.length_toList]
  induction x.cps.toList with
  | nil => rfl
  | cons c r ih =>
    rw [List.map_cons, catL_cons, toList_app]
    rw [List.length_append, ih]
    show 4 + _ = _
    simp; (first | lia | omega)
noncomputable def holdsB (text : Str) (ws : List Str) : Bool := ws.any fun x => decide (x.cps.toList.Sublist text.cps.toList)
noncomputable abbrev l95 : List (Str × NameKind) := [(Str.ofString "text", .local), (Str.ofString "words", .local), (Str.ofString "word", .local), (Str.ofString "_ellipsis_match", .globalImplicit)]
theorem f95b (w : World) (a b : Value) : bindArgs (fd1 w 102) ⟨[a, b], []⟩ = pure ([Str.ofString "text", Str.ofString "words"].zip [a, b]) := by kernel_rfl
set_option maxHeartbeats 4000000 in
theorem c_holds {w : World} {A : Around} {s : Shared} {g : Mp} {Q E : Value → Shared → Prop} {text : Str} {ws : List Str} {t1 : Tok} {v2 : Value} (r : Room A 2) (b : Bs (K1 w) g) (hg : ∀ a o, g a = some o → s.heap.get? a = some o) (hv : Rd g v2 (.list (ws.map PyData.str))) (hx : ∀ x ∈ ws, x.length ≤ 2 ^ 20 ∧ 46 ∉ x.cps.toList) (hl : text.length < 2 ^ 40)
    (h : ∀ s', Keeps s s' → Q (.bool (holdsB text ws)) s') : wpAny (model pr1 w) A (call (.ref 102) [.str text t1, v2]) Q E s := by
  have F : Fn (K1 w) 102 (fd1 w 102) l95 [Str.ofString "text", Str.ofString "words"] _ := ⟨by kernel_rfl, by kernel_rfl, by rfl, by kernel_rfl, by kernel_rfl, by kernel_rfl, by kernel_rfl, by kernel_rfl, by kernel_rfl, by kernel_rfl, by decide⟩
  obtain ⟨a, vs, n, rfl, ea, hvs⟩ := hv.unlist
  refine r_def F r b hg rfl (f95b w _ _) ?_
  clear F
  intro env s₁ el r I cw
  conv in (fB _) => whnf
  generalize A.deeper env = A1 at r ⊢
  refine x_cons ?_
  refine r_for' (n := vs.toArray.size) (P := fun i v => vs.toArray[i]? = some v) cw (fun i g' m W => g = g' ∧ m (Str.ofString "text") = some (.str text t1) ∧ holdsB text (ws.take i) = false) r.hand ?_
  walk_at "s"
  refine ⟨_, _, _, by assumption, itr_list ea rfl rfl, ⟨rfl, by walk_at "v", rfl⟩, ?_, ?_⟩
  · rintro i v g' m W It s' hi hvi le ⟨rfl, hte, hno⟩ I
    refine hideT fun Qo1 hQ1 => ?_
    have hv' : vs[i]? = some v := by simpa using hvi
    obtain ⟨d, hd1, hd2⟩ := hvs.get hv'
    rw [List.getElem?_map] at hd1
    obtain ⟨x, hxi, rfl⟩ := Option.map_eq_some_iff.mp hd1
    obtain ⟨tv, rfl⟩ := hd2.unstr
    obtain ⟨hx1, hx2⟩ := hx x (List.mem_of_getElem? hxi)
    have htake : ∀ b, b = decide (x.cps.toList.Sublist text.cps.toList) → holdsB text (ws.take (i + 1)) = b := fun b hb => by
      unfold holdsB at hno ⊢
      rw [List.take_add_one, List.any_append, hno, hxi]
      simp [hb]
    repeat walk_at "s"
    refine k_fn (o := fo w 21) (fd := fd1 w 21) rfl ?_
    walk_at "w"
    refine k_lc cw el (by decide) rfl (by decide) r.hand ?_
    walk_at "w"
    refine ⟨_, _, _, _, _, fun j g ds => ds = ((x.cps.toList.take j).map fun c => oneS c ++ dots).map PyData.str, I, itr_str, ⟨by simp, ?_, ?_⟩, ?_⟩
    · rintro j g ds rfl
      have hq : x.cps.toList.length ≤ 2 ^ 20 := by simpa [Str.length] using hx1
      rw [sizeLine_eq]; simp [List.length_take]; simp at hq; (first | lia | omega)
    · rintro j v g2 ds cenv mc W2 s2 hj ⟨c, u, hc, rfl⟩ G rfl el' hmc I2
      refine tests_nil ?_
      refine btrue rfl ?_
      clear I
      walk_at "w"
      rw [dots_eq]
      refine r_cat I (by show (oneS c ++ dots).length ≤ _; rw [Str.length_append]; show 1 + 3 ≤ _; rw [sizeLine_eq]; decide) (fun t s' I => ?_)
      refine ⟨_, _, Gr.refl _ _, .str _ _, ?_, I⟩
      rw [List.take_add_one, List.map_append, List.map_append]
      have : x.cps.toList[j]? = some c := by simpa using hc
      rw [this]; rfl
    · rintro D g0 g2 ds s2 I2 G rfl le2 hR _
      obtain ⟨D', vs', n', e1, e2, hvs'⟩ := hR.unlist
      cases e1
      rw [List.take_of_length_le (by simp)] at hvs'
      have hlen := cat_len x
      clear I
      walk_at "w"
      rw [emp_eq]
      refine r_join I (.inl ⟨_, e2⟩) hvs' (by rw [hlen, sizeLine_eq]; (first | lia | omega)) (fun t s' I => ?_)
      rw [dots_eq]
      refine r_cat I (by rw [cat_pat, pat_len, sizeLine_eq]; simp [Str.length] at hx1 ⊢; (first | lia | omega)) (fun t s' I => ?_)
      rw [cat_pat]
      walk_at "w"
      have b2 := b.mono (le.trans G.le)
      refine ⟨I.keep _ _ (b2.k _ _ (ko21 w)), ?_⟩
      refine c_match r b2 I.keep hx1 hx2 hl (fun s' k => ?_)
      have I := (I.keeps k).less G.le
      repeat walk_at "s"
      refine bsplit (fun h1 => ?_) (fun h1 => ?_)
      · walk_at "w"
        have hq := h _ I.keptAll
        have : holdsB text ws = true := by
          unfold holdsB
          exact List.any_eq_true.mpr ⟨x, List.mem_of_getElem? hxi, h1⟩
        rw [this] at hq
        exact hq
      · repeat walk_at "s"
        refine ⟨_, _, _, Mp.Le.refl _, ?_, by assumption⟩; exact ⟨rfl, by walk_at "v", htake _ h1.symm⟩
  · rintro g' m W s' le ⟨rfl, hte, hno⟩ I
    walk_at "w"
    have hq := h _ I.keptAll
    rw [List.take_of_length_le (by rw [List.size_toArray, hvs.1]; simp)] at hno
    rw [hno] at hq
    exact hq
end
section
open PySem PySem.W PySem.Calls
set_option Elab.async false
set_option compiler.extract_closed false
set_option maxRecDepth 100000
noncomputable abbrev l73 : List (Str × NameKind) := [(Str.ofString "x", .local), (Str.ofString "NT_OFFSET", .globalImplicit)]
theorem f73b (w : World) (a : Value) : bindArgs (fd1 w 73) ⟨[a], []⟩ = pure ([Str.ofString "x"].zip [a]) := by kernel_rfl
theorem c_term {w : World} {A : Around} {s : Shared} {g : Mp} {Q E : Value → Shared → Prop} {i : Int} {t1 : Tok} (r : Room A 1) (b : Bs (K1 w) g) (hg : ∀ a o, g a = some o → s.heap.get? a = some o)
    (h : ∀ s', Keeps s s' → Q (.bool (decide (i < 256))) s') : wpAny (model pr1 w) A (call (.ref 73) [.int i t1]) Q E s := by
  have F : Fn (K1 w) 73 (fd1 w 73) l73 [Str.ofString "x"] _ := ⟨by kernel_rfl, by kernel_rfl, by rfl, by kernel_rfl, by kernel_rfl, by kernel_rfl, by kernel_rfl, by kernel_rfl, by kernel_rfl, by kernel_rfl, by decide⟩
  refine r_def F r b hg rfl (f73b w _) ?_
  clear F
  intro env s₁ el r I cw
  conv in (fB _) => whnf
  generalize A.deeper env = A1 at r ⊢
  walk_at "w"
  exact h _ I.keptAll
end
section
open PySem PySem.W PySem.Calls
set_option maxRecDepth 100000
structure RuleOk (rule : List Int) : Prop where
  len : rule.length ≤ 5
  parts : ∀ p ∈ rule, (7 ≤ p ∧ p ≤ 22) ∨ p = 256 ∨ p = 257 ∨ p = 258
theorem rd_strs {g : Mp} : ∀ l : List (Str × Tok), RdAll g (strValues l) ((l.map (·.1)).map PyData.str)
  | [] => .nil
  | (x, t) :: r => .cons (.str x t) (rd_strs r)
theorem str_at {g : Mp} {vs : List Value} {xs : List Str} {j : Nat} {v : Value} (h : RdAll g vs (xs.map PyData.str)) (hv : vs.toArray[j]? = some v) : ∃ x, xs[j]? = some x ∧ ∃ t, v = .str x t := by
  obtain ⟨d, hd1, hd2⟩ := h.get (i := j) (v := v) (by simpa using hv)
  rw [List.getElem?_map] at hd1
  obtain ⟨x, hx, rfl⟩ := Option.map_eq_some_iff.mp hd1
  exact ⟨x, hx, hd2.unstr⟩
theorem flat_len (kk : List Str) : ∀ l : List Str, (l.flatMap fun t => kk.map (t ++ ·)).length = l.length * kk.length
  | [] => by simp
  | a :: r => by rw [List.flatMap_cons, List.length_append, flat_len kk r, List.length_map, List.length_cons, Nat.succ_mul]; (first | lia | omega)
end
section
open PySem PySem.W PySem.Calls
set_option Elab.async false
set_option compiler.extract_closed false
set_option maxRecDepth 100000
theorem fmodN (a b : Nat) : (a : Int).fmod b = ((a % b : Nat) : Int) := by rw [Int.fmod_eq_emod_of_nonneg _ (by (first | lia | omega))]; rfl
theorem fdivN (a b : Nat) : (a : Int).fdiv b = ((a / b : Nat) : Int) := by rw [Int.fdiv_eq_ediv_of_nonneg _ (by (first | lia | omega))]; rfl
noncomputable def startF (n : Nat) : Nat := 256 + n % 2
noncomputable def goalF (k n : Nat) : Nat := if k = 0 ∨ n / 2 % 3 = 2 then 258 else 257 - n % 2
noncomputable def letF (l0 l1 n : Nat) : Nat := if n / 12 % 2 = 0 then l0 else l1
/-- the rule that a number tells -/
noncomputable def ruleF (l0 l1 k n : Nat) : List Int := if n / 6 % 2 = 1 then [(startF n : Int), (goalF k n : Int), (letF l0 l1 n : Int)] else [(startF n : Int), (letF l0 l1 n : Int), (goalF k n : Int)]
theorem beq_nat (a b : Nat) : ((a : Int) == (b : Int)) = decide (a = b) := by
  by_cases h : a = b
  · subst h; simp
  · rw [decide_eq_false h, beq_eq_false_iff_ne]; (first | lia | omega)
noncomputable abbrev l87 : List (Str × NameKind) := [(Str.ofString "k", .local), (Str.ofString "number", .local), (Str.ofString "letters", .local), (Str.ofString "start", .local), (Str.ofString "goal", .local), (Str.ofString "letter", .local)]
theorem f87b (w : World) (a b c : Value) : bindArgs (fd1 w 87) ⟨[a, b, c], []⟩ = pure ([Str.ofString "k", Str.ofString "number", Str.ofString "letters"].zip [a, b, c]) := by kernel_rfl
set_option maxHeartbeats 4000000 in
theorem c_rule {w : World} {A : Around} {s : Shared} {g : Mp} {Q E : Value → Shared → Prop} {l0 l1 k number : Nat} {vc : Value} {t1 t2 : Tok} (r : Room A 1) (b : Bs (K1 w) g) (hg : ∀ a o, g a = some o → s.heap.get? a = some o)
    (hc : Rd g vc (.list [.int l0, .int l1])) (hk : k < 2 ^ 20)
    (h : ∀ a vs n s', Keeps s s' → s.heap.get? a = none → s'.heap.get? a = some (lstO vs n) → RdAll (fun _ => none) vs ((ruleF l0 l1 k number).map PyData.int) → Q (.ref a) s') : wpAny (model pr1 w) A (call (.ref 87) [.int k t1, .int number t2, vc]) Q E s := by
  have F : Fn (K1 w) 87 (fd1 w 87) l87 [Str.ofString "k", Str.ofString "number", Str.ofString "letters"] _ := ⟨by kernel_rfl, by kernel_rfl, by rfl, by kernel_rfl, by kernel_rfl, by kernel_rfl, by kernel_rfl, by kernel_rfl, by kernel_rfl, by kernel_rfl, by decide⟩
  refine hideP fun Po hPo => ?_
  obtain ⟨ca, cvs, cn, rfl, eca, hcvs⟩ := hc.unlist
  obtain ⟨v0, v1, rfl⟩ := len2 hcvs.1
  obtain ⟨u0, rfl⟩ := hcvs.uncons.1.unint
  obtain ⟨u1, rfl⟩ := hcvs.uncons.2.uncons.1.unint
  refine hPo ?_; clear hPo Po
  refine r_def F r b hg rfl (f87b w _ _ _) ?_
  clear F
  intro env s₁ el r I cw
  conv in (fB _) => whnf
  generalize A.deeper env = A1 at r ⊢
  have e2 : ∀ a : Nat, (a : Int).fmod 2 = ((a % 2 : Nat) : Int) := fun a => fmodN a 2
  have e3 : ∀ a : Nat, (a : Int).fmod 3 = ((a % 3 : Nat) : Int) := fun a => fmodN a 3
  have d2 : ∀ a : Nat, (a : Int).fdiv 2 = ((a / 2 : Nat) : Int) := fun a => fdivN a 2
  have d6 : ∀ a : Nat, (a : Int).fdiv 6 = ((a / 6 : Nat) : Int) := fun a => fdivN a 6
  have d12 : ∀ a : Nat, (a : Int).fdiv 12 = ((a / 12 : Nat) : Int) := fun a => fdivN a 12
  have fin : ∀ {m W s'} {tg ts tl : Tok} {D : Addr} {vs : List Value} {k' : Nat}, Inv g s [] env m ((D, lstO vs k') :: W) s' → ((number / 6 % 2 = 1 ∧ vs = [.int (startF number : Int) ts, .int (goalF k number : Int) tg, .int (letF l0 l1 number : Int) tl]) ∨ (number / 6 % 2 ≠ 1 ∧ vs = [.int (startF number : Int) ts, .int (letF l0 l1 number : Int) tl, .int (goalF k number : Int) tg])) → Q (.ref D) s' := by
    intro m W s' tg ts tl D vs k' I hv
    refine h D vs k' _ I.keptAll ((I.offW _ (.head _)).2.elim (fun h => (nomatch h)) id) (I.led _ (.head _)) ?_
    unfold ruleF
    rcases hv with ⟨a, rfl⟩ | ⟨a, rfl⟩
    · rw [if_pos a]; exact .cons (.int _ _) (.cons (.int _ _) (.cons (.int _ _) .nil))
    · rw [if_neg a]; exact .cons (.int _ _) (.cons (.int _ _) (.cons (.int _ _) .nil))
  have b0 : ∀ a : Nat, ((a : Int) == 0) = decide (a = 0) := fun a => beq_nat a 0
  have b1 : ∀ a : Nat, ((a : Int) == 1) = decide (a = 1) := fun a => beq_nat a 1
  have b2 : ∀ a : Nat, ((a : Int) == 2) = decide (a = 2) := fun a => beq_nat a 2
  have eS : (256 : Int) + ((number % 2 : Nat) : Int) = (startF number : Int) := by unfold startF; (first | lia | omega)
  have hi : ∃ tl, [Value.int (l0 : Int) u0, Value.int (l1 : Int) u1][((number / 12 % 2 : Nat) : Int).toNat]? = some (.int (letF l0 l1 number : Int) tl) := by
    unfold letF
    rw [Int.toNat_natCast]
    have : number / 12 % 2 = 0 ∨ number / 12 % 2 = 1 := by (first | lia | omega)
    rcases this with e | e
    · rw [e, if_pos rfl]; exact ⟨u0, rfl⟩
    · rw [e, if_neg (by decide)]; exact ⟨u1, rfl⟩
  obtain ⟨tl, hi⟩ := hi
  walk_at "w"
  rw [e2, eS] at I
  rw [b0]
  refine bsplit (fun q1 => ?_) (fun q1 => ?_)
  rotate_left
  · walk_at "w"
    refine r_div I (by decide) (by decide) (fun t s' I => ?_)
    rw [d2]
    walk_at "w"
    rw [e3, b2]
    refine bsplit (fun q2 => ?_) (fun q2 => ?_)
    rotate_left
    · have hG : (257 : Int) - ((number % 2 : Nat) : Int) = (goalF k number : Int) := by
        unfold goalF; rw [if_neg (by simp only [decide_eq_false_iff_not] at q1 q2; (first | lia | omega))]; (first | lia | omega)
      walk_at "w"
      refine bfalse rfl ?_
      walk_at "w"
      rw [e2, hG] at I
      refine r_div I (by decide) (by decide) (fun t s' I => ?_)
      rw [d12]
      walk_at "w"
      rw [e2]
      refine i_list I (.inl ⟨_, eca⟩) (by (first | lia | omega)) (by (first | lia | omega)) hi ?_
      walk_at "w"
      refine r_div I (by decide) (by decide) (fun t s' I => ?_)
      rw [d6]
      walk_at "w"
      rw [e2, b1]
      refine bsplit (fun q3 => ?_) (fun q3 => ?_)
      · walk_at "w"
        refine r_newList I (by show 3 ≤ sizeLine; rw [sizeLine_eq]; decide) (fun D s' I => ?_)
        walk_at "w"
        exact fin I (.inl ⟨by simpa using q3, rfl⟩)
      · walk_at "w"
        refine r_newList I (by show 3 ≤ sizeLine; rw [sizeLine_eq]; decide) (fun D s' I => ?_)
        walk_at "w"
        exact fin I (.inr ⟨by simpa using q3, rfl⟩)
    · have hG : (258 : Int) = (goalF k number : Int) := by
        unfold goalF; rw [if_pos (by simp only [decide_eq_true_eq] at q2; (first | lia | omega))]; rfl
      refine btrue rfl ?_
      walk_at "w"
      rw [hG] at I
      refine r_div I (by decide) (by decide) (fun t s' I => ?_)
      rw [d12]
      walk_at "w"
      rw [e2]
      refine i_list I (.inl ⟨_, eca⟩) (by (first | lia | omega)) (by (first | lia | omega)) hi ?_
      walk_at "w"
      refine r_div I (by decide) (by decide) (fun t s' I => ?_)
      rw [d6]
      walk_at "w"
      rw [e2, b1]
      refine bsplit (fun q3 => ?_) (fun q3 => ?_)
      · walk_at "w"
        refine r_newList I (by show 3 ≤ sizeLine; rw [sizeLine_eq]; decide) (fun D s' I => ?_)
        walk_at "w"
        exact fin I (.inl ⟨by simpa using q3, rfl⟩)
      · walk_at "w"
        refine r_newList I (by show 3 ≤ sizeLine; rw [sizeLine_eq]; decide) (fun D s' I => ?_)
        walk_at "w"
        exact fin I (.inr ⟨by simpa using q3, rfl⟩)
  · have hG : (258 : Int) = (goalF k number : Int) := by
      unfold goalF; rw [if_pos (by simp only [decide_eq_true_eq] at q1; (first | lia | omega))]; rfl
    refine btrue rfl ?_
    walk_at "w"
    rw [hG] at I
    refine r_div I (by decide) (by decide) (fun t s' I => ?_)
    rw [d12]
    walk_at "w"
    rw [e2]
    refine i_list I (.inl ⟨_, eca⟩) (by (first | lia | omega)) (by (first | lia | omega)) hi ?_
    walk_at "w"
    refine r_div I (by decide) (by decide) (fun t s' I => ?_)
    rw [d6]
    walk_at "w"
    rw [e2, b1]
    refine bsplit (fun q3 => ?_) (fun q3 => ?_)
    · walk_at "w"
      refine r_newList I (by show 3 ≤ sizeLine; rw [sizeLine_eq]; decide) (fun D s' I => ?_)
      walk_at "w"
      exact fin I (.inl ⟨by simpa using q3, rfl⟩)
    · walk_at "w"
      refine r_newList I (by show 3 ≤ sizeLine; rw [sizeLine_eq]; decide) (fun D s' I => ?_)
      walk_at "w"
      exact fin I (.inr ⟨by simpa using q3, rfl⟩)
end
section
open PySem PySem.W PySem.Calls
set_option Elab.async false
set_option compiler.extract_closed false
set_option maxRecDepth 100000
/-- the addresses of a machine -/
structure MA where
  x : Addr
  dx : Addr
  Pb : Addr
  Ad : Addr
  Fs : Addr
  Ds : Addr
  Fr : Addr
  Ct : Addr
  Ca : Addr
  cc : Addr
structure RdParts where
  params : Arguments
  body : List Stmt
  scope : Scope
noncomputable def rdParts (fd : FuncData) : RdParts := match fd.body with
  | .stmts (_ :: .FunctionDef _ p b _ _ _ sc _ _ _ :: _) => ⟨p, b, sc⟩
  | _ => ⟨default, [], default⟩
noncomputable def rd1 (w : World) : RdParts := rdParts (fd1 w 80)
noncomputable abbrev rdQual : Str := Str.ofString "_law_machine.<locals>._law_read_on"
/-- what of a machine stays -/
structure MC (w : World) (gb g : Mp) (a : MA) (text : Str) : Prop where
  le : gb.Le g
  nCt : gb a.Ct = none
  nCa : gb a.Ca = none
  nAd : gb a.Ad = none
  x : g a.x = some (instObj 59 a.dx)
  fs : ∃ fd, g a.Fs = some { cls := .type "function", dict := some a.Ds, data := .func fd }
  ds : ∃ hk tk n, g a.Ds = some (dictOf [⟨hk, .str (Str.ofString "read") tk, .ref a.Fr⟩] n)
  fr : ∃ doc pm ctv, g a.Fr = some (fnMade (Str.ofString "_law_read_on") rdQual (rd1 w).params (rd1 w).body (rd1 w).scope [(Str.ofString "text", a.Ct), (Str.ofString "at", a.Ca)] doc pm a.cc ctv)
  ct : ∃ o t, g a.Ct = some o ∧ o.data = .cell (some (.str text t))
  ca : ∃ o, g a.Ca = some o ∧ o.data = .cell (some (.ref a.Ad))
  cc : ∃ oc vs t, g a.cc = some oc ∧ oc.data = .fields vs ∧ vs[1]? = some (.str rdQual t)
  ne : a.Ct ≠ a.Ca
  len : text.length ≤ 2 ^ 20
theorem MC.mono {w : World} {gb g g' : Mp} {a : MA} {text : Str} (M : MC w gb g a text) (le : g.Le g') : MC w gb g' a text :=
  ⟨M.le.trans le, M.nCt, M.nCa, M.nAd, le _ _ M.x, let ⟨fd, e⟩ := M.fs; ⟨fd, le _ _ e⟩, let ⟨a, b, c, e⟩ := M.ds; ⟨a, b, c, le _ _ e⟩, let ⟨a, b, c, e⟩ := M.fr; ⟨a, b, c, le _ _ e⟩, let ⟨a, b, e, r⟩ := M.ct; ⟨a, b, le _ _ e, r⟩, let ⟨a, e, r⟩ := M.ca; ⟨a, le _ _ e, r⟩, let ⟨a, b, c, e, r⟩ := M.cc; ⟨a, b, c, le _ _ e, r⟩, M.ne, M.len⟩
noncomputable abbrev lrd : List (Str × NameKind) := [(Str.ofString "size", .local), (Str.ofString "sign", .local), (Str.ofString "at", .free), (Str.ofString "text", .free), (Str.ofString "len", .globalImplicit)]
theorem rd_names (w : World) : (rd1 w).scope.names = lrd := by kernel_rfl
theorem rd_co (w : World) : (rd1 w).scope.isCoroutine = false := by kernel_rfl
theorem rd_gen (w : World) : (rd1 w).scope.isGenerator = false := by kernel_rfl
theorem rd_kind (w : World) : (rd1 w).scope.kind = .function := by kernel_rfl
theorem rd_bind (w : World) (cl : List (Str × Addr)) (doc pm ctv cd v : Value) : bindArgs (fnX (Str.ofString "_law_read_on") rdQual (rd1 w).params (rd1 w).body (rd1 w).scope cl .none .none doc pm none cd ctv) ⟨[v], []⟩ = pure ([Str.ofString "size"].zip [v]) := by kernel_rfl
/-- the sign at a place -/
noncomputable def nextL (text : Str) (p : Nat) : List Nat := (text.cps.toList.drop p).take 1
theorem slice_len (x : Str) (p : Nat) : (nextL x p).length ≤ 1 := by unfold nextL; rw [List.length_take]; (first | lia | omega)
set_option maxHeartbeats 4000000 in
theorem c_readon {w : World} {A : Around} {s : Shared} {gb g : Mp} {a : MA} {text : Str} {p k : Nat} {tp t1 : Tok} {Q : Value → Shared → Prop} (r : Room A 1) (b : Bs (K1 w) gb) (M : MC w gb g a text) (hg : ∀ a o, g a = some o → s.heap.get? a = some o)
    (had : s.heap.get? a.Ad = some (lstO [.int p tp] k)) (hp : p ≤ text.length)
    (h : ∀ t u k' s', (∀ b o, s.heap.get? b = some o → b ∉ [a.Ad] → s'.heap.get? b = some o) → (∃ h tk, s' = { s with heap := h, toks := tk }) → s'.heap.get? a.Ad = some (lstO [.int ((p + (nextL text p).length : Nat) : Int) u] k') → Q (.str (ofL (nextL text p)) t) s') :
    codeAny (model pr1 w) A (.call (.ref a.Fr) ⟨[.int 1 t1], []⟩) (RV Q) s := by
  refine hideP fun Po hPo => ?_
  obtain ⟨doc, pm, ctv, hfr⟩ := M.fr
  obtain ⟨oc, vs, tq, hcc, hd, hv⟩ := M.cc
  obtain ⟨oct, tt, hct, hctd⟩ := M.ct
  obtain ⟨oca, hca, hcad⟩ := M.ca
  refine hPo ?_; clear hPo Po
  refine r_defF (cm := fun y => if y = Str.ofString "text" then some (.str text tt) else if y = Str.ofString "at" then some (.ref a.Ad) else none) (ps := [Str.ofString "size"]) r b (fun a o e => hg _ _ (M.le _ _ e)) (hg _ _ hfr) ⟨_, _, _, _, rfl, hg _ _ hcc, hd, hv⟩ rfl rfl (rd_bind w _ _ _ _ _ _) (rd_names w) rfl rfl (by decide) (by decide) (by decide) ?_ ?_ ?_ ?_ (by decide) (rd_co w) (rd_gen w) (rd_kind w)
  · intro q hq
    simp only [List.mem_cons, List.not_mem_nil, or_false] at hq
    rcases hq with rfl | rfl
    · exact ⟨⟨_, hg _ _ hct, by rw [hctd]; rfl⟩, M.nCt, by show lrd.lookup (Str.ofString "text") = _; decide⟩
    · exact ⟨⟨_, hg _ _ hca, by rw [hcad]; rfl⟩, M.nCa, by show lrd.lookup (Str.ofString "at") = _; decide⟩
  · refine List.pairwise_cons.mpr ⟨fun q hq => ?_, List.pairwise_singleton _ _⟩
    rw [List.mem_singleton.mp hq]; exact M.ne
  · refine List.pairwise_cons.mpr ⟨fun q hq => ?_, List.pairwise_singleton _ _⟩
    rw [List.mem_singleton.mp hq]; show Str.ofString "text" ≠ Str.ofString "at"; decide
  intro env s₁ hcells el r I
  have hne : ∀ q ∈ env.cells, a.Ad ≠ q.2 := by
    rw [hcells]
    intro q hq
    have e := had
    simp only [List.mem_cons, List.not_mem_nil, or_false] at hq
    rcases hq with rfl | rfl
    · intro q; dsimp only at q; rw [q, hg _ _ hct] at e; cases e; cases hctd
    · intro q; dsimp only at q; rw [q, hg _ _ hca] at e; cases e; cases hcad
  have I := I.addT had (by simp) M.nAd hne (fun _ h => (nomatch h))
  have ct : env.cells.lookup (Str.ofString "text") = some a.Ct := by rw [hcells]; rfl
  have ca : env.cells.lookup (Str.ofString "at") = some a.Ca := by rw [hcells]; rfl
  have sl := slice_len text p
  have ml := M.len
  show wpAny _ _ (execs (_ :: _ :: _ :: []) env) _ _ _
  refine x_cons (r_assign (k_slF (s₀ := s) (T := [a.Ad]) ?_))
  refine n_free el I (by decide) ct (by rfl) ?_
  refine part_some (k_sub ?_)
  refine n_free el I (by decide) ca (by rfl) ?_
  refine r_int I (fun t s' I => ?_)
  refine i_list I (.inr ⟨_, .head _⟩) (by decide) (by decide) (by rfl) ?_
  refine part_some (k_bin (k_sub ?_))
  refine n_free el I (by decide) ca (by rfl) ?_
  refine r_int I (fun t s' I => ?_)
  refine i_list I (.inr ⟨_, .head _⟩) (by decide) (by decide) (by rfl) ?_
  refine n_var el I (by decide) (by rfl) ?_
  refine r_add I (fun t s' I => ?_)
  refine ⟨text, tt, _, _, _, _, _, rfl, .int _ _, .int _ _, by rw [sizeLine_eq]; (first | lia | omega), I, fun t s' I => ?_⟩
  have e1 : Txt.slice text (some (p : Int)) (some ((p : Int) + 1)) = ofL (nextL text p) := by
    have := txt_run text p (p + 1) (by (first | lia | omega)) hp
    rw [show ((p + 1 : Nat) : Int) = (p : Int) + 1 by (first | lia | omega)] at this
    rw [this]; unfold nextL; rw [show p + 1 - p = 1 by (first | lia | omega)]
  rw [e1]
  refine r_storeL I ((congrArg (·.lookup (Str.ofString "sign")) el.names).trans (by decide)) (fun s' I => ?_)
  refine Sq.next (x_cons (wpAny_Assign_Subscript (k_bin (k_sub ?_))))
  refine n_free el I (by decide) ca (by rfl) ?_
  refine r_int I (fun t s' I => ?_)
  refine i_list I (.inr ⟨_, .head _⟩) (by decide) (by decide) (by rfl) ?_
  refine k_call ?_
  refine n_blt el I b (g_len w) (by decide) ?_
  refine k_bi (k_arg ?_)
  refine n_var el I (by decide) (put_eq _ _ _) ?_
  refine k_argn (r_lenS I (by show (nextL text p).toArray.size < _; rw [List.size_toArray]; (first | lia | omega)) (fun t s' I => ?_))
  refine r_add I (fun t s' I => ?_)
  refine n_free el I (by decide) ca (put_ne (by decide) (by rfl)) ?_
  refine r_int I (fun t s' I => ?_)
  refine r_setI I .head (by decide) (by simp) (by decide) (fun k' s' I => ?_)
  refine Sq.next (x_cons (r_ret ?_))
  refine n_var el I (by decide) (put_eq _ _ _) ?_
  refine Sq.ret ?_
  have e2 := I.led _ (.head _)
  dsimp only at e2
  have e3 : ((p : Int) + ((ofL (nextL text p)).length : Int)) = ((p + (nextL text p).length : Nat) : Int) := by
    show (p : Int) + ((nextL text p).toArray.size : Int) = _
    rw [List.size_toArray]; (first | lia | omega)
  rw [e3] at e2
  exact h _ _ k' _ (fun b o e hb => I.keep0 b o e hb) I.same e2
end
section
open PySem PySem.W PySem.Calls
set_option Elab.async false
set_option compiler.extract_closed false
set_option maxRecDepth 100000
noncomputable abbrev sLn : Str := Str.ofString "lineno"
noncomputable abbrev sIn : Str := Str.ofString "instream"
noncomputable abbrev sWs : Str := Str.ofString "whitespace"
noncomputable abbrev sPb : Str := Str.ofString "pushback"
noncomputable def wsS : Str := ⟨#[10, 9, 13, 32]⟩
theorem ws_eq : Str.ofString "\n\t\r " = wsS := by decide +kernel
noncomputable abbrev ents (h1 h2 h3 h4 : Int) (k1 k2 k3 k4 tl tw : Tok) (ln : Int) (Fs Pb : Addr) : List DictEntry := [⟨h1, .str sLn k1, .int ln tl⟩, ⟨h2, .str sIn k2, .ref Fs⟩, ⟨h3, .str sWs k3, .str wsS tw⟩, ⟨h4, .str sPb k4, .ref Pb⟩]
inductive Ent (a : MA) (ln : Int) (es : List DictEntry) : Prop
  | mk (h1 h2 h3 h4 : Int) (k1 k2 k3 k4 tl tw : Tok) (e : es = ents h1 h2 h3 h4 k1 k2 k3 k4 tl tw ln a.Fs a.Pb)
section
variable {h1 h2 h3 h4 : Int} {k1 k2 k3 k4 tl tw : Tok} {ln : Int} {Fs Pb : Addr}
theorem gl_ln : getL sLn (ents h1 h2 h3 h4 k1 k2 k3 k4 tl tw ln Fs Pb) = some (some (.int ln tl)) := by rfl
theorem gl_in : getL sIn (ents h1 h2 h3 h4 k1 k2 k3 k4 tl tw ln Fs Pb) = some (some (.ref Fs)) := by rfl
theorem gl_ws : getL sWs (ents h1 h2 h3 h4 k1 k2 k3 k4 tl tw ln Fs Pb) = some (some (.str wsS tw)) := by rfl
theorem gl_pb : getL sPb (ents h1 h2 h3 h4 k1 k2 k3 k4 tl tw ln Fs Pb) = some (some (.ref Pb)) := by rfl
theorem gl_rc : getL (Str.ofString "_read_char") (ents h1 h2 h3 h4 k1 k2 k3 k4 tl tw ln Fs Pb) = some none := by rfl
theorem gl_gt : getL (Str.ofString "get_token") (ents h1 h2 h3 h4 k1 k2 k3 k4 tl tw ln Fs Pb) = some none := by rfl
theorem gl_pt : getL (Str.ofString "push_token") (ents h1 h2 h3 h4 k1 k2 k3 k4 tl tw ln Fs Pb) = some none := by rfl
theorem pl_ln (hsh : Int) (key : Value) (ln' : Int) (tl' : Tok) : putL sLn hsh key (.int ln' tl') (ents h1 h2 h3 h4 k1 k2 k3 k4 tl tw ln Fs Pb) = ents h1 h2 h3 h4 k1 k2 k3 k4 tl' tw ln' Fs Pb := by rfl
end
noncomputable abbrev l42 : List (Str × NameKind) := [(Str.ofString "self", .local), (Str.ofString "ch", .local)]
theorem f42b (w : World) (a : Value) : bindArgs (fd1 w 42) ⟨[a], []⟩ = pure ([Str.ofString "self"].zip [a]) := by kernel_rfl
/-- the lines that a sign ends -/
noncomputable def nlOf (l : List Nat) : Int := (l.count 10 : Nat)
theorem next_cases (text : Str) (p : Nat) : (nextL text p = [] ∧ text.cps.toList.drop p = []) ∨ ∃ c r, nextL text p = [c] ∧ text.cps.toList.drop p = c :: r := by
  unfold nextL
  cases h : text.cps.toList.drop p with
  | nil => exact .inl ⟨rfl, rfl⟩
  | cons c r => exact .inr ⟨c, r, rfl, rfl⟩
set_option maxHeartbeats 4000000 in
theorem c_rdc {w : World} {A : Around} {s : Shared} {gb g : Mp} {a : MA} {text : Str} {p k n : Nat} {tp : Tok} {ln : Int} {es : List DictEntry} {Q : Value → Shared → Prop} (r : Room A 2) (b : Bs (K1 w) gb) (M : MC w gb g a text) (hg : ∀ a o, g a = some o → s.heap.get? a = some o)
    (had : s.heap.get? a.Ad = some (lstO [.int p tp] k)) (hdx : s.heap.get? a.dx = some (dictOf es n)) (he : Ent a ln es) (nA : g a.Ad = none) (nD : g a.dx = none) (hp : p ≤ text.length)
    (h : ∀ t u k' es' n' s', (∀ b o, s.heap.get? b = some o → b ∉ [a.dx, a.Ad] → s'.heap.get? b = some o) → (∃ h tk, s' = { s with heap := h, toks := tk }) → s'.heap.get? a.Ad = some (lstO [.int ((p + (nextL text p).length : Nat) : Int) u] k') →
      s'.heap.get? a.dx = some (dictOf es' n') → Ent a (ln + nlOf (nextL text p)) es' → Q (.str (ofL (nextL text p)) t) s') :
    codeAny (model pr1 w) A (.call (.ref 42) ⟨[.ref a.x], []⟩) (RV Q) s := by
  have F : Fn (K1 w) 42 (fd1 w 42) l42 [Str.ofString "self"] _ := ⟨by kernel_rfl, by kernel_rfl, by rfl, by kernel_rfl, by kernel_rfl, by kernel_rfl, by kernel_rfl, by kernel_rfl, by kernel_rfl, by kernel_rfl, by decide⟩
  have bg := b.mono M.le
  refine r_defA F r bg hg rfl (f42b w _) ?_
  clear F
  intro env s₁ el _ _ r I cw
  conv in (fB _) => whnf
  generalize A.deeper env = A1 at r ⊢
  refine hideP fun Po hPo => ?_
  obtain ⟨h1, h2, h3, h4, k1, k2, k3, k4, tl, tw, rfl⟩ := he
  obtain ⟨fd, hfs⟩ := M.fs
  obtain ⟨hk, tk, nk, hds⟩ := M.ds
  obtain ⟨doc, pm, ctv, hfr⟩ := M.fr
  refine hPo ?_; clear hPo Po
  have hne : a.dx ≠ a.Ad := fun e => by rw [e, had] at hdx; injection hdx with hdx; injection hdx with h1 _; injection h1 with h1; exact absurd h1 (by decide)
  have cA : ∀ q ∈ env.cells, a.Ad ≠ q.2 := fun q hq e => by rcases cw q hq with h | h; exact (nomatch h); rw [← e, had] at h; cases h
  have cD : ∀ q ∈ env.cells, a.dx ≠ q.2 := fun q hq e => by rcases cw q hq with h | h; exact (nomatch h); rw [← e, hdx] at h; cases h
  have I := (I.addT had (by simp) nA cA (fun _ h => (nomatch h))).addT hdx (by simpa using hne) nD cD (fun p hp => by rw [List.mem_singleton.mp hp]; exact Ne.symm hne)
  have cw := cw.moreT (T' := [a.dx, a.Ad]) (fun _ h => (nomatch h))
  repeat walk_at "s"
  walk_at "w"
  refine o_get I bg (.inl M.x) (.inr (.head _)) (lx_plain w _) (lx_dict w) (lx_no2 w) (by rfl) gl_in rfl (fun s' I => ?_)
  refine f_attr I (.inl hfs) (.inl hds) rfl (fun s' I => ?_)
  refine k_fn (fd := fnX (Str.ofString "_law_read_on") rdQual (rd1 w).params (rd1 w).body (rd1 w).scope [(Str.ofString "text", a.Ct), (Str.ofString "at", a.Ca)] .none .none doc pm none (.ref a.cc) ctv) (o := fnMade (Str.ofString "_law_read_on") rdQual (rd1 w).params (rd1 w).body (rd1 w).scope [(Str.ofString "text", a.Ct), (Str.ofString "at", a.Ca)] doc pm a.cc ctv) rfl ?_
  walk_at "w"
  refine ⟨I.keep _ _ hfr, of_code (c_readon (r.less (by decide)) b M I.keep (I.led _ (.tail _ (.head _))) hp (fun t u k' s' hk hs ha => ?_))⟩
  have I := I.upd (W' := [(a.dx, dictOf (ents h1 h2 h3 h4 k1 k2 k3 k4 tl tw ln a.Fs a.Pb) n), (a.Ad, lstO [.int ((p + (nextL text p).length : Nat) : Int) u] k')]) hk (fun b hb => by rw [List.mem_singleton.mp hb]; exact ⟨_, .tail _ (.head _)⟩) rfl (fun q hq => by
    simp only [List.mem_cons, List.not_mem_nil, or_false] at hq
    rcases hq with rfl | rfl
    · exact hk _ _ (I.led _ (.head _)) (by simpa using hne)
    · exact ha) hs
  repeat walk_at "s"
  refine bsplit (fun q => ?_) (fun q => ?_)
  · have e10 : nextL text p = [10] := by
      have := (beq_iff_eq.mp q)
      have := congrArg (fun x => x.cps.toList) this
      exact this
    refine x_cons (wpAny_AugAssign_AttributeAny ?_)
    walk_at "w"
    refine o_get I bg (.inl M.x) (.inr (.head _)) (lx_plain w _) (lx_dict w) (lx_no1 w) (by rfl) gl_ln rfl (fun s' I => ?_)
    repeat walk_at "s"
    walk_at "w"
    refine o_set I bg (.inl M.x) .head (lx_sa w) (lx_over w) (by kernel_rfl) (lx_dict w) (by rfl) (by simp) (fun tk s' I => ?_)
    rw [pl_ln] at I
    repeat walk_at "s"
    walk_at "w"
    have e11 : ln + 1 = ln + nlOf (nextL text p) := by rw [e10]; rfl
    rw [e11] at I
    exact h _ u k' _ _ _ (fun b o e hb => I.keep0 b o e hb) I.same (I.led _ (.tail _ (.head _))) (I.led _ (.head _)) ⟨h1, h2, h3, h4, k1, k2, k3, k4, _, tw, rfl⟩
  · have e10 : nlOf (nextL text p) = 0 := by
      unfold nlOf
      rcases next_cases text p with ⟨e, _⟩ | ⟨c, r, e, _⟩
      · rw [e]; rfl
      · rw [e] at q ⊢
        have hc : c ≠ 10 := fun hc => by subst hc; exact absurd q (by decide)
        simp [hc]
    repeat walk_at "s"
    walk_at "w"
    have e11 : ln = ln + nlOf (nextL text p) := by rw [e10, Int.add_zero]
    exact h _ u k' _ n _ (fun b o e hb => I.keep0 b o e hb) I.same (I.led _ (.tail _ (.head _))) (I.led _ (.head _)) ⟨h1, h2, h3, h4, k1, k2, k3, k4, _, tw, by rw [← e11]⟩
end
section
open PySem PySem.W PySem.Calls
set_option Elab.async false
set_option compiler.extract_closed false
set_option maxRecDepth 100000
noncomputable def scB : List Nat → List Nat → List Nat × List Nat
  | [], acc => (acc, [])
  | c :: r, acc => if c = 34 then (acc, r) else if c = 92 then (match r with | [] => (acc, []) | d :: r' => scB r' (acc ++ [d])) else scB r (acc ++ [c])
noncomputable def isWs (c : Nat) : Bool := [10, 9, 13, 32].contains c
noncomputable def scC : List Nat → List Nat → List Nat × List Nat
  | [], acc => (acc, [])
  | c :: r, acc => if isWs c then (acc, r) else if c = 92 then (match r with | [] => (acc, []) | d :: r' => scC r' (acc ++ [d])) else scC r (acc ++ [c])
/-- the word that a machine reads next, and what is left -/
noncomputable def scA : List Nat → List Nat × List Nat
  | [] => ([], [])
  | c :: r => if isWs c then scA r else if c = 34 then scB r [] else if c = 92 then (match r with | [] => ([], []) | d :: r' => scC r' [d]) else scC r [c]
theorem ws_in (c : Nat) : Txt.contains wsS (oneS c) = isWs c := by
  show (!(Builtin.Str.occurrences wsS (oneS c) 0 wsS.length 1).isEmpty) = isWs c
  have h := find_one wsS c 0 (by decide)
  unfold findN at h
  have e : wsS.cps.toList.drop 0 = [10, 9, 13, 32] := rfl
  rw [e] at h
  cases q : Builtin.Str.occurrences wsS (oneS c) 0 wsS.length 1 with
  | nil =>
    rw [q] at h
    rcases h with ⟨_, h⟩ | ⟨k, h, _⟩
    · show false = _
      unfold isWs
      cases z : [10, 9, 13, 32].contains c with
      | false => rfl
      | true => exact absurd (by simpa using z) h
    · simp at h
  | cons a r =>
    rw [q] at h
    rcases h with ⟨h, _⟩ | ⟨k, _, h, _⟩
    · simp at h
    · show true = _
      unfold isWs
      have : c ∈ [10, 9, 13, 32] := List.mem_of_getElem? h
      simpa using this
/-- the parts of a machine that turn -/
inductive SM (a : MA) (It : Addr) (oI : Obj) (p : Nat) (ln : Int) (W : List (Addr × Obj)) : Prop
  | mk (es : List DictEntry) (n : Nat) (tp : Tok) (k : Nat) (he : Ent a ln es) (e : W = [(It, oI), (a.dx, dictOf es n), (a.Ad, lstO [.int p tp] k)])
section
variable {w : World} {A : Around} {E : Value → Shared → Prop} {gb g : Mp} {s₀ : Shared} {T : List Addr} {env : Env} {m : Str → Option Value} {W : List (Addr × Obj)} {s : Shared} {a : MA} {text : Str} {It q : Addr} {oI : Obj} {p : Nat} {ln : Int}
theorem L_rc {Q : Value → Shared → Prop} (r : Room A 2) (b : Bs (K1 w) gb) (M : MC w gb g a text) (I : Inv g s₀ T env m W s) (S : SM a It oI p ln W) (hp : p ≤ text.length)
    (h : ∀ t W' s', SM a It oI (p + (nextL text p).length) (ln + nlOf (nextL text p)) W' → Inv g s₀ T env m W' s' → Q (.str (ofL (nextL text p)) t) s') : codeAny (model pr1 w) A (.call (.ref 42) ⟨[.ref a.x], []⟩) (RV Q) s := by
  refine hideP fun Po hPo => ?_
  obtain ⟨es, n, tp, k, he, rfl⟩ := S
  refine hPo ?_; clear hPo Po
  have nd := I.nd
  simp only [List.pairwise_cons, List.mem_cons, List.not_mem_nil, or_false] at nd
  refine c_rdc r b M I.keep (I.led _ (.tail _ (.tail _ (.head _)))) (I.led _ (.tail _ (.head _))) he (I.offW _ (.tail _ (.tail _ (.head _)))).1 (I.offW _ (.tail _ (.head _))).1 hp (fun t u k' es' n' s' hk hs ha hd he' => ?_)
  refine h t _ s' ⟨es', n', u, k', he', rfl⟩ (I.upd hk (fun b hb => ?_) rfl (fun z hz => ?_) hs)
  · simp only [List.mem_cons, List.not_mem_nil, or_false] at hb
    rcases hb with rfl | rfl
    · exact ⟨_, .tail _ (.head _)⟩
    · exact ⟨_, .tail _ (.tail _ (.head _))⟩
  · simp only [List.mem_cons, List.not_mem_nil, or_false] at hz
    rcases hz with rfl | rfl | rfl
    · refine hk _ _ (I.led _ (.head _)) ?_
      have h1 := nd.1 (a.dx, dictOf es n) (.inl rfl)
      have h2 := nd.1 (a.Ad, lstO [.int p tp] k) (.inr rfl)
      simp only [List.mem_cons, List.not_mem_nil, or_false, not_or]
      exact ⟨h1, h2⟩
    · exact hd
    · exact ha
theorem L_next {t0 : Tok} {Q : Option Value → Shared → Prop} (hh : A.handled = none) (r : Room A.in1 2) (b : Bs (K1 w) gb) (M : MC w gb g a text) (I : Inv g s₀ T env m W s) (S : SM a It (citO (.ref q) (.str emp t0)) p ln W) (hq : g q = some (methodObj (.ref 42) (.ref a.x))) (hp : p ≤ text.length)
    (h1 : ∀ c l t W' s', text.cps.toList.drop p = c :: l → SM a It (citO (.ref q) (.str emp t0)) (p + 1) (ln + nlOf [c]) W' → Inv g s₀ T env m W' s' → Q (some (.str (oneS c) t)) s')
    (h2 : text.cps.toList.drop p = [] → ∀ W' s', SM a It citE p ln W' → Inv g s₀ T env m W' s' → Q none s') : wpAny (model pr1 w) A (pyNext (.ref It)) Q E s := by
  have S0 := S
  refine hideP fun Po hPo => ?_
  obtain ⟨es, n, tp, k, he, rfl⟩ := S
  refine hPo ?_; clear hPo Po
  have bg := b.mono M.le
  have e42 : g 42 = some (fo w 42) := bg.k _ _ (by kernel_rfl)
  refine cit_next (o := citE) hh (I.led _ (.head _)) (I.keep _ _ hq) (I.keep _ _ e42) rfl (L_rc r b M I S0 hp (fun t W' s' S' I' => ?_))
  refine hideP fun Po hPo => ?_
  obtain ⟨es', n', tp', k', he', rfl⟩ := S'
  refine hPo ?_; clear hPo Po
  refine ⟨_, t, rfl, I'.led _ (.head _), I'.keep _ _ hq, I'.keep _ _ e42, fun hne => ?_, fun hem h' hk hi => ?_⟩
  · rcases next_cases text p with ⟨e, _⟩ | ⟨c, l, e, e'⟩
    · exact absurd (by rw [e]; rfl) hne
    · rw [e] at he' I' ⊢
      exact h1 c l t _ _ e' ⟨es', n', tp', k', he', rfl⟩ I'
  · rcases next_cases text p with ⟨e, e'⟩ | ⟨c, l, e, e'⟩
    · rw [e] at he' I'
      have e0 : ln + nlOf [] = ln := by show ln + 0 = ln; (first | lia | omega)
      rw [e0] at he'
      exact h2 e' _ _ ⟨es', n', tp', k', he', rfl⟩ (I'.chg (tk := s'.toks) .head hk hi)
    · rw [e] at hem; exact absurd (congrArg (fun x => x.cps.size) hem) Nat.one_ne_zero
theorem k_fnM0 {pos : Pos} {f : Addr} {o : Obj} {fd : FuncData} {first : List Value} {Q : Value → Shared → Prop} (hdat : o.data = .func fd) (ho : s.heap.get? f = some o) (h : wpAny (model pr1 w) A (call (.ref f) first) Q E s) : wpAny (model pr1 w) A (callWith pos (.ref f) first (backTo pos (starEach [] env)) []) Q E s := by
  show wpAny _ A (callWith pos (.ref f) first [] []) Q E s
  exact Calls.callWith_function (o := o) (fd := fd) (PyProof.Rows.evalArgs_none ⟨⟨ho, hdat⟩, by simpa using h⟩)
end
end
section
open PySem PySem.W PySem.Calls
set_option Elab.async false
set_option compiler.extract_closed false
set_option maxRecDepth 100000
theorem t_list {w : World} {A : Around} {E : Value → Shared → Prop} {g : Mp} {s₀ : Shared} {T : List Addr} {env : Env} {m : Str → Option Value} {W : List (Addr × Obj)} {s : Shared} {D : Addr} {vs : List Value} {Q : Bool → Shared → Prop} (I : Inv g s₀ T env m W s) (hl : s.heap.IsList D vs.toArray) (hsz : vs.length < 2 ^ 40)
    (h : ∀ s', Inv g s₀ T env m W s' → Q (!vs.isEmpty) s') : wpAny (model pr1 w) A (truthy (.ref D)) Q E s := by
  refine wpAny_truthy_list hl (by simp; (first | lia | omega)) ?_
  have e : vs.toArray.isEmpty = vs.isEmpty := by cases vs <;> rfl
  rw [e]
  exact h _ (I.tok _)
theorem r_iter2 {w : World} {A : Around} {E : Value → Shared → Prop} {g : Mp} {s₀ : Shared} {T : List Addr} {env : Env} {m : Str → Option Value} {W : List (Addr × Obj)} {s : Shared} {q f : Addr} {self sen : Value} {Q : Value → Shared → Prop} (I : Inv g s₀ T env m W s) (hq : g q = some (methodObj (.ref f) self))
    (h : ∀ It s', Inv g s₀ T env m ((It, citO (.ref q) sen) :: W) s' → Q (.ref It) s') : wpAny (model pr1 w) A (call (.builtin "iter") [.ref q, sen]) Q E s := call_iter2 (I.keep _ _ hq) (h _ _ (I.alloc rfl))
noncomputable abbrev l49 : List (Str × NameKind) := [(Str.ofString "self", .local), (Str.ofString "token", .local), (Str.ofString "fiter", .local), (Str.ofString "ch", .local), (Str.ofString "iter", .globalImplicit)]
theorem f49b (w : World) (a : Value) : bindArgs (fd1 w 49) ⟨[a], []⟩ = pure ([Str.ofString "self"].zip [a]) := by kernel_rfl
theorem g_iter (w : World) : Blt (K1 w) (Str.ofString "iter") (.builtin "iter") := ⟨by kernel_rfl, by kernel_rfl, by decide, by decide⟩
theorem ofL_snoc (acc : List Nat) (l : List Nat) : ofL acc ++ ofL l = ofL (acc ++ l) := ofL_app acc l
/-- a state of the inner loops -/
structure TS (a : MA) (text : Str) (It q : Addr) (t0 : Tok) (sc : List Nat → List Nat → List Nat × List Nat) (R : List Nat × List Nat) (C : Int) (k : Nat) (m : Str → Option Value) (W : List (Addr × Obj)) (p : Nat) (ln : Int) (acc : List Nat) (t : Tok) : Prop where
  sm : SM a It (citO (.ref q) (.str emp t0)) p ln W
  hp : p ≤ text.length
  self : m (Str.ofString "self") = some (.ref a.x)
  fit : m (Str.ofString "fiter") = some (.ref It)
  tok : m (Str.ofString "token") = some (.str (ofL acc) t)
  sc : sc (text.cps.toList.drop p) acc = R
  acc : acc.length ≤ p
  cnt : ln + nlOf (text.cps.toList.drop p) = C
  k : k = text.length - p + 1
inductive GJ1 (a : MA) (It q : Addr) (t0 : Tok) (text : Str) (R : List Nat × List Nat) (C : Int) (k : Nat) (m : Str → Option Value) (W : List (Addr × Obj)) : Prop
  | mk (p' : Nat) (ln' : Int) (h1 : SM a It (citO (.ref q) (.str emp t0)) p' ln' W) (h2 : p' ≤ text.length) (h3 : m (Str.ofString "self") = some (.ref a.x)) (h4 : m (Str.ofString "fiter") = some (.ref It)) (h5 : ∃ t, m (Str.ofString "token") = some (.str emp t)) (h6 : scA (text.cps.toList.drop p') = R) (h7 : ln' + nlOf (text.cps.toList.drop p') = C) (h8 : k = text.length - p' + 1) : GJ1 a It q t0 text R C k m W
inductive GJ2 (a : MA) (It : Addr) (text : Str) (R : List Nat × List Nat) (C : Int) (k : Nat) (m : Str → Option Value) (W : List (Addr × Obj)) : Prop
  | mk (p' : Nat) (ln' : Int) (h1 : SM a It citE p' ln' W) (h2 : p' ≤ text.length) (h5 : ∃ t, m (Str.ofString "token") = some (.str (ofL R.1) t)) (h6 : text.cps.toList.drop p' = R.2) (h7 : ln' + nlOf (text.cps.toList.drop p') = C) (h8 : k = 0) : GJ2 a It text R C k m W
inductive GJ3 (s : Shared) (g' : Mp) (env : Env) (a : MA) (It q : Addr) (t0 : Tok) (p' : Nat) (C : Int) (R : List Nat × List Nat) (text : Str) (fl : Flow) (s' : Shared) : Prop
  | mk (h0 : fl = Flow.next) (p3 : Nat) (ln3 : Int) (W3 : List (Addr × Obj)) (m3 : Str → Option Value) (chs : List Nat) (t3 t4 : Tok) (h1 : SM a It (citO (.ref q) (.str emp t0)) p3 ln3 W3) (h2 : p3 ≤ text.length) (h3 : m3 (Str.ofString "self") = some (.ref a.x)) (h4 : m3 (Str.ofString "fiter") = some (.ref It)) (h5 : m3 (Str.ofString "token") = some (.str (ofL []) t4)) (h6 : m3 (Str.ofString "ch") = some (.str (ofL chs) t3))
      (h7 : scC (text.cps.toList.drop p3) chs = R) (h8 : chs.length ≤ 1) (h9 : p' < p3) (h10 : ln3 + nlOf (text.cps.toList.drop p3) = C) (I : Inv g' s [a.dx, a.Ad] env m3 W3 s') : GJ3 s g' env a It q t0 p' C R text fl s'
set_option maxHeartbeats 4000000 in
theorem c_gt0 {w : World} {A : Around} {s : Shared} {gb g : Mp} {a : MA} {text : Str} {p k n kp : Nat} {tp : Tok} {ln : Int} {es : List DictEntry} {Q : Value → Shared → Prop} (r : Room A 5) (b : Bs (K1 w) gb) (M : MC w gb g a text) (hg : ∀ a o, g a = some o → s.heap.get? a = some o)
    (had : s.heap.get? a.Ad = some (lstO [.int p tp] k)) (hdx : s.heap.get? a.dx = some (dictOf es n)) (he : Ent a ln es) (hpb : s.heap.get? a.Pb = some (lstO [] kp)) (nA : g a.Ad = none) (nD : g a.dx = none) (hp : p ≤ text.length) (hpa : a.Pb ≠ a.Ad)
    (h : ∀ (t : Tok) (p' : Nat) (u : Tok) k' es' n' s', (∀ b o, s.heap.get? b = some o → b ∉ [a.dx, a.Ad] → s'.heap.get? b = some o) → (∃ h tk, s' = { s with heap := h, toks := tk }) → s'.heap.get? a.Ad = some (lstO [.int ((p' : Nat) : Int) u] k') →
      s'.heap.get? a.dx = some (dictOf es' n') → p' ≤ text.length → text.cps.toList.drop p' = (scA (text.cps.toList.drop p)).2 → Ent a (ln + nlOf (text.cps.toList.drop p) - nlOf (text.cps.toList.drop p')) es' → Q (.str (ofL (scA (text.cps.toList.drop p)).1) t) s') :
    codeAny (model pr1 w) A (.call (.ref 49) ⟨[.ref a.x], []⟩) (RV Q) s := by
  have F : Fn (K1 w) 49 (fd1 w 49) l49 [Str.ofString "self"] _ := ⟨by kernel_rfl, by kernel_rfl, by rfl, by kernel_rfl, by kernel_rfl, by kernel_rfl, by kernel_rfl, by kernel_rfl, by kernel_rfl, by kernel_rfl, by decide⟩
  have bg := b.mono M.le
  refine r_defA F r bg hg rfl (f49b w _) ?_
  clear F
  intro env s₁ el _ _ r I cw
  conv in (fB _) => whnf
  generalize A.deeper env = A1 at r ⊢
  have hne : a.dx ≠ a.Ad := fun e => by rw [e, had] at hdx; injection hdx with hdx; injection hdx with h1 _; injection h1 with h1; exact absurd h1 (by decide)
  have hpd : a.Pb ≠ a.dx := fun e => by rw [e, hdx] at hpb; injection hpb with hpb; injection hpb with h1 _; injection h1 with h1; exact absurd h1 (by decide)
  have cA : ∀ q ∈ env.cells, a.Ad ≠ q.2 := fun q hq e => by rcases cw q hq with h | h; exact (nomatch h); rw [← e, had] at h; cases h
  have cD : ∀ q ∈ env.cells, a.dx ≠ q.2 := fun q hq e => by rcases cw q hq with h | h; exact (nomatch h); rw [← e, hdx] at h; cases h
  have I := (I.addT had (by simp) nA cA (fun _ h => (nomatch h))).addT hdx (by simpa using hne) nD cD (fun p hp => by rw [List.mem_singleton.mp hp]; exact Ne.symm hne)
  have cw := cw.moreT (T' := [a.dx, a.Ad]) (fun _ h => (nomatch h))
  have kpb : ∀ {m W s'}, Inv g s [a.dx, a.Ad] env m W s' → s'.heap.IsList a.Pb [].toArray := fun I => ⟨_, I.keep0 _ _ hpb (by simp only [List.mem_cons, List.not_mem_nil, or_false, not_or]; exact ⟨hpd, hpa⟩), rfl, _, rfl⟩
  refine hideP fun Po hPo => ?_
  obtain ⟨h1, h2, h3, h4, k1, k2, k3, k4, tl, tw, rfl⟩ := he
  refine hPo ?_; clear hPo Po
  walk_at "w"
  refine o_get I bg (.inl M.x) (.inr (.head _)) (lx_plain w _) (lx_dict w) (lx_no4 w) (by rfl) gl_pb rfl (fun s' I => ?_)
  refine t_list I (kpb I) (by decide) (fun s' I => bfalse rfl ?_)
  walk_at "w"
  refine n_blt el I bg (g_iter w) (by decide) ?_
  walk_at "w"
  refine o_bound I bg (.inl M.x) (.inr (.head _)) (lx_plain w _) (lx_dict w) (lx_rc w) (lx_fn w).2.1 (lx_get w) (lx_takes w) (by decide +kernel) gl_rc (fun q s' I => ?_)
  have gq0 := (I.offW _ (.head _)).1
  have I := I.absorb1
  have hq : (g.put q (methodObj (.ref 42) (.ref a.x))) q = some (methodObj (.ref 42) (.ref a.x)) := Mp.put_self _ _ _
  have leq : g.Le (g.put q (methodObj (.ref 42) (.ref a.x))) := Mp.le_put gq0
  generalize g.put q (methodObj (.ref 42) (.ref a.x)) = gq at *
  have M := M.mono leq
  have bg := b.mono M.le
  walk_at "w"
  rename Tok => t0
  refine r_iter2 I hq (fun It s' I => ?_)
  walk_at "w"
  rw [emp_eq] at I
  generalize hR : scA (text.cps.toList.drop p) = R at *
  generalize hC : ln + nlOf (text.cps.toList.drop p) = C at *
  have fin : ∀ {t oI p' ln' W m s'}, SM a It oI p' ln' W → Inv gq s [a.dx, a.Ad] env m W s' → p' ≤ text.length → text.cps.toList.drop p' = R.2 → ln' + nlOf (text.cps.toList.drop p') = C → Q (.str (ofL R.1) t) s' := by
    intro t oI p' ln' W m s' S I hp' hd hc
    refine hideP fun Po hPo => ?_
    obtain ⟨es', n', u, k', he', rfl⟩ := S
    refine hPo ?_; clear hPo Po
    refine h t p' u k' es' n' s' (fun b o e hb => I.keep0 b o e hb) I.same (I.led _ (.tail _ (.tail _ (.head _)))) (I.led _ (.tail _ (.head _))) hp' hd ?_
    have : C - nlOf (text.cps.toList.drop p') = ln' := by (first | lia | omega)
    rw [this]; exact he'
  have one : ∀ {p c l}, text.cps.toList.drop p = c :: l → p + 1 ≤ text.length ∧ text.cps.toList.drop (p + 1) = l := by
    intro p c l e
    have h1 : p < text.cps.toList.length := by
      rcases Nat.lt_or_ge p text.cps.toList.length with h | h
      · exact h
      · rw [List.drop_eq_nil_of_le h] at e; cases e
    refine ⟨by have : text.cps.toList.length = text.length := by simp [Str.length]
               (first | lia | omega), ?_⟩
    have := List.drop_eq_getElem_cons h1
    rw [e] at this
    injection this with _ h2
    exact h2.symm
  have nlc : ∀ (c : Nat) (l : List Nat), nlOf (c :: l) = nlOf [c] + nlOf l := by
    intro c l
    unfold nlOf
    have : (c :: l).count 10 = [c].count 10 + l.count 10 := by rw [show c :: l = [c] ++ l from rfl, List.count_append]
    rw [this]; (first | lia | omega)
  have sz : ∀ {p : Nat} {acc l : List Nat}, p ≤ text.length → acc.length ≤ p → l.length ≤ 1 → (ofL acc ++ ofL l).length ≤ sizeLine := by
    intro p acc l h1 h2 h3
    rw [ofL_app]
    show (acc ++ l).toArray.size ≤ _
    rw [List.size_toArray, List.length_append, sizeLine_eq]
    have := M.len
    (first | lia | omega)
  clear hpb hdx had
  refine r_forC (s₀ := s) (T := [a.dx, a.Ad]) (It := It) (fun k g' m W => gq = g' ∧ (GJ1 a It q t0 text R C k m W ∨ GJ2 a It text R C k m W)) ?_ ?_
  · walk_at "w"
    refine ⟨rfl, ⟨_, I.led _ (.head _), rfl⟩, _, _, _, _, ⟨rfl, .inl ⟨p, ln, ⟨_, n, tp, k, ⟨h1, h2, h3, h4, k1, k2, k3, k4, tl, tw, rfl⟩, rfl⟩, hp, by walk_at "v", by walk_at "v", ⟨_, by walk_at "v"⟩, hR, hC, rfl⟩⟩, I⟩
  rintro kk g' m W s' hz1 I
  refine hideP fun Po hPo => ?_
  obtain ⟨rfl, hJ⟩ := hz1
  refine hPo ?_; clear hPo Po
  refine hideC fun Qo1 Po1 hQ1 hP1 => ?_
  rcases hJ with ⟨p', ln', S, hp', hself, hfit, ⟨tt, htok⟩, hsc, hcn, rfl⟩ | ⟨p', ln', S, hp', ⟨tt, htok⟩, hd, hcn, rfl⟩
  rotate_left
  · obtain ⟨es', n', u, k', he', rfl⟩ := S
    refine cit_ended r.hand (I.led _ (.head _)) (fun h' hk => ?_)
    have I := I.ext (h' := h') (tk := s'.toks) hk
    walk_at "w"
    exact fin ⟨es', n', u, k', he', rfl⟩ I hp' hd hcn
  refine L_next r.hand (r.in1.less (by decide)) b M I S hq hp' (fun c l t W' s' hcl S' I => ?_) (fun hnil W' s' S' I => ?_)
  rotate_left
  · walk_at "w"
    rw [hnil] at hsc
    have e1 : R = ([], []) := hsc.symm
    have := fin (t := tt) S' I hp' (by rw [e1]; exact hnil) hcn
    rw [e1] at this
    exact this
  · obtain ⟨hp1, hd1⟩ := one hcl
    have hc1 : ln' + nlOf [c] + nlOf (text.cps.toList.drop (p' + 1)) = C := by rw [hd1]; rw [hcl, nlc] at hcn; (first | lia | omega)
    refine hideP fun Po hPo => ?_
    obtain ⟨es', n', u, k', he', rfl⟩ := id S'
    obtain ⟨h1, h2, h3, h4, k1, k2, k3, k4, tl, tw, rfl⟩ := he'
    refine hPo ?_; clear hPo Po
    rw [hcl] at hsc
    walk_at "w"
    refine o_get I bg (.inl M.x) (.inr (.tail _ (.head _))) (lx_plain w _) (lx_dict w) (lx_no3 w) (by rfl) gl_ws rfl (fun s' I => ?_)
    refine c_inS ?_
    rw [ws_in]
    refine t_bool (bsplit (fun q1 => ?_) (fun q1 => ?_))
    · walk_at "w"
      refine ⟨_, _, _, _, ?_, ⟨rfl, .inl ⟨_, _, S', hp1, by walk_at "v", by walk_at "v", ⟨tt, by walk_at "v"⟩, ?_, hc1, rfl⟩⟩, I⟩
      · (first | lia | omega)
      · rw [hd1]; unfold scA at hsc; rwa [if_pos q1] at hsc
    · unfold scA at hsc
      rw [if_neg (by simp [q1])] at hsc
      walk_at "w"
      refine bsplit (fun q2 => ?_) (fun q2 => ?_)
      · have c34 : c = 34 := by
          have e := congrArg (fun x => x.cps.toList) (beq_iff_eq.mp q2)
          have e : [c] = [34] := e
          simpa using e
        rw [if_pos c34] at hsc
        -- the quoted word
        walk_at "w"
        refine r_forC (s₀ := s) (T := [a.dx, a.Ad]) (It := It) (fun k g1 m W => gq = g1 ∧ ∃ p' ln' acc t, TS a text It q t0 scB R C k m W p' ln' acc t) ?_ ?_
        · walk_at "w"
          refine ⟨rfl, ⟨_, I.led _ (.head _), rfl⟩, _, _, _, _, ⟨rfl, p' + 1, _, [], tt, ⟨S', hp1, by walk_at "v", by walk_at "v", by walk_at "v", by rw [hd1]; exact hsc, Nat.zero_le _, hc1, rfl⟩⟩, I⟩
        rintro kk g1 m W s' hz1 I
        refine hideP fun Po hPo => ?_
        obtain ⟨rfl, p2, ln2, acc, t2, Z⟩ := hz1
        refine hPo ?_; clear hPo Po
        refine hideC fun Qo2 Po2 hQ2 hP2 => ?_
        refine hideP fun Po hPo => ?_
        obtain ⟨zS, zp, zself, zfit, ztok, zsc, zacc, zcnt, rfl⟩ := Z
        refine hPo ?_; clear hPo Po
        refine L_next r.hand (r.in1.less (by decide)) b M I zS hq zp (fun c l t W' s' hcl S' I => ?_) (fun hnil W' s' S' I => ?_)
        rotate_left
        · rw [hnil] at zsc
          have e1 : R = (acc, []) := zsc.symm
          walk_at "w"
          refine ⟨_, _, _, _, ?_, ⟨rfl, .inr ⟨_, _, S', zp, ⟨t2, by rw [e1]; walk_at "v"⟩, by rw [e1]; exact hnil, zcnt, rfl⟩⟩, I⟩
          (first | lia | omega)
        · obtain ⟨hp1, hd1⟩ := one hcl
          have hc1 : ln2 + nlOf [c] + nlOf (text.cps.toList.drop (p2 + 1)) = C := by rw [hd1]; rw [hcl, nlc] at zcnt; (first | lia | omega)
          rw [hcl] at zsc
          unfold scB at zsc
          walk_at "w"
          refine bsplit (fun q3 => ?_) (fun q3 => ?_)
          · have c34 : c = 34 := by
              have e := congrArg (fun x => x.cps.toList) (beq_iff_eq.mp q3)
              have e : [c] = [34] := e
              simpa using e
            rw [if_pos c34] at zsc
            have e1 : R = (acc, l) := zsc.symm
            walk_at "w"
            have := fin (t := t2) S' I hp1 (by rw [e1]; exact hd1) hc1
            rw [e1] at this
            exact this
          · have c34 : ¬ c = 34 := fun e => by subst e; exact absurd q3 (by decide)
            rw [if_neg c34] at zsc
            walk_at "w"
            refine bsplit (fun q4 => ?_) (fun q4 => ?_)
            · have c92 : c = 92 := by
                have e := congrArg (fun x => x.cps.toList) (beq_iff_eq.mp q4)
                have e : [c] = [92] := e
                simpa using e
              rw [if_pos c92] at zsc
              walk_at "w"
              refine hideP fun Po hPo => ?_
              obtain ⟨es', n', u, k', he', rfl⟩ := id S'
              obtain ⟨h1, h2, h3, h4, k1, k2, k3, k4, tl, tw, rfl⟩ := he'
              refine hPo ?_; clear hPo Po
              refine o_meth I bg (.inl M.x) (.inr (.tail _ (.head _))) (lx_plain w _) (lx_rc w) (lx_fn w).2.1 gl_rc ?_
              refine k_fnM0 (o := fo w 42) (fd := fd1 w 42) rfl (I.keep _ _ (bg.k _ _ (by kernel_rfl))) (of_code (L_rc (r.less (by decide)) b M I S' hp1 (fun t3 W3 s3 S3 I => ?_)))
              have hn := slice_len text (p2 + 1)
              walk_at "w"
              refine a_addS I (sz zp zacc (l := nextL text (p2 + 1)) hn) (fun t s' I => ?_)
              rw [ofL_app]
              walk_at "w"
              rcases next_cases text (p2 + 1) with ⟨e, e'⟩ | ⟨d, l2, e, e'⟩
              · rw [e] at S3 I
                rw [hd1] at e'
                subst e'
                refine ⟨_, _, _, _, ?_, ⟨rfl, p2 + 1, _, acc ++ [], t, ⟨S3, hp1, by walk_at "v", by walk_at "v", by walk_at "v", ?_, by rw [List.append_nil]; (first | lia | omega), ?_, rfl⟩⟩, I⟩
                · (first | lia | omega)
                · rw [hd1, List.append_nil]; exact zsc
                · rw [hd1] at hc1 ⊢; have : nlOf [] = 0 := rfl; (first | lia | omega)
              · rw [e] at S3 I
                obtain ⟨hp3, hd3⟩ := one e'
                rw [hd1] at e'
                subst e'
                refine ⟨_, _, _, _, ?_, ⟨rfl, p2 + 1 + 1, _, acc ++ [d], t, ⟨S3, hp3, by walk_at "v", by walk_at "v", by walk_at "v", ?_, by rw [List.length_append]; show _ + 1 ≤ _; (first | lia | omega), ?_, rfl⟩⟩, I⟩
                · (first | lia | omega)
                · rw [hd3]; exact zsc
                · rw [hd3]; rw [hd1, nlc d l2] at hc1; (first | lia | omega)
            · have c92 : ¬ c = 92 := fun e => by subst e; exact absurd q4 (by decide)
              rw [if_neg c92] at zsc
              walk_at "w"
              refine a_addS I (sz zp zacc (l := [c]) (by simp)) (fun t s' I => ?_)
              rw [show oneS c = ofL [c] from rfl, ofL_app]
              walk_at "w"
              refine ⟨_, _, _, _, ?_, ⟨rfl, p2 + 1, _, acc ++ [c], t, ⟨S', hp1, by walk_at "v", by walk_at "v", by walk_at "v", by rw [hd1]; exact zsc, by rw [List.length_append]; show _ + 1 ≤ _; (first | lia | omega), hc1, rfl⟩⟩, I⟩
              (first | lia | omega)
      · have c34 : ¬ c = 34 := fun e => by subst e; exact absurd q2 (by decide)
        rw [if_neg c34] at hsc
        walk_at "s"
        refine cutH (Q' := fun fl s' => GJ3 s gq env a It q t0 p' C R text fl s') (fun Qo5 hQ5 => ?_) ?_
        · walk_at "w"
          refine bsplit (fun q4 => ?_) (fun q4 => ?_)
          · have c92 : c = 92 := by
              have e := congrArg (fun x => x.cps.toList) (beq_iff_eq.mp q4)
              have e : [c] = [92] := e
              simpa using e
            rw [if_pos c92] at hsc
            walk_at "w"
            refine o_meth I bg (.inl M.x) (.inr (.tail _ (.head _))) (lx_plain w _) (lx_rc w) (lx_fn w).2.1 gl_rc ?_
            refine k_fnM0 (o := fo w 42) (fd := fd1 w 42) rfl (I.keep _ _ (bg.k _ _ (by kernel_rfl))) (of_code (L_rc (r.less (by decide)) b M I S' hp1 (fun t3 W3 s3 S3 I => ?_)))
            have hn := slice_len text (p' + 1)
            walk_at "w"
            rcases next_cases text (p' + 1) with ⟨e, e'⟩ | ⟨d, l2, e, e'⟩
            · rw [e] at S3 I
              rw [hd1] at e'
              subst e'
              refine ⟨rfl, p' + 1, _, _, _, [], t3, tt, S3, hp1, by walk_at "v", by walk_at "v", by walk_at "v", by walk_at "v", ?_, Nat.zero_le _, by (first | lia | omega), ?_, I⟩
              · rw [hd1]; exact hsc
              · rw [hd1] at hc1 ⊢; have : nlOf [] = 0 := rfl; (first | lia | omega)
            · rw [e] at S3 I
              obtain ⟨hp3, hd3⟩ := one e'
              rw [hd1] at e'
              subst e'
              refine ⟨rfl, p' + 1 + 1, _, _, _, [d], t3, tt, S3, hp3, by walk_at "v", by walk_at "v", by walk_at "v", by walk_at "v", ?_, Nat.le_refl _, by (first | lia | omega), ?_, I⟩
              · rw [hd3]; exact hsc
              · rw [hd3]; rw [hd1, nlc d l2] at hc1; (first | lia | omega)
          · have c92 : ¬ c = 92 := fun e => by subst e; exact absurd q4 (by decide)
            rw [if_neg c92] at hsc
            walk_at "w"
            exact ⟨rfl, p' + 1, _, _, _, [c], t, tt, S', hp1, by walk_at "v", by walk_at "v", by walk_at "v", by walk_at "v", by rw [hd1]; exact hsc, Nat.le_refl _, by (first | lia | omega), hc1, I⟩
        rintro fl s' hz1
        refine hideP fun Po hPo => ?_
        obtain ⟨rfl, p3, ln3, W3, m3, chs, t3, t4, S3, hp3, hself, hfit, htok, hch, hsc3, hl3, hlt, hcn3, I⟩ := hz1
        refine hPo ?_; clear hPo Po
        clear hsc S' hcl hp1 hd1 hc1 hcn S
        walk_at "w"
        refine a_addS I (sz (acc := []) hp3 (Nat.zero_le _) hl3) (fun t5 s' I => ?_)
        rw [ofL_app]
        walk_at "w"
        have zz : ∃ pz lz az tz, TS a text It q t0 scC R C (text.length - p3 + 1) (put m3 (Str.ofString "token") (.str (ofL ([] ++ chs)) t5)) W3 pz lz az tz := ⟨p3, ln3, [] ++ chs, t5, ⟨S3, hp3, by walk_at "v", by walk_at "v", by walk_at "v", by rw [List.nil_append]; exact hsc3, by rw [List.nil_append]; (first | lia | omega), hcn3, rfl⟩⟩
        refine hideP fun Po hPo => ?_
        obtain ⟨pz, lz, az, tz, zz⟩ := zz
        refine hPo ?_; clear hPo Po
        refine r_forC (s₀ := s) (T := [a.dx, a.Ad]) (It := It) (fun k g1 m W => gq = g1 ∧ ∃ p' ln' acc t, TS a text It q t0 scC R C k m W p' ln' acc t) ?_ ?_
        · walk_at "w"
          exact ⟨rfl, ⟨_, by obtain ⟨_, _, _, _, _, rfl⟩ := id zz.sm; exact I.led _ (.head _), rfl⟩, _, _, _, _, ⟨rfl, pz, lz, az, tz, zz⟩, I⟩
        rintro kk g1 m W s' hz1 I
        refine hideP fun Po hPo => ?_
        obtain ⟨rfl, p2, ln2, acc, t2, Z⟩ := hz1
        refine hPo ?_; clear hPo Po
        refine hideC fun Qo3 Po3 hQ3 hP3 => ?_
        refine hideP fun Po hPo => ?_
        obtain ⟨zS, zp, zself, zfit, ztok, zsc, zacc, zcnt, rfl⟩ := Z
        refine hPo ?_; clear hPo Po
        refine L_next r.hand (r.in1.less (by decide)) b M I zS hq zp (fun c l t W' s' hcl S' I => ?_) (fun hnil W' s' S' I => ?_)
        rotate_left
        · rw [hnil] at zsc
          have e1 : R = (acc, []) := zsc.symm
          walk_at "w"
          refine ⟨_, _, _, _, ?_, ⟨rfl, .inr ⟨_, _, S', zp, ⟨t2, by rw [e1]; walk_at "v"⟩, by rw [e1]; exact hnil, zcnt, rfl⟩⟩, I⟩
          (first | lia | omega)
        · obtain ⟨hp1, hd1⟩ := one hcl
          have hc1 : ln2 + nlOf [c] + nlOf (text.cps.toList.drop (p2 + 1)) = C := by rw [hd1]; rw [hcl, nlc] at zcnt; (first | lia | omega)
          rw [hcl] at zsc
          unfold scC at zsc
          refine hideP fun Po hPo => ?_
          obtain ⟨es', n', u, k', he', rfl⟩ := id S'
          obtain ⟨h1, h2, h3, h4, k1, k2, k3, k4, tl, tw, rfl⟩ := he'
          refine hPo ?_; clear hPo Po
          walk_at "w"
          refine o_get I bg (.inl M.x) (.inr (.tail _ (.head _))) (lx_plain w _) (lx_dict w) (lx_no3 w) (by rfl) gl_ws rfl (fun s' I => ?_)
          refine c_inS ?_
          rw [ws_in]
          refine t_bool (bsplit (fun q3 => ?_) (fun q3 => ?_))
          · rw [if_pos q3] at zsc
            have e1 : R = (acc, l) := zsc.symm
            walk_at "w"
            have := fin (t := t2) S' I hp1 (by rw [e1]; exact hd1) hc1
            rw [e1] at this
            exact this
          · rw [if_neg (by simp [q3])] at zsc
            walk_at "w"
            refine bsplit (fun q4 => ?_) (fun q4 => ?_)
            · have c92 : c = 92 := by
                have e := congrArg (fun x => x.cps.toList) (beq_iff_eq.mp q4)
                have e : [c] = [92] := e
                simpa using e
              rw [if_pos c92] at zsc
              walk_at "w"
              refine o_meth I bg (.inl M.x) (.inr (.tail _ (.head _))) (lx_plain w _) (lx_rc w) (lx_fn w).2.1 gl_rc ?_
              refine k_fnM0 (o := fo w 42) (fd := fd1 w 42) rfl (I.keep _ _ (bg.k _ _ (by kernel_rfl))) (of_code (L_rc (r.less (by decide)) b M I S' hp1 (fun t3 W3 s3 S3 I => ?_)))
              have hn := slice_len text (p2 + 1)
              walk_at "w"
              refine a_addS I (sz zp zacc (l := nextL text (p2 + 1)) hn) (fun t s' I => ?_)
              rw [ofL_app]
              walk_at "w"
              rcases next_cases text (p2 + 1) with ⟨e, e'⟩ | ⟨d, l2, e, e'⟩
              · rw [e] at S3 I
                rw [hd1] at e'
                subst e'
                refine ⟨_, _, _, _, ?_, ⟨rfl, p2 + 1, _, acc ++ [], t, ⟨S3, hp1, by walk_at "v", by walk_at "v", by walk_at "v", ?_, by rw [List.append_nil]; (first | lia | omega), ?_, rfl⟩⟩, I⟩
                · (first | lia | omega)
                · rw [hd1, List.append_nil]; exact zsc
                · rw [hd1] at hc1 ⊢; have : nlOf [] = 0 := rfl; (first | lia | omega)
              · rw [e] at S3 I
                obtain ⟨hp3, hd3⟩ := one e'
                rw [hd1] at e'
                subst e'
                refine ⟨_, _, _, _, ?_, ⟨rfl, p2 + 1 + 1, _, acc ++ [d], t, ⟨S3, hp3, by walk_at "v", by walk_at "v", by walk_at "v", ?_, by rw [List.length_append]; show _ + 1 ≤ _; (first | lia | omega), ?_, rfl⟩⟩, I⟩
                · (first | lia | omega)
                · rw [hd3]; exact zsc
                · rw [hd3]; rw [hd1, nlc d l2] at hc1; (first | lia | omega)
            · have c92 : ¬ c = 92 := fun e => by subst e; exact absurd q4 (by decide)
              rw [if_neg c92] at zsc
              walk_at "w"
              refine a_addS I (sz zp zacc (l := [c]) (by simp)) (fun t s' I => ?_)
              rw [show oneS c = ofL [c] from rfl, ofL_app]
              walk_at "w"
              refine ⟨_, _, _, _, ?_, ⟨rfl, p2 + 1, _, acc ++ [c], t, ⟨S', hp1, by walk_at "v", by walk_at "v", by walk_at "v", by rw [hd1]; exact zsc, by rw [List.length_append]; show _ + 1 ≤ _; (first | lia | omega), hc1, rfl⟩⟩, I⟩
              (first | lia | omega)
end
section
open PySem PySem.W PySem.Calls
set_option Elab.async false
set_option compiler.extract_closed false
set_option maxRecDepth 100000
theorem pb_entry {w : World} {g : Mp} {s₀ : Shared} {env : Env} {m : Str → Option Value} {s : Shared} {a : MA} {o : Obj} (I : Inv g s₀ [] env m [] s) (cw : CW env s₀ []) (h : s₀.heap.get? a.Pb = some o) (hg : g a.Pb = none) : Inv g s₀ [a.Pb] env m [(a.Pb, o)] s ∧ CW env s₀ [a.Pb] := by
  have cA : ∀ q ∈ env.cells, a.Pb ≠ q.2 := fun q hq e => by rcases cw q hq with h' | h'; exact (nomatch h'); rw [← e, h] at h'; cases h'
  exact ⟨I.addT h (by simp) hg cA (fun _ h => (nomatch h)), cw.moreT (fun _ h => (nomatch h))⟩
set_option maxHeartbeats 4000000 in
theorem c_gt1 {w : World} {A : Around} {s : Shared} {gb g : Mp} {a : MA} {text : Str} {n kp : Nat} {ln : Int} {es : List DictEntry} {v : Value} {vs : List Value} {Q : Value → Shared → Prop} (r : Room A 1) (b : Bs (K1 w) gb) (M : MC w gb g a text) (hg : ∀ a o, g a = some o → s.heap.get? a = some o)
    (hdx : s.heap.get? a.dx = some (dictOf es n)) (he : Ent a ln es) (hpb : s.heap.get? a.Pb = some (lstO (v :: vs) kp)) (nP : g a.Pb = none) (hl : vs.length < 2 ^ 22)
    (h : ∀ k' s', (∀ b o, s.heap.get? b = some o → b ∉ [a.Pb] → s'.heap.get? b = some o) → (∃ h tk, s' = { s with heap := h, toks := tk }) → s'.heap.get? a.Pb = some (lstO vs k') → Q v s') :
    codeAny (model pr1 w) A (.call (.ref 49) ⟨[.ref a.x], []⟩) (RV Q) s := by
  have F : Fn (K1 w) 49 (fd1 w 49) l49 [Str.ofString "self"] _ := ⟨by kernel_rfl, by kernel_rfl, by rfl, by kernel_rfl, by kernel_rfl, by kernel_rfl, by kernel_rfl, by kernel_rfl, by kernel_rfl, by kernel_rfl, by decide⟩
  have bg := b.mono M.le
  refine r_defA F r bg hg rfl (f49b w _) ?_
  clear F
  intro env s₁ el _ _ r I cw
  conv in (fB _) => whnf
  generalize A.deeper env = A1 at r ⊢
  have hpd : a.dx ∉ [a.Pb] := fun e => by
    rw [List.mem_singleton.mp e, hpb] at hdx; injection hdx with hdx; injection hdx with h1 _; injection h1 with h1; exact absurd h1 (by decide)
  refine hideP fun Po hPo => ?_
  obtain ⟨I, cw⟩ := pb_entry (w := w) I cw hpb nP
  obtain ⟨h1, h2, h3, h4, k1, k2, k3, k4, tl, tw, rfl⟩ := he
  refine hPo ?_; clear hPo Po
  walk_at "w"
  have X := fun {m W s'} (I : Inv g s [a.Pb] env m W s') => b.mono M.le |>.inK I
  have gget : ∀ {m W s'}, Inv g s [a.Pb] env m W s' → InstAt s'.heap a.x (instObj 59 a.dx) 59 (some (dictOf (ents h1 h2 h3 h4 k1 k2 k3 k4 tl tw ln a.Fs a.Pb) n)) := fun I => inst_at (I.keep _ _ M.x) (I.keep0 _ _ hdx hpd)
  have gp : ∀ {A E expr m W s' Q}, Inv g s [a.Pb] env m W s' → (∀ s'', Inv g s [a.Pb] env m W s'' → Q (.ref a.Pb) s'') → wpAny (model pr1 w) A (getAttr (.ref a.x) sPb expr) Q E s' := fun I h =>
    get_value (bg.inK I) (gget I) (plainGet_of (lx_plain w sPb)).1 (findObj_own (lx_dict w) (lx_no4 w) (by rfl) (@gl_pb h1 h2 h3 h4 k1 k2 k3 k4 tl tw ln a.Fs a.Pb)) rfl (h _ (I.tok _))
  refine gp I (fun s' I => ?_)
  refine t_list I (LstAt.isList (.inr ⟨_, .head _⟩) I) (by simp; (first | lia | omega)) (fun s' I => btrue rfl ?_)
  walk_at "w"
  refine gp I (fun s' I => ?_)
  refine mth_pop I (.inr ⟨_, .head _⟩) ?_
  walk_at "w"
  refine r_pop0 I .head (by rw [sizeLine_eq]; (first | lia | omega)) (fun s' I => ?_)
  walk_at "w"
  exact h _ _ (fun b o e hb => I.keep0 b o e hb) I.same (I.led _ (.head _))
noncomputable abbrev l56 : List (Str × NameKind) := [(Str.ofString "self", .local), (Str.ofString "token", .local)]
theorem f56b (w : World) (a b : Value) : bindArgs (fd1 w 56) ⟨[a, b], []⟩ = pure ([Str.ofString "self", Str.ofString "token"].zip [a, b]) := by kernel_rfl
set_option maxHeartbeats 4000000 in
theorem c_pt {w : World} {A : Around} {s : Shared} {gb g : Mp} {a : MA} {text : Str} {n kp : Nat} {ln : Int} {es : List DictEntry} {v : Value} {vs : List Value} {Q : Value → Shared → Prop} (r : Room A 1) (b : Bs (K1 w) gb) (M : MC w gb g a text) (hg : ∀ a o, g a = some o → s.heap.get? a = some o)
    (hdx : s.heap.get? a.dx = some (dictOf es n)) (he : Ent a ln es) (hpb : s.heap.get? a.Pb = some (lstO vs kp)) (nP : g a.Pb = none) (hl : vs.length < 2 ^ 22)
    (h : ∀ k' s', (∀ b o, s.heap.get? b = some o → b ∉ [a.Pb] → s'.heap.get? b = some o) → (∃ h tk, s' = { s with heap := h, toks := tk }) → s'.heap.get? a.Pb = some (lstO (vs ++ [v]) k') → Q .none s') :
    codeAny (model pr1 w) A (.call (.ref 56) ⟨[.ref a.x, v], []⟩) (RV Q) s := by
  have F : Fn (K1 w) 56 (fd1 w 56) l56 [Str.ofString "self", Str.ofString "token"] _ := ⟨by kernel_rfl, by kernel_rfl, by rfl, by kernel_rfl, by kernel_rfl, by kernel_rfl, by kernel_rfl, by kernel_rfl, by kernel_rfl, by kernel_rfl, by decide⟩
  have bg := b.mono M.le
  refine r_defA F r bg hg rfl (f56b w _ _) ?_
  clear F
  intro env s₁ el _ _ r I cw
  conv in (fB _) => whnf
  generalize A.deeper env = A1 at r ⊢
  have hpd : a.dx ∉ [a.Pb] := fun e => by
    rw [List.mem_singleton.mp e, hpb] at hdx; injection hdx with hdx; injection hdx with h1 _; injection h1 with h1; exact absurd h1 (by decide)
  refine hideP fun Po hPo => ?_
  obtain ⟨I, cw⟩ := pb_entry (w := w) I cw hpb nP
  obtain ⟨h1, h2, h3, h4, k1, k2, k3, k4, tl, tw, rfl⟩ := he
  refine hPo ?_; clear hPo Po
  walk_at "w"
  have gget : ∀ {m W s'}, Inv g s [a.Pb] env m W s' → InstAt s'.heap a.x (instObj 59 a.dx) 59 (some (dictOf (ents h1 h2 h3 h4 k1 k2 k3 k4 tl tw ln a.Fs a.Pb) n)) := fun I => inst_at (I.keep _ _ M.x) (I.keep0 _ _ hdx hpd)
  have gp : ∀ {A E expr m W s' Q}, Inv g s [a.Pb] env m W s' → (∀ s'', Inv g s [a.Pb] env m W s'' → Q (.ref a.Pb) s'') → wpAny (model pr1 w) A (getAttr (.ref a.x) sPb expr) Q E s' := fun I h =>
    get_value (bg.inK I) (gget I) (plainGet_of (lx_plain w sPb)).1 (findObj_own (lx_dict w) (lx_no4 w) (by rfl) (@gl_pb h1 h2 h3 h4 k1 k2 k3 k4 tl tw ln a.Fs a.Pb)) rfl (h _ (I.tok _))
  refine gp I (fun s' I => ?_)
  refine mth_append I (.inr ⟨_, .head _⟩) ?_
  walk_at "w"
  refine r_append I .head (by rw [sizeLine_eq]; (first | lia | omega)) (fun s' I => ?_)
  refine ⟨rfl, ?_⟩
  walk_at "w"
  exact h _ _ (fun b o e hb => I.keep0 b o e hb) I.same (I.led _ (.head _))
end
section
open PySem PySem.W PySem.Calls
set_option Elab.async false
set_option compiler.extract_closed false
set_option maxRecDepth 100000
theorem Inv.fresh {g g0 : Mp} {s₀ : Shared} {T : List Addr} {env : Env} {m : Str → Option Value} {W W0 : List (Addr × Obj)} {s s' : Shared} {a : Addr} {o : Obj} (I : Inv g s₀ T env m W s') (I0 : Inv g0 s₀ T env m W0 s) (hk : ∀ p ∈ W, (∃ o, (p.1, o) ∈ W0) ∨ p.1 ≠ a) (h0 : s.heap.get? a = none) (h1 : s'.heap.get? a = some o) (hg : g a = none) : Inv g s₀ T env m ((a, o) :: W) s' := by
  refine I.addW h1 hg (fun e => ?_) (fun q hq e => ?_) (fun p hp e => ?_) ?_
  · obtain ⟨md, ⟨oL, _, _, hoL, _⟩, _⟩ := I0.ns
    rw [e, hoL] at h0; cases h0
  · obtain ⟨oc, ho, _⟩ := I0.cell q hq
    rw [e, ho] at h0; cases h0
  · rcases hk p hp with ⟨o', ho'⟩ | h
    · have := I0.led _ ho'
      dsimp only at this
      rw [e, h0] at this; cases this
    · exact h e
  · by_cases hT : a ∈ T
    · exact .inl hT
    · refine .inr ?_
      cases e : s₀.heap.get? a with
      | none => rfl
      | some o' => rw [I0.keep0 _ _ e hT] at h0; cases h0
noncomputable abbrev l35 : List (Str × NameKind) := [(Str.ofString "self", .local), (Str.ofString "fp", .local)]
theorem f35b (w : World) (a b : Value) : bindArgs (fd1 w 35) ⟨[a, b], []⟩ = pure ([Str.ofString "self", Str.ofString "fp"].zip [a, b]) := by kernel_rfl
theorem lx_t1 (w : World) : takerIn (K1 w) 59 sLn = some none := by kernel_rfl
theorem lx_t2 (w : World) : takerIn (K1 w) 59 sIn = some none := by kernel_rfl
theorem lx_t3 (w : World) : takerIn (K1 w) 59 sWs = some none := by kernel_rfl
theorem lx_t4 (w : World) : takerIn (K1 w) 59 sPb = some none := by kernel_rfl
set_option maxHeartbeats 4000000 in
theorem c_init {w : World} {A : Around} {s : Shared} {g : Mp} {x dx Fs : Addr} {Q : Value → Shared → Prop} (r : Room A 1) (b : Bs (K1 w) g) (hg : ∀ a o, g a = some o → s.heap.get? a = some o)
    (hx : g x = some (instObj 59 dx)) (hdx : s.heap.get? dx = some (dictOf [] 0)) (nD : g dx = none)
    (h : ∀ Pb h1 h2 h3 h4 k1 k2 k3 k4 tl tw n s', (∀ b o, s.heap.get? b = some o → b ∉ [dx] → s'.heap.get? b = some o) → (∃ h tk, s' = { s with heap := h, toks := tk }) → s.heap.get? Pb = none → s'.heap.get? Pb = some (lstO [] 0) → s'.heap.get? dx = some (dictOf (ents h1 h2 h3 h4 k1 k2 k3 k4 tl tw 1 Fs Pb) n) → Q .none s') :
    codeAny (model pr1 w) A (.call (.ref 35) ⟨[.ref x, .ref Fs], []⟩) (RV Q) s := by
  have F : Fn (K1 w) 35 (fd1 w 35) l35 [Str.ofString "self", Str.ofString "fp"] _ := ⟨by kernel_rfl, by kernel_rfl, by rfl, by kernel_rfl, by kernel_rfl, by kernel_rfl, by kernel_rfl, by kernel_rfl, by kernel_rfl, by kernel_rfl, by decide⟩
  refine r_defA F r b hg rfl (f35b w _ _) ?_
  clear F
  intro env s₁ el _ _ r I cw
  conv in (fB _) => whnf
  generalize A.deeper env = A1 at r ⊢
  have cD : ∀ q ∈ env.cells, dx ≠ q.2 := fun q hq e => by rcases cw q hq with h | h; exact (nomatch h); rw [← e, hdx] at h; cases h
  have I := I.addT hdx (by simp) nD cD (fun _ h => (nomatch h))
  have cw := cw.moreT (T' := [dx]) (fun _ h => (nomatch h))
  walk_at "w"
  refine o_set I b (.inl hx) .head (lx_sa w) (lx_over w) (lx_t1 w) (lx_dict w) (by rfl) (by decide) (fun k1 s' I => ?_)
  walk_at "w"
  refine o_set I b (.inl hx) .head (lx_sa w) (lx_over w) (lx_t2 w) (lx_dict w) (by rfl) (Nat.le_of_ble_eq_true (by rfl)) (fun k2 s' I => ?_)
  walk_at "w"
  refine o_set I b (.inl hx) .head (lx_sa w) (lx_over w) (lx_t3 w) (lx_dict w) (by rfl) (Nat.le_of_ble_eq_true (by rfl)) (fun k3 s' I => ?_)
  walk_at "w"
  refine r_newList I (by show 0 ≤ sizeLine; (first | lia | omega)) (fun Pb s' I => ?_)
  have fP : s.heap.get? Pb = none := by
    rcases (I.offW _ (.head _)).2 with h | h
    · have := (List.pairwise_cons.mp I.nd).1 _ (.head _)
      exact absurd (List.mem_singleton.mp h) this
    · exact h
  walk_at "w"
  refine o_set I b (.inl hx) (.tail .head) (lx_sa w) (lx_over w) (lx_t4 w) (lx_dict w) (by rfl) (Nat.le_of_ble_eq_true (by rfl)) (fun k4 s' I => ?_)
  walk_at "w"
  rw [ws_eq] at I
  exact h Pb _ _ _ _ k1 k2 k3 k4 _ _ _ _ (fun b o e hb => I.keep0 b o e hb) I.same fP (I.led _ (.head _)) (I.led _ (.tail _ (.head _)))
end
section
open PySem PySem.W PySem.Calls
set_option Elab.async false
set_option compiler.extract_closed false
set_option maxRecDepth 100000
noncomputable abbrev l80 : List (Str × NameKind) := [(Str.ofString "text", .cell), (Str.ofString "_law_read_on", .local), (Str.ofString "stream", .local), (Str.ofString "at", .cell), (Str.ofString "_netrclex", .globalImplicit)]
theorem f80b (w : World) (a : Value) : bindArgs (fd1 w 80) ⟨[a], []⟩ = pure ([Str.ofString "text"].zip [a]) := by kernel_rfl
theorem q80 (w : World) : (fd1 w 80).qualname = Str.ofString "_law_machine" := by kernel_rfl
theorem lx_keep (w : World) : keepIn (K1 w) (.ref 59) = true := by kernel_rfl
theorem rdq : Str.ofString "_law_machine" ++ Str.ofString ".<locals>." ++ Str.ofString "_law_read_on" = rdQual := by decide +kernel
noncomputable def putAll (g : Mp) : List (Addr × Obj) → Mp
  | [] => g
  | p :: r => (putAll g r).put p.1 p.2
theorem putAll_none {g : Mp} {a : Addr} : ∀ {l : List (Addr × Obj)}, g a = none → (∀ p ∈ l, p.1 ≠ a) → putAll g l a = none
  | [], h, _ => h
  | p :: r, h, k => by
    unfold putAll Mp.put
    rw [if_neg (Ne.symm (k p (.head _)))]
    exact putAll_none h fun q hq => k q (.tail _ hq)
theorem putAll_le {g : Mp} : ∀ {l : List (Addr × Obj)}, (∀ p ∈ l, g p.1 = none) → l.Pairwise (fun p q => p.1 ≠ q.1) → g.Le (putAll g l)
  | [], _, _ => Mp.Le.refl g
  | p :: r, h, nd => by
    obtain ⟨n1, n2⟩ := List.pairwise_cons.mp nd
    refine (putAll_le (fun q hq => h q (.tail _ hq)) n2).trans (Mp.le_put (putAll_none (h p (.head _)) fun q hq => Ne.symm (n1 q hq)))
theorem putAll_get {g : Mp} {a : Addr} {o : Obj} : ∀ {l : List (Addr × Obj)}, l.Pairwise (fun p q => p.1 ≠ q.1) → (a, o) ∈ l → putAll g l a = some o
  | p :: r, nd, hm => by
    obtain ⟨n1, n2⟩ := List.pairwise_cons.mp nd
    unfold putAll Mp.put
    rcases List.mem_cons.mp hm with e | hm
    · subst e; rw [if_pos rfl]
    · rw [if_neg (Ne.symm (n1 _ hm))]; exact putAll_get n2 hm
theorem putAll_back {g : Mp} {a : Addr} {o : Obj} : ∀ {l : List (Addr × Obj)}, putAll g l a = some o → g a = some o ∨ (a, o) ∈ l
  | [], h => .inl h
  | p :: r, h => by
    unfold putAll Mp.put at h
    split at h
    · rename_i q; subst q; cases h; exact .inr (.head _)
    · exact (putAll_back h).imp id (.tail _)
/-- the code table once the machine was made -/
noncomputable def tab2 (cc c2 : Addr) : Array Value := #[rawInt 132, rawInt 4, .ref cc, rawInt 136, rawInt 13, .ref c2]
set_option maxHeartbeats 4000000 in
theorem c_mach {w : World} {A : Around} {s : Shared} {g : Mp} {text : Str} {t1 : Tok} {Q : Value → Shared → Prop} (r : Room A 4) (b : Bs (K1 w) g) (bm : Bm g) (hg : ∀ a o, g a = some o → s.heap.get? a = some o)
    (hP : s.heap.get? 75 = some (tabObj #[])) (nP : g 75 = none) (hl : text.length ≤ 2 ^ 20)
    (h : ∀ (a : MA) c2 g' es n k k' tp s', (∀ b o, s.heap.get? b = some o → b ∉ [75] → s'.heap.get? b = some o) → (∃ h tk, s' = { s with heap := h, toks := tk }) → s'.heap.get? 75 = some (tabObj (tab2 a.cc c2)) → MC w g g' a text → (∀ b o, g' b = some o → g b = some o ∨ s.heap.get? b = none) →
      (∀ a o, g' a = some o → s'.heap.get? a = some o) → g' a.dx = none → g' a.Pb = none → g' a.Ad = none → s.heap.get? a.dx = none → s.heap.get? a.Pb = none → s.heap.get? a.Ad = none →
      Ent a 1 es → s'.heap.get? a.dx = some (dictOf es n) → s'.heap.get? a.Pb = some (lstO [] k) → s'.heap.get? a.Ad = some (lstO [.int (0 : Nat) tp] k') → Q (.ref a.x) s') :
    codeAny (model pr1 w) A (.call (.ref 80) ⟨[.str text t1], []⟩) (RV Q) s := by
  have F : Fn (K1 w) 80 (fd1 w 80) l80 [Str.ofString "text"] _ := ⟨by kernel_rfl, by kernel_rfl, by rfl, by kernel_rfl, by kernel_rfl, by kernel_rfl, by kernel_rfl, by kernel_rfl, by kernel_rfl, by kernel_rfl, by decide⟩
  refine r_defA F r b hg rfl (f80b w _) ?_
  clear F
  intro env s₁ el hcode hqual r I cw
  conv in (fB _) => whnf
  generalize A.deeper env = A1 at r ⊢
  rw [lx_code] at hcode
  rw [q80] at hqual
  have cP : ∀ q ∈ env.cells, (75 : Addr) ≠ q.2 := fun q hq e => by rcases cw q hq with h | h; exact (nomatch h); rw [← e, hP] at h; cases h
  have I := I.addT hP (by simp) nP cP (fun _ h => (nomatch h))
  have cw := cw.moreT (T' := [75]) (fun _ h => (nomatch h))
  refine hideP fun Po hPo => ?_
  obtain ⟨ct, hct⟩ := Option.isSome_iff_exists.mp (el.cells (Str.ofString "text") (by decide))
  obtain ⟨ca, hca⟩ := Option.isSome_iff_exists.mp (el.cells (Str.ofString "at") (by decide))
  refine hPo ?_; clear hPo Po
  walk_at "w"
  refine r_newList I (by show 1 ≤ sizeLine; rw [sizeLine_eq]; decide) (fun Ad s' I => ?_)
  walk_at "w"
  refine nestDef_K rfl rfl rfl ?_
  have hcl : closureFor (rd1 w).scope env = pure [(Str.ofString "text", ct), (Str.ofString "at", ca)] := by
    rw [closureFor_eq]
    · rw [rd_names]
      show pure [(Str.ofString "text", (env.cells.lookup (Str.ofString "text")).getD 0), (Str.ofString "at", (env.cells.lookup (Str.ofString "at")).getD 0)] = _
      rw [hct, hca]; rfl
    · rw [rd_names]
      intro x hx hf
      simp only [List.mem_cons, List.not_mem_nil, or_false] at hx
      rcases hx with rfl | rfl | rfl | rfl | rfl
      · cases hf
      · cases hf
      · rw [hca]; rfl
      · rw [hct]; rfl
      · cases hf
  have hqn : qualnameIn env (Str.ofString "_law_read_on") (Str.ofString "_law_read_on") = rdQual := by
    unfold qualnameIn
    have hk : env.kindOf (Str.ofString "_law_read_on") = some .local := (congrArg (·.lookup (Str.ofString "_law_read_on")) el.names).trans (by decide)
    rw [hk, hqual, if_neg (by decide)]
    exact rdq
  refine r_mkfn (qual := qualnameIn env (Str.ofString "_law_read_on") (Str.ofString "_law_read_on")) (params := (rd1 w).params) (body := (rd1 w).body) (scope := (rd1 w).scope) (ps := #[]) I b bm el.glob hcode (lx_tab w) (.tail .head) trivial rfl hcl (fun Fr cc ctv doc pm occ vs tq s' I hd hv => ?_)
  rw [hqn] at I hv
  walk_at "w"
  refine r_mklam (qual := env.qual ++ "<lambda>") I b bm el.glob hcode (lx_tab w) (.tail (.tail (.tail .head))) trivial (by rfl) rfl rfl rfl (fun Fs c2 ctv2 pm2 oc2 s' I => ?_)
  walk_at "w"
  refine f_set I (fun Ds tk2 s' I => ?_)
  walk_at "w"
  refine callWith_K (b.inK I) (lx_keep w) ?_
  walk_at "w"
  refine ⟨b.inK I, r_new I b (lx_makes w) (lx_init w) (lx_fn w).1 (fun x dx s' I => ?_)⟩
  have nd := I.nd
  simp only [List.pairwise_cons, List.mem_cons, List.not_mem_nil, or_false, forall_eq_or_imp, forall_eq] at nd
  have I1 := I.absorb1
  have nctca : ct ≠ ca := by
    intro e
    have h1 := mem_of_lookup hct
    have h2 := mem_of_lookup hca
    rw [e] at h1
    exact absurd (name_of_addr I.eo.apart h1 h2) (by decide)
  refine c_init ((r.under 59 _).less (by decide)) (b.mono (Mp.le_put (I.offW _ (.head _)).1)) I1.keep (Mp.put_self _ _ _) (I1.led _ (.head _)) (I1.offW _ (.head _)).1 (fun Pb h1 h2 h3 h4 k1 k2 k3 k4 tl tw n s'' hk hs fP hPb hdx => ?_)
  refine ⟨rfl, ?_⟩
  walk_at "s"
  have cct := I.cell _ (mem_of_lookup hct)
  have cca := I.cell _ (mem_of_lookup hca)
  refine hideP fun Po hPo => ?_
  obtain ⟨oct, hoct, dct⟩ := cct
  obtain ⟨oca, hoca, dca⟩ := cca
  refine hPo ?_; clear hPo Po
  dsimp only at hoct hoca dct dca
  have dct : oct.data = .cell (some (.str text t1)) := dct
  have dca : oca.data = .cell (some (.ref Ad)) := dca
  refine hideP fun Po hPo => ?_
  obtain ⟨ne_x, ne_dx, ne_Ds, ne_Fs, ne_c2, ne_Fr, ne_cc, ne_Ad, -⟩ := nd
  refine hPo ?_; clear hPo Po
  -- the objects that stay
  have ict := I.offC _ (mem_of_lookup hct)
  have ica := I.offC _ (mem_of_lookup hca)
  have ndct := ict.2
  have ndca := ica.2
  simp only [List.mem_cons, List.not_mem_nil, or_false, forall_eq_or_imp, forall_eq] at ndct ndca
  refine hideP fun Po hPo => ?_
  obtain ⟨c1x, c1dx, c1Ds, c1Fs, c1c2, c1Fr, c1cc, c1Ad, c1P⟩ := ndct
  obtain ⟨c2x, c2dx, c2Ds, c2Fs, c2c2, c2Fr, c2cc, c2Ad, c2P⟩ := ndca
  refine hPo ?_; clear hPo Po
  have off : ∀ {a : Addr} {o : Obj}, (a, o) ∈ _ → a ≠ 75 → g a = none ∧ s.heap.get? a = none ∧ s'.heap.get? a = some o := fun {a o} hp h75 => ⟨(I.offW _ hp).1, (I.offW _ hp).2.resolve_left (by simpa using h75), I.led _ hp⟩
  refine hideP fun Po hPo => ?_
  obtain ⟨gx, fx, ex⟩ := off (.head _) ne_x.2.2.2.2.2.2.2
  obtain ⟨gdx, fdx, edx⟩ := off (.tail _ (.head _)) ne_dx.2.2.2.2.2.2
  obtain ⟨gDs, fDs, eDs⟩ := off (.tail _ (.tail _ (.head _))) ne_Ds.2.2.2.2.2
  obtain ⟨FD, gFs, fFs, eFs⟩ : ∃ FD, g Fs = none ∧ s.heap.get? Fs = none ∧ s'.heap.get? Fs = some { cls := .type "function", dict := some Ds, data := .func FD } := ⟨_, off (.tail _ (.tail _ (.tail _ (.head _)))) ne_Fs.2.2.2.2⟩
  obtain ⟨gFr, fFr, eFr⟩ := off (.tail _ (.tail _ (.tail _ (.tail _ (.tail _ (.head _)))))) ne_Fr.2.2
  obtain ⟨gcc, fcc, ecc⟩ := off (.tail _ (.tail _ (.tail _ (.tail _ (.tail _ (.tail _ (.head _))))))) ne_cc.2
  obtain ⟨gAd, fAd, eAd⟩ := off (.tail _ (.tail _ (.tail _ (.tail _ (.tail _ (.tail _ (.tail _ (.head _)))))))) ne_Ad
  refine hPo ?_; clear hPo Po
  have eP := I.led _ (.tail _ (.tail _ (.tail _ (.tail _ (.tail _ (.tail _ (.tail _ (.tail _ (.head _)))))))))
  dsimp only at eP
  have fct := (cw _ (mem_of_lookup hct)).resolve_left (by simpa using Ne.symm c1P)
  have fca := (cw _ (mem_of_lookup hca)).resolve_left (by simpa using Ne.symm c2P)
  have keep := I.keep0
  have keepg := I.keep
  refine hideP fun Po hPo => ?_
  obtain ⟨same1, same2, same3⟩ := I.same
  refine hPo ?_; clear hPo Po
  clear I I1
  have kk : ∀ {b o}, s'.heap.get? b = some o → b ≠ dx → s''.heap.get? b = some o := fun e h => hk _ _ e (by simpa using h)
  have hL : ∃ L : List (Addr × Obj), L = [(x, instObj 59 dx), (Ds, dictOf [⟨PyData.keyHash w.params (Str.ofString "read"), .str (Str.ofString "read") tk2, .ref Fr⟩] 1), (Fs, { cls := .type "function", dict := some Ds, data := .func FD }),
    (Fr, fnMade (Str.ofString "_law_read_on") rdQual (rd1 w).params (rd1 w).body (rd1 w).scope [(Str.ofString "text", ct), (Str.ofString "at", ca)] doc pm cc ctv), (cc, occ), (ct, oct), (ca, oca)] := ⟨_, rfl⟩
  obtain ⟨L, hL⟩ := hL
  have nd : L.Pairwise fun p q => p.1 ≠ q.1 := by
    subst hL
    simp only [List.pairwise_cons, List.mem_cons, List.not_mem_nil, or_false, forall_eq_or_imp, forall_eq]
    exact ⟨⟨ne_x.2.1, ne_x.2.2.1, ne_x.2.2.2.2.1, ne_x.2.2.2.2.2.1, c1x, c2x⟩, ⟨ne_Ds.1, ne_Ds.2.2.1, ne_Ds.2.2.2.1, c1Ds, c2Ds⟩, ⟨ne_Fs.2.1, ne_Fs.2.2.1, c1Fs, c2Fs⟩, ⟨ne_Fr.1, c1Fr, c2Fr⟩, ⟨c1cc, c2cc⟩, nctca, (by simp), .nil⟩
  have gct := ict.1
  have gca := ica.1
  dsimp only at gct gca
  have all : ∀ p ∈ L, g p.1 = none ∧ s.heap.get? p.1 = none ∧ s'.heap.get? p.1 = some p.2 ∧ p.1 ≠ dx ∧ p.1 ≠ Ad := by
    subst hL
    simp only [List.mem_cons, List.not_mem_nil, or_false, forall_eq_or_imp, forall_eq]
    exact ⟨⟨gx, fx, ex, ne_x.1, ne_x.2.2.2.2.2.2.1⟩, ⟨gDs, fDs, eDs, Ne.symm ne_dx.1, ne_Ds.2.2.2.2.1⟩, ⟨gFs, fFs, eFs, Ne.symm ne_dx.2.1, ne_Fs.2.2.2.1⟩, ⟨gFr, fFr, eFr, Ne.symm ne_dx.2.2.2.1, ne_Fr.2.1⟩, ⟨gcc, fcc, ecc, Ne.symm ne_dx.2.2.2.2.1, ne_cc.1⟩, ⟨gct, fct, hoct, Ne.symm c1dx, Ne.symm c1Ad⟩, ⟨gca, fca, hoca, Ne.symm c2dx, Ne.symm c2Ad⟩⟩
  have le := putAll_le (g := g) (fun p hp => (all p hp).1) nd
  have get : ∀ {a o}, (a, o) ∈ L → putAll g L a = some o := fun h => putAll_get nd h
  have notPb : ∀ {a o}, s'.heap.get? a = some o → a ≠ Pb := fun e q => by rw [q, fP] at e; cases e
  have gPb : g Pb = none := by
    cases e : g Pb with
    | none => rfl
    | some o => exact absurd rfl (notPb (keepg _ _ e))
  have sPb : s.heap.get? Pb = none := by
    cases e : s.heap.get? Pb with
    | none => rfl
    | some o =>
      by_cases q : Pb = 75
      · rw [q, eP] at fP; cases fP
      · have := keep _ _ e (by simpa using q); rw [fP] at this; cases this
  refine h ⟨x, dx, Pb, Ad, Fs, Ds, Fr, ct, ca, cc⟩ c2 (putAll g L) _ n 0 0 _ s'' (fun b o e hb => ?_) ?_ (kk eP (Ne.symm ne_dx.2.2.2.2.2.2)) ⟨le, gct, gca, gAd, ?_, ⟨FD, ?_⟩, ⟨PyData.keyHash w.params (Str.ofString "read"), tk2, 1, ?_⟩, ⟨doc, pm, ctv, ?_⟩, ⟨oct, t1, ?_, dct⟩, ⟨oca, ?_, dca⟩, ⟨occ, vs, tq, ?_, hd, hv⟩, nctca, hl⟩ (fun b o e => ?_) (fun b o e => ?_) ?_ ?_ ?_ fdx sPb fAd ⟨h1, h2, h3, h4, k1, k2, k3, k4, tl, tw, rfl⟩ hdx hPb (kk eAd (Ne.symm ne_dx.2.2.2.2.2.1))
  · exact kk (keep _ _ e hb) (fun q => by rw [q, fdx] at e; cases e)
  · obtain ⟨h', tk', e'⟩ := hs
    subst same3 e'
    exact ⟨_, _, rfl⟩
  · exact get (by subst hL; exact .head _)
  · exact get (by subst hL; exact .tail _ (.tail _ (.head _)))
  · exact get (by subst hL; exact .tail _ (.head _))
  · exact get (by subst hL; exact .tail _ (.tail _ (.tail _ (.head _))))
  · exact get (by subst hL; exact .tail _ (.tail _ (.tail _ (.tail _ (.tail _ (.head _))))))
  · exact get (by subst hL; exact .tail _ (.tail _ (.tail _ (.tail _ (.tail _ (.tail _ (.head _)))))))
  · exact get (by subst hL; exact .tail _ (.tail _ (.tail _ (.tail _ (.head _)))))
  · exact (putAll_back e).imp id fun h => (all _ h).2.1
  · rcases putAll_back e with e | hm
    · exact kk (keepg _ _ e) (fun q => by rw [q, gdx] at e; cases e)
    · exact kk (all _ hm).2.2.1 (all _ hm).2.2.2.1
  · exact putAll_none gdx fun p hp => (all p hp).2.2.2.1
  · exact putAll_none gPb fun p hp => notPb (all p hp).2.2.1
  · exact putAll_none gAd fun p hp => (all p hp).2.2.2.2
end
section
open PySem PySem.W PySem.Calls
set_option Elab.async false
set_option compiler.extract_closed false
set_option maxRecDepth 100000
set_option maxHeartbeats 4000000 in
theorem c_machHit {w : World} {A : Around} {s : Shared} {g : Mp} {text : Str} {t1 : Tok} {cc c2 : Addr} {occ : Obj} {vs : Array Value} {tq : Tok} {Q : Value → Shared → Prop} (r : Room A 4) (b : Bs (K1 w) g) (bm : Bm g) (hg : ∀ a o, g a = some o → s.heap.get? a = some o)
    (hP : s.heap.get? 75 = some (tabObj (tab2 cc c2))) (gcc : g cc = some occ) (hd : occ.data = .fields vs) (hv : vs[1]? = some (.str rdQual tq)) (nP : g 75 = none) (hl : text.length ≤ 2 ^ 20)
    (h : ∀ (a : MA) g' es n k k' tp s', (∀ b o, s.heap.get? b = some o → s'.heap.get? b = some o) → (∃ h tk, s' = { s with heap := h, toks := tk }) → MC w g g' a text → (∀ b o, g' b = some o → g b = some o ∨ s.heap.get? b = none) →
      (∀ a o, g' a = some o → s'.heap.get? a = some o) → g' a.dx = none → g' a.Pb = none → g' a.Ad = none → s.heap.get? a.dx = none → s.heap.get? a.Pb = none → s.heap.get? a.Ad = none →
      Ent a 1 es → s'.heap.get? a.dx = some (dictOf es n) → s'.heap.get? a.Pb = some (lstO [] k) → s'.heap.get? a.Ad = some (lstO [.int (0 : Nat) tp] k') → Q (.ref a.x) s') :
    codeAny (model pr1 w) A (.call (.ref 80) ⟨[.str text t1], []⟩) (RV Q) s := by
  have F : Fn (K1 w) 80 (fd1 w 80) l80 [Str.ofString "text"] _ := ⟨by kernel_rfl, by kernel_rfl, by rfl, by kernel_rfl, by kernel_rfl, by kernel_rfl, by kernel_rfl, by kernel_rfl, by kernel_rfl, by kernel_rfl, by decide⟩
  refine r_defA F r b hg rfl (f80b w _) ?_
  clear F
  intro env s₁ el hcode hqual r I cw
  conv in (fB _) => whnf
  generalize A.deeper env = A1 at r ⊢
  rw [lx_code] at hcode
  rw [q80] at hqual
  have cP : ∀ q ∈ env.cells, (75 : Addr) ≠ q.2 := fun q hq e => by rcases cw q hq with h | h; exact (nomatch h); rw [← e, hP] at h; cases h
  have I := I.addT hP (by simp) nP cP (fun _ h => (nomatch h))
  have cw := cw.moreT (T' := [75]) (fun _ h => (nomatch h))
  refine hideP fun Po hPo => ?_
  obtain ⟨ct, hct⟩ := Option.isSome_iff_exists.mp (el.cells (Str.ofString "text") (by decide))
  obtain ⟨ca, hca⟩ := Option.isSome_iff_exists.mp (el.cells (Str.ofString "at") (by decide))
  refine hPo ?_; clear hPo Po
  walk_at "w"
  refine r_newList I (by show 1 ≤ sizeLine; rw [sizeLine_eq]; decide) (fun Ad s' I => ?_)
  walk_at "w"
  refine nestDef_K rfl rfl rfl ?_
  have hcl : closureFor (rd1 w).scope env = pure [(Str.ofString "text", ct), (Str.ofString "at", ca)] := by
    rw [closureFor_eq]
    · rw [rd_names]
      show pure [(Str.ofString "text", (env.cells.lookup (Str.ofString "text")).getD 0), (Str.ofString "at", (env.cells.lookup (Str.ofString "at")).getD 0)] = _
      rw [hct, hca]; rfl
    · rw [rd_names]
      intro x hx hf
      simp only [List.mem_cons, List.not_mem_nil, or_false] at hx
      rcases hx with rfl | rfl | rfl | rfl | rfl
      · cases hf
      · cases hf
      · rw [hca]; rfl
      · rw [hct]; rfl
      · cases hf
  have hqn : qualnameIn env (Str.ofString "_law_read_on") (Str.ofString "_law_read_on") = rdQual := by
    unfold qualnameIn
    have hk : env.kindOf (Str.ofString "_law_read_on") = some .local := (congrArg (·.lookup (Str.ofString "_law_read_on")) el.names).trans (by decide)
    rw [hk, hqual, if_neg (by decide)]
    exact rdq
  refine r_mkfnHit (c' := cc) (qual := qualnameIn env (Str.ofString "_law_read_on") (Str.ofString "_law_read_on")) (params := (rd1 w).params) (body := (rd1 w).body) (scope := (rd1 w).scope) (ps := tab2 cc c2) I b bm el.glob hcode (lx_tab w) (.tail .head) trivial rfl hcl (fun Fr ctv doc pm s' I => ?_)
  rw [hqn] at I
  walk_at "w"
  refine r_mklamHit (c' := c2) (ps := tab2 cc c2) (qual := env.qual ++ "<lambda>") I b bm el.glob hcode (lx_tab w) (.tail (.tail .head)) trivial (by rfl) rfl rfl rfl (fun Fs ctv2 pm2 s' I => ?_)
  walk_at "w"
  refine f_set I (fun Ds tk2 s' I => ?_)
  walk_at "w"
  refine callWith_K (b.inK I) (lx_keep w) ?_
  walk_at "w"
  refine ⟨b.inK I, r_new I b (lx_makes w) (lx_init w) (lx_fn w).1 (fun x dx s' I => ?_)⟩
  have nd := I.nd
  simp only [List.pairwise_cons, List.mem_cons, List.not_mem_nil, or_false, forall_eq_or_imp, forall_eq] at nd
  have I1 := I.absorb1
  have nctca : ct ≠ ca := by
    intro e
    have h1 := mem_of_lookup hct
    have h2 := mem_of_lookup hca
    rw [e] at h1
    exact absurd (name_of_addr I.eo.apart h1 h2) (by decide)
  refine c_init ((r.under 59 _).less (by decide)) (b.mono (Mp.le_put (I.offW _ (.head _)).1)) I1.keep (Mp.put_self _ _ _) (I1.led _ (.head _)) (I1.offW _ (.head _)).1 (fun Pb h1 h2 h3 h4 k1 k2 k3 k4 tl tw n s'' hk hs fP hPb hdx => ?_)
  refine ⟨rfl, ?_⟩
  walk_at "s"
  have cct := I.cell _ (mem_of_lookup hct)
  have cca := I.cell _ (mem_of_lookup hca)
  refine hideP fun Po hPo => ?_
  obtain ⟨oct, hoct, dct⟩ := cct
  obtain ⟨oca, hoca, dca⟩ := cca
  refine hPo ?_; clear hPo Po
  dsimp only at hoct hoca dct dca
  have dct : oct.data = .cell (some (.str text t1)) := dct
  have dca : oca.data = .cell (some (.ref Ad)) := dca
  refine hideP fun Po hPo => ?_
  obtain ⟨ne_x, ne_dx, ne_Ds, ne_Fs, ne_Fr, ne_Ad, -⟩ := nd
  refine hPo ?_; clear hPo Po
  have ict := I.offC _ (mem_of_lookup hct)
  have ica := I.offC _ (mem_of_lookup hca)
  have ndct := ict.2
  have ndca := ica.2
  simp only [List.mem_cons, List.not_mem_nil, or_false, forall_eq_or_imp, forall_eq] at ndct ndca
  refine hideP fun Po hPo => ?_
  obtain ⟨c1x, c1dx, c1Ds, c1Fs, c1Fr, c1Ad, c1P⟩ := ndct
  obtain ⟨c2x, c2dx, c2Ds, c2Fs, c2Fr, c2Ad, c2P⟩ := ndca
  refine hPo ?_; clear hPo Po
  have off : ∀ {a : Addr} {o : Obj}, (a, o) ∈ _ → a ≠ 75 → g a = none ∧ s.heap.get? a = none ∧ s'.heap.get? a = some o := fun {a o} hp h75 => ⟨(I.offW _ hp).1, (I.offW _ hp).2.resolve_left (by simpa using h75), I.led _ hp⟩
  refine hideP fun Po hPo => ?_
  obtain ⟨gx, fx, ex⟩ := off (.head _) ne_x.2.2.2.2.2
  obtain ⟨gdx, fdx, edx⟩ := off (.tail _ (.head _)) ne_dx.2.2.2.2
  obtain ⟨gDs, fDs, eDs⟩ := off (.tail _ (.tail _ (.head _))) ne_Ds.2.2.2
  obtain ⟨FD, gFs, fFs, eFs⟩ : ∃ FD, g Fs = none ∧ s.heap.get? Fs = none ∧ s'.heap.get? Fs = some { cls := .type "function", dict := some Ds, data := .func FD } := ⟨_, off (.tail _ (.tail _ (.tail _ (.head _)))) ne_Fs.2.2⟩
  obtain ⟨gFr, fFr, eFr⟩ := off (.tail _ (.tail _ (.tail _ (.tail _ (.head _))))) ne_Fr.2
  obtain ⟨gAd, fAd, eAd⟩ := off (.tail _ (.tail _ (.tail _ (.tail _ (.tail _ (.head _)))))) ne_Ad
  refine hPo ?_; clear hPo Po
  have eP := I.led _ (.tail _ (.tail _ (.tail _ (.tail _ (.tail _ (.tail _ (.head _)))))))
  dsimp only at eP
  have fct := (cw _ (mem_of_lookup hct)).resolve_left (by simpa using Ne.symm c1P)
  have fca := (cw _ (mem_of_lookup hca)).resolve_left (by simpa using Ne.symm c2P)
  have keep := I.keep0
  have keepg := I.keep
  refine hideP fun Po hPo => ?_
  obtain ⟨same1, same2, same3⟩ := I.same
  refine hPo ?_; clear hPo Po
  clear I I1
  have kk : ∀ {b o}, s'.heap.get? b = some o → b ≠ dx → s''.heap.get? b = some o := fun e h => hk _ _ e (by simpa using h)
  have hL : ∃ L : List (Addr × Obj), L = [(x, instObj 59 dx), (Ds, dictOf [⟨PyData.keyHash w.params (Str.ofString "read"), .str (Str.ofString "read") tk2, .ref Fr⟩] 1), (Fs, { cls := .type "function", dict := some Ds, data := .func FD }),
    (Fr, fnMade (Str.ofString "_law_read_on") rdQual (rd1 w).params (rd1 w).body (rd1 w).scope [(Str.ofString "text", ct), (Str.ofString "at", ca)] doc pm cc ctv), (ct, oct), (ca, oca)] := ⟨_, rfl⟩
  obtain ⟨L, hL⟩ := hL
  have nd : L.Pairwise fun p q => p.1 ≠ q.1 := by
    subst hL
    simp only [List.pairwise_cons, List.mem_cons, List.not_mem_nil, or_false, forall_eq_or_imp, forall_eq]
    exact ⟨⟨ne_x.2.1, ne_x.2.2.1, ne_x.2.2.2.1, c1x, c2x⟩, ⟨ne_Ds.1, ne_Ds.2.1, c1Ds, c2Ds⟩, ⟨ne_Fs.1, c1Fs, c2Fs⟩, ⟨c1Fr, c2Fr⟩, nctca, (by simp), .nil⟩
  have gct := ict.1
  have gca := ica.1
  dsimp only at gct gca
  have all : ∀ p ∈ L, g p.1 = none ∧ s.heap.get? p.1 = none ∧ s'.heap.get? p.1 = some p.2 ∧ p.1 ≠ dx ∧ p.1 ≠ Ad := by
    subst hL
    simp only [List.mem_cons, List.not_mem_nil, or_false, forall_eq_or_imp, forall_eq]
    exact ⟨⟨gx, fx, ex, ne_x.1, ne_x.2.2.2.2.1⟩, ⟨gDs, fDs, eDs, Ne.symm ne_dx.1, ne_Ds.2.2.1⟩, ⟨gFs, fFs, eFs, Ne.symm ne_dx.2.1, ne_Fs.2.1⟩, ⟨gFr, fFr, eFr, Ne.symm ne_dx.2.2.1, ne_Fr.1⟩, ⟨gct, fct, hoct, Ne.symm c1dx, Ne.symm c1Ad⟩, ⟨gca, fca, hoca, Ne.symm c2dx, Ne.symm c2Ad⟩⟩
  have le := putAll_le (g := g) (fun p hp => (all p hp).1) nd
  have get : ∀ {a o}, (a, o) ∈ L → putAll g L a = some o := fun h => putAll_get nd h
  have notPb : ∀ {a o}, s'.heap.get? a = some o → a ≠ Pb := fun e q => by rw [q, fP] at e; cases e
  have gPb : g Pb = none := by
    cases e : g Pb with
    | none => rfl
    | some o => exact absurd rfl (notPb (keepg _ _ e))
  have sPb : s.heap.get? Pb = none := by
    cases e : s.heap.get? Pb with
    | none => rfl
    | some o =>
      by_cases q : Pb = 75
      · rw [q, eP] at fP; cases fP
      · have := keep _ _ e (by simpa using q); rw [fP] at this; cases this
  refine h ⟨x, dx, Pb, Ad, Fs, Ds, Fr, ct, ca, cc⟩ (putAll g L) _ n 0 0 _ s'' (fun b o e => ?_) ?_ ⟨le, gct, gca, gAd, ?_, ⟨FD, ?_⟩, ⟨PyData.keyHash w.params (Str.ofString "read"), tk2, 1, ?_⟩, ⟨doc, pm, ctv, ?_⟩, ⟨oct, t1, ?_, dct⟩, ⟨oca, ?_, dca⟩, ⟨occ, vs, tq, le _ _ gcc, hd, hv⟩, nctca, hl⟩ (fun b o e => ?_) (fun b o e => ?_) ?_ ?_ ?_ fdx sPb fAd ⟨h1, h2, h3, h4, k1, k2, k3, k4, tl, tw, rfl⟩ hdx hPb (kk eAd (Ne.symm ne_dx.2.2.2.1))
  · by_cases q : b = 75
    · subst q
      rw [hP] at e
      injection e with e
      subst e
      exact kk eP (Ne.symm ne_dx.2.2.2.2)
    · exact kk (keep _ _ e (by simpa using q)) (fun q => by rw [q, fdx] at e; cases e)
  · obtain ⟨h', tk', e'⟩ := hs
    subst same3 e'
    exact ⟨_, _, rfl⟩
  · exact get (by subst hL; exact .head _)
  · exact get (by subst hL; exact .tail _ (.tail _ (.head _)))
  · exact get (by subst hL; exact .tail _ (.head _))
  · exact get (by subst hL; exact .tail _ (.tail _ (.tail _ (.head _))))
  · exact get (by subst hL; exact .tail _ (.tail _ (.tail _ (.tail _ (.head _)))))
  · exact get (by subst hL; exact .tail _ (.tail _ (.tail _ (.tail _ (.tail _ (.head _))))))
  · exact (putAll_back e).imp id fun h => (all _ h).2.1
  · rcases putAll_back e with e | hm
    · exact kk (keepg _ _ e) (fun q => by rw [q, gdx] at e; cases e)
    · exact kk (all _ hm).2.2.1 (all _ hm).2.2.2.1
  · exact putAll_none gdx fun p hp => (all p hp).2.2.2.1
  · exact putAll_none gPb fun p hp => notPb (all p hp).2.2.1
  · exact putAll_none gAd fun p hp => (all p hp).2.2.2.2
end
section
open PySem PySem.W PySem.Calls
set_option Elab.async false
set_option compiler.extract_closed false
set_option maxRecDepth 100000
noncomputable def ettL : List (String × Int) := [("!", 54), ("!=", 28), ("%", 24), ("%=", 40), ("&", 19), ("&=", 41), ("(", 7), (")", 8), ("*", 16), ("**", 35), ("**=", 46), ("*=", 38), ("+", 14), ("+=", 36), (",", 12), ("-", 15), ("-=", 37), ("->", 51), (".", 23), ("...", 52), ("/", 17), ("//", 47), ("//=", 48), ("/=", 39), (":", 11), (":=", 53), (";", 13), ("<", 20), ("<<", 33), ("<<=", 44), ("<=", 29), ("=", 22), ("==", 27), (">", 21), (">=", 30), (">>", 34), (">>=", 45), ("@", 49), ("@=", 50), ("[", 9), ("]", 10), ("^", 32), ("^=", 43), ("{", 25), ("|", 18), ("|=", 42), ("}", 26), ("~", 31)]
noncomputable def ettD : List (Str × PyData) := ettL.map fun p => (Str.ofString p.1, .int p.2)
theorem ett_nodup : (ettD.map (·.1)).Nodup := by decide +kernel
theorem ett_tab {w : World} {h : Heap} (X : (K1 w).In h) : PyProof.Rows.StrTab pr1 w h 64 (ettD.map fun p => (PyData.str p.1, p.2)) := kt_tab_in pr1 w X (by kernel_rfl) ett_nodup (by kernel_rfl)
noncomputable abbrev ettP : List (PyData × PyData) := ettD.map fun p => (PyData.str p.1, p.2)
/-- the number of a sign -/
noncomputable def tokI (names : Str) (c : Nat) : Int := match PySem.Spec.lookup (PyData.str (oneS c)) ettP with | some (.int i) => i | _ => 256 + findN names (oneS c) 0
theorem look_int (x : PyData) : ∀ l : List (String × Int), (∃ i, PySem.Spec.lookup x ((l.map fun p => (Str.ofString p.1, PyData.int p.2)).map fun p => (PyData.str p.1, p.2)) = some (.int i)) ∨ PySem.Spec.lookup x ((l.map fun p => (Str.ofString p.1, PyData.int p.2)).map fun p => (PyData.str p.1, p.2)) = none
  | [] => .inr rfl
  | p :: r => by
    simp only [List.map_cons, PySem.Spec.lookup]
    split
    · exact .inl ⟨_, rfl⟩
    · exact look_int x r
theorem tok_eq (names : Str) (c : Nat) : (PySem.Spec.lookup (PyData.str (oneS c)) ettP).getD (.int (256 + findN names (oneS c) 0)) = .int (tokI names c) := by
  unfold tokI
  rcases look_int (PyData.str (oneS c)) ettL with ⟨i, e⟩ | e
  · have e : PySem.Spec.lookup (PyData.str (oneS c)) ettP = some (.int i) := e
    rw [e]; rfl
  · have e : PySem.Spec.lookup (PyData.str (oneS c)) ettP = none := e
    rw [e]; rfl
theorem scB_len : ∀ (n : Nat) (l acc : List Nat), l.length ≤ n → (scB l acc).1.length + (scB l acc).2.length ≤ acc.length + l.length
  | _, [], acc, _ => by simp [scB]
  | 0, c :: r, acc, h => by simp at h
  | n + 1, c :: r, acc, h => by
    simp only [List.length_cons] at h
    unfold scB
    split
    · simp
    · split
      · cases r with
        | nil => simp
        | cons d r' =>
          have := scB_len n r' (acc ++ [d]) (by simp at h; (first | lia | omega))
          simp only [List.length_append, List.length_cons, List.length_nil] at this ⊢; (first | lia | omega)
      · have := scB_len n r (acc ++ [c]) (by (first | lia | omega))
        simp only [List.length_append, List.length_cons, List.length_nil] at this ⊢; (first | lia | omega)
theorem scC_len : ∀ (n : Nat) (l acc : List Nat), l.length ≤ n → (scC l acc).1.length + (scC l acc).2.length ≤ acc.length + l.length
  | _, [], acc, _ => by simp [scC]
  | 0, c :: r, acc, h => by simp at h
  | n + 1, c :: r, acc, h => by
    simp only [List.length_cons] at h
    unfold scC
    split
    · simp
    · split
      · cases r with
        | nil => simp
        | cons d r' =>
          have := scC_len n r' (acc ++ [d]) (by simp at h; (first | lia | omega))
          simp only [List.length_append, List.length_cons, List.length_nil] at this ⊢; (first | lia | omega)
      · have := scC_len n r (acc ++ [c]) (by (first | lia | omega))
        simp only [List.length_append, List.length_cons, List.length_nil] at this ⊢; (first | lia | omega)
theorem scA_len : ∀ (l : List Nat), (scA l).1.length + (scA l).2.length ≤ l.length
  | [] => by simp [scA]
  | c :: r => by
    unfold scA
    split
    · have := scA_len r; simp only [List.length_cons]; (first | lia | omega)
    · split
      · have := scB_len r.length r [] (Nat.le_refl _); simp only [List.length_cons, List.length_nil] at this ⊢; (first | lia | omega)
      · split
        · cases r with
          | nil => simp
          | cons d r' => have := scC_len r'.length r' [d] (Nat.le_refl _); simp only [List.length_cons, List.length_nil] at this ⊢; (first | lia | omega)
        · have := scC_len r.length r [c] (Nat.le_refl _); simp only [List.length_cons, List.length_nil] at this ⊢; (first | lia | omega)
/-- the words of a text, and what is left behind the empty one -/
noncomputable def hear : Nat → List Nat → List (List Nat)
  | 0, _ => []
  | n + 1, l => match (scA l).1 with
    | [] => []
    | t => t :: hear n (scA l).2
noncomputable def hearEnd : Nat → List Nat → List Nat
  | 0, l => (scA l).2
  | n + 1, l => match (scA l).1 with
    | [] => (scA l).2
    | _ => hearEnd n (scA l).2
section
variable {w : World} {A : Around} {E : Value → Shared → Prop} {gb g : Mp} {s₀ : Shared} {T : List Addr} {env : Env} {m : Str → Option Value} {W2 : List (Addr × Obj)} {s : Shared} {a : MA} {text : Str} {p k n kp : Nat} {ln : Int} {es : List DictEntry} {tp : Tok}
theorem L_gt0 {Q : Value → Shared → Prop} (r : Room A 5) (b : Bs (K1 w) gb) (M : MC w gb g a text) (I : Inv g s₀ T env m ((a.dx, dictOf es n) :: (a.Ad, lstO [.int p tp] k) :: W2) s) (he : Ent a ln es) (hpb : s.heap.get? a.Pb = some (lstO [] kp)) (hpa : a.Pb ≠ a.Ad) (hp : p ≤ text.length)
    (h : ∀ (t : Tok) (p' : Nat) (u : Tok) k' es' n' s', Inv g s₀ T env m ((a.dx, dictOf es' n') :: (a.Ad, lstO [.int ((p' : Nat) : Int) u] k') :: W2) s' → s'.heap.get? a.Pb = some (lstO [] kp) → p' ≤ text.length → text.cps.toList.drop p' = (scA (text.cps.toList.drop p)).2 → Ent a (ln + nlOf (text.cps.toList.drop p) - nlOf (text.cps.toList.drop p')) es' →
      Q (.str (ofL (scA (text.cps.toList.drop p)).1) t) s') : codeAny (model pr1 w) A (.call (.ref 49) ⟨[.ref a.x], []⟩) (RV Q) s := by
  have nd := I.nd
  simp only [List.pairwise_cons, List.mem_cons] at nd
  refine c_gt0 r b M I.keep (I.led _ (.tail _ (.head _))) (I.led _ (.head _)) he hpb (I.offW _ (.tail _ (.head _))).1 (I.offW _ (.head _)).1 hp hpa (fun t p' u k' es' n' s' hk hs ha hd hp' hdr he' => ?_)
  have hpd : a.Pb ≠ a.dx := fun e => by
    have := I.led _ (.head _)
    dsimp only at this
    rw [e, this] at hpb; injection hpb with hpb; injection hpb with h1 _; injection h1 with h1; exact absurd h1 (by decide)
  refine h t p' u k' es' n' s' (I.upd hk (fun b hb => ?_) rfl (fun z hz => ?_) hs) (hk _ _ hpb (by simp only [List.mem_cons, List.not_mem_nil, or_false, not_or]; exact ⟨hpd, hpa⟩)) hp' hdr he'
  · simp only [List.mem_cons, List.not_mem_nil, or_false] at hb
    rcases hb with rfl | rfl
    · exact ⟨_, .head _⟩
    · exact ⟨_, .tail _ (.head _)⟩
  · rcases List.mem_cons.mp hz with rfl | hz
    · exact hd
    rcases List.mem_cons.mp hz with rfl | hz
    · exact ha
    refine hk _ _ (I.led _ (.tail _ (.tail _ hz))) ?_
    have h1 := nd.1 z (.inr hz)
    have h2 := nd.2.1 z hz
    simp only [List.mem_cons, List.not_mem_nil, or_false, not_or]
    exact ⟨Ne.symm h1, Ne.symm h2⟩
end
end
section
open PySem PySem.W PySem.Calls
set_option Elab.async false
set_option compiler.extract_closed false
set_option maxRecDepth 100000
theorem flat_int {v : Value} {i : Int} (h : PyProof.V.Flat v (.int i)) : ∃ t, v = .int i t := by cases h default; exact ⟨_, rfl⟩
noncomputable abbrev l90 : List (Str × NameKind) := [(Str.ofString "machine", .local), (Str.ofString "names", .cell), (Str.ofString "rules", .local), (Str.ofString "word", .local)]
theorem f90b (w : World) (a b : Value) : bindArgs (fd1 w 97) ⟨[a, b], []⟩ = pure ([Str.ofString "machine", Str.ofString "names"].zip [a, b]) := by kernel_rfl
noncomputable def rowD (names : Str) (ws : List (List Nat)) : List PyData := ws.map fun x => PyData.list ((x.map (tokI names)).map PyData.int)
theorem r_find2 {w : World} {A : Around} {E : Value → Shared → Prop} {g : Mp} {s₀ : Shared} {T : List Addr} {env : Env} {m : Str → Option Value} {W : List (Addr × Obj)} {s : Shared} {x y : Str} {t u : Tok} {Q : Value → Shared → Prop} (I : Inv g s₀ T env m W s) (h : ∀ t s', Inv g s₀ T env m W s' → Q (.int (findN x y 0) t) s') :
    wpAny (model pr1 w) A (call (.builtin "str.find") [.str x t, .str y u]) Q E s := SC.find (h _ _ (I.tok _))
theorem r_ett {w : World} {A : Around} {E : Value → Shared → Prop} {g : Mp} {s₀ : Shared} {T : List Addr} {env : Env} {m : Str → Option Value} {W : List (Addr × Obj)} {s : Shared} {names : Str} {c : Nat} {t u : Tok} {Q : Value → Shared → Prop} (I : Inv g s₀ T env m W s) (b : Bs (K1 w) g) (h : ∀ t s', Inv g s₀ T env m W s' → Q (.int (tokI names c) t) s') :
    wpAny (model pr1 w) A (call (.builtin "dict.get") [.ref 64, .str (oneS c) t, .int (256 + findN names (oneS c) 0) u]) Q E s :=
  PyProof.Rows.call_get2_strTab (ett_tab (b.inK I)) (dd := .int (256 + findN names (oneS c) 0)) (fun _ => .int _ _) fun v hv => by
    rw [tok_eq] at hv
    refine hideP fun Po hPo => ?_
    obtain ⟨t, rfl⟩ := flat_int hv
    refine hPo ?_; clear hPo Po
    exact h _ _ (I.tok _)
noncomputable def contW (wd : List Nat) (n : Nat) (l : List Nat) : List (List Nat) := match wd with | [] => [] | _ => wd :: hear n l
noncomputable def endW (wd : List Nat) (n : Nat) (l : List Nat) : List Nat := match wd with | [] => l | _ => hearEnd n l
theorem hear_s (n : Nat) (l : List Nat) : hear (n + 1) l = contW (scA l).1 n (scA l).2 := by
  first | (unfold contW; rw [hear]; done) | (unfold contW; rw [hear]; cases (scA l).1 <;> rfl)
theorem hearEnd_s (n : Nat) (l : List Nat) : hearEnd (n + 1) l = endW (scA l).1 n (scA l).2 := by
  first | (unfold endW; rw [hearEnd]; done) | (unfold endW; rw [hearEnd]; cases (scA l).1 <;> rfl)
theorem find_at (x : Str) (c : Nat) : Txt.find x (oneS c) = findN x (oneS c) 0 := rfl
inductive HJ (s : Shared) (g : Mp) (a : MA) (text names : Str) (t2 : Tok) (R : Addr) (H : List (List Nat)) (HE : List Nat) (C : Int) (kk : Nat) (g' : Mp) (m : Str → Option Value) (W : List (Addr × Obj)) : Prop
  | mk (p' : Nat) (ln' : Int) (es : List DictEntry) (n : Nat) (u : Tok) (k' : Nat) (vs : List Value) (kR : Nat) (acc : List (List Nat)) (wd : List Nat) (t : Tok) (nn : Nat)
      (h1 : Gr s g g') (h2 : m (Str.ofString "machine") = some (.ref a.x)) (h3 : m (Str.ofString "names") = some (.str names t2)) (h4 : m (Str.ofString "rules") = some (.ref R)) (h5 : m (Str.ofString "word") = some (.str (ofL wd) t))
      (h6 : W = [(a.dx, dictOf es n), (a.Ad, lstO [.int ((p' : Nat) : Int) u] k'), (R, lstO vs kR)]) (h7 : Ent a ln' es) (h8 : p' ≤ text.length) (h9 : RdAll g' vs (rowD names acc)) (h10 : acc.length ≤ p') (h11 : wd.length ≤ text.length) (h12 : acc ++ contW wd nn (text.cps.toList.drop p') = H) (h13 : endW wd nn (text.cps.toList.drop p') = HE)
      (h14 : wd ≠ [] → text.length - p' < nn) (h15 : wd ≠ [] → acc.length + 1 ≤ p') (h16 : ln' + nlOf (text.cps.toList.drop p') = C) (h17 : kk = (text.length - p') + (if wd = [] then 0 else 1))
set_option maxHeartbeats 8000000 in
theorem c_heard {w : World} {A : Around} {s : Shared} {gb g : Mp} {a : MA} {text names : Str} {p k n kp : Nat} {tp t2 : Tok} {ln : Int} {es : List DictEntry} {Q : Value → Shared → Prop} (r : Room A 7) (b : Bs (K1 w) gb) (M : MC w gb g a text) (hg : ∀ a o, g a = some o → s.heap.get? a = some o)
    (had : s.heap.get? a.Ad = some (lstO [.int p tp] k)) (hdx : s.heap.get? a.dx = some (dictOf es n)) (he : Ent a ln es) (hpb : s.heap.get? a.Pb = some (lstO [] kp)) (nA : g a.Ad = none) (nD : g a.dx = none) (hp : p ≤ text.length) (hpa : a.Pb ≠ a.Ad)
    (h : ∀ D g' (p' : Nat) u k' es' n' s', (∀ b o, s.heap.get? b = some o → b ∉ [a.dx, a.Ad] → s'.heap.get? b = some o) → (∃ h tk, s' = { s with heap := h, toks := tk }) → Gr s g g' → (∀ a o, g' a = some o → s'.heap.get? a = some o) → Rd g' (.ref D) (.list (rowD names (hear (text.length + 1) (text.cps.toList.drop p)))) →
      s'.heap.get? a.Ad = some (lstO [.int ((p' : Nat) : Int) u] k') → s'.heap.get? a.dx = some (dictOf es' n') → p' ≤ text.length → text.cps.toList.drop p' = hearEnd (text.length + 1) (text.cps.toList.drop p) → Ent a (ln + nlOf (text.cps.toList.drop p) - nlOf (text.cps.toList.drop p')) es' → Q (.ref D) s') :
    codeAny (model pr1 w) A (.call (.ref 97) ⟨[.ref a.x, .str names t2], []⟩) (RV Q) s := by
  have F : Fn (K1 w) 97 (fd1 w 97) l90 [Str.ofString "machine", Str.ofString "names"] _ := ⟨by kernel_rfl, by kernel_rfl, by rfl, by kernel_rfl, by kernel_rfl, by kernel_rfl, by kernel_rfl, by kernel_rfl, by kernel_rfl, by kernel_rfl, by decide⟩
  have bg := b.mono M.le
  refine r_defA F r bg hg rfl (f90b w _ _) ?_
  clear F
  intro env s₁ el _ _ r I cw
  conv in (fB _) => whnf
  generalize A.deeper env = A1 at r ⊢
  have hne : a.dx ≠ a.Ad := fun e => by rw [e, had] at hdx; injection hdx with hdx; injection hdx with h1 _; injection h1 with h1; exact absurd h1 (by decide)
  have cA : ∀ q ∈ env.cells, a.Ad ≠ q.2 := fun q hq e => by rcases cw q hq with h | h; exact (nomatch h); rw [← e, had] at h; cases h
  have cD : ∀ q ∈ env.cells, a.dx ≠ q.2 := fun q hq e => by rcases cw q hq with h | h; exact (nomatch h); rw [← e, hdx] at h; cases h
  have hpd : a.Pb ≠ a.dx := fun e => by rw [e, hdx] at hpb; injection hpb with hpb; injection hpb with h1 _; injection h1 with h1; exact absurd h1 (by decide)
  have I := (I.addT had (by simp) nA cA (fun _ h => (nomatch h))).addT hdx (by simpa using hne) nD cD (fun p hp => by rw [List.mem_singleton.mp hp]; exact Ne.symm hne)
  have cw := cw.moreT (T' := [a.dx, a.Ad]) (fun _ h => (nomatch h))
  have kpb : ∀ {g m W s'}, Inv g s [a.dx, a.Ad] env m W s' → s'.heap.get? a.Pb = some (lstO [] kp) := fun I => I.keep0 _ _ hpb (by simp only [List.mem_cons, List.not_mem_nil, or_false, not_or]; exact ⟨hpd, hpa⟩)
  refine hideP fun Po hPo => ?_
  obtain ⟨h1, h2, h3, h4, k1, k2, k3, k4, tl, tw, rfl⟩ := he
  refine hPo ?_; clear hPo Po
  walk_at "w"
  refine r_newList I (by show 0 ≤ sizeLine; (first | lia | omega)) (fun R s' I => ?_)
  have nd := I.nd
  simp only [List.pairwise_cons, List.mem_cons, List.not_mem_nil, or_false, forall_eq_or_imp, forall_eq] at nd
  walk_at "w"
  refine o_meth I bg (.inl M.x) (.inr (.tail _ (.head _))) (lx_plain w _) (lx_gt w) (lx_fn w).2.2.1 gl_gt ?_
  have I : Inv g s [a.dx, a.Ad] env _ [(a.dx, dictOf (ents h1 h2 h3 h4 k1 k2 k3 k4 tl tw ln a.Fs a.Pb) n), (a.Ad, lstO [.int p tp] k), (R, lstO [] 0)] _ := I.swap12.swap23
  refine k_fnM0 (o := fo w 49) (fd := fd1 w 49) rfl (I.keep _ _ (bg.k _ _ (by kernel_rfl))) (of_code (L_gt0 (r.less (by decide)) b M I ⟨h1, h2, h3, h4, k1, k2, k3, k4, tl, tw, rfl⟩ (kpb I) hpa hp (fun t p1 u k' es' n' s' I _ hp1 hd1 he' => ?_)))
  walk_at "w"
  generalize hH : hear (text.length + 1) (text.cps.toList.drop p) = H at *
  generalize hHE : hearEnd (text.length + 1) (text.cps.toList.drop p) = HE at *
  generalize hC : ln + nlOf (text.cps.toList.drop p) = C at *
  have lend : ∀ q, (text.cps.toList.drop q).length = text.length - q := fun q => by rw [List.length_drop]; simp [Str.length]
  have hl0 := scA_len (text.cps.toList.drop p)
  rw [hear_s] at hH
  rw [hearEnd_s] at hHE
  rw [← hd1] at hH hHE hl0
  have hp01 : p ≤ p1 := by rw [lend, lend] at hl0; (first | lia | omega)
  have ml := M.len
  refine r_while (s₀ := s) (T := [a.dx, a.Ad]) (HJ s g a text names t2 R H HE C) _ I ⟨p1, _, es', n', u, k', [], 0, [], _, t, text.length, Gr.refl _ _, by walk_at "v", by walk_at "v", by walk_at "v", by walk_at "v", rfl, he', hp1, .nil, Nat.zero_le _, by rw [lend, lend] at hl0; (first | lia | omega), by rw [List.nil_append]; exact hH, hHE, fun hw => ?_, fun hw => ?_, by (first | lia | omega), rfl⟩ ?_
  · have := List.length_pos_iff.mpr hw
    rw [lend, lend] at hl0; (first | lia | omega)
  · have := List.length_pos_iff.mpr hw
    rw [lend, lend] at hl0; show 0 + 1 ≤ p1; (first | lia | omega)
  rintro kk g' m W s' hz1 I
  refine hideP fun Po hPo => ?_
  obtain ⟨p', ln', es, n, u, k', vs, kR, acc, wd, t, nn, G, hmm, hmn, hmr, hmw, rfl, he, hp', hR, hac, hwl, hcH, hcE, hnn, hac1, hcn, rfl⟩ := hz1
  refine hPo ?_; clear hPo Po
  refine hideW fun Qo1 Po1 hQ1 hP1 => ?_
  walk_at "w"
  refine bsplit (fun q1 => ?_) (fun q1 => ?_)
  rotate_left
  · have hw : wd = [] := by
      have e := (bne_eq_false_iff_eq.mp q1)
      have e := congrArg (fun x => x.cps.toList) e
      exact e
    subst hw
    unfold contW at hcH
    unfold endW at hcE
    rw [List.append_nil] at hcH
    dsimp only at hcE
    walk_at "w"
    have I := I.swap23.swap12
    have nd := I.nd
    simp only [List.pairwise_cons, List.mem_cons, List.not_mem_nil, or_false, forall_eq_or_imp, forall_eq] at nd
    have gR := I.offW _ (.head _)
    have fR : s.heap.get? R = none := gR.2.resolve_left (by simp only [List.mem_cons, List.not_mem_nil, or_false, not_or]; exact ⟨nd.1.1, nd.1.2⟩)
    have GR : Gr s g' (g'.put R (lstO vs kR)) := ⟨Mp.le_put gR.1, fun b o e => by
      unfold Mp.put at e
      split at e
      · rename_i q; subst q; exact .inr fR
      · exact .inl e⟩
    have I := I.absorb1
    have he' : C - nlOf (text.cps.toList.drop p') = ln' := by (first | lia | omega)
    exact h R _ p' u k' es n _ (fun b o e hb => I.keep0 b o e hb) I.same (G.trans GR) I.keep (Rd.lst (Mp.put_self _ _ _) (by rw [← hcH]; exact hR.mono GR.le)) (I.led _ (.tail _ (.head _))) (I.led _ (.head _)) hp' hcE (by rw [he']; exact he)
  have hw : wd ≠ [] := fun e => by subst e; exact absurd q1 (by decide)
  refine hideP fun Po hPo => ?_
  obtain ⟨c0, wr, hwd⟩ : ∃ c0 wr, wd = c0 :: wr := by cases wd with | nil => exact absurd rfl hw | cons a b => exact ⟨a, b, rfl⟩
  refine hPo ?_; clear hPo Po
  have hac2 := hac1 hw
  have hnn2 := hnn hw
  rw [if_neg hw] at hQ1
  walk_at "w"
  refine mth_append I (.inr ⟨_, .tail _ (.tail _ (.head _))⟩) ?_
  walk_at "w"
  refine k_lc cw el (by decide) rfl (by decide) r.hand ?_
  walk_at "w"
  have hlw : wd.length ≤ 2 ^ 20 := by (first | lia | omega)
  refine ⟨_, _, _, _, _, fun j g ds => ds = ((wd.take j).map (tokI names)).map PyData.int, I, itr_str, ⟨by simp, ?_, ?_⟩, ?_⟩
  · rintro j g ds hz1
    refine hideP fun Po hPo => ?_
    obtain rfl := hz1
    refine hPo ?_; clear hPo Po
    rw [sizeLine_eq, List.length_map, List.length_map, List.length_take]; (first | lia | omega)
  · rintro j v g2 ds cenv mc W2 s2 hj hz1 G2 hz2 el' hmc I2
    refine hideP fun Po hPo => ?_
    obtain ⟨c, uu, hc, rfl⟩ := hz1
    obtain rfl := hz2
    refine hPo ?_; clear hPo Po
    have bg := b.mono (M.le.trans (G.le.trans G2.le))
    have hmn2 : mc (Str.ofString "names") = some (.str names t2) := (hmc _ (by decide) (by decide)).trans (by walk_at "v")
    refine tests_nil ?_
    refine btrue rfl ?_
    walk_at "w"
    refine PyProof.Rows.getMethod_strTab_get (ett_tab (bg.inK I)) ?_
    walk_at "w"
    refine r_find2 I (fun t s' I => ?_)
    walk_at "w"
    refine r_ett I bg (fun t s' I => ?_)
    refine ⟨_, _, Gr.refl _ _, .int _ _, ?_, I⟩
    rw [List.take_add_one]
    have : wd[j]? = some c := by
      have e : (ofL wd).cps.toList[j]? = some c := by simpa using hc
      exact e
    rw [this]; simp
  · rintro D g0 g2 ds s2 I2 Gd hz1 le2 hRd fD
    refine hideP fun Po hPo => ?_
    obtain rfl := hz1
    refine hPo ?_; clear hPo Po
    have hsz : (ofL wd).cps.size = wd.length := by show wd.toArray.size = _; rw [List.size_toArray]
    rw [hsz, List.take_length] at hRd
    have Gd2 := I.gr (fun z hz => by
      simp only [List.mem_cons, List.not_mem_nil, or_false] at hz
      rcases hz with rfl | rfl
      · exact ⟨_, I.led _ (.head _)⟩
      · exact ⟨_, I.led _ (.tail _ (.head _))⟩) Gd
    have G2 := G.trans Gd2
    have bg := b.mono (M.le.trans G2.le)
    have M := M.mono G2.le
    clear I
    walk_at "w"
    have hvl : vs.length = acc.length := by rw [hR.1]; simp [rowD]
    refine r_append I (.tail (.tail .head)) (by rw [sizeLine_eq]; (first | lia | omega)) (fun s' I => ⟨rfl, ?_⟩)
    walk_at "w"
    refine hideP fun Po hPo => ?_
    obtain ⟨h1, h2, h3, h4, k1, k2, k3, k4, tl, tw, rfl⟩ := he
    refine hPo ?_; clear hPo Po
    refine o_meth I bg (.inl M.x) (.inr (.head _)) (lx_plain w _) (lx_gt w) (lx_fn w).2.2.1 gl_gt ?_
    refine k_fnM0 (o := fo w 49) (fd := fd1 w 49) rfl (I.keep _ _ (bg.k _ _ (by kernel_rfl))) (of_code (L_gt0 (r.less (by decide)) b M I ⟨h1, h2, h3, h4, k1, k2, k3, k4, tl, tw, rfl⟩ (kpb I) hpa hp' (fun t p2 u2 k2' es2 n2 s' I _ hp2 hd2 he2 => ?_)))
    walk_at "w"
    obtain ⟨mm, hnm⟩ : ∃ mm, nn = mm + 1 := ⟨nn - 1, by (first | lia | omega)⟩
    subst hnm
    have hl2 := scA_len (text.cps.toList.drop p')
    rw [← hd2, lend, lend] at hl2
    have ehc : acc ++ [wd] ++ contW (scA (text.cps.toList.drop p')).1 mm (text.cps.toList.drop p2) = H := by
      rw [← hcH, hd2, hwd, List.append_assoc]
      show _ = acc ++ ((c0 :: wr) :: hear (mm + 1) (text.cps.toList.drop p'))
      rw [hear_s]; rfl
    have ehe : endW (scA (text.cps.toList.drop p')).1 mm (text.cps.toList.drop p2) = HE := by
      rw [← hcE, hd2, hwd]
      show _ = hearEnd (mm + 1) (text.cps.toList.drop p')
      rw [hearEnd_s]
    refine ⟨_, _, _, _, ?_, ⟨p2, _, es2, n2, u2, k2', _, _, acc ++ [wd], (scA (text.cps.toList.drop p')).1, t, mm, G2, by walk_at "v", by walk_at "v", by walk_at "v", by walk_at "v", rfl, he2, hp2, ?_, by rw [List.length_append]; show _ + 1 ≤ _; (first | lia | omega), by (first | lia | omega), ehc, ehe, fun hw => ?_, fun hw => ?_, by (first | lia | omega), rfl⟩, I⟩
    · split
      · (first | lia | omega)
      · rename_i hw
        have := List.length_pos_iff.mpr hw
        (first | lia | omega)
    · unfold rowD
      rw [List.map_append]
      exact (hR.mono Gd2.le).snoc hRd
    · have := List.length_pos_iff.mpr hw
      (first | lia | omega)
    · have := List.length_pos_iff.mpr hw
      rw [List.length_append]
      show acc.length + 1 + 1 ≤ p2
      (first | lia | omega)
end
section
open PySem PySem.W PySem.Calls
set_option Elab.async false
set_option compiler.extract_closed false
set_option maxRecDepth 100000
noncomputable def opsL : List Nat := [40, 41, 91, 93, 58, 44, 59, 43, 45, 42, 47, 124, 38, 60, 62, 61]
noncomputable def opsS : Str := ofL opsL
theorem ops_eq : Str.ofString "()[]:,;+-*/|&<>=" = opsS := by decide +kernel
noncomputable def bsl : Str := ofL [92]
theorem bsl_eq : Str.ofString "\\" = bsl := by decide +kernel
noncomputable def nlS : Str := ofL [10]
theorem nl_eq : Str.ofString "\n" = nlS := by decide +kernel
/-- how a part of a rule is written -/
noncomputable def signF (names : Str) (p : Int) : List Nat := if p < 256 then [opsL.getD (p - 7).toNat 0] else [92, names.cps.toList.getD (p - 256).toNat 0]
noncomputable def writtenF (rule : List Int) (names mark : Str) : Str := mark ++ ofL (rule.flatMap (signF names)) ++ mark ++ nlS
noncomputable abbrev l85 : List (Str × NameKind) := [(Str.ofString "rule", .local), (Str.ofString "names", .cell), (Str.ofString "mark", .local), (Str.ofString "signs", .local)]
theorem f85b (w : World) (a b c : Value) : bindArgs (fd1 w 92) ⟨[a, b, c], []⟩ = pure ([Str.ofString "rule", Str.ofString "names", Str.ofString "mark"].zip [a, b, c]) := by kernel_rfl
theorem cat_signs (names : Str) : ∀ l : List Int, catL (l.map fun p => ofL (signF names p)) = l.flatMap (signF names)
  | [] => rfl
  | p :: r => by rw [List.map_cons, catL_cons, cat_signs names r]; rfl
theorem signs_len (names : Str) : ∀ l : List Int, (l.flatMap (signF names)).length ≤ 2 * l.length
  | [] => by simp
  | p :: r => by
    rw [List.flatMap_cons, List.length_append, List.length_cons]
    have := signs_len names r
    have : (signF names p).length ≤ 2 := by unfold signF; split <;> simp
    (first | lia | omega)
set_option maxHeartbeats 4000000 in
theorem c_written {w : World} {A : Around} {s : Shared} {g : Mp} {rule : List Int} {names mark : Str} {vr : Value} {t1 t2 : Tok} {Q : Value → Shared → Prop} (r : Room A 2) (b : Bs (K1 w) g) (hg : ∀ a o, g a = some o → s.heap.get? a = some o)
    (hr : Rd g vr (.list (rule.map PyData.int))) (ok : RuleOk rule) (hn : names.length = 3) (hm : mark.length ≤ 8)
    (h : ∀ t s', Keeps s s' → Q (.str (writtenF rule names mark) t) s') : codeAny (model pr1 w) A (.call (.ref 92) ⟨[vr, .str names t1, .str mark t2], []⟩) (RV Q) s := by
  have F : Fn (K1 w) 92 (fd1 w 92) l85 [Str.ofString "rule", Str.ofString "names", Str.ofString "mark"] _ := ⟨by kernel_rfl, by kernel_rfl, by rfl, by kernel_rfl, by kernel_rfl, by kernel_rfl, by kernel_rfl, by kernel_rfl, by kernel_rfl, by kernel_rfl, by decide⟩
  refine hideP fun Po hPo => ?_
  obtain ⟨ra, rvs, rn, rfl, era, hrvs⟩ := hr.unlist
  refine hPo ?_; clear hPo Po
  refine r_defA F r b hg rfl (f85b w _ _ _) ?_
  clear F
  intro env s₁ el _ _ r I cw
  conv in (fB _) => whnf
  generalize A.deeper env = A1 at r ⊢
  refine x_cons ?_
  refine k_lcA ((swaps_eq el I.eo.fk _ _ _ _).trans (by kernel_rfl)) cw el (by decide) rfl (by decide) (by decide) r.hand ?_
  walk_at "w"
  have hl5 := ok.len
  have hrl : rvs.length = rule.length := by rw [hrvs.1]; simp
  refine ⟨_, _, _, _, _, fun j g ds => ds = ((rule.take j).map fun p => ofL (signF names p)).map PyData.str, I, itr_list era rfl rfl, ⟨by simp, ?_, ?_⟩, ?_⟩
  · rintro j g ds hz1
    refine hideP fun Po hPo => ?_
    obtain rfl := hz1
    refine hPo ?_; clear hPo Po
    rw [sizeLine_eq, List.length_map, List.length_map, List.length_take]; (first | lia | omega)
  · rintro j v g2 ds cenv mc W2 s2 hj hvj G2 hz1 el' hmc I2
    refine hideP fun Po hPo => ?_
    obtain rfl := hz1
    refine hPo ?_; clear hPo Po
    have hmn2 : mc (Str.ofString "names") = some (.str names t1) := (hmc _ (by decide) (by decide)).trans (by walk_at "v")
    refine hideP fun Po hPo => ?_
    obtain ⟨x, hx, u, rfl⟩ := int_at hrvs hvj
    refine hPo ?_; clear hPo Po
    have px := ok.parts x (List.mem_of_getElem? hx)
    have hds : ∀ (hs : signF names x = signF names x), (((rule.take j).map fun p => ofL (signF names p)).map PyData.str) ++ [PyData.str (ofL (signF names x))] = ((rule.take (j + 1)).map fun p => ofL (signF names p)).map PyData.str := fun _ => by
      rw [List.take_add_one, hx]; simp
    refine tests_nil ?_
    refine btrue rfl ?_
    walk_at "w"
    refine bsplit (fun q1 => ?_) (fun q1 => ?_)
    · have q1 : x < 256 := by simpa using q1
      have p1 : 7 ≤ x ∧ x ≤ 22 := px.resolve_right (by (first | lia | omega))
      have hs : signF names x = [opsL.getD (x - 7).toNat 0] := by unfold signF; rw [if_pos q1]
      have hlt : (x - 7).toNat < opsL.length := by show _ < 16; (first | lia | omega)
      walk_at "w"
      rw [ops_eq]
      refine i_str I (by (first | lia | omega)) (by (first | lia | omega)) (c := opsL.getD (x - 7).toNat 0) ?_ (fun t s' I => ?_)
      · show opsL.toArray[(x - 7).toNat]? = _
        rw [List.getElem?_toArray, List.getElem?_eq_getElem hlt]
        simp [List.getD, hlt]
      · refine ⟨_, _, Gr.refl _ _, .str _ _, ?_, I⟩
        rw [← hds rfl, hs]; rfl
    · have q1 : ¬ x < 256 := by simpa using q1
      have p2 : x = 256 ∨ x = 257 ∨ x = 258 := px.resolve_left (by (first | lia | omega))
      have hs : signF names x = [92, names.cps.toList.getD (x - 256).toNat 0] := by unfold signF; rw [if_neg q1]
      have hlt : (x - 256).toNat < names.cps.toList.length := by simp [Str.length] at hn ⊢; (first | lia | omega)
      walk_at "w"
      rw [bsl_eq]
      refine i_str I (by (first | lia | omega)) (by (first | lia | omega)) (c := names.cps.toList.getD (x - 256).toNat 0) ?_ (fun t s' I => ?_)
      · rw [← Array.getElem?_toList, List.getElem?_eq_getElem hlt]
        simp only [List.getD, List.getElem?_eq_getElem hlt, Option.getD_some]
      · refine r_cat I (by show 1 + 1 ≤ sizeLine; rw [sizeLine_eq]; decide) (fun t s' I => ?_)
        refine ⟨_, _, Gr.refl _ _, .str _ _, ?_, I⟩
        rw [← hds rfl, hs]; rfl
  · rintro D g0 g2 ds s2 I2 hz1 hz2 le2 hR _
    refine hideP fun Po hPo => ?_
    obtain ⟨s3, G⟩ := hz1
    obtain rfl := hz2
    refine hPo ?_; clear hPo Po
    rw [List.take_of_length_le (by simpa using Nat.le_of_eq hrl.symm)] at hR
    refine hideP fun Po hPo => ?_
    obtain ⟨D', vs', n', e1, e2, hvs'⟩ := hR.unlist
    cases e1
    refine hPo ?_; clear hPo Po
    have hln := signs_len names rule
    clear I
    walk_at "w"
    rw [emp_eq]
    have hcl : (catL (rule.map fun p => ofL (signF names p))).length ≤ 10 := by rw [cat_signs]; (first | lia | omega)
    refine r_join I (.inl ⟨_, e2⟩) hvs' (by rw [sizeLine_eq]; (first | lia | omega)) (fun t s' I => ?_)
    rw [cat_signs] at hcl ⊢
    have hol : (ofL (rule.flatMap (signF names))).length ≤ 10 := by show (rule.flatMap (signF names)).toArray.size ≤ 10; rw [List.size_toArray]; exact hcl
    refine r_cat I (by rw [Str.length_append, sizeLine_eq]; (first | lia | omega)) (fun t s' I => ?_)
    walk_at "w"
    refine r_cat I (by rw [Str.length_append, Str.length_append, sizeLine_eq]; (first | lia | omega)) (fun t s' I => ?_)
    walk_at "w"
    rw [nl_eq]
    refine r_cat I (by rw [Str.length_append, Str.length_append, Str.length_append, sizeLine_eq]; have : nlS.length = 1 := rfl; (first | lia | omega)) (fun t s' I => ?_)
    walk_at "w"
    exact h _ _ I.keptAll
end
section
open PySem PySem.W PySem.Calls
set_option Elab.async false
set_option compiler.extract_closed false
set_option maxRecDepth 100000
theorem Inv.unput {g g2 : Mp} {s₀ : Shared} {T : List Addr} {env : Env} {m m' : Str → Option Value} {W W0 : List (Addr × Obj)} {s s' : Shared} {D : Addr} {o : Obj} (I : Inv g2 s₀ T env m' W s') (I0 : Inv g s₀ T env m W0 s) (hm : (D, o) ∈ W0) (le : (g.put D o).Le g2) (hW : ∀ p ∈ W, p.1 ≠ D) : Inv g s₀ T env m' ((D, o) :: W) s' := by
  have h0 := I0.offW _ hm
  refine (I.less ((Mp.le_put h0.1).trans le)).addW (I.keep _ _ (le _ _ (Mp.put_self _ _ _))) h0.1 (I0.offL.2.2 _ hm) (fun q hq => (I0.offC q hq).2 _ hm) hW h0.2
section
variable {w : World} {A : Around} {E : Value → Shared → Prop} {g : Mp} {s₀ : Shared} {T : List Addr} {env : Env} {m : Str → Option Value} {W : List (Addr × Obj)} {s : Shared}
theorem i_tup {value slice : Expr} {a : Addr} {vs : List Value} {n : Nat} {k : Int} {u : Tok} {v : Value} {Q : Value → Shared → Prop} (I : Inv g s₀ T env m W s) (ht : s.heap.get? a = some (tupO vs n)) (h0 : 0 ≤ k) (h1 : k < 2 ^ 40) (hv : vs[k.toNat]? = some v) (h : Q v s)
    (hs : subscripted slice false (.ref a) (.int k u) = operate [.ref a, .int k u] (getItem (.ref a) (.int k u)) := by with_unfolding_all rfl) :
    wpAny (model pr1 w) A (PyProof.Rows.subscriptTail value slice (.ref a) (.int k u)) Q E s := by
  have hlt : k.toNat < vs.length := (List.getElem?_eq_some_iff.mp hv).1
  exact PyProof.Rows.item_tupleT ⟨_, ht, rfl, n, rfl⟩ (by (first | lia | omega)) (by (first | lia | omega)) (seqIndex_nat h0 hlt) hv h hs
end
/-- the least of some words -/
noncomputable def lowStep (acc : List Str) (x : Str) : List Str := if (acc.filter fun y => standsF y x).isEmpty then acc ++ [x] else acc
noncomputable def lowF (ws : List Str) : List Str := (sortW ws).foldl lowStep []
theorem canPairs : ∀ xs : List Str, (∀ x ∈ xs, PyData.strOk x = true) → PyData.canLayAll0 (xs.map pairD) = true
  | [], _ => rfl
  | x :: r, h => by
    simp only [List.map_cons, PyData.canLayAll0, PyData.canLay0, Bool.true_and, Bool.and_true]
    rw [h x (.head _), canPairs r fun y hy => h y (.tail _ hy)]; rfl
theorem low_mem {ws : List Str} : ∀ (l acc : List Str), (∀ x ∈ acc, x ∈ ws) → (∀ x ∈ l, x ∈ ws) → ∀ x ∈ l.foldl lowStep acc, x ∈ ws
  | [], acc, h, _ => h
  | y :: r, acc, h, hl => by
    refine low_mem r (lowStep acc y) (fun x hx => ?_) fun x hx => hl x (.tail _ hx)
    unfold lowStep at hx
    split at hx
    · rcases List.mem_append.mp hx with hx | hx
      · exact h x hx
      · rw [List.mem_singleton.mp hx]; exact hl y (.head _)
    · exact h x hx
theorem low_len : ∀ (l acc : List Str), (l.foldl lowStep acc).length ≤ acc.length + l.length
  | [], acc => by simp
  | y :: r, acc => by
    have := low_len r (lowStep acc y)
    have h2 : (lowStep acc y).length ≤ acc.length + 1 := by unfold lowStep; split <;> simp
    simp only [List.foldl_cons, List.length_cons]; (first | lia | omega)
theorem eqv_nil' (ds : List PyData) : PyData.eqv (.list ds) (.list []) = ds.isEmpty := eqv_nil ds
noncomputable abbrev l122 : List (Str × NameKind) := [(Str.ofString "words", .local), (Str.ofString "lowest", .local), (Str.ofString "pair", .cell), (Str.ofString "sorted", .globalImplicit)]
theorem f122b (w : World) (a : Value) : bindArgs (fd1 w 136) ⟨[a], []⟩ = pure ([Str.ofString "words"].zip [a]) := by kernel_rfl
set_option maxHeartbeats 4000000 in
theorem c_lowest {w : World} {A : Around} {s : Shared} {g : Mp} {ws : List Str} {vw : Value} {Q : Value → Shared → Prop} (r : Room A 3) (b : Bs (K1 w) g) (hg : ∀ a o, g a = some o → s.heap.get? a = some o)
    (hv : Rd g vw (.list (ws.map PyData.str))) (h64 : ws.length < 64) (hx : ∀ x ∈ ws, x.length ≤ 2 ^ 20 ∧ PyData.strOk x = true)
    (h : ∀ D g' s', Got g s g' s' → Rd g' (.ref D) (.list ((lowF ws).map pairD)) → Q (.ref D) s') : codeAny (model pr1 w) A (.call (.ref 136) ⟨[vw], []⟩) (RV Q) s := by
  have F : Fn (K1 w) 136 (fd1 w 136) l122 [Str.ofString "words"] _ := ⟨by kernel_rfl, by kernel_rfl, by rfl, by kernel_rfl, by kernel_rfl, by kernel_rfl, by kernel_rfl, by kernel_rfl, by kernel_rfl, by kernel_rfl, by decide⟩
  refine hideP fun Po hPo => ?_
  obtain ⟨wa, wvs, wn, rfl, ewa, hwvs⟩ := hv.unlist
  refine hPo ?_; clear hPo Po
  have hwl : wvs.length = ws.length := by rw [hwvs.1]; simp
  refine r_defA F r b hg rfl (f122b w _) ?_
  clear F
  intro env s₁ el _ _ r I cw
  conv in (fB _) => whnf
  generalize A.deeper env = A1 at r ⊢
  walk_at "w"
  refine r_newList I (by show 0 ≤ sizeLine; (first | lia | omega)) (fun D s' I => ?_)
  walk_at "w"
  have hwm : ∀ x ∈ sortW ws, x ∈ ws := fun x hx => (sortW_perm ws).mem_iff.mp hx
  have hsl : (sortW ws).length = ws.length := (sortW_perm ws).length_eq
  refine r_forE cw r.hand ?_
  refine k_call ?_
  walk_at "w"
  refine k_lc cw el (by decide) rfl (by decide) r.hand ?_
  walk_at "w"
  have fD : s.heap.get? D = none := (I.offW _ (.head _)).2.elim (fun h => (nomatch h)) id
  refine ⟨_, _, _, _, _, fun j g ds => ds = (ws.take j).map pairD, I, itr_list ewa rfl rfl, ⟨by simp, ?_, ?_⟩, ?_⟩
  · rintro j g ds hz1
    refine hideP fun Po hPo => ?_
    obtain rfl := hz1
    refine hPo ?_; clear hPo Po
    rw [sizeLine_eq, List.length_map, List.length_take]; (first | lia | omega)
  · rintro j v g2 ds cenv mc W2 s2 hj hvj G2 hz1 el' hmc I2
    refine hideP fun Po hPo => ?_
    obtain rfl := hz1
    refine hPo ?_; clear hPo Po
    have b := b.mono G2.le
    refine hideP fun Po hPo => ?_
    obtain ⟨x, hxj, u, rfl⟩ := str_at hwvs hvj
    refine hPo ?_; clear hPo Po
    have hxw := hx x (List.mem_of_getElem? hxj)
    refine tests_nil ?_
    refine btrue rfl ?_
    walk_at "w"
    refine r_lenS I (by (first | lia | omega)) (fun t s' I => ?_)
    walk_at "w"
    refine r_newTuple I (by show 2 ≤ sizeLine; rw [sizeLine_eq]; decide) (fun P s' I => ?_)
    refine ⟨_, _, I.grPut (.head _), Rd.tup (Mp.put_self _ _ _) (.cons (.int _ _) (.cons (.str _ _) .nil)), ?_, I.absorb1⟩
    rw [List.take_add_one, hxj]
    simp
  · rintro L g0 g2 ds s2 I2 G hz1 le2 hR _
    refine hideP fun Po hPo => ?_
    obtain rfl := hz1
    refine hPo ?_; clear hPo Po
    rw [List.take_of_length_le (by simpa using Nat.le_of_eq hwl.symm)] at hR
    refine hideP fun Po hPo => ?_
    obtain ⟨L', lvs, ln, e1, eL, hlvs⟩ := hR.unlist
    cases e1
    refine hPo ?_; clear hPo Po
    have b := b.mono G.le
    have G2 := I.gr0 G
    clear I
    walk_at "w"
    refine r_sorted I (.inl ⟨_, eL⟩) hlvs h64 (fun S svs c s' I hsvs => ?_)
    have gS := I.grPut (.head _)
    have I := I.absorb1
    have b := b.mono gS.le
    have GG : Gr s g (g2.put S (lstO svs c)) := G2.trans gS
    refine ⟨_, _, fun i g' m W => ∃ vs k, Gr s g g' ∧ W = [(D, lstO vs k)] ∧ m (Str.ofString "lowest") = some (.ref D) ∧ RdAll g' vs ((((sortW ws).take i).foldl lowStep []).map pairD), _, _, _, I, itr_list (Mp.put_self _ _ _) rfl rfl, ⟨[], 0, GG, rfl, by walk_at "v", .nil⟩, ?_, ?_⟩
    · rintro i v g' m W It s' hi hvi le hz1 I
      refine hideP fun Po hPo => ?_
      obtain ⟨vs, k, G', rfl, hml, hvs⟩ := hz1
      refine hPo ?_; clear hPo Po
      refine hideT fun Qo1 hQ1 => ?_
      have hvi' : svs[i]? = some v := by simpa using hvi
      refine hideP fun Po hPo => ?_
      obtain ⟨d, hd1, hd2⟩ := hsvs.get hvi'
      refine hPo ?_; clear hPo Po
      rw [List.getElem?_map] at hd1
      refine hideP fun Po hPo => ?_
      obtain ⟨x, hxi, rfl⟩ := Option.map_eq_some_iff.mp hd1
      refine hPo ?_; clear hPo Po
      have hxw := hx x (hwm x (List.mem_of_getElem? hxi))
      refine hideP fun Po hPo => ?_
      obtain ⟨pa, pn, pt, pu, rfl, epa⟩ := pair_un ((hd2.mono gS.le).mono le)
      refine hPo ?_; clear hPo Po
      have b := b.mono le
      have hfold : ((sortW ws).take (i + 1)).foldl lowStep [] = lowStep (((sortW ws).take i).foldl lowStep []) x := by
        rw [List.take_add_one, List.foldl_append, hxi]; rfl
      have hmem : ∀ y ∈ ((sortW ws).take i).foldl lowStep [], y.length ≤ 2 ^ 20 ∧ PyData.strOk y = true := fun y hy =>
        hx y (hwm y (low_mem (ws := sortW ws) _ [] (fun _ h => (nomatch h)) (fun z hz => List.mem_of_mem_take hz) y hy))
      have hlen : (((sortW ws).take i).foldl lowStep []).length ≤ 64 := by
        have := low_len ((sortW ws).take i) []
        rw [List.length_take] at this
        simp only [List.length_nil] at this; (first | lia | omega)
      generalize hacc : ((sortW ws).take i).foldl lowStep [] = acc at *
      have hvl : vs.length = acc.length := by rw [hvs.1]; simp
      refine r_target (n_store el cw I (by decide) fun s' I => ?_)
      have I0 := I.swap12
      have I := I0.absorb1
      have gDn := (I0.offW _ (.head _)).1
      have leD : g'.Le (g'.put D (lstO vs k)) := Mp.le_put gDn
      have bD := b.mono leD
      refine x_cons (k_if (k_test ?_))
      refine k_lc cw el (by decide) rfl (by decide) r.hand ?_
      (repeat walk_at "s")
      rename Inv _ _ _ _ _ _ _ => I
      refine ⟨_, _, _, _, _, fun j g ds => ds = ((acc.take j).filter fun y => standsF y x).map pairD, I, itr_list (Mp.put_self _ _ _) rfl rfl, ⟨by simp, ?_, ?_⟩, ?_⟩
      · rintro j g ds hz1
        refine hideP fun Po hPo => ?_
        obtain rfl := hz1
        refine hPo ?_; clear hPo Po
        rw [sizeLine_eq, List.length_map]
        have := List.length_filter_le (fun y => standsF y x) (acc.take j)
        rw [List.length_take] at this
        (first | lia | omega)
      · rintro j v g2 ds cenv mc W2 s2 hj hvj G2 hz1 el' hmc I2
        refine hideP fun Po hPo => ?_
        obtain rfl := hz1
        refine hPo ?_; clear hPo Po
        have b := bD.mono G2.le
        have hmp2 : mc (Str.ofString "pair") = some (.ref pa) := (hmc _ (by decide) (by decide)).trans (by walk_at "v")
        have hvj' : vs[j]? = some v := by simpa using hvj
        refine hideP fun Po hPo => ?_
        obtain ⟨d, hd1, hd2⟩ := hvs.get hvj'
        refine hPo ?_; clear hPo Po
        rw [List.getElem?_map] at hd1
        refine hideP fun Po hPo => ?_
        obtain ⟨y, hyj, rfl⟩ := Option.map_eq_some_iff.mp hd1
        refine hPo ?_; clear hPo Po
        have hyw := hmem y (List.mem_of_getElem? hyj)
        have hRy := ((hd2.mono leD).mono G2.le)
        refine hideP fun Po hPo => ?_
        obtain ⟨qa, qn, qt, qu, rfl, eqa⟩ := pair_un hRy
        refine hPo ?_; clear hPo Po
        refine tests_one ?_
        (repeat walk_at "s")
        rename Inv _ _ _ _ _ _ _ => I
        refine k_fn (o := fo w 131) (fd := fd1 w 131) rfl ?_
        (repeat walk_at "s")
        rename Inv _ _ _ _ _ _ _ => I
        refine i_tup I (I.keep _ _ eqa) (by decide) (by decide) (by rfl) ?_
        (repeat walk_at "s")
        rename Inv _ _ _ _ _ _ _ => I
        refine i_tup I (I.keep _ _ (G2.le _ _ (leD _ _ epa))) (by decide) (by decide) (by rfl) ?_
        (repeat walk_at "s")
        rename Inv _ _ _ _ _ _ _ => I
        refine ⟨I.keep _ _ (b.k _ _ (ko131 w)), c_stands (r.less (by decide)) b I.keep (by (first | lia | omega)) (fun s' k => ?_)⟩
        have I := I.keeps k
        (repeat walk_at "s")
        rename Inv _ _ _ _ _ _ _ => I
        refine bsplit (fun q1 => ?_) (fun q1 => ?_)
        · walk_at "w"
          refine ⟨_, _, Gr.refl _ _, hRy, ?_, I⟩
          rw [List.take_add_one, hyj]
          simp [q1]
        · refine ⟨_, Gr.refl _ _, ?_, I⟩
          rw [List.take_add_one, hyj]
          simp [q1]
      · rintro R g0 g2 ds s2 I2 Gc hz1 le2 hR _
        refine hideP fun Po hPo => ?_
        obtain rfl := hz1
        refine hPo ?_; clear hPo Po
        rw [List.take_of_length_le (by rw [List.size_toArray]; (first | lia | omega))] at hR
        have bc := bD.mono Gc.le
        clear I
        (repeat walk_at "s")
        rename Inv _ _ _ _ _ _ _ => I
        refine r_newList I (by show 0 ≤ sizeLine; (first | lia | omega)) (fun R2 s' I => ?_)
        have g3 := I.grPut (.head _)
        have I := I.absorb1
        refine c_eqRd I (hR.mono g3.le) (Rd.lst (Mp.put_self _ _ _) .nil) (canList (canPairs _ (fun y hy => (hmem y (List.mem_filter.mp hy).1).2))) rfl (by have h1 : (PyData.list []).depth = 1 := rfl; rw [h1]; have := r.units; (first | lia | omega)) ?_
        rw [eqv_nil, List.isEmpty_map]
        have I := I.unput I0 (.head _) (Gc.le.trans g3.le) (fun p hp => by
          rw [List.mem_singleton.mp hp]
          have nd := I0.nd
          simp only [List.pairwise_cons, List.mem_singleton, forall_eq] at nd
          exact Ne.symm nd.1)
        clear hR le2 Gc g3
        walk_at "w"
        refine bsplit (fun q1 => ?_) (fun q1 => ?_)
        · walk_at "w"
          refine mth_append I (.inr ⟨_, .head _⟩) ?_
          walk_at "w"
          refine r_append I .head (by rw [sizeLine_eq]; (first | lia | omega)) (fun s' I => ⟨rfl, ?_⟩)
          walk_at "w"
          refine ⟨_, _, _, le, ⟨_, _, G', rfl, by walk_at "v", ?_⟩, I.swap12⟩
          rw [hfold]
          unfold lowStep
          rw [if_pos q1, List.map_append]
          exact hvs.snoc (Rd.tup epa (.cons (.int _ _) (.cons (.str _ _) .nil)))
        · walk_at "w"
          refine ⟨_, _, _, le, ⟨_, _, G', rfl, by walk_at "v", ?_⟩, I.swap12⟩
          rw [hfold]
          unfold lowStep
          rw [if_neg (by simp [q1])]
          exact hvs
    · rintro g' m W s' le hz1 I
      refine hideP fun Po hPo => ?_
      obtain ⟨vs, k, G', rfl, hml, hvs⟩ := hz1
      refine hPo ?_; clear hPo Po
      rw [List.take_of_length_le (by rw [List.size_toArray, hsvs.1]; simp)] at hvs
      walk_at "w"
      have gD := I.grPut (.head _)
      have I := I.absorb1
      exact h D _ _ (I.leave (G'.trans gD)) (Rd.lst (Mp.put_self _ _ _) (hvs.mono gD.le))
end
section
open PySem PySem.W PySem.Calls
set_option Elab.async false
set_option compiler.extract_closed false
set_option maxRecDepth 100000
noncomputable def Lw (x : Str) : Prop := ∀ c ∈ x.cps.toList, 71 ≤ c ∧ c ≤ 86
inductive Rok (rule : List Int) : Prop
  | mk (s a b : Nat) (e : rule = [(s : Int), (a : Int), (b : Int)]) (hs : s = 256 ∨ s = 257) (h : (7 ≤ a ∧ a ≤ 22 ∧ (b = 256 ∨ b = 257 ∨ b = 258)) ∨ ((a = 256 ∨ a = 257 ∨ a = 258) ∧ 7 ≤ b ∧ b ≤ 22))
theorem lw_ok {x : Str} (h : Lw x) : PyData.strOk x = true := by
  unfold PyData.strOk
  rw [← Array.all_toList, List.all_eq_true]
  intro c hc
  have := h c hc
  simp only [decide_eq_true_eq]; (first | lia | omega)
/-- a word without its letter at a place -/
noncomputable def lossAt (word : Str) (k : Nat) : Str := ofL (word.cps.toList.take k) ++ ofL (word.cps.toList.drop (k + 1))
noncomputable def memB (x : Str) (l : List Str) : Bool := l.any (· == x)
theorem memB_iff {x : Str} {l : List Str} : memB x l = true ↔ x ∈ l := by
  unfold memB
  rw [List.any_eq_true]
  constructor
  · rintro hz1
    refine hideP fun Po hPo => ?_
    obtain ⟨y, hy, e⟩ := hz1
    refine hPo ?_; clear hPo Po
    rw [← beq_iff_eq.mp e]; exact hy
  · intro h; exact ⟨x, h, by simp⟩
noncomputable def thirds (x : Str) : List Str := if x.length < 3 then [x] else [ofL (x.cps.toList.drop 1), oneS (x.cps.toList.getD 0 0) ++ oneS (x.cps.toList.getD 2 0), ofL (x.cps.toList.take 2)]
/-- what a rule leads to -/
noncomputable def goalR (rule : List Int) : Int := if 256 ≤ rule.getD 1 0 then rule.getD 1 0 else rule.getD 2 0
noncomputable def afterF (rule : List Int) (word : Str) : List Str :=
  if 256 ≤ rule.getD 1 0 then thirds (word ++ oneS (64 + rule.getD 2 0).toNat)
  else if ofL (word.cps.toList.take 1) = oneS (64 + rule.getD 1 0).toNat then [ofL (word.cps.toList.drop 1)] else []
noncomputable def reachOf (r0 r1 : List Str) (goal : Int) : List Str := if goal = 256 then r0 else r1
noncomputable def ruleGo (r0 r1 : List Str) (word : Str) (rule : List Int) : Bool := !(afterF rule word).isEmpty && (goalR rule == 258 || !((afterF rule word).filter fun one => memB one (reachOf r0 r1 (goalR rule))).isEmpty)
noncomputable def goesF (own : List (List Int)) (r0 r1 mine : List Str) (word : Str) : Bool := ((List.range word.length).any fun k => memB (lossAt word k) mine) || own.any (ruleGo r0 r1 word)
theorem strs_are {g : Mp} : ∀ {vs : List Value} {xs : List Str}, RdAll g vs (xs.map PyData.str) → PyProof.Rows.StrsAre vs xs
  | [], [], _ => .nil
  | [], _ :: _, h => by simp [RdAll] at h
  | _ :: _, [], h => by simp [RdAll] at h
  | v :: vs, x :: xs, h => by
    refine hideP fun Po hPo => ?_
    obtain ⟨t, rfl⟩ := h.uncons.1.unstr
    refine hPo ?_; clear hPo Po
    exact .cons _ _ (strs_are h.uncons.2)
section
variable {prog : Program} {w : World} {A : Around} {E : Value → Shared → Prop} {g : Mp} {s₀ : Shared} {T : List Addr} {env : Env} {m : Str → Option Value} {W : List (Addr × Obj)} {s : Shared}
theorem c_inL {x : Str} {t : Tok} {D : Addr} {vs : List Value} {xs : List Str} {Q : Value → Shared → Prop} (I : Inv g s₀ T env m W s) (L : LstAt g W D vs) (r : RdAll g vs (xs.map PyData.str)) (h : Q (.bool (memB x xs)) s) : wpAny (model prog w) A (compareOp .In (.str x t) (.ref D)) Q E s := by
  exact PyProof.Rows.in_list_strs (L.isList I) (strs_are r) h
theorem c_ninL {x : Str} {t : Tok} {D : Addr} {vs : List Value} {xs : List Str} {Q : Value → Shared → Prop} (I : Inv g s₀ T env m W s) (L : LstAt g W D vs) (r : RdAll g vs (xs.map PyData.str)) (h : Q (.bool (!memB x xs)) s) : wpAny (model prog w) A (compareOp .NotIn (.str x t) (.ref D)) Q E s := by
  exact PyProof.Rows.notin_list_strs (L.isList I) (strs_are r) h
end
theorem canStrs : ∀ xs : List Str, (∀ x ∈ xs, PyData.strOk x = true) → PyData.canLayAll0 (xs.map PyData.str) = true
  | [], _ => rfl
  | x :: r, h => by
    show (PyData.strOk x && _) = true
    rw [h x (.head _), canStrs r fun y hy => h y (.tail _ hy)]; rfl
theorem lw_sub {x : Str} {l : List Nat} (h : Lw x) (hs : ∀ c ∈ l, c ∈ x.cps.toList) : Lw (ofL l) := fun c hc => h c (hs c hc)
theorem lw_app {x y : Str} (hx : Lw x) (hy : Lw y) : Lw (x ++ y) := fun c hc => by
  rw [toList_app] at hc
  rcases List.mem_append.mp hc with h | h
  · exact hx c h
  · exact hy c h
theorem lw_one {c : Nat} (h : 71 ≤ c ∧ c ≤ 86) : Lw (oneS c) := fun d hd => by
  have : d ∈ [c] := hd
  rw [List.mem_singleton.mp this]; exact h
theorem lw_thirds {x : Str} (h : Lw x) : ∀ y ∈ thirds x, Lw y := by
  intro y hy
  unfold thirds at hy
  split at hy
  · rw [List.mem_singleton.mp hy]; exact h
  · rename_i h3
    have hl : x.cps.toList.length = x.length := by simp [Str.length]
    have g : ∀ i, i < 3 → Lw (oneS (x.cps.toList.getD i 0)) := fun i hi => lw_one (h _ (by
      have hi2 : i < x.cps.toList.length := by (first | lia | omega)
      rw [List.getD_eq_getElem?_getD, List.getElem?_eq_getElem hi2]
      exact List.getElem_mem hi2))
    simp only [List.mem_cons, List.not_mem_nil, or_false] at hy
    rcases hy with rfl | rfl | rfl
    · exact lw_sub h fun c hc => List.mem_of_mem_drop hc
    · exact lw_app (g 0 (by decide)) (g 2 (by decide))
    · exact lw_sub h fun c hc => List.mem_of_mem_take hc
theorem lw_after {rule : List Int} {word : Str} (ok : Rok rule) (h : Lw word) : ∀ y ∈ afterF rule word, Lw y := by
  refine hideP fun Po hPo => ?_
  obtain ⟨sN, aN, bN, rfl, _, hab⟩ := ok
  refine hPo ?_; clear hPo Po
  intro y hy
  change y ∈ (if (256 : Int) ≤ (aN : Int) then thirds (word ++ oneS (64 + (bN : Int)).toNat) else if ofL (word.cps.toList.take 1) = oneS (64 + (aN : Int)).toNat then [ofL (word.cps.toList.drop 1)] else []) at hy
  by_cases q : (256 : Int) ≤ (aN : Int)
  · rw [if_pos q] at hy
    refine hideP fun Po hPo => ?_
    obtain ⟨_, h1, h2⟩ := hab.resolve_left (by (first | lia | omega))
    refine hPo ?_; clear hPo Po
    refine lw_thirds (lw_app h (lw_one ?_)) y hy
    show 71 ≤ (64 + (bN : Int)).toNat ∧ (64 + (bN : Int)).toNat ≤ 86
    (first | lia | omega)
  · rw [if_neg q] at hy
    split at hy
    · rw [List.mem_singleton.mp hy]; exact lw_sub h fun c hc => List.mem_of_mem_drop hc
    · cases hy
theorem goal_at {rule : List Int} (ok : Rok rule) : goalR rule = 256 ∨ goalR rule = 257 ∨ goalR rule = 258 := by
  refine hideP fun Po hPo => ?_
  obtain ⟨sN, aN, bN, rfl, _, hab⟩ := ok
  refine hPo ?_; clear hPo Po
  change (if (256 : Int) ≤ (aN : Int) then (aN : Int) else (bN : Int)) = 256 ∨ (if (256 : Int) ≤ (aN : Int) then (aN : Int) else (bN : Int)) = 257 ∨ (if (256 : Int) ≤ (aN : Int) then (aN : Int) else (bN : Int)) = 258
  split <;> (first | lia | omega)
inductive Ints3 (x y z : Int) (vs : List Value) : Prop
  | mk (t u v : Tok) (e : vs = [.int x t, .int y u, .int z v])
theorem ints3 {g : Mp} {vs : List Value} {x y z : Int} (h : RdAll g vs ([x, y, z].map PyData.int)) : Ints3 x y z vs := by
  refine hideP fun Po hPo => ?_
  obtain ⟨a, b, c, rfl⟩ := len3 h.1
  obtain ⟨t, rfl⟩ := h.uncons.1.unint
  obtain ⟨u, rfl⟩ := h.uncons.2.uncons.1.unint
  obtain ⟨v, rfl⟩ := h.uncons.2.uncons.2.uncons.1.unint
  refine hPo ?_; clear hPo Po
  exact ⟨t, u, v, rfl⟩
theorem at_getD {x : Str} {i : Nat} (h : i < x.length) : x.cps[i]? = some (x.cps.toList.getD i 0) := by
  rw [← Array.getElem?_toList, List.getD_eq_getElem?_getD, List.getElem?_eq_getElem (by simpa [Str.length] using h)]; rfl
inductive GsJ (s : Shared) (g2 : Mp) (env : Env) (It : Addr × Obj) (oa ra : Addr) (word : Str) (t1 : Tok) (rule : List Int) (fl : Flow) (s' : Shared) : Prop
  | mk (h0 : fl = Flow.next) (g3 : Mp) (m3 : Str → Option Value) (aft : Addr) (avs : List Value) (an : Nat) (tg : Tok) (h1 : g2.Le g3) (I : Inv g3 s [] env m3 [It] s') (h2 : m3 (Str.ofString "own") = some (.ref oa)) (h3 : m3 (Str.ofString "reach") = some (.ref ra)) (h4 : m3 (Str.ofString "word") = some (.str word t1)) (h5 : m3 (Str.ofString "goal") = some (.int (goalR rule) tg))
      (h6 : m3 (Str.ofString "after") = some (.ref aft)) (h7 : g3 aft = some (lstO avs an)) (h8 : RdAll (fun _ => none) avs ((afterF rule word).map PyData.str)) : GsJ s g2 env It oa ra word t1 rule fl s'
noncomputable abbrev l119 : List (Str × NameKind) := [(Str.ofString "own", .local), (Str.ofString "reach", .cell), (Str.ofString "mine", .local), (Str.ofString "word", .local), (Str.ofString "k", .local), (Str.ofString "rule", .local), (Str.ofString "goal", .cell), (Str.ofString "line", .local), (Str.ofString "after", .local), (Str.ofString "range", .globalImplicit), (Str.ofString "len", .globalImplicit), (Str.ofString "chr", .globalImplicit)]
theorem f119b (w : World) (a b c d : Value) : bindArgs (fd1 w 119) ⟨[a, b, c, d], []⟩ = pure ([Str.ofString "own", Str.ofString "reach", Str.ofString "mine", Str.ofString "word"].zip [a, b, c, d]) := by kernel_rfl
set_option maxHeartbeats 4000000 in
theorem c_goes {w : World} {A : Around} {s : Shared} {g : Mp} {Q E : Value → Shared → Prop} {own : List (List Int)} {r0 r1 mine : List Str} {word : Str} {vo vr vm : Value} {t1 : Tok} (r : Room A 2) (b : Bs (K1 w) g) (hg : ∀ a o, g a = some o → s.heap.get? a = some o)
    (ho : Rd g vo (.list (own.map fun c => PyData.list (c.map PyData.int)))) (okr : ∀ r ∈ own, Rok r) (hr : Rd g vr (.list [.list (r0.map PyData.str), .list (r1.map PyData.str)])) (hm : Rd g vm (.list (mine.map PyData.str))) (hw : word.length ≤ 2) (hwl : Lw word)
    (h : ∀ s', Keeps s s' → Q (.bool (goesF own r0 r1 mine word)) s') : wpAny (model pr1 w) A (call (.ref 119) [vo, vr, vm, .str word t1]) Q E s := by
  have F : Fn (K1 w) 119 (fd1 w 119) l119 [Str.ofString "own", Str.ofString "reach", Str.ofString "mine", Str.ofString "word"] _ := ⟨by kernel_rfl, by kernel_rfl, by rfl, by kernel_rfl, by kernel_rfl, by kernel_rfl, by kernel_rfl, by kernel_rfl, by kernel_rfl, by kernel_rfl, by decide⟩
  refine hideP fun Po hPo => ?_
  obtain ⟨oa, ovs, on, rfl, eoa, hovs⟩ := ho.unlist
  obtain ⟨ra, rvs, rn, rfl, era, hrvs⟩ := hr.unlist
  obtain ⟨ma, mvs, mn, rfl, ema, hmvs⟩ := hm.unlist
  obtain ⟨v0, v1, rfl⟩ := len2 hrvs.1
  obtain ⟨a0, vs0, n0, rfl, ea0, hvs0⟩ := hrvs.uncons.1.unlist
  obtain ⟨a1, vs1, n1, rfl, ea1, hvs1⟩ := hrvs.uncons.2.uncons.1.unlist
  refine hPo ?_; clear hPo Po
  have hol : ovs.length = own.length := by rw [hovs.1]; simp
  refine r_def F r b hg rfl (f119b w _ _ _ _) ?_
  clear F
  intro env s₁ el r I cw
  conv in (fB _) => whnf
  generalize A.deeper env = A1 at r ⊢
  refine x_cons ?_
  refine r_forE cw r.hand ?_
  walk_at "w"
  refine r_lenS I (by (first | lia | omega)) (fun t s' I => ?_)
  walk_at "w"
  refine r_range1 I (fun R u1 u2 u3 s' I => ?_)
  have gR := I.grPut (.head _)
  have I := I.absorb1
  refine ⟨_, _, fun i g' m W => A7 (g.Le g') (m (Str.ofString "own") = some (.ref oa)) (m (Str.ofString "reach") = some (.ref ra)) (m (Str.ofString "mine") = some (.ref ma)) (m (Str.ofString "word") = some (.str word t1)) (W = []) (((List.range i).any fun k => memB (lossAt word k) mine) = false), _, _, _, I, itr_range (Mp.put_self _ _ _) (by decide) (by decide) (by (first | lia | omega)) (by (first | lia | omega)), ⟨gR.le, by walk_at "v", by walk_at "v", by walk_at "v", by walk_at "v", rfl, rfl⟩, ?_, ?_⟩
  · rintro i v g' m W It s' hi hz1 le hz2 I
    refine hideP fun Po hPo => ?_
    obtain ⟨tv, rfl⟩ := hz1
    obtain ⟨leg, hmo, hmr, hmm, hmw, rfl, hno⟩ := hz2
    refine hPo ?_; clear hPo Po
    refine hideT fun Qo1 hQ1 => ?_
    have hi : i < word.length := by (first | lia | omega)
    have hz : (0 : Int) + (i : Int) = (i : Int) := by (first | lia | omega)
    rw [hz]
    refine r_target (n_store el cw I (by decide) fun s' I => ?_)
    refine x_cons (k_if (k_test ?_))
    refine k_bin ?_
    refine k_slS cw ?_
    walk_at "w"
    refine ⟨word, _, none, some (i : Int), _, _, _, rfl, .none, .int _ _, by rw [sizeLine_eq]; (first | lia | omega), I, fun t s' I => ?_⟩
    rw [txt_to]
    refine k_slS cw ?_
    walk_at "w"
    have e1 : (i : Int) + 1 = ((i + 1 : Nat) : Int) := by (first | lia | omega)
    refine ⟨word, _, some ((i + 1 : Nat) : Int), none, _, _, _, rfl, by rw [e1]; exact .int _ _, .none, by rw [sizeLine_eq]; (first | lia | omega), I, fun t s' I => ?_⟩
    rw [txt_from _ _ (by (first | lia | omega))]
    refine r_cat I ?_ (fun t s' I => ?_)
    · rw [Str.length_append, sizeLine_eq]
      show (word.cps.toList.take i).toArray.size + (word.cps.toList.drop (i + 1)).toArray.size ≤ _
      have : word.cps.toList.length = word.length := by simp [Str.length]
      simp only [List.size_toArray, List.length_take, List.length_drop]; (first | lia | omega)
    walk_at "w"
    refine c_inL I (.inl ⟨_, leg _ _ ema⟩) (hmvs.mono leg) ?_
    walk_at "w"
    refine bsplit (fun q1 => ?_) (fun q1 => ?_)
    · walk_at "w"
      have hq := h _ I.keptAll
      have : goesF own r0 r1 mine word = true := by
        unfold goesF
        rw [Bool.or_eq_true]
        exact .inl (List.any_eq_true.mpr ⟨i, List.mem_range.mpr hi, q1⟩)
      rw [this] at hq
      exact hq
    · walk_at "w"
      refine ⟨_, _, _, le, ⟨leg, by walk_at "v", by walk_at "v", by walk_at "v", by walk_at "v", rfl, ?_⟩, I⟩
      rw [List.range_succ, List.any_append, hno]
      have q1 : memB (lossAt word i) mine = false := q1
      simp [q1]
  · rintro g' m W s' le hz1 I
    refine hideP fun Po hPo => ?_
    obtain ⟨leg, hmo, hmr, hmm, hmw, rfl, hno⟩ := hz1
    refine hPo ?_; clear hPo Po
    have hno : ((List.range word.length).any fun k => memB (lossAt word k) mine) = false := by
      rw [show ((word.length : Int) - 0).toNat = word.length by (first | lia | omega)] at hno; exact hno
    refine Sq.next (x_cons ?_)
    refine r_forE cw r.hand ?_
    walk_at "w"
    refine ⟨_, _, fun i g2 m W => g.Le g2 ∧ m (Str.ofString "own") = some (.ref oa) ∧ m (Str.ofString "reach") = some (.ref ra) ∧ m (Str.ofString "word") = some (.str word t1) ∧ W = [] ∧ (own.take i).any (ruleGo r0 r1 word) = false, _, _, _, I, itr_list (leg _ _ eoa) rfl rfl, ⟨leg, by walk_at "v", by walk_at "v", by walk_at "v", rfl, rfl⟩, ?_, ?_⟩
    · clear hmo hmr hmm hmw
      rintro i v g2 m W It s' hi hvi le2 hz1 I
      refine hideP fun Po hPo => ?_
      obtain ⟨leg, hmo, hmr, hmw, rfl, hno2⟩ := hz1
      refine hPo ?_; clear hPo Po
      refine hideT fun Qo2 hQ2 => ?_
      have hvi' : ovs[i]? = some v := by simpa using hvi
      have hilt : i < own.length := by rw [← hol]; simpa using hi
      refine hideP fun Po hPo => ?_
      obtain ⟨rule, hri⟩ : ∃ rule, own[i]? = some rule := ⟨_, List.getElem?_eq_getElem hilt⟩
      obtain ⟨v2, hv2, rv2⟩ := hovs.get' (i := i) (d := PyData.list (rule.map PyData.int)) (by rw [List.getElem?_map, hri]; rfl)
      refine hPo ?_; clear hPo Po
      rw [hvi'] at hv2
      cases Option.some.inj hv2
      refine hideP fun Po hPo => ?_
      obtain ⟨ua, uvs, un, rfl, eua, huvs⟩ := rv2.unlist
      refine hPo ?_; clear hPo Po
      have ok1 := okr rule (List.mem_of_getElem? hri)
      have hstep : ∀ b, ruleGo r0 r1 word rule = b → (own.take (i + 1)).any (ruleGo r0 r1 word) = b := fun b hb => by
        rw [List.take_add_one, hri, List.any_append, hno2]
        simp [hb]
      have hend : ruleGo r0 r1 word rule = true → goesF own r0 r1 mine word = true := fun e => by
        unfold goesF
        rw [Bool.or_eq_true]
        exact .inr (List.any_eq_true.mpr ⟨rule, List.mem_of_getElem? hri, e⟩)
      have ok2 := ok1
      refine hideP fun Po hPo => ?_
      obtain ⟨sN, aN, bN, rfl, _, hab⟩ := ok1
      obtain ⟨tu1, tu2, tu3, rfl⟩ := ints3 huvs
      refine hPo ?_; clear hPo Po
      have eua := leg _ _ eua
      have bg := b.mono leg
      refine r_target (n_store el cw I (by decide) fun s' I => ?_)
      refine x_cons ?_
      refine cutH (Q' := fun fl s' => GsJ s g2 env It oa ra word t1 [(sN : Int), (aN : Int), (bN : Int)] fl s') (fun Qo3 hQ3 => ?_) ?_
      · refine k_if (k_test ?_)
        walk_at "w"
        refine i_list I (.inl ⟨_, eua⟩) (by decide) (by decide) rfl ?_
        walk_at "w"
        refine bsplit (fun q1 => ?_) (fun q1 => ?_)
        · have q1 : (256 : Int) ≤ aN := by simpa using q1
          refine hideP fun Po hPo => ?_
          obtain ⟨ha, hb1, hb2⟩ := hab.resolve_left (by (first | lia | omega))
          refine hPo ?_; clear hPo Po
          have eG : goalR [(sN : Int), (aN : Int), (bN : Int)] = (aN : Int) := if_pos q1
          have eA : afterF [(sN : Int), (aN : Int), (bN : Int)] word = thirds (word ++ oneS (64 + (bN : Int)).toNat) := if_pos q1
          walk_at "w"
          refine i_list I (.inl ⟨_, eua⟩) (by decide) (by decide) rfl ?_
          walk_at "w"
          refine i_list I (.inl ⟨_, eua⟩) (by decide) (by decide) rfl ?_
          walk_at "w"
          refine b_chr I (by (first | lia | omega)) (by (first | lia | omega)) (fun t s' I => ?_)
          refine r_cat I (by rw [Str.length_append, sizeLine_eq]; show word.length + 1 ≤ _; (first | lia | omega)) (fun t s' I => ?_)
          walk_at "w"
          have hlen : (word ++ oneS (64 + (bN : Int)).toNat).length = word.length + 1 := by rw [Str.length_append]; rfl
          have htl : (word ++ oneS (64 + (bN : Int)).toNat).cps.toList = word.cps.toList ++ [(64 + (bN : Int)).toNat] := by rw [toList_app]; rfl
          have hwl2 : word.cps.toList.length = word.length := by simp [Str.length]
          refine r_lenS I (by (first | lia | omega)) (fun t s' I => ?_)
          walk_at "w"
          refine bsplit (fun q2 => ?_) (fun q2 => ?_)
          · have q2 : (word ++ oneS (64 + (bN : Int)).toNat).length < 3 := by have := of_decide_eq_true q2; (first | lia | omega)
            have eT : thirds (word ++ oneS (64 + (bN : Int)).toNat) = [word ++ oneS (64 + (bN : Int)).toNat] := if_pos q2
            walk_at "w"
            refine r_newList I (by show 1 ≤ sizeLine; rw [sizeLine_eq]; decide) (fun D s' I => ?_)
            have gD := I.grPut (.head _)
            have I := I.absorb1
            walk_at "w"
            refine ⟨rfl, _, _, D, _, _, _, gD.le, I, by walk_at "v", by walk_at "v", by walk_at "v", by rw [eG]; walk_at "v", by walk_at "v", Mp.put_self _ _ _, ?_⟩
            rw [eA, eT]
            exact .cons (.str _ _) .nil
          · have q2 : ¬ (word ++ oneS (64 + (bN : Int)).toNat).length < 3 := by have := of_decide_eq_false q2; (first | lia | omega)
            have h2 : word.length = 2 := by (first | lia | omega)
            have eT : thirds (word ++ oneS (64 + (bN : Int)).toNat) = _ := if_neg q2
            refine k_list ?_
            refine k_arg ?_
            refine k_slS cw ?_
            walk_at "w"
            refine ⟨_, _, some 1, none, _, _, _, rfl, .int _ _, .none, by rw [hlen, sizeLine_eq]; (first | lia | omega), I, fun t s' I => ?_⟩
            rw [show (1 : Int) = ((1 : Nat) : Int) from rfl, txt_from _ _ (by (first | lia | omega))]
            walk_at "w"
            refine i_str I (by decide) (by decide) (c := (word ++ oneS (64 + (bN : Int)).toNat).cps.toList.getD 0 0) ?_ (fun t s' I => ?_)
            · exact at_getD (by show _ < _; (first | lia | omega))
            walk_at "w"
            refine i_str I (by decide) (by decide) (c := (word ++ oneS (64 + (bN : Int)).toNat).cps.toList.getD 2 0) ?_ (fun t s' I => ?_)
            · exact at_getD (by show _ < _; (first | lia | omega))
            refine r_cat I (by rw [Str.length_append, sizeLine_eq]; show 1 + 1 ≤ _; decide) (fun t s' I => ?_)
            refine k_arg ?_
            refine k_slS cw ?_
            walk_at "w"
            refine ⟨_, _, none, some 2, _, _, _, rfl, .none, .int _ _, by rw [hlen, sizeLine_eq]; (first | lia | omega), I, fun t s' I => ?_⟩
            rw [show (2 : Int) = ((2 : Nat) : Int) from rfl, txt_to]
            walk_at "w"
            refine r_newList I (by show 3 ≤ sizeLine; rw [sizeLine_eq]; decide) (fun D s' I => ?_)
            have gD := I.grPut (.head _)
            have I := I.absorb1
            walk_at "w"
            refine ⟨rfl, _, _, D, _, _, _, gD.le, I, by walk_at "v", by walk_at "v", by walk_at "v", by rw [eG]; walk_at "v", by walk_at "v", Mp.put_self _ _ _, ?_⟩
            rw [eA, eT]
            exact .cons (.str _ _) (.cons (.str _ _) (.cons (.str _ _) .nil))
        · have q1 : ¬ (256 : Int) ≤ aN := by simpa using q1
          refine hideP fun Po hPo => ?_
          obtain ⟨ha1, ha2, hb⟩ := hab.resolve_right (by (first | lia | omega))
          refine hPo ?_; clear hPo Po
          have eG : goalR [(sN : Int), (aN : Int), (bN : Int)] = (bN : Int) := if_neg q1
          have eA : afterF [(sN : Int), (aN : Int), (bN : Int)] word = _ := if_neg q1
          walk_at "w"
          refine i_list I (.inl ⟨_, eua⟩) (by decide) (by decide) rfl ?_
          refine n_store el cw I (by decide) (fun s' I => ?_)
          refine Sq.next (x_cons ?_)
          refine r_assign ?_
          refine k_ifx ?_
          refine k_test ?_
          refine k_slS cw ?_
          walk_at "w"
          refine ⟨word, _, none, some 1, _, _, _, rfl, .none, .int _ _, by rw [sizeLine_eq]; (first | lia | omega), I, fun t s' I => ?_⟩
          rw [show (1 : Int) = ((1 : Nat) : Int) from rfl, txt_to]
          walk_at "w"
          refine i_list I (.inl ⟨_, eua⟩) (by decide) (by decide) rfl ?_
          walk_at "w"
          refine b_chr I (by (first | lia | omega)) (by (first | lia | omega)) (fun t s' I => ?_)
          walk_at "w"
          have hb3 : (ofL (word.cps.toList.take 1) == oneS (64 + (aN : Int)).toNat) = decide (ofL (word.cps.toList.take 1) = oneS (64 + (aN : Int)).toNat) := by
            rw [Bool.eq_iff_iff]; simp
          rw [hb3]
          refine bsplit (fun q2 => ?_) (fun q2 => ?_)
          · have q2 := of_decide_eq_true q2
            have eT : afterF [(sN : Int), (aN : Int), (bN : Int)] word = [ofL (word.cps.toList.drop 1)] := eA.trans (if_pos q2)
            have hwl2 : word.cps.toList.length = word.length := by simp [Str.length]
            have h1 : 1 ≤ word.length := by
              have := congrArg (fun x => x.cps.toList.length) q2
              have : (word.cps.toList.take 1).length = 1 := this
              rw [List.length_take] at this; (first | lia | omega)
            refine k_list ?_
            refine k_arg ?_
            refine k_slS cw ?_
            walk_at "w"
            refine ⟨word, _, some 1, none, _, _, _, rfl, .int _ _, .none, by rw [sizeLine_eq]; (first | lia | omega), I, fun t s' I => ?_⟩
            rw [show (1 : Int) = ((1 : Nat) : Int) from rfl, txt_from _ _ h1]
            walk_at "w"
            refine r_newList I (by show 1 ≤ sizeLine; rw [sizeLine_eq]; decide) (fun D s' I => ?_)
            have gD := I.grPut (.head _)
            have I := I.absorb1
            walk_at "w"
            refine ⟨rfl, _, _, D, _, _, _, gD.le, I, by walk_at "v", by walk_at "v", by walk_at "v", by rw [eG]; walk_at "v", by walk_at "v", Mp.put_self _ _ _, ?_⟩
            rw [eT]
            exact .cons (.str _ _) .nil
          · have q2 := of_decide_eq_false q2
            have eT : afterF [(sN : Int), (aN : Int), (bN : Int)] word = [] := eA.trans (if_neg q2)
            walk_at "w"
            refine r_newList I (by show 0 ≤ sizeLine; (first | lia | omega)) (fun D s' I => ?_)
            have gD := I.grPut (.head _)
            have I := I.absorb1
            walk_at "w"
            refine ⟨rfl, _, _, D, _, _, _, gD.le, I, by walk_at "v", by walk_at "v", by walk_at "v", by rw [eG]; walk_at "v", by walk_at "v", Mp.put_self _ _ _, ?_⟩
            rw [eT]
            exact .nil
      · rintro fl s' hz1
        refine hideP fun Po hPo => ?_
        obtain ⟨rfl, g3, m3, aft, avs, an, tg, le3, I, ho3, hr3, hw3, hg3, ha3, eaft, havs⟩ := hz1
        refine hPo ?_; clear hPo Po
        clear hmo hmr hmw
        generalize hru : [(sN : Int), (aN : Int), (bN : Int)] = rule at *
        have leg3 := leg.trans le3
        have bg := b.mono leg3
        walk_at "w"
        refine r_newList I (by show 0 ≤ sizeLine; (first | lia | omega)) (fun Z s' I => ?_)
        have gZ := I.grPut (.head _)
        have I := I.absorb1
        have rA := Rd.lst (gZ.le _ _ eaft) (havs.mono (g' := g3.put Z (lstO [] 0)) (fun _ _ h => by cases h))
        have hlw := lw_after ok2 hwl
        refine c_neRd I rA (Rd.lst (Mp.put_self _ _ _) .nil) (canList (canStrs _ fun x hx => lw_ok (hlw x hx))) rfl (by have h1 : (PyData.list []).depth = 1 := rfl; rw [h1]; have := r.units; (first | lia | omega)) ?_
        rw [eqv_nil, List.isEmpty_map]
        have eaft4 := gZ.le _ _ eaft
        have leg4 := leg3.trans gZ.le
        have le4 := le3.trans gZ.le
        generalize g3.put Z (lstO [] 0) = g4 at *
        have hgo : ∀ b1, (!(afterF rule word).isEmpty) = b1 → ruleGo r0 r1 word rule = (b1 && (goalR rule == 258 || !((afterF rule word).filter fun one => memB one (reachOf r0 r1 (goalR rule))).isEmpty)) := fun b1 hb => by
          unfold ruleGo; rw [hb]
        walk_at "w"
        refine bsplit (fun q1 => ?_) (fun q1 => ?_)
        · have hgo := hgo _ q1
          rw [Bool.true_and] at hgo
          walk_at "w"
          refine bsplit (fun q2 => ?_) (fun q2 => ?_)
          · rw [q2, Bool.true_or] at hgo
            refine btrue rfl ?_
            walk_at "w"
            refine btrue rfl ?_
            walk_at "w"
            have hq := h _ I.keptAll
            rw [hend hgo] at hq
            exact hq
          · rw [q2, Bool.false_or] at hgo
            have hg2 : goalR rule = 256 ∨ goalR rule = 257 := by
              rcases goal_at ok2 with e | e | e
              · exact .inl e
              · exact .inr e
              · rw [e] at q2; cases q2
            refine hideP fun Po hPo => ?_
            obtain ⟨aR, vsR, nR, hAN, eaR, hvsR⟩ : ∃ aR vsR nR, [Value.ref a0, Value.ref a1][(goalR rule - 256).toNat]? = some (.ref aR) ∧ g aR = some (lstO vsR nR) ∧ RdAll g vsR ((reachOf r0 r1 (goalR rule)).map PyData.str) := by
              rcases hg2 with e | e
              · rw [e]; exact ⟨a0, vs0, n0, rfl, ea0, hvs0⟩
              · rw [e]; exact ⟨a1, vs1, n1, rfl, ea1, hvs1⟩
            refine hPo ?_; clear hPo Po
            generalize hAL : afterF rule word = AL at *
            generalize hRL : reachOf r0 r1 (goalR rule) = RL at *
            have havl : avs.length = AL.length := by rw [havs.1]; simp
            have hAl3 : AL.length ≤ 3 := by
              rw [← hAL]; unfold afterF thirds
              split <;> split <;> simp
            walk_at "w"
            refine k_lc cw el (by decide) rfl (by decide) r.hand ?_
            walk_at "w"
            refine ⟨_, _, _, _, _, fun j g ds => ds = ((AL.take j).filter fun one => memB one RL).map PyData.str, I, itr_list eaft4 rfl rfl, ⟨by simp, ?_, ?_⟩, ?_⟩
            · rintro j g ds hz1
              refine hideP fun Po hPo => ?_
              obtain rfl := hz1
              refine hPo ?_; clear hPo Po
              rw [sizeLine_eq, List.length_map]
              have := List.length_filter_le (fun one => memB one RL) (AL.take j)
              rw [List.length_take] at this
              (first | lia | omega)
            · rintro j v g5 ds cenv mc W2 s2 hj hvj G5 hz1 el' hmc I2
              refine hideP fun Po hPo => ?_
              obtain rfl := hz1
              refine hPo ?_; clear hPo Po
              have hmr5 : mc (Str.ofString "reach") = some (.ref ra) := (hmc _ (by decide) (by decide)).trans (by walk_at "v")
              have hmg5 : mc (Str.ofString "goal") = some (.int (goalR rule) tg) := (hmc _ (by decide) (by decide)).trans (by walk_at "v")
              refine hideP fun Po hPo => ?_
              obtain ⟨x, hxj, u, rfl⟩ := str_at havs (by simpa using hvj)
              refine hPo ?_; clear hPo Po
              refine tests_one ?_
              walk_at "w"
              refine i_list I (.inl ⟨_, G5.le _ _ (leg4 _ _ era)⟩) (by (first | lia | omega)) (by (first | lia | omega)) hAN ?_
              refine c_inL I (.inl ⟨_, G5.le _ _ (leg4 _ _ eaR)⟩) (hvsR.mono (leg4.trans G5.le)) ?_
              walk_at "w"
              refine bsplit (fun q3 => ?_) (fun q3 => ?_)
              · walk_at "w"
                refine ⟨_, _, Gr.refl _ _, .str _ _, ?_, I⟩
                rw [List.take_add_one, hxj]
                simp [q3]
              · refine ⟨_, Gr.refl _ _, ?_, I⟩
                rw [List.take_add_one, hxj]
                simp [q3]
            · rintro D g0' g5 ds s2 I2 G5 hz1 le5 hRd _
              refine hideP fun Po hPo => ?_
              obtain rfl := hz1
              refine hPo ?_; clear hPo Po
              rw [List.take_of_length_le (by rw [List.size_toArray, havl]; exact Nat.le_refl _)] at hRd
              clear I
              walk_at "w"
              refine r_newList I (by show 0 ≤ sizeLine; (first | lia | omega)) (fun Z2 s' I => ?_)
              have gZ2 := I.grPut (.head _)
              have I := I.absorb1
              refine c_neRd I (hRd.mono gZ2.le) (Rd.lst (Mp.put_self _ _ _) .nil) (canList (canStrs _ fun x hx => lw_ok (hlw x (List.mem_filter.mp hx).1))) rfl (by have h1 : (PyData.list []).depth = 1 := rfl; rw [h1]; have := r.units; (first | lia | omega)) ?_
              rw [eqv_nil, List.isEmpty_map]
              walk_at "w"
              refine bsplit (fun q3 => ?_) (fun q3 => ?_)
              · rw [q3] at hgo
                refine btrue rfl ?_
                walk_at "w"
                refine btrue rfl ?_
                walk_at "w"
                have hq := h _ I.keptAll
                rw [hend hgo] at hq
                exact hq
              · rw [q3] at hgo
                walk_at "w"
                refine bfalse rfl ?_
                refine bfalse rfl ?_
                walk_at "w"
                refine ⟨_, _, _, le2.trans (le4.trans (G5.le.trans gZ2.le)), ⟨leg4.trans (G5.le.trans gZ2.le), by walk_at "v", by walk_at "v", by walk_at "v", rfl, hstep _ hgo⟩, I⟩
        · have hgo := hgo _ q1
          rw [Bool.false_and] at hgo
          refine bfalse rfl ?_
          walk_at "w"
          refine ⟨_, _, _, le2.trans le4, ⟨leg4, by walk_at "v", by walk_at "v", by walk_at "v", rfl, hstep _ hgo⟩, I⟩
    · rintro g2 m W s' le2 hz1 I
      refine hideP fun Po hPo => ?_
      obtain ⟨leg, hmo, hmr, hmw, rfl, hno2⟩ := hz1
      refine hPo ?_; clear hPo Po
      rw [List.take_of_length_le (by rw [List.size_toArray, hol]; exact Nat.le_refl _)] at hno2
      walk_at "w"
      have hq := h _ I.keptAll
      have : goesF own r0 r1 mine word = false := by unfold goesF; rw [hno, hno2]; rfl
      rw [this] at hq
      exact hq
end
section
open PySem PySem.W PySem.Calls
set_option Elab.async false
set_option compiler.extract_closed false
set_option maxRecDepth 100000
noncomputable def ownF (rules : List (List Int)) (st : Nat) : List (List Int) := rules.filter fun r => r.getD 0 0 == 256 + (st : Int)
noncomputable def mineR (st : Nat) (r : List Str × List Str) : List Str := if st = 0 then r.1 else r.2
noncomputable def ordF (st : Nat) (a b : List Str) : List Str × List Str := if st = 0 then (a, b) else (b, a)
/-- one word is tried -/
noncomputable def addR (rules : List (List Int)) (st : Nat) (r : List Str × List Str) (word : Str) : List Str × List Str :=
  if (!memB word (mineR st r) && goesF (ownF rules st) r.1 r.2 (mineR st r) word) = true then ordF st (mineR st r ++ [word]) (mineR (1 - st) r) else r
noncomputable def roundS (rules : List (List Int)) (words : List Str) (st : Nat) (r : List Str × List Str) : List Str × List Str := words.foldl (addR rules st) r
noncomputable def roundR (rules : List (List Int)) (words : List Str) (r : List Str × List Str) : List Str × List Str := roundS rules words 1 (roundS rules words 0 r)
noncomputable def lenR (r : List Str × List Str) : Nat := r.1.length + r.2.length
theorem mine_ord {st : Nat} (h : st = 0 ∨ st = 1) (a b : List Str) : mineR st (ordF st a b) = a ∧ mineR (1 - st) (ordF st a b) = b := by
  rcases h with rfl | rfl <;> exact ⟨rfl, rfl⟩
theorem ord_mine {st : Nat} (h : st = 0 ∨ st = 1) (r : List Str × List Str) : ordF st (mineR st r) (mineR (1 - st) r) = r := by
  rcases h with rfl | rfl <;> rfl
theorem addR_pre {rules : List (List Int)} {st : Nat} (h : st = 0 ∨ st = 1) (r : List Str × List Str) (x : Str) : r.1 <+: (addR rules st r x).1 ∧ r.2 <+: (addR rules st r x).2 := by
  unfold addR
  split
  · rcases h with rfl | rfl
    · exact ⟨List.prefix_append _ _, List.prefix_refl _⟩
    · exact ⟨List.prefix_refl _, List.prefix_append _ _⟩
  · exact ⟨List.prefix_refl _, List.prefix_refl _⟩
theorem roundS_pre {rules : List (List Int)} {st : Nat} (h : st = 0 ∨ st = 1) : ∀ (ws : List Str) (r : List Str × List Str), r.1 <+: (roundS rules ws st r).1 ∧ r.2 <+: (roundS rules ws st r).2
  | [], r => ⟨List.prefix_refl _, List.prefix_refl _⟩
  | x :: ws, r => by
    have a := addR_pre (rules := rules) h r x
    have b := roundS_pre (rules := rules) h ws (addR rules st r x)
    exact ⟨a.1.trans b.1, a.2.trans b.2⟩
theorem roundR_pre (rules : List (List Int)) (ws : List Str) (r : List Str × List Str) : r.1 <+: (roundR rules ws r).1 ∧ r.2 <+: (roundR rules ws r).2 := by
  have a := roundS_pre (rules := rules) (.inl rfl) ws r
  have b := roundS_pre (rules := rules) (.inr rfl) ws (roundS rules ws 0 r)
  exact ⟨a.1.trans b.1, a.2.trans b.2⟩
theorem roundR_stop {rules : List (List Int)} {ws : List Str} {r : List Str × List Str} (h : lenR (roundR rules ws r) ≤ lenR r) : roundR rules ws r = r := by
  refine hideP fun Po hPo => ?_
  obtain ⟨⟨a, ha⟩, ⟨b, hb⟩⟩ := roundR_pre rules ws r
  refine hPo ?_; clear hPo Po
  have h1 : (roundR rules ws r).1.length = r.1.length + a.length := by rw [← ha, List.length_append]
  have h2 : (roundR rules ws r).2.length = r.2.length + b.length := by rw [← hb, List.length_append]
  unfold lenR at h
  have e1 : a = [] := List.length_eq_zero_iff.mp (by (first | lia | omega))
  have e2 : b = [] := List.length_eq_zero_iff.mp (by (first | lia | omega))
  subst e1 e2
  rw [List.append_nil] at ha hb
  exact Prod.ext ha.symm hb.symm
theorem foldS_inv {rules : List (List Int)} {ws : List Str} {P : List Str × List Str → Prop} (hP : ∀ st r x, (st = 0 ∨ st = 1) → x ∈ ws → P r → P (addR rules st r x)) {st : Nat} (hst : st = 0 ∨ st = 1) : ∀ (l : List Str), (∀ x ∈ l, x ∈ ws) → ∀ r, P r → P (l.foldl (addR rules st) r)
  | [], _, _, h => h
  | x :: l, hl, r, h => foldS_inv hP hst l (fun y hy => hl y (.tail _ hy)) _ (hP st r x hst (hl x (.head _)) h)
theorem roundR_inv {rules : List (List Int)} {ws : List Str} {P : List Str × List Str → Prop} (hP : ∀ st r x, (st = 0 ∨ st = 1) → x ∈ ws → P r → P (addR rules st r x)) {r : List Str × List Str} (h : P r) : P (roundR rules ws r) :=
  foldS_inv hP (.inr rfl) ws (fun _ h => h) _ (foldS_inv hP (.inl rfl) ws (fun _ h => h) _ h)
theorem Inv.swap34 {g : Mp} {s₀ : Shared} {T : List Addr} {env : Env} {m : Str → Option Value} {W : List (Addr × Obj)} {s : Shared} {p q a b : Addr × Obj} (I : Inv g s₀ T env m (p :: q :: a :: b :: W) s) : Inv g s₀ T env m (p :: q :: b :: a :: W) s := by
  refine I.sub (fun x hx => ?_) ?_
  · simp only [List.mem_cons] at hx ⊢
    rcases hx with h | h | h | h | h
    · exact .inl h
    · exact .inr (.inl h)
    · exact .inr (.inr (.inr (.inl h)))
    · exact .inr (.inr (.inl h))
    · exact .inr (.inr (.inr (.inr h)))
  · have nd := I.nd
    simp only [List.pairwise_cons, List.mem_cons, forall_eq_or_imp] at nd ⊢
    refine hideP fun Po hPo => ?_
    obtain ⟨⟨h1, h2, h3, h4⟩, ⟨h5, h6, h7⟩, ⟨h8, h9⟩, h10, h11⟩ := nd
    refine hPo ?_; clear hPo Po
    exact ⟨⟨h1, h3, h2, h4⟩, ⟨h6, h5, h7⟩, ⟨Ne.symm h8, h10⟩, h9, h11⟩
inductive RJ3 (s : Shared) (g g3 : Mp) (rules : List (List Int)) (words : List Str) (st : Nat) (rr : List Str × List Str) (rO : List Str) (ra wa K A0 A1 AN AO dO : Addr) (kK : Nat) (vsO : List Value) (nO : Nat) (sz : Int) (tz tS : Tok) (It : Addr × Obj) (i : Nat) (g' : Mp) (m : Str → Option Value) (W : List (Addr × Obj)) : Prop
  | mk (rN : List Str) (vs : List Value) (n : Nat) (h0 : g3 = g') (h1 : m (Str.ofString "rules") = some (.ref ra)) (h2 : m (Str.ofString "words") = some (.ref wa)) (h3 : m (Str.ofString "reach") = some (.ref K)) (h4 : m (Str.ofString "size") = some (.int sz tz)) (h5 : m (Str.ofString "state") = some (.int st tS)) (h6 : m (Str.ofString "own") = some (.ref dO))
      (h7 : W = [It, (K, lstO [.ref A0, .ref A1] kK), (AN, lstO vs n), (AO, lstO vsO nO)]) (h8 : RdAll (fun _ => none) vs (rN.map PyData.str)) (h9 : ordF st rN rO = (words.take i).foldl (addR rules st) rr) : RJ3 s g g3 rules words st rr rO ra wa K A0 A1 AN AO dO kK vsO nO sz tz tS It i g' m W
noncomputable abbrev l124 : List (Str × NameKind) := [(Str.ofString "rules", .local), (Str.ofString "words", .local), (Str.ofString "reach", .local), (Str.ofString "size", .local), (Str.ofString "state", .cell), (Str.ofString "own", .local), (Str.ofString "word", .local), (Str.ofString "len", .globalImplicit), (Str.ofString "_law_goes", .globalImplicit)]
theorem f124b (w : World) (a b : Value) : bindArgs (fd1 w 124) ⟨[a, b], []⟩ = pure ([Str.ofString "rules", Str.ofString "words"].zip [a, b]) := by kernel_rfl
inductive RJ1 (s : Shared) (g : Mp) (rules : List (List Int)) (words : List Str) (P : List Str × List Str → Prop) (ra wa K A0 A1 : Addr) (kk : Nat) (g' : Mp) (m : Str → Option Value) (W : List (Addr × Obj)) : Prop
  | mk (r : List Str × List Str) (vs0 vs1 : List Value) (n0 n1 : Nat) (sz : Int) (tz : Tok) (h0 : Gr s g g') (h1 : m (Str.ofString "rules") = some (.ref ra)) (h2 : m (Str.ofString "words") = some (.ref wa)) (h3 : m (Str.ofString "reach") = some (.ref K)) (h4 : m (Str.ofString "size") = some (.int sz tz))
      (h7 : W = [(K, lstO [.ref A0, .ref A1] 0), (A0, lstO vs0 n0), (A1, lstO vs1 n1)]) (h8 : RdAll (fun _ => none) vs0 (r.1.map PyData.str)) (h9 : RdAll (fun _ => none) vs1 (r.2.map PyData.str)) (hp : P r)
      (h10 : sz = -1 ∨ ∃ rp, P rp ∧ r = roundR rules words rp ∧ sz = (lenR rp : Int)) (h11 : kk = (17 - sz).toNat) : RJ1 s g rules words P ra wa K A0 A1 kk g' m W
inductive RJ2 (s : Shared) (g : Mp) (rules : List (List Int)) (words : List Str) (rr : List Str × List Str) (ra wa K A0 A1 : Addr) (sz : Int) (tz : Tok) (i : Nat) (g' : Mp) (m : Str → Option Value) (W : List (Addr × Obj)) : Prop
  | mk (r : List Str × List Str) (vs0 vs1 : List Value) (n0 n1 : Nat) (h0 : Gr s g g') (h1 : m (Str.ofString "rules") = some (.ref ra)) (h2 : m (Str.ofString "words") = some (.ref wa)) (h3 : m (Str.ofString "reach") = some (.ref K)) (h4 : m (Str.ofString "size") = some (.int sz tz))
      (h7 : W = [(K, lstO [.ref A0, .ref A1] 0), (A0, lstO vs0 n0), (A1, lstO vs1 n1)]) (h8 : RdAll (fun _ => none) vs0 (r.1.map PyData.str)) (h9 : RdAll (fun _ => none) vs1 (r.2.map PyData.str))
      (h10 : r = (List.range i).foldl (fun r st => roundS rules words st r) rr) : RJ2 s g rules words rr ra wa K A0 A1 sz tz i g' m W
set_option maxHeartbeats 4000000 in
theorem c_reached {w : World} {A : Around} {s : Shared} {g : Mp} {Q : Value → Shared → Prop} {rules : List (List Int)} {words : List Str} {vr vw : Value} {P : List Str × List Str → Prop} (r : Room A 3) (b : Bs (K1 w) g) (hg : ∀ a o, g a = some o → s.heap.get? a = some o)
    (hr : Rd g vr (.list (rules.map fun c => PyData.list (c.map PyData.int)))) (okr : ∀ r ∈ rules, Rok r) (hlr : rules.length ≤ 8) (hw : Rd g vw (.list (words.map PyData.str))) (okw : ∀ x ∈ words, x.length ≤ 2 ∧ Lw x) (hlw : words.length ≤ 8)
    (p0 : P ([], [])) (pP : ∀ st r x, (st = 0 ∨ st = 1) → x ∈ words → P r → P (addR rules st r x)) (pl : ∀ r, P r → r.1.length ≤ 8 ∧ r.2.length ≤ 8)
    (h : ∀ D g' s' rc, Got g s g' s' → Rd g' (.ref D) (.list [.list (rc.1.map PyData.str), .list (rc.2.map PyData.str)]) → P rc → roundR rules words rc = rc → Q (.ref D) s') : codeAny (model pr1 w) A (.call (.ref 124) ⟨[vr, vw], []⟩) (RV Q) s := by
  have F : Fn (K1 w) 124 (fd1 w 124) l124 [Str.ofString "rules", Str.ofString "words"] _ := ⟨by kernel_rfl, by kernel_rfl, by rfl, by kernel_rfl, by kernel_rfl, by kernel_rfl, by kernel_rfl, by kernel_rfl, by kernel_rfl, by kernel_rfl, by decide⟩
  refine hideP fun Po hPo => ?_
  obtain ⟨ra, rvs, rn, rfl, era, hrvs⟩ := hr.unlist
  obtain ⟨wa, wvs, wn, rfl, ewa, hwvs⟩ := hw.unlist
  refine hPo ?_; clear hPo Po
  have hrl : rvs.length = rules.length := by rw [hrvs.1]; simp
  have hwl : wvs.length = words.length := by rw [hwvs.1]; simp
  refine r_defA F r b hg rfl (f124b w _ _) ?_
  clear F
  intro env s₁ el _ _ r I cw
  conv in (fB _) => whnf
  generalize A.deeper env = A1 at r ⊢
  walk_at "w"
  refine r_newList I (by show 0 ≤ sizeLine; (first | lia | omega)) (fun A0 s' I => ?_)
  walk_at "w"
  refine r_newList I (by show 0 ≤ sizeLine; (first | lia | omega)) (fun A1 s' I => ?_)
  walk_at "w"
  refine r_newList I (by show 2 ≤ sizeLine; rw [sizeLine_eq]; decide) (fun K s' I => ?_)
  walk_at "w"
  have I := I.swap23
  refine r_while (s₀ := s) (T := []) (fun kk g' m W => RJ1 s g rules words P ra wa K A0 A1 kk g' m W) 18 I ⟨([], []), [], [], 0, 0, -1, _, Gr.refl _ _, by walk_at "v", by walk_at "v", by walk_at "v", by walk_at "v", rfl, .nil, .nil, p0, .inl rfl, rfl⟩ ?_
  clear I
  rintro kk g' m W s' hz1 I
  refine hideP fun Po hPo => ?_
  obtain ⟨rc, vs0, vs1, n0, n1, sz, tz, G, hmr, hmw, hmk, hms, rfl, hv0, hv1, hp, hsz, rfl⟩ := hz1
  refine hPo ?_; clear hPo Po
  refine hideW fun Qo1 Po1 hQ1 hP1 => ?_
  have l0 : vs0.length = rc.1.length := by rw [hv0.1]; simp
  have l1 : vs1.length = rc.2.length := by rw [hv1.1]; simp
  obtain ⟨b0, b1⟩ := pl rc hp
  have b0' := b
  have b := b.mono G.le
  walk_at "w"
  refine i_list I (.inr ⟨_, .head _⟩) (by decide) (by decide) (by rfl) ?_
  walk_at "w"
  refine r_lenL I (.inr ⟨_, .tail _ (.head _)⟩) (by (first | lia | omega)) (fun t s' I => ?_)
  walk_at "w"
  refine i_list I (.inr ⟨_, .head _⟩) (by decide) (by decide) (by rfl) ?_
  walk_at "w"
  refine r_lenL I (.inr ⟨_, .tail _ (.tail _ (.head _))⟩) (by (first | lia | omega)) (fun t s' I => ?_)
  walk_at "w"
  rw [l0, l1]
  refine bsplit (fun q1 => ?_) (fun q1 => ?_)
  rotate_left
  · have q1 := of_decide_eq_false q1
    have hst : roundR rules words rc = rc := by
      rcases hsz with e | ⟨rp, hrp, e1, e2⟩
      · exfalso; (first | lia | omega)
      · have : roundR rules words rp = rp := roundR_stop (by rw [← e1]; unfold lenR at e2 ⊢; (first | lia | omega))
        rw [this] at e1
        rw [e1]; exact this
    walk_at "w"
    have I := I.swap12
    have G1 := I.grPut (.head _)
    have I := I.absorb1.swap12
    have G2 := I.grPut (.head _)
    have I := I.absorb1
    have G3 := I.grPut (.head _)
    have I := I.absorb1
    refine h K _ _ rc (I.leave (G.trans (G1.trans (G2.trans G3)))) (Rd.lst (Mp.put_self _ _ _) (.cons (Rd.lst (G3.le _ _ (G2.le _ _ (Mp.put_self _ _ _))) (hv0.mono fun _ _ h => by cases h)) (.cons (Rd.lst (G3.le _ _ (Mp.put_self _ _ _)) (hv1.mono fun _ _ h => by cases h)) .nil))) hp hst
  · have q1 := of_decide_eq_true q1
    walk_at "w"
    refine i_list I (.inr ⟨_, .head _⟩) (by decide) (by decide) (by rfl) ?_
    walk_at "w"
    refine r_lenL I (.inr ⟨_, .tail _ (.head _)⟩) (by (first | lia | omega)) (fun t s' I => ?_)
    walk_at "w"
    refine i_list I (.inr ⟨_, .head _⟩) (by decide) (by decide) (by rfl) ?_
    walk_at "w"
    refine r_lenL I (.inr ⟨_, .tail _ (.tail _ (.head _))⟩) (by (first | lia | omega)) (fun t s' I => ?_)
    walk_at "w"
    rw [l0, l1] at I
    refine r_forE cw r.hand ?_
    walk_at "w"
    refine r_newTuple I (by show 2 ≤ sizeLine; rw [sizeLine_eq]; decide) (fun Tp s' I => ?_)
    have gT := I.grPut (.head _)
    have I := I.absorb1
    refine ⟨_, _, fun i g' m W => RJ2 s g rules words rc ra wa K A0 A1 ((rc.1.length : Int) + (rc.2.length : Int)) _ i g' m W, _, _, _, I, itr_tuple (Mp.put_self _ _ _) rfl rfl, ⟨rc, vs0, vs1, n0, n1, G.trans gT, by walk_at "v", by walk_at "v", by walk_at "v", by walk_at "v", rfl, hv0, hv1, rfl⟩, ?_, ?_⟩
    · clear hmr hmw hmk hms l0 l1 hv0 hv1 I
      rintro i v g2 m W It s' hi hvi le2 hz1 I
      refine hideP fun Po hPo => ?_
      obtain ⟨rr, vs0, vs1, n0, n1, G2, hmr, hmw, hmk, hms, rfl, hv0, hv1, hrr⟩ := hz1
      refine hPo ?_; clear hPo Po
      refine hideT fun Qo2 hQ2 => ?_
      have hi2 : i = 0 ∨ i = 1 := by
        have : i < 2 := hi
        (first | lia | omega)
      refine hideP fun Po hPo => ?_
      obtain ⟨tS, rfl⟩ : ∃ tS, v = .int (i : Int) tS := by
        rcases hi2 with rfl | rfl
        · exact ⟨_, (Option.some.inj hvi).symm⟩
        · exact ⟨_, (Option.some.inj hvi).symm⟩
      obtain ⟨AN, AO, vN, nN, vO, nO, hA, I, hN, hO⟩ : ∃ AN AO vN nN vO nO, ((i = 0 ∧ A0 = AN ∧ A1 = AO) ∨ (i = 1 ∧ A0 = AO ∧ A1 = AN)) ∧ Inv g2 s [] env m [It, (K, lstO [.ref A0, .ref A1] 0), (AN, lstO vN nN), (AO, lstO vO nO)] s' ∧ RdAll (fun _ => none) vN ((mineR i rr).map PyData.str) ∧ RdAll (fun _ => none) vO ((mineR (1 - i) rr).map PyData.str) := by
        rcases hi2 with rfl | rfl
        · exact ⟨A0, A1, vs0, n0, vs1, n1, .inl ⟨rfl, rfl, rfl⟩, I, hv0, hv1⟩
        · exact ⟨A1, A0, vs1, n1, vs0, n0, .inr ⟨rfl, rfl, rfl⟩, I.swap34, hv1, hv0⟩
      refine hPo ?_; clear hPo Po
      have hKN : [Value.ref A0, Value.ref A1][((i : Nat) : Int).toNat]? = some (.ref AN) := by
        rcases hA with ⟨rfl, rfl, rfl⟩ | ⟨rfl, rfl, rfl⟩ <;> rfl
      clear hv0 hv1
      have hPrr : P rr := by
        rw [hrr]
        rcases hi2 with rfl | rfl
        · exact hp
        · exact foldS_inv pP (.inl rfl) words (fun _ h => h) _ hp
      have b := b0'.mono G2.le
      refine r_target (n_store el cw I (by decide) fun s' I => ?_)
      refine x_cons ?_
      refine k_lcA ((swaps_eq el I.eo.fk _ _ _ _).trans (by kernel_rfl)) cw el (by decide) rfl (by decide) (by decide) r.hand ?_
      walk_at "w"
      refine ⟨_, _, _, _, _, fun j g ds => ds = ((rules.take j).filter fun r => r.getD 0 0 == 256 + (i : Int)).map fun c => PyData.list (c.map PyData.int), I, itr_list (G2.le _ _ era) rfl rfl, ⟨by simp, ?_, ?_⟩, ?_⟩
      · rintro j g ds hz1
        refine hideP fun Po hPo => ?_
        obtain rfl := hz1
        refine hPo ?_; clear hPo Po
        rw [sizeLine_eq, List.length_map]
        have := List.length_filter_le (fun r => r.getD 0 0 == 256 + (i : Int)) (rules.take j)
        rw [List.length_take] at this
        (first | lia | omega)
      · rintro j v g5 ds cenv mc W2 s2 hj hvj G5 hz1 el' hmc I2
        refine hideP fun Po hPo => ?_
        obtain rfl := hz1
        refine hPo ?_; clear hPo Po
        have hms5 : mc (Str.ofString "state") = some (.int (i : Int) tS) := (hmc _ (by decide) (by decide)).trans (by walk_at "v")
        have hvj' : rvs[j]? = some v := by simpa using hvj
        refine hideP fun Po hPo => ?_
        obtain ⟨d, hd1, hd2⟩ := hrvs.get hvj'
        refine hPo ?_; clear hPo Po
        rw [List.getElem?_map] at hd1
        refine hideP fun Po hPo => ?_
        obtain ⟨rule, hri, rfl⟩ := Option.map_eq_some_iff.mp hd1
        obtain ⟨ua, uvs, un, rfl, eua, huvs⟩ := hd2.unlist
        obtain ⟨sN, aN, bN, rfl, hsN, hab⟩ := okr rule (List.mem_of_getElem? hri)
        obtain ⟨tu1, tu2, tu3, rfl⟩ := ints3 huvs
        refine hPo ?_; clear hPo Po
        have eua5 := G5.le _ _ (G2.le _ _ eua)
        refine tests_one ?_
        walk_at "w"
        refine i_list I (.inl ⟨_, eua5⟩) (by decide) (by decide) (by rfl) ?_
        walk_at "w"
        refine bsplit (fun q3 => ?_) (fun q3 => ?_)
        · walk_at "w"
          refine ⟨_, _, Gr.refl _ _, Rd.lst eua5 (.cons (.int _ _) (.cons (.int _ _) (.cons (.int _ _) .nil))), ?_, I⟩
          rw [List.take_add_one, hri]
          simp [q3]
        · refine ⟨_, Gr.refl _ _, ?_, I⟩
          rw [List.take_add_one, hri]
          simp [q3]
      · rintro dO g0' g5 ds s2 I2 hz1 hz2 le5 hRo _
        refine hideP fun Po hPo => ?_
        obtain ⟨s3, G5⟩ := hz1
        obtain rfl := hz2
        refine hPo ?_; clear hPo Po
        rw [List.take_of_length_le (by rw [List.size_toArray, hrl]; exact Nat.le_refl _)] at hRo
        have Gg := I.gr0 G5
        clear I
        have b := b0'.mono (G2.le.trans Gg.le)
        have ewa5 := Gg.le _ _ (G2.le _ _ ewa)
        refine hideP fun Po hPo => ?_
        obtain ⟨dO', ovs, on, e1, eO, hovs⟩ := hRo.unlist
        cases e1
        refine hPo ?_; clear hPo Po
        walk_at "w"
        refine r_forE cw r.hand ?_
        walk_at "w"
        refine ⟨_, _, fun j g' m W => RJ3 s g g5 rules words i rr (mineR (1 - i) rr) ra wa K A0 A1 AN AO dO 0 vO nO ((rc.1.length : Int) + (rc.2.length : Int)) _ tS It j g' m W, _, _, _, I, itr_list ewa5 rfl rfl, ⟨mineR i rr, vN, nN, rfl, by walk_at "v", by walk_at "v", by walk_at "v", by walk_at "v", by walk_at "v", by walk_at "v", rfl, hN, ord_mine hi2 rr⟩, ?_, ?_⟩
        · clear hN hmr hmw hmk hms I
          rintro j v g6 m W It2 s' hj hvj le6 hz1 I
          refine hideP fun Po hPo => ?_
          obtain ⟨rN, vs, n, rfl, hmr, hmw, hmk, hms, hmst, hmo, rfl, hvs, hord⟩ := hz1
          refine hPo ?_; clear hPo Po
          refine hideT fun Qo3 hQ3 => ?_
          refine hideP fun Po hPo => ?_
          obtain ⟨x, hxj, u, rfl⟩ := str_at hwvs hvj
          refine hPo ?_; clear hPo Po
          have okx := okw x (List.mem_of_getElem? hxj)
          have hstep : (words.take (j + 1)).foldl (addR rules i) rr = addR rules i (ordF i rN (mineR (1 - i) rr)) x := by
            rw [List.take_add_one, hxj, List.foldl_append, hord]; rfl
          obtain ⟨mo1, mo2⟩ := mine_ord hi2 rN (mineR (1 - i) rr)
          generalize hrO : mineR (1 - i) rr = rO at *
          have hPo : P (ordF i rN rO) := by rw [hord]; exact foldS_inv pP hi2 _ (fun y hy => List.mem_of_mem_take hy) _ hPrr
          have hbnd : vs.length ≤ 8 := by
            have h1 : vs.length = rN.length := by rw [hvs.1]; simp
            have h2 := pl _ hPo
            rw [h1]
            rcases hi2 with rfl | rfl
            · exact h2.1
            · exact h2.2
          refine r_target (n_store el cw I (by decide) fun s' I => ?_)
          refine x_cons (k_if (k_and (k_test ?_)))
          walk_at "w"
          refine i_list I (.inr ⟨_, .tail _ (.tail _ (.head _))⟩) (by (first | lia | omega)) (by (first | lia | omega)) hKN ?_
          refine c_ninL I (.inr ⟨_, .tail _ (.tail _ (.tail _ (.head _)))⟩) (hvs.mono (g' := g5) fun _ _ h => by cases h) ?_
          walk_at "w"
          refine bsplit (fun q3 => ?_) (fun q3 => ?_)
          · walk_at "w"
            refine k_fn (o := fo w 119) (fd := fd1 w 119) rfl ?_
            walk_at "w"
            refine i_list I (.inr ⟨_, .tail _ (.tail _ (.head _))⟩) (by (first | lia | omega)) (by (first | lia | omega)) hKN ?_
            walk_at "w"
            have J1 := I.tail.tail.swap12
            have leA : g5.Le (g5.put AN (lstO vs n)) := Mp.le_put (J1.offW _ (.head _)).1
            have J2 := J1.absorb1.swap12
            have leB : (g5.put AN (lstO vs n)).Le ((g5.put AN (lstO vs n)).put AO (lstO vO nO)) := Mp.le_put (J2.offW _ (.head _)).1
            have J3 := J2.absorb1
            have leC : ((g5.put AN (lstO vs n)).put AO (lstO vO nO)).Le (((g5.put AN (lstO vs n)).put AO (lstO vO nO)).put K (lstO [.ref A0, .ref A1] 0)) := Mp.le_put (J3.offW _ (.head _)).1
            have J4 := J3.absorb1
            have rN' := (Rd.lst (leB _ _ (Mp.put_self g5 AN (lstO vs n))) (hvs.mono fun _ _ h => by cases h)).mono leC
            have rO' := (Rd.lst (Mp.put_self (g5.put AN (lstO vs n)) AO (lstO vO nO)) (hO.mono fun _ _ h => by cases h)).mono leC
            have rK : Rd (((g5.put AN (lstO vs n)).put AO (lstO vO nO)).put K (lstO [.ref A0, .ref A1] 0)) (.ref K) (.list [.list ((ordF i rN rO).1.map PyData.str), .list ((ordF i rN rO).2.map PyData.str)]) := by
              refine Rd.lst (Mp.put_self _ _ _) ?_
              rcases hA with ⟨rfl, rfl, rfl⟩ | ⟨rfl, rfl, rfl⟩
              · exact .cons rN' (.cons rO' .nil)
              · exact .cons rO' (.cons rN' .nil)
            have leX := leA.trans (leB.trans leC)
            have rOwn := (Rd.lst eO hovs).mono leX
            generalize ((g5.put AN (lstO vs n)).put AO (lstO vO nO)).put K (lstO [.ref A0, .ref A1] 0) = gX at *
            refine ⟨I.keep _ _ (b.k _ _ (ko119 w)), c_goes (own := ownF rules i) (r.less (by decide)) (b.mono leX) J4.keep rOwn (fun r hr => okr r (List.mem_filter.mp hr).1) rK rN' okx.1 okx.2 (fun s' k => ?_)⟩
            have I := I.keeps k
            clear J1 J2 J3 J4 leA leB leC rN' rO' rK leX rOwn k
            have hadd : ∀ b1 b2, (!memB x rN) = b1 → goesF (ownF rules i) (ordF i rN rO).1 (ordF i rN rO).2 rN x = b2 → addR rules i (ordF i rN rO) x = if (b1 && b2) = true then ordF i (rN ++ [x]) rO else ordF i rN rO := fun b1 b2 h1 h2 => by
              unfold addR
              rw [mo1, mo2, h1, h2]
            walk_at "w"
            refine bsplit (fun q4 => ?_) (fun q4 => ?_)
            · have hadd := hadd _ _ q3 q4
              walk_at "w"
              refine btrue rfl ?_
              walk_at "w"
              refine i_list I (.inr ⟨_, .tail _ (.tail _ (.head _))⟩) (by (first | lia | omega)) (by (first | lia | omega)) hKN ?_
              refine mth_append I (.inr ⟨_, .tail _ (.tail _ (.tail _ (.head _)))⟩) ?_
              walk_at "w"
              refine r_append I (.tail (.tail (.tail .head))) (by rw [sizeLine_eq]; (first | lia | omega)) (fun s' I => ⟨rfl, ?_⟩)
              walk_at "w"
              refine ⟨_, _, _, le6, ⟨rN ++ [x], vs ++ [.str x u], _, rfl, by walk_at "v", by walk_at "v", by walk_at "v", by walk_at "v", by walk_at "v", by walk_at "v", rfl, ?_, ?_⟩, I⟩
              · rw [List.map_append]; exact hvs.append (.cons (.str _ _) .nil)
              · rw [hstep, hadd]; rfl
            · have hadd := hadd _ _ q3 q4
              refine bfalse rfl ?_
              walk_at "w"
              refine ⟨_, _, _, le6, ⟨rN, vs, n, rfl, by walk_at "v", by walk_at "v", by walk_at "v", by walk_at "v", by walk_at "v", by walk_at "v", rfl, hvs, ?_⟩, I⟩
              rw [hstep, hadd]; rfl
          · refine bfalse rfl ?_
            walk_at "w"
            refine ⟨_, _, _, le6, ⟨rN, vs, n, rfl, by walk_at "v", by walk_at "v", by walk_at "v", by walk_at "v", by walk_at "v", by walk_at "v", rfl, hvs, ?_⟩, I⟩
            rw [hstep]
            unfold addR
            rw [mo1, q3]; rfl
        · rintro g6 m W s' le6 hz1 I9
          refine hideP fun Po hPo => ?_
          obtain ⟨rN, vs, n, rfl, hmr, hmw, hmk, hms, hmst, hmo, rfl, hvs, hord⟩ := hz1
          refine hPo ?_; clear hPo Po
          clear I
          rw [List.take_of_length_le (by rw [List.size_toArray, hwl]; exact Nat.le_refl _)] at hord
          repeat walk_at "s"
          have hfin : (List.range (i + 1)).foldl (fun r st => roundS rules words st r) rc = ordF i rN (mineR (1 - i) rr) := by
            rw [List.range_succ, List.foldl_append, ← hrr, hord]; rfl
          rcases hA with ⟨rfl, rfl, rfl⟩ | ⟨rfl, rfl, rfl⟩
          · exact ⟨_, _, _, le2.trans (Gg.le.trans le6), ⟨(rN, mineR 1 rr), vs, vO, n, nO, G2.trans Gg, hmr, hmw, hmk, hms, rfl, hvs, hO, hfin.symm⟩, I9⟩
          · exact ⟨_, _, _, le2.trans (Gg.le.trans le6), ⟨(mineR 0 rr, rN), vO, vs, nO, n, G2.trans Gg, hmr, hmw, hmk, hms, rfl, hO, hvs, hfin.symm⟩, I9.swap34⟩
    · rintro g2 m W s' le2 hz1 I
      refine hideP fun Po hPo => ?_
      obtain ⟨rr, vs0', vs1', n0', n1', G2, hmr, hmw, hmk, hms, rfl, hv0', hv1', hrr⟩ := hz1
      refine hPo ?_; clear hPo Po
      walk_at "w"
      refine ⟨_, _, _, _, ?_, ⟨rr, vs0', vs1', n0', n1', _, _, G2, hmr, hmw, hmk, hms, rfl, hv0', hv1', ?_, .inr ⟨rc, hp, hrr, ?_⟩, rfl⟩, I⟩
      · (first | lia | omega)
      · have e : rr = roundR rules words rc := hrr
        rw [e]; exact roundR_inv pP hp
      · unfold lenR; (first | lia | omega)
end
section
open PySem PySem.W PySem.Calls
set_option Elab.async false
set_option compiler.extract_closed false
set_option maxRecDepth 100000
theorem Sel.again {a : Addr} {o : Obj} {W : List (Addr × Obj)} {f : Obj → List (Addr × Obj)} (h : Sel a o W f) (o' : Obj) : Sel a o' (f o') f := by
  induction h with
  | head => exact .head
  | tail _ ih => exact .tail ih
theorem Sel.self {a : Addr} {o : Obj} {W : List (Addr × Obj)} {f : Obj → List (Addr × Obj)} (h : Sel a o W f) : f o = W := by
  induction h with
  | head => rfl
  | tail _ ih => exact congrArg (List.cons _) ih
section
variable {w : World} {A : Around} {E : Value → Shared → Prop} {gb g : Mp} {s₀ : Shared} {T : List Addr} {env : Env} {m : Str → Option Value} {W : List (Addr × Obj)} {s : Shared} {a : MA} {text : Str} {n kp : Nat} {ln : Int} {es : List DictEntry} {f : Obj → List (Addr × Obj)}
theorem L_pt {Q : Value → Shared → Prop} {vs : List Value} {v : Value} (r : Room A 1) (b : Bs (K1 w) gb) (M : MC w gb g a text) (I : Inv g s₀ T env m W s) (S : Sel a.Pb (lstO vs kp) W f) (hdx : (a.dx, dictOf es n) ∈ W) (he : Ent a ln es) (hl : vs.length < 2 ^ 22)
    (h : ∀ k' s', Inv g s₀ T env m (f (lstO (vs ++ [v]) k')) s' → Q .none s') : codeAny (model pr1 w) A (.call (.ref 56) ⟨[.ref a.x, v], []⟩) (RV Q) s :=
  c_pt r b M I.keep (I.led _ hdx) he (I.led _ S.mem) (I.offW _ S.mem).1 hl fun k' s' hk hs hp => by
    refine hideP fun Po hPo => ?_
    obtain ⟨h', tk, rfl⟩ := hs
    refine hPo ?_; clear hPo Po
    exact h k' _ (I.chg S (fun b ob hb e => hk b ob e (by simpa using hb)) hp)
theorem L_gt1 {Q : Value → Shared → Prop} {vs : List Value} {v : Value} (r : Room A 1) (b : Bs (K1 w) gb) (M : MC w gb g a text) (I : Inv g s₀ T env m W s) (S : Sel a.Pb (lstO (v :: vs) kp) W f) (hdx : (a.dx, dictOf es n) ∈ W) (he : Ent a ln es) (hl : vs.length < 2 ^ 22)
    (h : ∀ k' s', Inv g s₀ T env m (f (lstO vs k')) s' → Q v s') : codeAny (model pr1 w) A (.call (.ref 49) ⟨[.ref a.x], []⟩) (RV Q) s :=
  c_gt1 r b M I.keep (I.led _ hdx) he (I.led _ S.mem) (I.offW _ S.mem).1 hl fun k' s' hk hs hp => by
    refine hideP fun Po hPo => ?_
    obtain ⟨h', tk, rfl⟩ := hs
    refine hPo ?_; clear hPo Po
    exact h k' _ (I.chg S (fun b ob hb e => hk b ob e (by simpa using hb)) hp)
end
theorem Inv.grFresh {g : Mp} {s₀ : Shared} {T : List Addr} {env : Env} {m : Str → Option Value} {W : List (Addr × Obj)} {s : Shared} (I : Inv g s₀ T env m W s) (hT : ∀ a ∈ T, ∃ o, s.heap.get? a = some o) {a : Addr} {o : Obj} (h0 : s.heap.get? a = none) : Gr s₀ g (g.put a o) := by
  refine ⟨Mp.le_put ?_, fun b ob e => ?_⟩
  · cases e : g a with
    | none => rfl
    | some o' => rw [I.keep _ _ e] at h0; cases h0
  · unfold Mp.put at e
    split at e
    · rename_i q; subst q; exact .inr (I.gone hT h0)
    · exact .inl e
theorem k_fnM {M : Model} {A : Around} {E : Value → Shared → Prop} {s : Shared} {env : Env} {pos : Pos} {f : Addr} {o : Obj} {fd : FuncData} {first : List Value} {e : PySem.Expr} {rest : List PySem.Expr} {Q : Value → Shared → Prop} (hdat : o.data = .func fd)
    (h : wpAny M A (spliced (backTo pos (starEach (e :: rest) env))) (fun vs s₁ => s₁.heap.get? f = some o ∧ wpAny M A (call (.ref f) (first ++ vs)) Q E s₁) E s)
    (he : starEach (e :: rest) env = (false, eval e env) :: starEach rest env := by rfl) :
    wpAny M A (callWith pos (.ref f) first (backTo pos (starEach (e :: rest) env)) []) Q E s := by
  rw [he] at h ⊢
  exact Calls.callWith_function (o := o) (fd := fd) (Calls.evalArgs_plain (wpAny_mono h (fun vs s₁ h₁ => ⟨⟨h₁.1, hdat⟩, h₁.2⟩) fun _ _ x => x))
end
section
open PySem PySem.W PySem.Calls
set_option Elab.async false
set_option compiler.extract_closed false
set_option maxRecDepth 100000
noncomputable def planL : List Nat := [48, 97, 49, 98, 50, 99, 51, 100, 52, 101]
noncomputable def planS : Str := ofL planL
theorem plan_eq : Str.ofString "0a1b2c3d4e" = planS := by decide +kernel
noncomputable def figS : Str := ofL [48, 49, 50, 51, 52]
theorem fig_eq : Str.ofString "01234" = figS := by decide +kernel
theorem plan_find : ∀ j : Fin 10, findN planS (oneS (planL.getD j 0)) 0 = (j : Nat) := by decide +kernel
theorem fig_in : ∀ j : Fin 10, Txt.contains figS (oneS (planL.getD j 0)) = decide (j.val % 2 = 0) := by decide +kernel
/-- a plan arrives -/
noncomputable def Arr (rules : List (List Int)) : List Nat → Int → List Nat → Prop
  | [], here, q => here = 258 ∧ q = []
  | c :: p, here, q => ∃ (j : Fin 10) (a b : Nat), c = planL.getD j 0 ∧ rules[j.val / 2]? = some [here, (a : Int), (b : Int)] ∧
      ((a < 256 ∧ a ≤ 22 ∧ ∃ q', q = (64 + a) :: q' ∧ Arr rules p b q') ∨ (256 ≤ a ∧ b ≤ 22 ∧ Arr rules p a (if j.val % 2 = 0 then q ++ [64 + b] else q)))
inductive AJ (rules : List (List Int)) (plan : List Nat) (gM g' : Mp) (a : MA) (ra : Addr) (es : List DictEntry) (n k : Nat) (tp : Tok) (i : Nat) (m : Str → Option Value) (W : List (Addr × Obj)) : Prop
  | mk (here : Int) (th : Tok) (q : List Nat) (pv : List Value) (kp : Nat) (h0 : gM = g') (h1 : m (Str.ofString "rules") = some (.ref ra)) (h2 : m (Str.ofString "line") = some (.ref a.x)) (h3 : m (Str.ofString "here") = some (.int here th))
      (h4 : W = [(a.dx, dictOf es n), (a.Ad, lstO [.int (0 : Nat) tp] k), (a.Pb, lstO pv kp)]) (h5 : RdAll (fun _ => none) pv ((q.map oneS).map PyData.str)) (h6 : Arr rules (plan.drop i) here q) (h7 : q.length ≤ 64 + i) : AJ rules plan gM g' a ra es n k tp i m W
noncomputable abbrev l114 : List (Str × NameKind) := [(Str.ofString "rules", .local), (Str.ofString "state", .local), (Str.ofString "word", .local), (Str.ofString "plan", .local), (Str.ofString "line", .local), (Str.ofString "letter", .local), (Str.ofString "here", .local), (Str.ofString "sign", .local), (Str.ofString "rule", .local), (Str.ofString "_law_machine", .globalImplicit), (Str.ofString "ISTERMINAL", .globalImplicit), (Str.ofString "chr", .globalImplicit)]
theorem f114b (w : World) (a b c d : Value) : bindArgs (fd1 w 114) ⟨[a, b, c, d], []⟩ = pure ([Str.ofString "rules", Str.ofString "state", Str.ofString "word", Str.ofString "plan"].zip [a, b, c, d]) := by kernel_rfl
inductive AJ0 (g11 : Mp) (ra : Addr) (a : MA) (state : Int) (t1 : Tok) (plan : Str) (t3 : Tok) (es : List DictEntry) (n k' : Nat) (tp : Tok) (word : Str) (i : Nat) (g' : Mp) (m : Str → Option Value) (W : List (Addr × Obj)) : Prop
  | mk (h0 : g11 = g') (h1 : m (Str.ofString "rules") = some (.ref ra)) (h2 : m (Str.ofString "line") = some (.ref a.x)) (h3 : m (Str.ofString "state") = some (.int state t1)) (h4 : m (Str.ofString "plan") = some (.str plan t3)) (pv : List Value) (kp : Nat)
      (h5 : W = [(a.dx, dictOf es n), (a.Ad, lstO [.int (0 : Nat) tp] k'), (a.Pb, lstO pv kp)]) (h6 : RdAll (fun _ => none) pv (((word.cps.toList.take i).map oneS).map PyData.str))
set_option maxHeartbeats 4000000 in
theorem c_arrives {w : World} {A : Around} {s : Shared} {g : Mp} {Q : Value → Shared → Prop} {rules : List (List Int)} {vr : Value} {state : Int} {word plan : Str} {t1 t2 t3 : Tok} {cc c2 : Addr} {occ : Obj} {vs : Array Value} {tq : Tok} (r : Room A 7) (b : Bs (K1 w) g) (bm : Bm g) (hg : ∀ a o, g a = some o → s.heap.get? a = some o)
    (hP : s.heap.get? 75 = some (tabObj (tab2 cc c2))) (nP : g 75 = none) (gcc : g cc = some occ) (hd : occ.data = .fields vs) (hv : vs[1]? = some (.str rdQual tq))
    (hr : Rd g vr (.list (rules.map fun c => PyData.list (c.map PyData.int)))) (hlr : rules.length ≤ 8) (hw : word.length ≤ 64) (hp : plan.length ≤ 2 ^ 20) (arr : Arr rules plan.cps.toList state word.cps.toList)
    (h : ∀ s', Keeps s s' → Q (.bool true) s') : codeAny (model pr1 w) A (.call (.ref 114) ⟨[vr, .int state t1, .str word t2, .str plan t3], []⟩) (RV Q) s := by
  have F : Fn (K1 w) 114 (fd1 w 114) l114 [Str.ofString "rules", Str.ofString "state", Str.ofString "word", Str.ofString "plan"] _ := ⟨by kernel_rfl, by kernel_rfl, by rfl, by kernel_rfl, by kernel_rfl, by kernel_rfl, by kernel_rfl, by kernel_rfl, by kernel_rfl, by kernel_rfl, by decide⟩
  refine hideP fun Po hPo => ?_
  obtain ⟨ra, rvs, rn, rfl, era, hrvs⟩ := hr.unlist
  refine hPo ?_; clear hPo Po
  refine r_defA F r b hg rfl (f114b w _ _ _ _) ?_
  clear F
  intro env s₁ el _ _ r I cw
  conv in (fB _) => whnf
  generalize A.deeper env = A1 at r ⊢
  walk_at "w"
  refine k_fn (o := fo w 80) (fd := fd1 w 80) rfl ?_
  walk_at "w"
  rw [emp_eq]
  refine ⟨I.keep _ _ (b.k _ _ (ko80 w)), of_code (c_machHit (r.less (by decide)) b bm I.keep (I.keep0 _ _ hP (by simp)) gcc hd hv nP (Nat.zero_le _) (fun a g11 es n k k' tp s' hk0 hsame M hnew hke nD nPb nA' fD fP fA he hdx hpb had => ?_))⟩
  have Iu := I.keeps (s' := s') (by obtain ⟨hh, tk, rfl⟩ := hsame; exact ⟨hh, tk, rfl, hk0⟩)
  have Ir := Iu.regrow hnew hke (let ⟨_, ⟨oL, _, _, hoL, _⟩, _⟩ := I.ns; ⟨oL, hoL⟩) (fun q hq => let ⟨oc, ho, _⟩ := I.cell q hq; ⟨oc, ho⟩) (fun p hp => nomatch hp)
  have n1 : a.Pb ≠ a.Ad := fun e => by rw [e, had] at hpb; injection hpb with hpb; injection hpb with _ _ h1 _; injection h1 with h1; exact absurd h1 (by simp)
  have n2 : a.dx ≠ a.Ad := fun e => by rw [e, had] at hdx; injection hdx with hdx; injection hdx with h1 _; injection h1 with h1; exact absurd h1 (by decide)
  have n3 : a.Pb ≠ a.dx := fun e => by rw [e, hdx] at hpb; injection hpb with hpb; injection hpb with h1 _; injection h1 with h1; exact absurd h1 (by decide)
  have I1 := Ir.fresh I (fun p hp => nomatch hp) fP hpb nPb
  have I2 := I1.fresh I (fun p hp => by rw [List.mem_singleton.mp hp]; exact .inr n1) fA had nA'
  have I3 := I2.fresh I (fun p hp => by
    simp only [List.mem_cons, List.not_mem_nil, or_false] at hp
    rcases hp with rfl | rfl
    · exact .inr (Ne.symm n2)
    · exact .inr n3) fD hdx nD
  have era := M.le _ _ era
  have bg := b.mono M.le
  clear Iu Ir I1 I2 I hnew hke hk0 hsame fP fD fA
  have I := I3
  clear I3
  refine n_store el cw I (by decide) (fun s' I => ?_)
  refine Sq.next (x_cons ?_)
  refine r_forE cw r.hand ?_
  walk_at "w"
  refine ⟨_, _, AJ0 g11 ra a state t1 plan t3 es n k' tp word, _, _, _, I, itr_str, ⟨rfl, by walk_at "v", by walk_at "v", by walk_at "v", by walk_at "v", [], k, rfl, .nil⟩, ?_, ?_⟩
  · rintro i v g' m W It s' hi hz1 le hz2 I
    refine hideP fun Po hPo => ?_
    obtain ⟨c, u, hc, rfl⟩ := hz1
    obtain ⟨rfl, hmr, hml, hms, hmp, pv, kp, rfl, hpv⟩ := hz2
    refine hPo ?_; clear hPo Po
    refine hideT fun Qo1 hQ1 => ?_
    have hc' : word.cps.toList[i]? = some c := by simpa using hc
    have hpl : pv.length ≤ 64 := by
      rw [hpv.1, List.length_map, List.length_map, List.length_take]
      have : word.cps.toList.length = word.length := by simp [Str.length]
      (first | lia | omega)
    refine r_target (n_store el cw I (by decide) fun s' I => ?_)
    refine x_cons ?_
    walk_at "w"
    refine hideP fun Po hPo => ?_
    obtain ⟨h1, h2, h3, h4, j1, j2, j3, j4, tl, tw, rfl⟩ := he
    refine hPo ?_; clear hPo Po
    refine o_meth I bg (.inl M.x) (.inr (.tail _ (.head _))) (lx_plain w _) (lx_pt w) (lx_fn w).2.2.2 gl_pt ?_
    refine PyProof.Rows.callWith_meth (h₀ := s'.heap) (o := fo w 56) (fd := fd1 w 56) rfl (I.keep _ _ (bg.k _ _ (by kernel_rfl))) (k_arg ?_)
    walk_at "w"
    refine ⟨fun _ _ e => e, ?_⟩
    refine of_code (L_pt (r.less (by decide)) b M I (.tail (.tail (.tail .head))) (.tail _ (.head _)) ⟨h1, h2, h3, h4, j1, j2, j3, j4, tl, tw, rfl⟩ (by (first | lia | omega)) (fun k2 s' I => ⟨rfl, ?_⟩))
    walk_at "w"
    refine ⟨_, _, _, le, ⟨rfl, by walk_at "v", by walk_at "v", by walk_at "v", by walk_at "v", _, k2, rfl, ?_⟩, I⟩
    rw [List.take_add_one, hc', List.map_append, List.map_append]
    exact hpv.append (.cons (.str _ _) .nil)
  · rintro g' m W s' le hz1 I9
    refine hideP fun Po hPo => ?_
    obtain ⟨rfl, hmr, hml, hms, hmp, pv, kp, rfl, hpv⟩ := hz1
    refine hPo ?_; clear hPo Po
    rw [List.take_of_length_le (by simp)] at hpv
    clear I
    have I := I9
    clear I9
    have hwq : word.cps.toList.length ≤ 64 + 0 := by
      have : word.cps.toList.length = word.length := by simp [Str.length]
      (first | lia | omega)
    walk_at "w"
    refine r_forE cw r.hand ?_
    walk_at "w"
    refine ⟨_, _, fun i g9 m W => AJ rules plan.cps.toList g11 g9 a ra es n k' tp i m W, _, _, _, I, itr_str, ⟨state, t1, word.cps.toList, pv, kp, rfl, by walk_at "v", by walk_at "v", by walk_at "v", rfl, hpv, arr, hwq⟩, ?_, ?_⟩
    · clear hmr hml hms hmp hpv I
      rintro i v g' m W It s' hi hz1 le hz2 I
      refine hideP fun Po hPo => ?_
      obtain ⟨c, u, hc, rfl⟩ := hz1
      obtain ⟨here, th, q, pv, kp, rfl, hmr, hml, hmh, rfl, hpv, harr, hql⟩ := hz2
      refine hPo ?_; clear hPo Po
      refine hideT fun Qo2 hQ2 => ?_
      have hc' : plan.cps.toList[i]? = some c := by simpa using hc
      have hil : i < 2 ^ 20 := by
        have : i < plan.length := hi
        (first | lia | omega)
      have hdrop : plan.cps.toList.drop i = c :: plan.cps.toList.drop (i + 1) := by
        obtain ⟨hlt, e⟩ := List.getElem?_eq_some_iff.mp hc'
        rw [List.drop_eq_getElem_cons hlt, e]
      rw [hdrop] at harr
      refine hideP fun Po hPo => ?_
      obtain ⟨j, aN, bN, rfl, hrj, hcase⟩ := harr
      refine hPo ?_; clear hPo Po
      have hpvl : pv.length = q.length := by rw [hpv.1]; simp
      refine hideP fun Po hPo => ?_
      obtain ⟨rv, hrv, rrv⟩ := hrvs.get' (i := j.val / 2) (d := PyData.list ([here, (aN : Int), (bN : Int)].map PyData.int)) (by rw [List.getElem?_map, hrj]; rfl)
      obtain ⟨ua, uvs, un, rfl, eua, huvs⟩ := rrv.unlist
      obtain ⟨tu1, tu2, tu3, rfl⟩ := ints3 huvs
      refine hPo ?_; clear hPo Po
      have eua := M.le _ _ eua
      refine r_target (n_store el cw I (by decide) fun s' I => ?_)
      refine x_cons ?_
      refine r_assign ?_
      walk_at "w"
      rw [plan_eq]
      refine r_find2 I (fun t s' I => ?_)
      rw [show findN planS (⟨#[planL.getD (j : Nat) 0]⟩ : Str) 0 = (((j : Nat) : Nat) : Int) from plan_find j]
      walk_at "w"
      refine r_div I (by decide) (by decide) (fun t s' I => ?_)
      rw [show (((j : Nat) : Nat) : Int).fdiv 2 = (((j : Nat) / 2 : Nat) : Int) from fdivN _ 2]
      refine i_list I (.inl ⟨_, era⟩) (by (first | lia | omega)) (by (first | lia | omega)) (by rw [Int.toNat_natCast]; exact hrv) ?_
      walk_at "w"
      refine i_list I (.inl ⟨_, eua⟩) (by decide) (by decide) (by rfl) ?_
      walk_at "w"
      refine c_neI ?_
      refine t_bool (bfalse (by simp) ?_)
      walk_at "w"
      refine k_fn (o := fo w 73) (fd := fd1 w 73) rfl ?_
      walk_at "w"
      refine i_list I (.inl ⟨_, eua⟩) (by decide) (by decide) (by rfl) ?_
      walk_at "w"
      refine ⟨I.keep _ _ (bg.k _ _ (ko73 w)), c_term (r.less (by decide)) bg I.keep (fun s' kps => ?_)⟩
      have I := I.keeps kps
      clear kps
      walk_at "w"
      refine hideP fun Po hPo => ?_
      obtain ⟨h1, h2, h3, h4, j1, j2, j3, j4, tl, tw, rfl⟩ := he
      refine hPo ?_; clear hPo Po
      rcases hcase with ⟨ha, ha2, q', rfl, harr⟩ | ⟨ha, hb2, harr⟩
      · refine btrue (decide_eq_true (by (first | lia | omega))) ?_
        refine hideP fun Po hPo => ?_
        obtain ⟨v0, pv, rfl⟩ : ∃ v0 p0, pv = v0 :: p0 := by
          cases pv with
          | nil => simp at hpvl
          | cons v0 p0 => exact ⟨v0, p0, rfl⟩
        obtain ⟨tq0, rfl⟩ := hpv.uncons.1.unstr
        refine hPo ?_; clear hPo Po
        have hpv := hpv.uncons.2
        simp only [List.length_cons] at hpvl hql
        walk_at "w"
        refine o_meth I bg (.inl M.x) (.inr (.tail _ (.head _))) (lx_plain w _) (lx_gt w) (lx_fn w).2.2.1 gl_gt ?_
        refine k_fnM0 (o := fo w 49) (fd := fd1 w 49) rfl (I.keep _ _ (bg.k _ _ (by kernel_rfl))) (of_code (L_gt1 (r.less (by decide)) b M I (.tail (.tail (.tail .head))) (.tail _ (.head _)) ⟨h1, h2, h3, h4, j1, j2, j3, j4, tl, tw, rfl⟩ (by (first | lia | omega)) (fun k2 s' I => ?_)))
        walk_at "w"
        refine i_list I (.inl ⟨_, eua⟩) (by decide) (by decide) (by rfl) ?_
        walk_at "w"
        refine b_chr I (by (first | lia | omega)) (by (first | lia | omega)) (fun t s' I => ?_)
        have e64 : (64 + (aN : Int)).toNat = 64 + aN := by (first | lia | omega)
        rw [e64]
        walk_at "w"
        refine bfalse (by simp) ?_
        walk_at "w"
        refine i_list I (.inl ⟨_, eua⟩) (by decide) (by decide) (by rfl) ?_
        walk_at "w"
        refine ⟨_, _, _, le, ⟨(bN : Int), tu3, q', pv, k2, rfl, by walk_at "v", by walk_at "v", by walk_at "v", rfl, hpv, harr, by (first | lia | omega)⟩, I⟩
      · refine bfalse (decide_eq_false (by (first | lia | omega))) ?_
        walk_at "w"
        rw [fig_eq]
        refine c_inS ?_
        rw [show Txt.contains figS (⟨#[planL.getD (j : Nat) 0]⟩ : Str) = decide ((j : Nat) % 2 = 0) from fig_in j]
        walk_at "w"
        refine bsplit (fun q1 => ?_) (fun q1 => ?_)
        · have q1 := of_decide_eq_true q1
          rw [if_pos q1] at harr
          walk_at "w"
          refine o_meth I bg (.inl M.x) (.inr (.tail _ (.head _))) (lx_plain w _) (lx_pt w) (lx_fn w).2.2.2 gl_pt ?_
          refine k_fnM (o := fo w 56) (fd := fd1 w 56) rfl (k_arg ?_)
          walk_at "w"
          refine i_list I (.inl ⟨_, eua⟩) (by decide) (by decide) (by rfl) ?_
          walk_at "w"
          refine b_chr I (by (first | lia | omega)) (by (first | lia | omega)) (fun t s' I => ?_)
          have e64 : (64 + (bN : Int)).toNat = 64 + bN := by (first | lia | omega)
          rw [e64]
          walk_at "w"
          refine ⟨I.keep _ _ (bg.k _ _ (by kernel_rfl)), ?_⟩
          refine of_code (L_pt (r.less (by decide)) b M I (.tail (.tail (.tail .head))) (.tail _ (.head _)) ⟨h1, h2, h3, h4, j1, j2, j3, j4, tl, tw, rfl⟩ (by (first | lia | omega)) (fun k2 s' I => ⟨rfl, ?_⟩))
          walk_at "w"
          refine i_list I (.inl ⟨_, eua⟩) (by decide) (by decide) (by rfl) ?_
          walk_at "w"
          refine ⟨_, _, _, le, ⟨(aN : Int), tu2, q ++ [64 + bN], _, k2, rfl, by walk_at "v", by walk_at "v", by walk_at "v", rfl, ?_, harr, by rw [List.length_append]; show _ + 1 ≤ _; (first | lia | omega)⟩, I⟩
          rw [List.map_append, List.map_append]
          exact hpv.append (.cons (.str _ _) .nil)
        · have q1 := of_decide_eq_false q1
          rw [if_neg q1] at harr
          walk_at "w"
          refine i_list I (.inl ⟨_, eua⟩) (by decide) (by decide) (by rfl) ?_
          walk_at "w"
          refine ⟨_, _, _, le, ⟨(aN : Int), tu2, q, pv, kp, rfl, by walk_at "v", by walk_at "v", by walk_at "v", rfl, hpv, harr, by (first | lia | omega)⟩, I⟩
    · rintro g9 m W s' le hz1 I9
      refine hideP fun Po hPo => ?_
      obtain ⟨here, th, q, pv, kp, rfl, hmr, hml, hmh, rfl, hpv, harr, hql⟩ := hz1
      refine hPo ?_; clear hPo Po
      clear I
      have I := I9
      clear I9
      rw [List.drop_eq_nil_iff.mpr (by simp)] at harr
      refine hideP fun Po hPo => ?_
      obtain ⟨rfl, rfl⟩ := harr
      refine hPo ?_; clear hPo Po
      have hpv0 : pv = [] := List.length_eq_zero_iff.mp (by rw [hpv.1]; rfl)
      subst hpv0
      walk_at "w"
      refine PyProof.Rows.BoolOp_and ?_
      walk_at "w"
      refine btrue (by decide) ?_
      refine PyProof.Rows.BoolOp_one ?_
      walk_at "w"
      refine hideP fun Po hPo => ?_
      obtain ⟨h1, h2, h3, h4, j1, j2, j3, j4, tl, tw, rfl⟩ := he
      refine hPo ?_; clear hPo Po
      refine o_meth I bg (.inl M.x) (.inr (.head _)) (lx_plain w _) (lx_gt w) (lx_fn w).2.2.1 gl_gt ?_
      refine k_fnM0 (o := fo w 49) (fd := fd1 w 49) rfl (I.keep _ _ (bg.k _ _ (by kernel_rfl))) (of_code (L_gt0 (r.less (by decide)) b M I ⟨h1, h2, h3, h4, j1, j2, j3, j4, tl, tw, rfl⟩ (I.led _ (.tail _ (.tail _ (.head _)))) n1 (Nat.zero_le _) (fun t p' u k2 es' n' s' I hpb' hp' hd' he' => ?_)))
      have e0 : ofL (scA (emp.cps.toList.drop 0)).1 = emp := by decide +kernel
      rw [e0]
      walk_at "w"
      rw [beq_self_eq_true]
      exact h _ I.keptAll
end
section
open PySem PySem.W PySem.Calls
set_option Elab.async false
set_option compiler.extract_closed false
set_option maxRecDepth 100000
noncomputable abbrev Fact := Nat × List Nat × List Nat
noncomputable abbrev WP := List Nat × List Nat
noncomputable def pairPD (p : WP) : PyData := .tuple [.str (ofL p.1), .str (ofL p.2)]
noncomputable def fctS (f : Fact) : Str := ofL (f.1 :: (f.2.1 ++ 32 :: f.2.2))
noncomputable def kOf (k0 k1 k2 : List WP) (N : Nat) : List WP := if N = 256 then k0 else if N = 257 then k1 else k2
noncomputable def newW (k : List WP) (w p : List Nat) : List WP := (k.filter fun one => !holdsB (ofL one.1) [ofL w]) ++ [(w, p)]
noncomputable def newK (M : Nat) (k : List WP) (N : Nat) (w p : List Nat) : List WP := if N = M then newW k w p else k
noncomputable def figL : List Nat := [48, 49, 50, 51, 52]
noncomputable def abcL : List Nat := [97, 98, 99, 100, 101]
/-- what a rule needs ahead of a fact -/
noncomputable def needF (rule : List Int) (k : Nat) (N : Nat) (w p : List Nat) : List Fact :=
  let s := (rule.getD 0 0).toNat
  let a := rule.getD 1 0
  let b := rule.getD 2 0
  if a < 256 then (if b = (N : Int) then [(s, (64 + a).toNat :: w, figL.getD k 0 :: p)] else [])
  else if a = (N : Int) then (if ofL (w.drop (w.length - 1)) = oneS (64 + b).toNat then [(s, w.take (w.length - 1), figL.getD k 0 :: p)] else [(s, w, abcL.getD k 0 :: p)])
  else []
noncomputable def needsTo (rules : List (List Int)) (n : Nat) (N : Nat) (w p : List Nat) : List Fact := (List.range n).flatMap fun k => needF (rules.getD k []) k N w p
structure KN (rules : List (List Int)) (JJ : List WP → List WP → List WP → List Fact → Prop) (μ : List WP → List WP → List WP → List Fact → Nat) : Prop where
  start : JJ [] [] [] [(258, [], [])]
  ok : ∀ k0 k1 k2 q, JJ k0 k1 k2 q → k0.length ≤ 16 ∧ k1.length ≤ 16 ∧ k2.length ≤ 16 ∧ (∀ N, ∀ x ∈ kOf k0 k1 k2 N, x.1.length ≤ 64 ∧ 46 ∉ x.1) ∧ q.length ≤ 2 ^ 20 ∧
    ∀ f ∈ q, (f.1 = 256 ∨ f.1 = 257 ∨ f.1 = 258) ∧ f.2.1.length ≤ 64 ∧ 46 ∉ f.2.1 ∧ 32 ∉ f.2.1 ∧ 32 ∉ f.2.2 ∧ f.2.2.length ≤ 2 ^ 16
  drop : ∀ k0 k1 k2 f q, JJ k0 k1 k2 (f :: q) → holdsB (ofL f.2.1) ((kOf k0 k1 k2 f.1).map fun x => ofL x.1) = true → JJ k0 k1 k2 q ∧ μ k0 k1 k2 q < μ k0 k1 k2 (f :: q)
  keep : ∀ k0 k1 k2 f q, JJ k0 k1 k2 (f :: q) → holdsB (ofL f.2.1) ((kOf k0 k1 k2 f.1).map fun x => ofL x.1) = false →
    JJ (newK 256 k0 f.1 f.2.1 f.2.2) (newK 257 k1 f.1 f.2.1 f.2.2) (newK 258 k2 f.1 f.2.1 f.2.2) (q ++ needsTo rules rules.length f.1 f.2.1 f.2.2) ∧
    μ (newK 256 k0 f.1 f.2.1 f.2.2) (newK 257 k1 f.1 f.2.1 f.2.2) (newK 258 k2 f.1 f.2.1 f.2.2) (q ++ needsTo rules rules.length f.1 f.2.1 f.2.2) < μ k0 k1 k2 (f :: q)
theorem flat_take_le {α β : Type} (f : α → List β) (l : List α) (i : Nat) : ((l.take i).flatMap f).length ≤ (l.flatMap f).length := by
  have : l.flatMap f = (l.take i).flatMap f ++ (l.drop i).flatMap f := by rw [← List.flatMap_append, List.take_append_drop]
  rw [this, List.length_append]; (first | lia | omega)
theorem flat_take_succ {α β : Type} (f : α → List β) {l : List α} {i : Nat} {x : α} (h : l[i]? = some x) : (l.take (i + 1)).flatMap f = (l.take i).flatMap f ++ f x := by
  rw [List.take_add_one, h, List.flatMap_append]; simp
section
variable {w : World} {A : Around} {E : Value → Shared → Prop} {gb g : Mp} {s₀ : Shared} {T : List Addr} {env : Env} {m : Str → Option Value} {s : Shared} {a : MA} {text : Str} {n kp k p : Nat} {tp : Tok} {ln : Int} {es : List DictEntry} {K : Addr} {oK : Obj}
theorem L_tok {Q : Value → Shared → Prop} {pv : List Value} {q : List Str} (r : Room A 5) (b : Bs (K1 w) gb) (M : MC w gb g a text) (I : Inv g s₀ T env m [(K, oK), (a.dx, dictOf es n), (a.Ad, lstO [.int p tp] k), (a.Pb, lstO pv kp)] s) (he : Ent a ln es) (hR : RdAll (fun _ => none) pv (q.map PyData.str)) (hp : p ≤ text.length) (hpd : text.cps.toList.drop p = []) (hpa : a.Pb ≠ a.Ad) (hq : q.length ≤ 2 ^ 21)
    (h : ∀ t fact q' es' n' u k' pv' kp' s', Inv g s₀ T env m [(K, oK), (a.dx, dictOf es' n'), (a.Ad, lstO [.int p u] k'), (a.Pb, lstO pv' kp')] s' → Ent a ln es' → RdAll (fun _ => none) pv' (q'.map PyData.str) → ((q = [] ∧ fact = emp ∧ q' = []) ∨ q = fact :: q') → Q (.str fact t) s') :
    codeAny (model pr1 w) A (.call (.ref 49) ⟨[.ref a.x], []⟩) (RV Q) s := by
  cases q with
  | nil =>
    have hpv : pv = [] := List.length_eq_zero_iff.mp (by rw [hR.1]; rfl)
    subst hpv
    have I2 := I.swap12.swap23
    refine L_gt0 r b M I2 he (I.led _ (.tail _ (.tail _ (.tail _ (.head _))))) hpa hp (fun t p' u k' es' n' s' I' hpb' hp' hd' he' => ?_)
    rw [hpd] at hd' he'
    have hd' : text.cps.toList.drop p' = [] := hd'
    have e1 : p' = p := by
      have l1 := List.drop_eq_nil_iff.mp hd'
      have l2 := List.drop_eq_nil_iff.mp hpd
      have : text.cps.toList.length = text.length := by simp [Str.length]
      (first | lia | omega)
    subst e1
    rw [hpd]
    rw [hpd] at he'
    have e2 : ln + nlOf [] - nlOf [] = ln := by (first | lia | omega)
    rw [e2] at he'
    exact h t emp [] es' n' u k' [] kp s' I'.swap23.swap12 he' .nil (.inl ⟨rfl, rfl, rfl⟩)
  | cons f q =>
    match pv, hR with
    | [], hR => simp [RdAll] at hR
    | v :: pv, hR =>
      refine hideP fun Po hPo => ?_
      obtain ⟨tf, rfl⟩ := hR.uncons.1.unstr
      refine hPo ?_; clear hPo Po
      have hl : pv.length = q.length := by rw [hR.uncons.2.1]; simp
      refine L_gt1 (r.less (by decide)) b M I (.tail (.tail (.tail .head))) (.tail _ (.head _)) he (by simp only [List.length_cons] at hq; (first | lia | omega)) (fun k' s' I' => ?_)
      exact h tf f q es n tp k pv k' s' I' he hR.uncons.2 (.inr rfl)
end
theorem txt_last (l : List Nat) : Txt.slice (ofL l) (some (-1)) none = ofL (l.drop (l.length - 1)) := by
  have hl : (ofL l).length = l.length := by show l.toArray.size = _; simp
  have k1 : kms_lo (some (-1 : Int)) (ofL l).length = l.length - 1 := by
    rw [hl]; unfold kms_lo; simp only [show ((-1 : Int) < 0) = True from by simp, if_true]; (first | lia | omega)
  have k2 : kms_hi none (ofL l).length = l.length := hl
  rw [txt_slice _ _ _ (by rw [k1, k2]; (first | lia | omega)), k1, k2]
  show ofL ((l.drop (l.length - 1)).take _) = _
  rw [List.take_of_length_le (by simp)]
theorem txt_init (l : List Nat) : Txt.slice (ofL l) none (some (-1)) = ofL (l.take (l.length - 1)) := by
  have hl : (ofL l).length = l.length := by show l.toArray.size = _; simp
  have k1 : kms_lo none (ofL l).length = 0 := rfl
  have k2 : kms_hi (some (-1 : Int)) (ofL l).length = l.length - 1 := by
    rw [hl]; unfold kms_hi; simp only [show ((-1 : Int) < 0) = True from by simp, if_true]; (first | lia | omega)
  rw [txt_slice _ _ _ (by rw [k1, k2]; (first | lia | omega)), k1, k2]
  show ofL ((l.drop 0).take _) = _
  rw [List.drop_zero, Nat.sub_zero]
theorem abc_eq : Str.ofString "abcde" = ofL abcL := by decide +kernel
theorem cat_le {x y : Str} (h1 : x.length ≤ 2 ^ 18) (h2 : y.length ≤ 2 ^ 18) : (x ++ y).length ≤ sizeLine := by
  rw [Str.length_append, sizeLine_eq]; (first | lia | omega)
theorem ofL_len (l : List Nat) : (ofL l).length = l.length := by show l.toArray.size = _; simp
theorem one_len (c : Nat) : (⟨#[c]⟩ : Str).length = 1 := rfl
theorem oneS_ofL (c : Nat) : oneS c = ofL [c] := rfl
inductive NJ3 (s : Shared) (g g3 : Mp) (ra K B0 B1 B2 : Addr) (kK' : Nat) (a : MA) (es : List DictEntry) (n p k : Nat) (u : Tok) (N : Nat) (wd pl : List Nat) (Z : List Fact) (g' : Mp) (m : Str → Option Value) (W : List (Addr × Obj)) : Prop
  | mk (pv' : List Value) (kp' : Nat) (tN tW tP : Tok) (h1 : Gr s g g') (h2 : g3.Le g') (h3 : m (Str.ofString "rules") = some (.ref ra)) (h4 : m (Str.ofString "machine") = some (.ref a.x)) (h5 : m (Str.ofString "kept") = some (.ref K)) (h6 : m (Str.ofString "state") = some (.int N tN)) (h7 : m (Str.ofString "word") = some (.str (ofL wd) tW)) (h8 : m (Str.ofString "plan") = some (.str (ofL pl) tP))
      (h9 : W = [(K, lstO [.ref B0, .ref B1, .ref B2] kK'), (a.dx, dictOf es n), (a.Ad, lstO [.int p u] k), (a.Pb, lstO pv' kp')]) (h10 : RdAll (fun _ => none) pv' ((Z.map fctS).map PyData.str)) : NJ3 s g g3 ra K B0 B1 B2 kK' a es n p k u N wd pl Z g' m W
inductive NJ7 (s : Shared) (g g3 : Mp) (env : Env) (ra K B0 B1 B2 : Addr) (kK' : Nat) (a : MA) (es : List DictEntry) (n p k : Nat) (u : Tok) (Z : List Fact) (fl : Flow) (s' : Shared) : Prop
  | mk (h0 : fl = Flow.next) (g' : Mp) (m' : Str → Option Value) (pv' : List Value) (kp' : Nat) (h1 : Gr s g g') (h2 : g3.Le g') (h3 : m' (Str.ofString "rules") = some (.ref ra)) (h4 : m' (Str.ofString "machine") = some (.ref a.x)) (h5 : m' (Str.ofString "kept") = some (.ref K))
      (I : Inv g' s [a.dx, a.Ad, a.Pb] env m' [(K, lstO [.ref B0, .ref B1, .ref B2] kK'), (a.dx, dictOf es n), (a.Ad, lstO [.int p u] k), (a.Pb, lstO pv' kp')] s') (h6 : RdAll (fun _ => none) pv' ((Z.map fctS).map PyData.str)) : NJ7 s g g3 env ra K B0 B1 B2 kK' a es n p k u Z fl s'
theorem needs_succ (rules : List (List Int)) (i N : Nat) (w p : List Nat) : needsTo rules (i + 1) N w p = needsTo rules i N w p ++ needF (rules.getD i []) i N w p := by
  unfold needsTo
  rw [List.range_succ, List.flatMap_append]; simp
theorem need_len (rule : List Int) (k N : Nat) (w p : List Nat) : (needF rule k N w p).length ≤ 1 := by
  unfold needF
  dsimp only
  split <;> split <;> (try split) <;> simp
theorem needs_len (rules : List (List Int)) (N : Nat) (w p : List Nat) : ∀ i, (needsTo rules i N w p).length ≤ i
  | 0 => by simp [needsTo]
  | i + 1 => by
    rw [needs_succ, List.length_append]
    have := need_len (rules.getD i []) i N w p
    have := needs_len rules N w p i
    (first | lia | omega)
theorem fig_at {i : Nat} (h : i < 5) : figS.cps[((i : Nat) : Int).toNat]? = some (figL.getD i 0) := by
  rw [Int.toNat_natCast]
  have : i = 0 ∨ i = 1 ∨ i = 2 ∨ i = 3 ∨ i = 4 := by (first | lia | omega)
  rcases this with rfl | rfl | rfl | rfl | rfl <;> rfl
theorem abc_at {i : Nat} (h : i < 5) : (ofL abcL).cps[((i : Nat) : Int).toNat]? = some (abcL.getD i 0) := by
  rw [Int.toNat_natCast]
  have : i = 0 ∨ i = 1 ∨ i = 2 ∨ i = 3 ∨ i = 4 := by (first | lia | omega)
  rcases this with rfl | rfl | rfl | rfl | rfl <;> rfl
inductive WpAt (g : Mp) (xs : List WP) (j : Nat) (v : Value) : Prop
  | mk (x : WP) (ta : Addr) (tn : Nat) (t1 t2 : Tok) (hx : xs[j]? = some x) (e : v = .ref ta) (h : g ta = some (tupO [.str (ofL x.1) t1, .str (ofL x.2) t2] tn))
theorem wp_at {g : Mp} {vs : List Value} {xs : List WP} {j : Nat} {v : Value} (h : RdAll g vs (xs.map pairPD)) (hv : vs.toArray[j]? = some v) : WpAt g xs j v := by
  have hv' : vs[j]? = some v := by simpa using hv
  refine hideP fun Po hPo => ?_
  obtain ⟨d, hd1, hd2⟩ := h.get hv'
  refine hPo ?_; clear hPo Po
  rw [List.getElem?_map] at hd1
  refine hideP fun Po hPo => ?_
  obtain ⟨x, hx, rfl⟩ := Option.map_eq_some_iff.mp hd1
  obtain ⟨ta, tvs, tn, rfl, eta, htv⟩ := hd2.untuple
  obtain ⟨a, b, rfl⟩ := len2 htv.1
  obtain ⟨t1, rfl⟩ := htv.uncons.1.unstr
  obtain ⟨t2, rfl⟩ := htv.uncons.2.uncons.1.unstr
  refine hPo ?_; clear hPo Po
  exact ⟨x, ta, tn, t1, t2, hx, rfl, eta⟩
noncomputable abbrev l107 : List (Str × NameKind) := [(Str.ofString "rules", .local), (Str.ofString "machine", .local), (Str.ofString "kept", .local), (Str.ofString "fact", .local), (Str.ofString "state", .local), (Str.ofString "word", .cell), (Str.ofString "plan", .local), (Str.ofString "mine", .local), (Str.ofString "k", .local), (Str.ofString "rule", .local), (Str.ofString "chr", .globalImplicit), (Str.ofString "NT_OFFSET", .globalImplicit), (Str.ofString "ord", .globalImplicit), (Str.ofString "_law_holds", .globalImplicit), (Str.ofString "range", .globalImplicit), (Str.ofString "len", .globalImplicit), (Str.ofString "ISTERMINAL", .globalImplicit)]
theorem f107b (w : World) (a b : Value) : bindArgs (fd1 w 107) ⟨[a, b], []⟩ = pure ([Str.ofString "rules", Str.ofString "machine"].zip [a, b]) := by kernel_rfl
inductive NJ2 (s : Shared) (g : Mp) (ra K : Addr) (a : MA) (p : Nat) (ln : Int) (JJ : List WP → List WP → List WP → List Fact → Prop) (μ : List WP → List WP → List WP → List Fact → Nat) (kk : Nat) (g' : Mp) (m : Str → Option Value) (W : List (Addr × Obj)) : Prop
  | mk (A0 A1 A2 : Addr) (k0 k1 k2 : List WP) (fact : Str) (q : List Fact) (es : List DictEntry) (n : Nat) (u : Tok) (k : Nat) (pv : List Value) (kp : Nat) (t : Tok) (kK : Nat) (h1 : Gr s g g') (h2 : m (Str.ofString "rules") = some (.ref ra)) (h3 : m (Str.ofString "machine") = some (.ref a.x)) (h4 : m (Str.ofString "kept") = some (.ref K)) (h5 : m (Str.ofString "fact") = some (.str fact t))
      (h6 : W = [(K, lstO [.ref A0, .ref A1, .ref A2] kK), (a.dx, dictOf es n), (a.Ad, lstO [.int p u] k), (a.Pb, lstO pv kp)]) (h7 : Ent a ln es) (h8 : RdAll (fun _ => none) pv ((q.map fctS).map PyData.str)) (h9 : Rd g' (.ref A0) (.list (k0.map pairPD))) (h10 : Rd g' (.ref A1) (.list (k1.map pairPD))) (h11 : Rd g' (.ref A2) (.list (k2.map pairPD)))
      (h12 : (fact = emp ∧ JJ k0 k1 k2 [] ∧ kk = 0) ∨ (∃ f, fact = fctS f ∧ JJ k0 k1 k2 (f :: q) ∧ kk = μ k0 k1 k2 (f :: q) + 1)) : NJ2 s g ra K a p ln JJ μ kk g' m W
set_option maxHeartbeats 8000000 in
theorem c_needed {w : World} {A : Around} {s : Shared} {gb g : Mp} {a : MA} {text : Str} {rules : List (List Int)} {vr : Value} {p k n kp : Nat} {tp : Tok} {ln : Int} {es : List DictEntry} {Q : Value → Shared → Prop} {JJ : List WP → List WP → List WP → List Fact → Prop} {μ : List WP → List WP → List WP → List Fact → Nat}
    (r : Room A 8) (b : Bs (K1 w) gb) (M : MC w gb g a text) (hg : ∀ a o, g a = some o → s.heap.get? a = some o) (X : KN rules JJ μ) (hvr : Rd g vr (.list (rules.map fun c => PyData.list (c.map PyData.int)))) (okr : ∀ r ∈ rules, Rok r) (hlr : rules.length = 5)
    (had : s.heap.get? a.Ad = some (lstO [.int p tp] k)) (hdx : s.heap.get? a.dx = some (dictOf es n)) (he : Ent a ln es) (hpb : s.heap.get? a.Pb = some (lstO [] kp)) (nA : g a.Ad = none) (nD : g a.dx = none) (nP : g a.Pb = none) (hp : p ≤ text.length) (hpd : text.cps.toList.drop p = []) (hpa : a.Pb ≠ a.Ad)
    (h : ∀ K g' k0 k1 k2 s', Gr s g g' → (∀ a o, g' a = some o → s'.heap.get? a = some o) → (∀ b o, s.heap.get? b = some o → b ∉ [a.dx, a.Ad, a.Pb] → s'.heap.get? b = some o) → (∃ h tk, s' = { s with heap := h, toks := tk }) → JJ k0 k1 k2 [] → Rd g' (.ref K) (.list [.list (k0.map pairPD), .list (k1.map pairPD), .list (k2.map pairPD)]) → Q (.ref K) s') :
    codeAny (model pr1 w) A (.call (.ref 107) ⟨[vr, .ref a.x], []⟩) (RV Q) s := by
  have F : Fn (K1 w) 107 (fd1 w 107) l107 [Str.ofString "rules", Str.ofString "machine"] _ := ⟨by kernel_rfl, by kernel_rfl, by rfl, by kernel_rfl, by kernel_rfl, by kernel_rfl, by kernel_rfl, by kernel_rfl, by kernel_rfl, by kernel_rfl, by decide⟩
  have bg := b.mono M.le
  refine hideP fun Po hPo => ?_
  obtain ⟨ra, rvs, rn, rfl, era, hrvs⟩ := hvr.unlist
  refine hPo ?_; clear hPo Po
  have hrl : rvs.length = rules.length := by rw [hrvs.1]; simp
  refine r_defA F r bg hg rfl (f107b w _ _) ?_
  clear F
  intro env s₁ el _ _ r I cw
  conv in (fB _) => whnf
  generalize A.deeper env = A1 at r ⊢
  have hne : a.dx ≠ a.Ad := fun e => by rw [e, had] at hdx; injection hdx with hdx; injection hdx with h1 _; injection h1 with h1; exact absurd h1 (by decide)
  have hnd : a.Pb ≠ a.dx := fun e => by rw [e, hdx] at hpb; injection hpb with hpb; injection hpb with h1 _; injection h1 with h1; exact absurd h1 (by decide)
  have cA : ∀ q ∈ env.cells, a.Ad ≠ q.2 := fun q hq e => by rcases cw q hq with h | h; exact (nomatch h); rw [← e, had] at h; cases h
  have cD : ∀ q ∈ env.cells, a.dx ≠ q.2 := fun q hq e => by rcases cw q hq with h | h; exact (nomatch h); rw [← e, hdx] at h; cases h
  have cP : ∀ q ∈ env.cells, a.Pb ≠ q.2 := fun q hq e => by rcases cw q hq with h | h; exact (nomatch h); rw [← e, hpb] at h; cases h
  have I := ((I.addT hpb (by simp) nP cP (fun _ h => (nomatch h))).addT had (by simpa using Ne.symm hpa) nA cA (fun p hp => by rw [List.mem_singleton.mp hp]; exact hpa)).addT hdx (by simp only [List.mem_cons, List.not_mem_nil, or_false, not_or]; exact ⟨hne, Ne.symm hnd⟩) nD cD (fun p hp => by
    simp only [List.mem_cons, List.not_mem_nil, or_false] at hp
    rcases hp with rfl | rfl
    · exact Ne.symm hne
    · exact hnd)
  have cw := cw.moreT (T' := [a.dx, a.Ad, a.Pb]) (fun _ h => (nomatch h))
  walk_at "w"
  refine r_newList I (by show 0 ≤ sizeLine; (first | lia | omega)) (fun A0 s' I => ?_)
  walk_at "w"
  refine r_newList I (by show 0 ≤ sizeLine; (first | lia | omega)) (fun A1 s' I => ?_)
  walk_at "w"
  refine r_newList I (by show 0 ≤ sizeLine; (first | lia | omega)) (fun A2 s' I => ?_)
  walk_at "w"
  refine r_newList I (by show 3 ≤ sizeLine; rw [sizeLine_eq]; decide) (fun K s' I => ?_)
  walk_at "w"
  have hT : ∀ {g' m W s'}, Inv g' s [a.dx, a.Ad, a.Pb] env m W s' → (∃ o1 o2 o3, (a.dx, o1) ∈ W ∧ (a.Ad, o2) ∈ W ∧ (a.Pb, o3) ∈ W) → ∀ z ∈ [a.dx, a.Ad, a.Pb], ∃ o, s'.heap.get? z = some o := by
    intro g' m W s' I hm z hz
    refine hideP fun Po hPo => ?_
    obtain ⟨o1, o2, o3, h1, h2, h3⟩ := hm
    refine hPo ?_; clear hPo Po
    simp only [List.mem_cons, List.not_mem_nil, or_false] at hz
    rcases hz with rfl | rfl | rfl
    · exact ⟨_, I.led _ h1⟩
    · exact ⟨_, I.led _ h2⟩
    · exact ⟨_, I.led _ h3⟩
  have notT : ∀ {g' m W s' z o}, Inv g' s [a.dx, a.Ad, a.Pb] env m ((z, o) :: W) s' → (∃ o1 o2 o3, (a.dx, o1) ∈ W ∧ (a.Ad, o2) ∈ W ∧ (a.Pb, o3) ∈ W) → Gr s g' (g'.put z o) := by
    intro g' m W s' z o I hm
    refine hideP fun Po hPo => ?_
    obtain ⟨o1, o2, o3, h1, h2, h3⟩ := hm
    refine hPo ?_; clear hPo Po
    have nd := (List.pairwise_cons.mp I.nd).1
    have h0 := I.offW _ (.head _)
    have f0 : s.heap.get? z = none := h0.2.resolve_left (fun hz => by
      simp only [List.mem_cons, List.not_mem_nil, or_false] at hz
      rcases hz with hz | hz | hz
      · exact nd _ h1 hz
      · exact nd _ h2 hz
      · exact nd _ h3 hz)
    exact ⟨Mp.le_put h0.1, fun b ob e => by
      unfold Mp.put at e
      split at e
      · rename_i q; subst q; exact .inr f0
      · exact .inl e⟩
  have I := I.swap12
  have G1 := notT I ⟨_, _, _, .tail _ (.tail _ (.tail _ (.head _))), .tail _ (.tail _ (.tail _ (.tail _ (.head _)))), .tail _ (.tail _ (.tail _ (.tail _ (.tail _ (.head _)))))⟩
  have I := I.absorb1.swap12
  have G2 := notT I ⟨_, _, _, .tail _ (.tail _ (.head _)), .tail _ (.tail _ (.tail _ (.head _))), .tail _ (.tail _ (.tail _ (.tail _ (.head _))))⟩
  have I := I.absorb1.swap12
  have G3 := notT I ⟨_, _, _, .tail _ (.head _), .tail _ (.tail _ (.head _)), .tail _ (.tail _ (.tail _ (.head _)))⟩
  have I := I.absorb1
  have G0 := G1.trans (G2.trans G3)
  have eA2 := (G2.trans G3).le _ _ (Mp.put_self g A2 (lstO [] 0))
  have eA1 := G3.le _ _ (Mp.put_self (g.put A2 (lstO [] 0)) A1 (lstO [] 0))
  have eA0 := Mp.put_self ((g.put A2 (lstO [] 0)).put A1 (lstO [] 0)) A0 (lstO [] 0)
  generalize ((g.put A2 (lstO [] 0)).put A1 (lstO [] 0)).put A0 (lstO [] 0) = g0 at *
  have rA0 : Rd g0 (.ref A0) (.list (([] : List WP).map pairPD)) := Rd.lst eA0 .nil
  have rA1 : Rd g0 (.ref A1) (.list (([] : List WP).map pairPD)) := Rd.lst eA1 .nil
  have rA2 : Rd g0 (.ref A2) (.list (([] : List WP).map pairPD)) := Rd.lst eA2 .nil
  clear G1 G2 G3 eA0 eA1 eA2 hpb had hdx
  have rowOf : ∀ {i : Nat} {rule : List Int}, rules[i]? = some rule → ∃ (ua : Addr) (uvs : List Value) (un : Nat), rvs[i]? = some (.ref ua) ∧ g ua = some (lstO uvs un) ∧ RdAll g uvs (rule.map PyData.int) := by
    intro i rule hi
    refine hideP fun Po hPo => ?_
    obtain ⟨v, hv, rv⟩ := hrvs.get' (i := i) (d := PyData.list (rule.map PyData.int)) (by rw [List.getElem?_map, hi]; rfl)
    obtain ⟨ua, uvs, un, rfl, eua, huvs⟩ := rv.unlist
    refine hPo ?_; clear hPo Po
    exact ⟨ua, uvs, un, hv, eua, huvs⟩
  have M0 := M
  have bg0 := bg
  have bg := bg.mono G0.le
  have M := M.mono G0.le
  refine hideP fun Po hPo => ?_
  obtain ⟨h1, h2, h3, h4, j1, j2, j3, j4, tl, tw, rfl⟩ := he
  refine hPo ?_; clear hPo Po
  refine o_meth I bg (.inl M.x) (.inr (.tail _ (.head _))) (lx_plain w _) (lx_pt w) (lx_fn w).2.2.2 gl_pt ?_
  refine k_fnM (o := fo w 56) (fd := fd1 w 56) rfl (k_arg ?_)
  walk_at "w"
  refine b_chr I (by decide) (by decide) (fun t s' I => ?_)
  walk_at "w"
  rw [spc_eq]
  refine r_cat I (by rw [Str.length_append, sizeLine_eq]; decide) (fun t s' I => ?_)
  walk_at "w"
  refine ⟨I.keep _ _ (bg.k _ _ (by kernel_rfl)), ?_⟩
  refine of_code (L_pt (r.less (by decide)) b M I (.tail (.tail (.tail .head))) (.tail _ (.head _)) ⟨h1, h2, h3, h4, j1, j2, j3, j4, tl, tw, rfl⟩ (by decide) (fun k2 s' I => ⟨rfl, ?_⟩))
  have e258 : oneS (256 + 2 : Int).toNat ++ spc = fctS (258, [], []) := by decide +kernel
  rw [e258] at I
  walk_at "w"
  refine o_meth I bg (.inl M.x) (.inr (.tail _ (.head _))) (lx_plain w _) (lx_gt w) (lx_fn w).2.2.1 gl_gt ?_
  refine k_fnM0 (o := fo w 49) (fd := fd1 w 49) rfl (I.keep _ _ (bg.k _ _ (by kernel_rfl))) (of_code (L_tok (q := [fctS (258, [], [])]) (r.less (by decide)) b M I ⟨h1, h2, h3, h4, j1, j2, j3, j4, tl, tw, rfl⟩ (.cons (.str _ _) .nil) hp hpd hpa (by decide) (fun t fact q es n u k pv kp s' I he hR hq => ?_)))
  refine hideP fun Po hPo => ?_
  obtain ⟨rfl, rfl⟩ : fact = fctS (258, [], []) ∧ q = [] := by
    rcases hq with ⟨e, _⟩ | e
    · cases e
    · injection e with e1 e2; exact ⟨e1.symm, e2.symm⟩
  refine hPo ?_; clear hPo Po
  clear hq
  walk_at "w"
  refine r_while (s₀ := s) (T := [a.dx, a.Ad, a.Pb]) (fun kk g' m W => NJ2 s g ra K a p ln JJ μ kk g' m W) (μ [] [] [] [(258, [], [])] + 1) I ⟨A0, A1, A2, [], [], [], _, [], es, n, u, k, pv, kp, t, 0, G0, by walk_at "v", by walk_at "v", by walk_at "v", by walk_at "v", rfl, he, hR, rA0, rA1, rA2, .inr ⟨_, rfl, X.start, rfl⟩⟩ ?_
  clear hR he rA0 rA1 rA2 I
  rintro kk g' m W s' hz1 I
  refine hideP fun Po hPo => ?_
  obtain ⟨A0, A1, A2, k0, k1, k2, fact, q, es, n, u, k, pv, kp, t, kK, G, hmr, hmm, hmk, hmf, rfl, he, hR, rA0, rA1, rA2, hcase⟩ := hz1
  refine hPo ?_; clear hPo Po
  refine hideW fun Qo1 Po1 hQ1 hP1 => ?_
  have bg := b.mono (M0.le.trans G.le)
  have M := M0.mono G.le
  walk_at "w"
  rw [emp_eq]
  refine bsplit (fun q1 => ?_) (fun q1 => ?_)
  rotate_left
  · have hf : fact = emp := bne_eq_false_iff_eq.mp q1
    refine hideP fun Po hPo => ?_
    obtain ⟨_, hJ, _⟩ : fact = emp ∧ JJ k0 k1 k2 [] ∧ kk = 0 := hcase.resolve_right fun ⟨f, e, _⟩ => by rw [hf] at e; cases congrArg (fun x => x.cps.toList) e
    refine hPo ?_; clear hPo Po
    walk_at "w"
    have gK := notT I ⟨_, _, _, .head _, .tail _ (.head _), .tail _ (.tail _ (.head _))⟩
    have I := I.absorb1
    exact h K _ k0 k1 k2 _ (G.trans gK) I.keep (fun b o e hb => I.keep0 b o e hb) I.same hJ (Rd.lst (Mp.put_self _ _ _) (.cons (rA0.mono gK.le) (.cons (rA1.mono gK.le) (.cons (rA2.mono gK.le) .nil))))
  refine hideP fun Po hPo => ?_
  obtain ⟨f, hfe, hJ, rfl⟩ : ∃ f, fact = fctS f ∧ JJ k0 k1 k2 (f :: q) ∧ kk = μ k0 k1 k2 (f :: q) + 1 := hcase.resolve_left fun h => by rw [h.1] at q1; exact absurd q1 (by decide)
  obtain ⟨N, wd, pl⟩ := f
  refine hPo ?_; clear hPo Po
  subst hfe
  refine hideP fun Po hPo => ?_
  obtain ⟨b0, b1, b2, bw, bq, bf⟩ := X.ok _ _ _ _ hJ
  obtain ⟨hN, hwl, hwd, hw32, hp32, hpl⟩ := bf _ (.head _)
  refine hPo ?_; clear hPo Po
  have hdrop := X.drop k0 k1 k2 _ q hJ
  have hkeep := X.keep k0 k1 k2 _ q hJ
  dsimp only at hN hwl hwd hw32 hp32 hpl hdrop hkeep
  clear hcase bf
  walk_at "w"
  have hfl : (fctS (N, wd, pl)).cps.toList = N :: (wd ++ 32 :: pl) := rfl
  have hfll : (fctS (N, wd, pl)).length = wd.length + (pl.length + 1) + 1 := by
    show (N :: (wd ++ 32 :: pl)).toArray.size = _
    simp
  refine i_str I (by decide) (by decide) (c := N) (by rw [← Array.getElem?_toList, hfl]; rfl) (fun t s' I => ?_)
  walk_at "w"
  refine b_ord I (fun t s' I => ?_)
  refine n_store el cw I (by decide) (fun s' I => ?_)
  refine Sq.next (x_cons ?_)
  refine PyProof.Rows.Assign_Tuple ?_ (by rfl) (by kernel_rfl)
  refine k_meth ?_
  refine k_slS cw ?_
  walk_at "w"
  refine ⟨fctS (N, wd, pl), _, some 1, none, _, _, _, rfl, .int _ _, .none, by rw [hfll, sizeLine_eq]; (first | lia | omega), I, fun t s' I => ?_⟩
  have e1 : Txt.slice (fctS (N, wd, pl)) (some 1) none = facS wd pl := by
    rw [show (1 : Int) = ((1 : Nat) : Int) from rfl, txt_from _ 1 (by (first | lia | omega)), hfl]; rfl
  rw [e1]
  walk_at "w"
  refine r_splitF I hw32 hp32 (by (first | lia | omega)) (fun D u1 u2 s' I => ?_)
  have gD := notT I ⟨_, _, _, .tail _ (.head _), .tail _ (.tail _ (.head _)), .tail _ (.tail _ (.tail _ (.head _)))⟩
  have I := I.absorb1
  have eD := Mp.put_self g' D (lstO [.str (ofL wd) u1, .str (ofL pl) u2] 0)
  have G := G.trans gD
  have M := M.mono gD.le
  have rA0 := rA0.mono gD.le
  have rA1 := rA1.mono gD.le
  have rA2 := rA2.mono gD.le
  have bg := bg.mono gD.le
  clear gD
  generalize g'.put D (lstO [.str (ofL wd) u1, .str (ofL pl) u2] 0) = g' at *
  refine r_unpackL el cw (by decide) (by decide) r.hand I eD (fun s' I => ?_)
  refine Sq.next (x_cons ?_)
  refine r_assign ?_
  walk_at "w"
  have hNi : (((N : Int) - 256).toNat : Nat) = N - 256 := by (first | lia | omega)
  refine hideP fun Po hPo => ?_
  obtain ⟨AN, hAN, rAN⟩ : ∃ AN, [Value.ref A0, Value.ref A1, Value.ref A2][((N : Int) - 256).toNat]? = some (.ref AN) ∧ Rd g' (.ref AN) (.list ((kOf k0 k1 k2 N).map pairPD)) := by
    rw [hNi]
    rcases hN with rfl | rfl | rfl
    · exact ⟨A0, rfl, rA0⟩
    · exact ⟨A1, rfl, rA1⟩
    · exact ⟨A2, rfl, rA2⟩
  refine hPo ?_; clear hPo Po
  refine i_list I (.inr ⟨_, .head _⟩) (by (first | lia | omega)) (by (first | lia | omega)) hAN ?_
  refine n_store el cw I (by decide) (fun s' I => ?_)
  have hmine := bw N
  have hminel : (kOf k0 k1 k2 N).length ≤ 16 := by unfold kOf; split; exact b0; split; exact b1; exact b2
  have hwl2 : (ofL wd).length = wd.length := by show wd.toArray.size = _; rw [List.size_toArray]
  refine hideP fun Po hPo => ?_
  obtain ⟨AN', mvs, mn, e1', eAN, hmvs⟩ := rAN.unlist
  refine hPo ?_; clear hPo Po
  cases e1'
  have hml : mvs.length = (kOf k0 k1 k2 N).length := by rw [hmvs.1]; simp
  generalize hmm2 : kOf k0 k1 k2 N = mine at *
  refine Sq.next (x_cons ?_)
  refine k_if ?_
  refine k_not ?_
  walk_at "w"
  refine k_fn (o := fo w 102) (fd := fd1 w 102) rfl ?_
  walk_at "w"
  refine k_lc cw el (by decide) rfl (by decide) r.hand ?_
  walk_at "w"
  refine ⟨_, _, _, _, _, fun j g ds => ds = ((mine.take j).map fun x => ofL x.1).map PyData.str, I, itr_list eAN rfl rfl, ⟨by simp, ?_, ?_⟩, ?_⟩
  · rintro j g ds hz1
    refine hideP fun Po hPo => ?_
    obtain rfl := hz1
    refine hPo ?_; clear hPo Po
    rw [sizeLine_eq, List.length_map, List.length_map, List.length_take]; (first | lia | omega)
  · rintro j v g2 ds cenv mc W2 s2 hj hvj G2 hz1 el' hmc I2
    refine hideP fun Po hPo => ?_
    obtain rfl := hz1
    obtain ⟨x, ta, tn, tt1, tt2, hxj, rfl, eta⟩ := wp_at hmvs hvj
    refine hPo ?_; clear hPo Po
    refine tests_nil ?_
    refine btrue rfl ?_
    walk_at "w"
    refine i_tup I (I.keep _ _ (G2.le _ _ eta)) (by decide) (by decide) (by rfl) ?_
    refine ⟨_, _, Gr.refl _ _, .str _ _, ?_, I⟩
    rw [List.take_add_one, hxj]; simp
  · rintro C g0' g2 ds s2 I2 Gc hz1 le2 hRd _
    refine hideP fun Po hPo => ?_
    obtain rfl := hz1
    refine hPo ?_; clear hPo Po
    rw [List.take_of_length_le (by rw [List.size_toArray, hml]; exact Nat.le_refl _)] at hRd
    have Gg := I.gr (hT I ⟨_, _, _, .tail _ (.head _), .tail _ (.tail _ (.head _)), .tail _ (.tail _ (.tail _ (.head _)))⟩) Gc
    clear I
    walk_at "w"
    have bg := bg.mono Gg.le
    refine ⟨I.keep _ _ (bg.k _ _ (ko102 w)), c_holds (r.less (by decide)) bg I.keep hRd (fun x hx => ?_) (by (first | lia | omega)) (fun s' kps => ?_)⟩
    · obtain ⟨y, hy, rfl⟩ := List.mem_map.mp hx
      have := hmine y hy
      refine ⟨?_, this.2⟩
      show y.1.toArray.size ≤ _
      rw [List.size_toArray]; (first | lia | omega)
    have I := I.keeps kps
    have G := G.trans Gg
    have M := M.mono Gg.le
    have rA0 := rA0.mono Gg.le
    have rA1 := rA1.mono Gg.le
    have rA2 := rA2.mono Gg.le
    have eAN := Gg.le _ _ eAN
    have hmvs := hmvs.mono Gg.le
    clear hRd kps
    walk_at "w"
    refine bsplit (fun q2 => ?_) (fun q2 => ?_)
    · -- a new word
      have q2 : holdsB (ofL wd) (mine.map fun x => ofL x.1) = false := by simpa using q2
      obtain ⟨hJ2, hμ⟩ := hkeep q2
      refine x_cons ?_
      refine wpAny_Assign_Subscript ?_
      refine k_bin ?_
      refine k_lc cw el (by decide) rfl (by decide) r.hand ?_
      walk_at "w"
      refine ⟨_, _, _, _, _, fun j g ds => ds = ((mine.take j).filter fun one => !holdsB (ofL one.1) [ofL wd]).map pairPD, I, itr_list eAN rfl rfl, ⟨by simp, ?_, ?_⟩, ?_⟩
      · rintro j g ds hz1
        refine hideP fun Po hPo => ?_
        obtain rfl := hz1
        refine hPo ?_; clear hPo Po
        rw [sizeLine_eq, List.length_map]
        have := List.length_filter_le (fun one => !holdsB (ofL one.1) [ofL wd]) (mine.take j)
        rw [List.length_take] at this
        (first | lia | omega)
      · rintro j v g5 ds cenv mc W2 s2 hj hvj G5 hz1 el' hmc I2
        refine hideP fun Po hPo => ?_
        obtain rfl := hz1
        refine hPo ?_; clear hPo Po
        have bg := bg.mono G5.le
        refine hideP fun Po hPo => ?_
        obtain ⟨tw2, hmw2⟩ : ∃ tw2, mc (Str.ofString "word") = some (.str (ofL wd) tw2) := ⟨_, (hmc _ (by decide) (by decide)).trans (by walk_at "v")⟩
        obtain ⟨x, ta, tn, tt1, tt2, hxj, rfl, eta⟩ := wp_at hmvs hvj
        refine hPo ?_; clear hPo Po
        have hxm := hmine x (List.mem_of_getElem? hxj)
        have eta5 := G5.le _ _ eta
        refine tests_one ?_
        walk_at "w"
        refine k_fn (o := fo w 102) (fd := fd1 w 102) rfl ?_
        walk_at "w"
        refine i_tup I (I.keep _ _ eta5) (by decide) (by decide) (by rfl) ?_
        walk_at "w"
        refine r_newList I (by show 1 ≤ sizeLine; rw [sizeLine_eq]; decide) (fun B s' I => ?_)
        have gB := I.grPut (.head _)
        have I := I.absorb1
        have bg := bg.mono gB.le
        walk_at "w"
        have hxl : (ofL x.1).length ≤ 64 := by show x.1.toArray.size ≤ _; rw [List.size_toArray]; exact hxm.1
        refine ⟨I.keep _ _ (bg.k _ _ (ko102 w)), c_holds (ws := [ofL wd]) (r.less (by decide)) bg I.keep (Rd.lst (Mp.put_self _ _ _) (.cons (.str _ _) .nil)) (fun y hy => by rw [List.mem_singleton.mp hy, hwl2]; exact ⟨by (first | lia | omega), hwd⟩) (by (first | lia | omega)) (fun s' k => ?_)⟩
        have I := I.keeps k
        walk_at "w"
        refine bsplit (fun q3 => ?_) (fun q3 => ?_)
        · walk_at "w"
          refine ⟨_, _, gB, (Rd.tup eta5 (.cons (.str _ _) (.cons (.str _ _) .nil))).mono gB.le, ?_, I⟩
          rw [List.take_add_one, hxj]
          have q3 : holdsB (ofL x.1) [ofL wd] = false := by simpa using q3
          simp [q3, pairPD]
        · refine ⟨_, gB, ?_, I⟩
          rw [List.take_add_one, hxj]
          have q3 : holdsB (ofL x.1) [ofL wd] = true := by simpa using q3
          simp [q3]
      · rintro R g0' g5 ds s2 I2 Gc5 hz1 le5 hRd _
        refine hideP fun Po hPo => ?_
        obtain rfl := hz1
        refine hPo ?_; clear hPo Po
        rw [List.take_of_length_le (by rw [List.size_toArray, hml]; exact Nat.le_refl _)] at hRd
        have Gg5 := I.gr (hT I ⟨_, _, _, .tail _ (.head _), .tail _ (.tail _ (.head _)), .tail _ (.tail _ (.tail _ (.head _)))⟩) Gc5
        have bg := bg.mono Gg5.le
        clear I
        refine hideP fun Po hPo => ?_
        obtain ⟨R', Rvs, Rn, e1', eR, hRvs⟩ := hRd.unlist
        refine hPo ?_; clear hPo Po
        cases e1'
        have hRl : Rvs.length ≤ 16 := by
          rw [hRvs.1, List.length_map]
          exact Nat.le_trans (List.length_filter_le _ _) hminel
        walk_at "w"
        refine r_newTuple I (by show 2 ≤ sizeLine; rw [sizeLine_eq]; decide) (fun Tp s' I => ?_)
        refine hideP fun Po hPo => ?_
        obtain ⟨g4, gT, rT, I⟩ : ∃ g4, Gr s g5 g4 ∧ Rd g4 (.ref Tp) (pairPD (wd, pl)) ∧ Inv g4 s [a.dx, a.Ad, a.Pb] env _ _ _ := ⟨_, notT I ⟨_, _, _, .tail _ (.head _), .tail _ (.tail _ (.head _)), .tail _ (.tail _ (.tail _ (.head _)))⟩, Rd.tup (Mp.put_self _ _ _) (.cons (.str _ _) (.cons (.str _ _) .nil)), I.absorb1⟩
        refine hPo ?_; clear hPo Po
        walk_at "w"
        refine r_newList I (by show 1 ≤ sizeLine; rw [sizeLine_eq]; decide) (fun B s' I => ?_)
        refine r_addL I (.inl ⟨_, gT.le _ _ eR⟩) (.inr ⟨_, .head _⟩) (by rw [sizeLine_eq]; simp only [List.length_cons, List.length_nil]; (first | lia | omega)) (fun D s' I => ?_)
        have gD := notT I ⟨_, _, _, .tail _ (.tail _ (.head _)), .tail _ (.tail _ (.tail _ (.head _))), .tail _ (.tail _ (.tail _ (.tail _ (.head _))))⟩
        have I := I.absorb1.tail
        have rD : Rd (g4.put D (lstO (Rvs ++ [.ref Tp]) 0)) (.ref D) (.list ((newW mine wd pl).map pairPD)) := by
          refine Rd.lst (Mp.put_self _ _ _) ?_
          unfold newW
          rw [List.map_append]
          exact (hRvs.mono (gT.le.trans gD.le)).append (.cons (rT.mono gD.le) .nil)
        have GD := Gg5.trans (gT.trans gD)
        have bg := bg.mono (gT.le.trans gD.le)
        clear gT gD hRvs eR hRd rT
        generalize g4.put D (lstO (Rvs ++ [.ref Tp]) 0) = g3 at *
        walk_at "w"
        have hset : [Value.ref A0, Value.ref A1, Value.ref A2].set ((N : Int) - 256).toNat (.ref D) = [.ref (if N = 256 then D else A0), .ref (if N = 257 then D else A1), .ref (if N = 258 then D else A2)] := by
          rw [hNi]
          rcases hN with rfl | rfl | rfl <;> rfl
        have rB0 : Rd g3 (.ref (if N = 256 then D else A0)) (.list ((newK 256 k0 N wd pl).map pairPD)) := by
          unfold newK
          subst hmm2
          unfold kOf at rD
          split
          · rename_i e; rw [if_pos e] at rD; exact rD
          · exact rA0.mono GD.le
        have rB1 : Rd g3 (.ref (if N = 257 then D else A1)) (.list ((newK 257 k1 N wd pl).map pairPD)) := by
          unfold newK
          subst hmm2
          unfold kOf at rD
          split
          · rename_i e; rw [if_neg (by (first | lia | omega)), if_pos e] at rD; exact rD
          · exact rA1.mono GD.le
        have rB2 : Rd g3 (.ref (if N = 258 then D else A2)) (.list ((newK 258 k2 N wd pl).map pairPD)) := by
          unfold newK
          subst hmm2
          unfold kOf at rD
          split
          · rename_i e; rw [if_neg (by (first | lia | omega)), if_neg (by (first | lia | omega))] at rD; exact rD
          · exact rA2.mono GD.le
        refine r_setI I .head (by (first | lia | omega)) (by rw [hNi]; show _ < 3; (first | lia | omega)) (by (first | lia | omega)) (fun kK' s' I => ?_)
        rw [hset] at I
        generalize (if N = 256 then D else A0) = B0 at *
        generalize (if N = 257 then D else A1) = B1 at *
        generalize (if N = 258 then D else A2) = B2 at *
        refine hideP fun Po hPo => ?_
        obtain ⟨c0, c1, c2, cw', cq, cf⟩ := X.ok _ _ _ _ hJ2
        refine hPo ?_; clear hPo Po
        generalize hk0' : newK 256 k0 N wd pl = k0' at *
        generalize hk1' : newK 257 k1 N wd pl = k1' at *
        generalize hk2' : newK 258 k2 N wd pl = k2' at *
        have G3 := G.trans GD
        have M := M.mono GD.le
        have hql : pv.length = q.length := by rw [hR.1]; simp
        clear rA0 rA1 rA2 eAN hmvs rD hmine bw hset
        walk_at "w"
        refine cutH (Q' := fun fl s' => NJ7 s g g3 env ra K B0 B1 B2 kK' a es n p k u (q ++ needsTo rules rules.length N wd pl) fl s') (fun Qo7 hQ7 => ?_) ?_
        · refine r_forE cw r.hand ?_
          walk_at "w"
          refine r_lenL I (.inl ⟨_, G3.le _ _ era⟩) (by (first | lia | omega)) (fun t s' I => ?_)
          walk_at "w"
          refine r_range1 I (fun Rg v1 v2 v3 s' I => ?_)
          have gR := notT I ⟨_, _, _, .tail _ (.head _), .tail _ (.tail _ (.head _)), .tail _ (.tail _ (.tail _ (.head _)))⟩
          have I := I.absorb1
          rw [hrl] at I gR
          refine ⟨_, _, fun i g' m W => NJ3 s g g3 ra K B0 B1 B2 kK' a es n p k u N wd pl (q ++ needsTo rules i N wd pl) g' m W, _, _, _, I, itr_range (Mp.put_self _ _ _) (by decide) (by decide) (by (first | lia | omega)) (by (first | lia | omega)), ⟨pv, kp, _, _, _, G3.trans gR, gR.le, by walk_at "v", by walk_at "v", by walk_at "v", by walk_at "v", by walk_at "v", by walk_at "v", rfl, by simpa [needsTo] using hR⟩, ?_, ?_⟩
          · clear I hR gR
            rintro i v g6 m W It s' hi hz1 le6 hz2 I
            refine hideP fun Po hPo => ?_
            obtain ⟨tv, rfl⟩ := hz1
            obtain ⟨pv', kp', tN, tW, tP, G6, le3, hmr, hmm, hmk, hmn, hmw, hmp, rfl, hR⟩ := hz2
            refine hPo ?_; clear hPo Po
            refine hideT fun Qo2 hQ2 => ?_
            have hi5 : i < rules.length := by (first | lia | omega)
            have hz : (0 : Int) + (i : Int) = (i : Int) := by (first | lia | omega)
            rw [hz]
            refine hideP fun Po hPo => ?_
            obtain ⟨rule, hri⟩ : ∃ rule, rules[i]? = some rule := ⟨_, List.getElem?_eq_getElem hi5⟩
            obtain ⟨ua, uvs, un, hua, eua, huvs⟩ := rowOf hri
            refine hPo ?_; clear hPo Po
            have ok1 := okr rule (List.mem_of_getElem? hri)
            have hgd : rules.getD i [] = rule := by rw [List.getD_eq_getElem?_getD, hri]; rfl
            have hstep := needs_succ rules i N wd pl
            rw [hgd] at hstep
            refine hideP fun Po hPo => ?_
            obtain ⟨sN, aN, bN, rfl, hsN, hab⟩ := ok1
            obtain ⟨tu1, tu2, tu3, rfl⟩ := ints3 huvs
            refine hPo ?_; clear hPo Po
            have eua := G6.le _ _ eua
            have era6 := G6.le _ _ era
            have bg := b.mono (M0.le.trans G6.le)
            have M := M0.mono G6.le
            have hpvl : pv'.length ≤ 2 ^ 20 + 5 := by
              have h1 : pv'.length = q.length + (needsTo rules i N wd pl).length := by rw [hR.1]; simp
              have := needs_len rules N wd pl i
              rw [List.length_append] at cq
              (first | lia | omega)
            refine hideP fun Po hPo => ?_
            obtain ⟨h1, h2, h3, h4, j1, j2, j3, j4, tl, tw, rfl⟩ := he
            refine hPo ?_; clear hPo Po
            have wl : (ofL wd).length ≤ 2 ^ 10 := by rw [ofL_len]; (first | lia | omega)
            have pll : (ofL pl).length ≤ 2 ^ 16 := by rw [ofL_len]; exact hpl
            refine r_target (n_store el cw I (by decide) fun s' I => ?_)
            refine x_cons ?_
            refine r_assign ?_
            walk_at "w"
            refine i_list I (.inl ⟨_, era6⟩) (by (first | lia | omega)) (by (first | lia | omega)) (by rw [Int.toNat_natCast]; exact hua) ?_
            walk_at "w"
            refine k_fn (o := fo w 73) (fd := fd1 w 73) rfl ?_
            walk_at "w"
            refine i_list I (.inl ⟨_, eua⟩) (by decide) (by decide) (by rfl) ?_
            walk_at "w"
            refine ⟨I.keep _ _ (bg.k _ _ (ko73 w)), c_term (r.less (by decide)) bg I.keep (fun s' kps => ?_)⟩
            have I := I.keeps kps
            clear kps
            walk_at "w"
            refine bsplit (fun q5 => ?_) (fun q5 => ?_)
            · have q5 := of_decide_eq_true q5
              walk_at "w"
              refine i_list I (.inl ⟨_, eua⟩) (by decide) (by decide) (by rfl) ?_
              walk_at "w"
              refine bsplit (fun q6 => ?_) (fun q6 => ?_)
              · have q6 : (bN : Int) = (N : Int) := beq_iff_eq.mp q6
                have hneed : needF [(sN : Int), (aN : Int), (bN : Int)] i N wd pl = [(sN, (64 + (aN : Int)).toNat :: wd, figL.getD i 0 :: pl)] := by
                  unfold needF
                  show (if (aN : Int) < 256 then (if (bN : Int) = (N : Int) then _ else _) else _) = _
                  rw [if_pos q5, if_pos q6]; rfl
                walk_at "w"
                refine o_meth I bg (.inl M.x) (.inr (.tail _ (.tail _ (.head _)))) (lx_plain w _) (lx_pt w) (lx_fn w).2.2.2 gl_pt ?_
                refine k_fnM (o := fo w 56) (fd := fd1 w 56) rfl (k_arg ?_)
                walk_at "w"
                refine i_list I (.inl ⟨_, eua⟩) (by decide) (by decide) (by rfl) ?_
                walk_at "w"
                refine b_chr I (by (first | lia | omega)) (by (first | lia | omega)) (fun t s' I => ?_)
                walk_at "w"
                refine i_list I (.inl ⟨_, eua⟩) (by decide) (by decide) (by rfl) ?_
                walk_at "w"
                refine b_chr I (by (first | lia | omega)) (by (first | lia | omega)) (fun t s' I => ?_)
                refine r_cat I (cat_le (by simp only [Str.length_append, one_len, ofL_len, oneS_ofL, spc, List.length_cons, List.length_nil, List.length_take]; (first | lia | omega)) (by simp only [Str.length_append, one_len, ofL_len, oneS_ofL, spc, List.length_cons, List.length_nil, List.length_take]; (first | lia | omega))) (fun t s' I => ?_)
                walk_at "w"
                refine r_cat I (cat_le (by simp only [Str.length_append, one_len, ofL_len, oneS_ofL, spc, List.length_cons, List.length_nil, List.length_take]; (first | lia | omega)) (by simp only [Str.length_append, one_len, ofL_len, oneS_ofL, spc, List.length_cons, List.length_nil, List.length_take]; (first | lia | omega))) (fun t s' I => ?_)
                walk_at "w"
                try rw [spc_eq]
                refine r_cat I (cat_le (by simp only [Str.length_append, one_len, ofL_len, oneS_ofL, spc, List.length_cons, List.length_nil, List.length_take]; (first | lia | omega)) (by simp only [Str.length_append, one_len, ofL_len, oneS_ofL, spc, List.length_cons, List.length_nil, List.length_take]; (first | lia | omega))) (fun t s' I => ?_)
                walk_at "w"
                try rw [fig_eq]
                refine i_str I (by (first | lia | omega)) (by (first | lia | omega)) (c := figL.getD i 0) (fig_at (by (first | lia | omega))) (fun t s' I => ?_)
                refine r_cat I (cat_le (by simp only [Str.length_append, one_len, ofL_len, oneS_ofL, spc, List.length_cons, List.length_nil, List.length_take]; (first | lia | omega)) (by simp only [Str.length_append, one_len, ofL_len, oneS_ofL, spc, List.length_cons, List.length_nil, List.length_take]; (first | lia | omega))) (fun t s' I => ?_)
                walk_at "w"
                refine r_cat I (cat_le (by simp only [Str.length_append, one_len, ofL_len, oneS_ofL, spc, List.length_cons, List.length_nil, List.length_take]; (first | lia | omega)) (by simp only [Str.length_append, one_len, ofL_len, oneS_ofL, spc, List.length_cons, List.length_nil, List.length_take]; (first | lia | omega))) (fun t s' I => ?_)
                walk_at "w"
                refine ⟨I.keep _ _ (bg.k _ _ (by kernel_rfl)), ?_⟩
                refine of_code (L_pt (r.less (by decide)) b M I (.tail (.tail (.tail (.tail .head)))) (.tail _ (.tail _ (.head _))) ⟨h1, h2, h3, h4, j1, j2, j3, j4, tl, tw, rfl⟩ (by (first | lia | omega)) (fun k2 s' I => ⟨rfl, ?_⟩))
                walk_at "w"
                refine ⟨_, _, _, le6, ⟨_, k2, tN, tW, tP, G6, le3, by walk_at "v", by walk_at "v", by walk_at "v", by walk_at "v", by walk_at "v", by walk_at "v", rfl, ?_⟩, I⟩
                rw [hstep, hneed, ← List.append_assoc, List.map_append, List.map_append]
                refine hR.append ?_
                have ef : ((((oneS (sN : Int).toNat ++ oneS (64 + (aN : Int)).toNat) ++ ofL wd) ++ spc) ++ (⟨#[figL.getD i 0]⟩ : Str)) ++ ofL pl = fctS (sN, (64 + (aN : Int)).toNat :: wd, figL.getD i 0 :: pl) := by
                  refine str_ext ?_
                  simp only [toList_app]
                  rw [Int.toNat_natCast]
                  show ((((([sN] ++ [(64 + (aN : Int)).toNat]) ++ wd) ++ [32]) ++ [figL.getD i 0]) ++ pl) = sN :: ((64 + (aN : Int)).toNat :: wd ++ 32 :: (figL.getD i 0 :: pl))
                  simp
                rw [ef]
                exact .cons (.str _ _) .nil
              · have q6 : ¬ (bN : Int) = (N : Int) := fun e => by rw [e] at q6; simp at q6
                have hneed : needF [(sN : Int), (aN : Int), (bN : Int)] i N wd pl = [] := by
                  unfold needF
                  show (if (aN : Int) < 256 then (if (bN : Int) = (N : Int) then _ else _) else _) = _
                  rw [if_pos q5, if_neg q6]
                walk_at "w"
                refine ⟨_, _, _, le6, ⟨pv', kp', tN, tW, tP, G6, le3, by walk_at "v", by walk_at "v", by walk_at "v", by walk_at "v", by walk_at "v", by walk_at "v", rfl, ?_⟩, I⟩
                rw [hstep, hneed, List.append_nil]; exact hR
            · have q5 := of_decide_eq_false q5
              walk_at "w"
              refine i_list I (.inl ⟨_, eua⟩) (by decide) (by decide) (by rfl) ?_
              walk_at "w"
              refine bsplit (fun q6 => ?_) (fun q6 => ?_)
              · have q6 : (aN : Int) = (N : Int) := beq_iff_eq.mp q6
                refine x_cons (k_if (k_test ?_))
                refine k_slS cw ?_
                walk_at "w"
                refine ⟨ofL wd, _, some (-1), none, _, _, _, rfl, .int _ _, .none, by rw [sizeLine_eq]; (first | lia | omega), I, fun t s' I => ?_⟩
                rw [txt_last]
                walk_at "w"
                refine i_list I (.inl ⟨_, eua⟩) (by decide) (by decide) (by rfl) ?_
                walk_at "w"
                refine b_chr I (by (first | lia | omega)) (by (first | lia | omega)) (fun t s' I => ?_)
                walk_at "w"
                refine bsplit (fun q7 => ?_) (fun q7 => ?_)
                · have q7 := beq_iff_eq.mp q7
                  have hneed : needF [(sN : Int), (aN : Int), (bN : Int)] i N wd pl = [(sN, wd.take (wd.length - 1), figL.getD i 0 :: pl)] := by
                    unfold needF
                    show (if (aN : Int) < 256 then _ else (if (aN : Int) = (N : Int) then (if ofL (wd.drop (wd.length - 1)) = oneS (64 + (bN : Int)).toNat then _ else _) else _)) = _
                    rw [if_neg q5, if_pos q6, if_pos q7]; rfl
                  walk_at "w"
                  refine o_meth I bg (.inl M.x) (.inr (.tail _ (.tail _ (.head _)))) (lx_plain w _) (lx_pt w) (lx_fn w).2.2.2 gl_pt ?_
                  refine k_fnM (o := fo w 56) (fd := fd1 w 56) rfl (k_arg ?_)
                  walk_at "w"
                  refine i_list I (.inl ⟨_, eua⟩) (by decide) (by decide) (by rfl) ?_
                  walk_at "w"
                  refine b_chr I (by (first | lia | omega)) (by (first | lia | omega)) (fun t s' I => ?_)
                  refine k_slS cw ?_
                  walk_at "w"
                  refine ⟨ofL wd, _, none, some (-1), _, _, _, rfl, .none, .int _ _, by rw [sizeLine_eq]; (first | lia | omega), I, fun t s' I => ?_⟩
                  rw [txt_init]
                  refine r_cat I (cat_le (by simp only [Str.length_append, one_len, ofL_len, oneS_ofL, spc, List.length_cons, List.length_nil, List.length_take]; (first | lia | omega)) (by simp only [Str.length_append, one_len, ofL_len, oneS_ofL, spc, List.length_cons, List.length_nil, List.length_take]; (first | lia | omega))) (fun t s' I => ?_)
                  walk_at "w"
                  try rw [spc_eq]
                  refine r_cat I (cat_le (by simp only [Str.length_append, one_len, ofL_len, oneS_ofL, spc, List.length_cons, List.length_nil, List.length_take]; (first | lia | omega)) (by simp only [Str.length_append, one_len, ofL_len, oneS_ofL, spc, List.length_cons, List.length_nil, List.length_take]; (first | lia | omega))) (fun t s' I => ?_)
                  walk_at "w"
                  try rw [fig_eq]
                  refine i_str I (by (first | lia | omega)) (by (first | lia | omega)) (c := figL.getD i 0) (fig_at (by (first | lia | omega))) (fun t s' I => ?_)
                  refine r_cat I (cat_le (by simp only [Str.length_append, one_len, ofL_len, oneS_ofL, spc, List.length_cons, List.length_nil, List.length_take]; (first | lia | omega)) (by simp only [Str.length_append, one_len, ofL_len, oneS_ofL, spc, List.length_cons, List.length_nil, List.length_take]; (first | lia | omega))) (fun t s' I => ?_)
                  walk_at "w"
                  refine r_cat I (cat_le (by simp only [Str.length_append, one_len, ofL_len, oneS_ofL, spc, List.length_cons, List.length_nil, List.length_take]; (first | lia | omega)) (by simp only [Str.length_append, one_len, ofL_len, oneS_ofL, spc, List.length_cons, List.length_nil, List.length_take]; (first | lia | omega))) (fun t s' I => ?_)
                  walk_at "w"
                  refine ⟨I.keep _ _ (bg.k _ _ (by kernel_rfl)), ?_⟩
                  refine of_code (L_pt (r.less (by decide)) b M I (.tail (.tail (.tail (.tail .head)))) (.tail _ (.tail _ (.head _))) ⟨h1, h2, h3, h4, j1, j2, j3, j4, tl, tw, rfl⟩ (by (first | lia | omega)) (fun k2 s' I => ⟨rfl, ?_⟩))
                  walk_at "w"
                  refine ⟨_, _, _, le6, ⟨_, k2, tN, tW, tP, G6, le3, by walk_at "v", by walk_at "v", by walk_at "v", by walk_at "v", by walk_at "v", by walk_at "v", rfl, ?_⟩, I⟩
                  rw [hstep, hneed, ← List.append_assoc, List.map_append, List.map_append]
                  refine hR.append ?_
                  have ef : (((oneS (sN : Int).toNat ++ ofL (wd.take (wd.length - 1))) ++ spc) ++ (⟨#[figL.getD i 0]⟩ : Str)) ++ ofL pl = fctS (sN, wd.take (wd.length - 1), figL.getD i 0 :: pl) := by
                    refine str_ext ?_
                    simp only [toList_app]
                    rw [Int.toNat_natCast]
                    show (((([sN] ++ wd.take (wd.length - 1)) ++ [32]) ++ [figL.getD i 0]) ++ pl) = sN :: (wd.take (wd.length - 1) ++ 32 :: (figL.getD i 0 :: pl))
                    simp
                  rw [ef]
                  exact .cons (.str _ _) .nil
                · have q7 := beq_eq_false_iff_ne.mp q7
                  have hneed : needF [(sN : Int), (aN : Int), (bN : Int)] i N wd pl = [(sN, wd, abcL.getD i 0 :: pl)] := by
                    unfold needF
                    show (if (aN : Int) < 256 then _ else (if (aN : Int) = (N : Int) then (if ofL (wd.drop (wd.length - 1)) = oneS (64 + (bN : Int)).toNat then _ else _) else _)) = _
                    rw [if_neg q5, if_pos q6, if_neg q7]; rfl
                  walk_at "w"
                  refine o_meth I bg (.inl M.x) (.inr (.tail _ (.tail _ (.head _)))) (lx_plain w _) (lx_pt w) (lx_fn w).2.2.2 gl_pt ?_
                  refine k_fnM (o := fo w 56) (fd := fd1 w 56) rfl (k_arg ?_)
                  walk_at "w"
                  refine i_list I (.inl ⟨_, eua⟩) (by decide) (by decide) (by rfl) ?_
                  walk_at "w"
                  refine b_chr I (by (first | lia | omega)) (by (first | lia | omega)) (fun t s' I => ?_)
                  walk_at "w"
                  refine r_cat I (cat_le (by simp only [Str.length_append, one_len, ofL_len, oneS_ofL, spc, List.length_cons, List.length_nil, List.length_take]; (first | lia | omega)) (by simp only [Str.length_append, one_len, ofL_len, oneS_ofL, spc, List.length_cons, List.length_nil, List.length_take]; (first | lia | omega))) (fun t s' I => ?_)
                  walk_at "w"
                  try rw [spc_eq]
                  refine r_cat I (cat_le (by simp only [Str.length_append, one_len, ofL_len, oneS_ofL, spc, List.length_cons, List.length_nil, List.length_take]; (first | lia | omega)) (by simp only [Str.length_append, one_len, ofL_len, oneS_ofL, spc, List.length_cons, List.length_nil, List.length_take]; (first | lia | omega))) (fun t s' I => ?_)
                  walk_at "w"
                  try rw [abc_eq]
                  refine i_str I (by (first | lia | omega)) (by (first | lia | omega)) (c := abcL.getD i 0) (abc_at (by (first | lia | omega))) (fun t s' I => ?_)
                  refine r_cat I (cat_le (by simp only [Str.length_append, one_len, ofL_len, oneS_ofL, spc, List.length_cons, List.length_nil, List.length_take]; (first | lia | omega)) (by simp only [Str.length_append, one_len, ofL_len, oneS_ofL, spc, List.length_cons, List.length_nil, List.length_take]; (first | lia | omega))) (fun t s' I => ?_)
                  walk_at "w"
                  refine r_cat I (cat_le (by simp only [Str.length_append, one_len, ofL_len, oneS_ofL, spc, List.length_cons, List.length_nil, List.length_take]; (first | lia | omega)) (by simp only [Str.length_append, one_len, ofL_len, oneS_ofL, spc, List.length_cons, List.length_nil, List.length_take]; (first | lia | omega))) (fun t s' I => ?_)
                  walk_at "w"
                  refine ⟨I.keep _ _ (bg.k _ _ (by kernel_rfl)), ?_⟩
                  refine of_code (L_pt (r.less (by decide)) b M I (.tail (.tail (.tail (.tail .head)))) (.tail _ (.tail _ (.head _))) ⟨h1, h2, h3, h4, j1, j2, j3, j4, tl, tw, rfl⟩ (by (first | lia | omega)) (fun k2 s' I => ⟨rfl, ?_⟩))
                  walk_at "w"
                  refine ⟨_, _, _, le6, ⟨_, k2, tN, tW, tP, G6, le3, by walk_at "v", by walk_at "v", by walk_at "v", by walk_at "v", by walk_at "v", by walk_at "v", rfl, ?_⟩, I⟩
                  rw [hstep, hneed, ← List.append_assoc, List.map_append, List.map_append]
                  refine hR.append ?_
                  have ef : (((oneS (sN : Int).toNat ++ ofL wd) ++ spc) ++ (⟨#[abcL.getD i 0]⟩ : Str)) ++ ofL pl = fctS (sN, wd, abcL.getD i 0 :: pl) := by
                    refine str_ext ?_
                    simp only [toList_app]
                    rw [Int.toNat_natCast]
                    show (((([sN] ++ wd) ++ [32]) ++ [abcL.getD i 0]) ++ pl) = sN :: (wd ++ 32 :: (abcL.getD i 0 :: pl))
                    simp
                  rw [ef]
                  exact .cons (.str _ _) .nil
              · have q6 : ¬ (aN : Int) = (N : Int) := fun e => by rw [e] at q6; simp at q6
                have hneed : needF [(sN : Int), (aN : Int), (bN : Int)] i N wd pl = [] := by
                  unfold needF
                  show (if (aN : Int) < 256 then _ else (if (aN : Int) = (N : Int) then _ else _)) = _
                  rw [if_neg q5, if_neg q6]
                walk_at "w"
                refine ⟨_, _, _, le6, ⟨pv', kp', tN, tW, tP, G6, le3, by walk_at "v", by walk_at "v", by walk_at "v", by walk_at "v", by walk_at "v", by walk_at "v", rfl, ?_⟩, I⟩
                rw [hstep, hneed, List.append_nil]; exact hR
          · rintro g6 m W s' le6 hz1 I9
            refine hideP fun Po hPo => ?_
            obtain ⟨pv', kp', tN, tW, tP, G6, le3, hmr, hmm, hmk, hmn, hmw, hmp, rfl, hR⟩ := hz1
            refine hPo ?_; clear hPo Po
            clear I
            refine hQ7 _ _ ⟨rfl, g6, m, pv', kp', G6, le3, hmr, hmm, hmk, I9, ?_⟩
            rw [show ((rules.length : Int) - 0).toNat = rules.length by (first | lia | omega)] at hR
            exact hR
        · rintro fl s' hz1
          refine hideP fun Po hPo => ?_
          obtain ⟨rfl, g6, m6, pv, kp, G6, le3, hmr, hmm, hmk, I9, hR⟩ := hz1
          refine hPo ?_; clear hPo Po
          clear I
          have I := I9
          clear I9
          have bg := b.mono (M0.le.trans G6.le)
          have M := M0.mono G6.le
          have rB0 := rB0.mono le3
          have rB1 := rB1.mono le3
          have rB2 := rB2.mono le3
          clear hdrop hkeep
          walk_at "w"
          refine hideP fun Po hPo => ?_
          obtain ⟨h1, h2, h3, h4, j1, j2, j3, j4, tl, tw, rfl⟩ := he
          refine hPo ?_; clear hPo Po
          refine o_meth I bg (.inl M.x) (.inr (.tail _ (.head _))) (lx_plain w _) (lx_gt w) (lx_fn w).2.2.1 gl_gt ?_
          refine k_fnM0 (o := fo w 49) (fd := fd1 w 49) rfl (I.keep _ _ (bg.k _ _ (by kernel_rfl))) (of_code (L_tok (q := (q ++ needsTo rules rules.length N wd pl).map fctS) (r.less (by decide)) b M I ⟨h1, h2, h3, h4, j1, j2, j3, j4, tl, tw, rfl⟩ hR hp hpd hpa (by rw [List.length_map]; exact Nat.le_trans cq (by decide)) (fun t fact2 q2 es n u k pv kp s' I he hR hq => ?_)))
          walk_at "w"
          have cs : ∃ kk q3, kk < μ k0 k1 k2 ((N, wd, pl) :: q) + 1 ∧ q2 = q3.map fctS ∧ ((fact2 = emp ∧ JJ k0' k1' k2' [] ∧ kk = 0) ∨ (∃ f, fact2 = fctS f ∧ JJ k0' k1' k2' (f :: q3) ∧ kk = μ k0' k1' k2' (f :: q3) + 1)) := by
            generalize hZ : q ++ needsTo rules rules.length N wd pl = Z at *
            cases Z with
            | nil =>
              rcases hq with ⟨_, e2, e3⟩ | e
              · exact ⟨0, [], by (first | lia | omega), e3, .inl ⟨e2, hJ2, rfl⟩⟩
              · cases e
            | cons f Z' =>
              rcases hq with ⟨e, _⟩ | e
              · cases e
              · injection e with e1 e2
                exact ⟨_, Z', by (first | lia | omega), e2.symm, .inr ⟨f, e1.symm, hJ2, rfl⟩⟩
          refine hideP fun Po hPo => ?_
          obtain ⟨kk, q3, hkk, rfl, cs⟩ := cs
          refine hPo ?_; clear hPo Po
          exact ⟨kk, _, _, _, hkk, ⟨B0, B1, B2, k0', k1', k2', fact2, q3, es, n, u, k, pv, kp, t, kK', G6, by walk_at "v", by walk_at "v", by walk_at "v", by walk_at "v", rfl, he, hR, rB0, rB1, rB2, cs⟩, I⟩
    · have q2 : holdsB (ofL wd) (mine.map fun x => ofL x.1) = true := by simpa using q2
      obtain ⟨hJ2, hμ⟩ := hdrop q2
      walk_at "w"
      refine hideP fun Po hPo => ?_
      obtain ⟨h1, h2, h3, h4, j1, j2, j3, j4, tl, tw, rfl⟩ := he
      refine hPo ?_; clear hPo Po
      refine o_meth I bg (.inl M.x) (.inr (.tail _ (.head _))) (lx_plain w _) (lx_gt w) (lx_fn w).2.2.1 gl_gt ?_
      refine k_fnM0 (o := fo w 49) (fd := fd1 w 49) rfl (I.keep _ _ (bg.k _ _ (by kernel_rfl))) (of_code (L_tok (q := (q).map fctS) (r.less (by decide)) b M I ⟨h1, h2, h3, h4, j1, j2, j3, j4, tl, tw, rfl⟩ hR hp hpd hpa (by rw [List.length_map]; exact Nat.le_trans (X.ok _ _ _ _ hJ2).2.2.2.2.1 (by decide)) (fun t fact2 q2 es n u k pv kp s' I he hR hq => ?_)))
      walk_at "w"
      have cs : ∃ kk q3, kk < μ k0 k1 k2 ((N, wd, pl) :: q) + 1 ∧ q2 = q3.map fctS ∧ ((fact2 = emp ∧ JJ k0 k1 k2 [] ∧ kk = 0) ∨ (∃ f, fact2 = fctS f ∧ JJ k0 k1 k2 (f :: q3) ∧ kk = μ k0 k1 k2 (f :: q3) + 1)) := by
        generalize hZ : q = Z at *
        cases Z with
        | nil =>
          rcases hq with ⟨_, e2, e3⟩ | e
          · exact ⟨0, [], by (first | lia | omega), e3, .inl ⟨e2, hJ2, rfl⟩⟩
          · cases e
        | cons f Z' =>
          rcases hq with ⟨e, _⟩ | e
          · cases e
          · injection e with e1 e2
            exact ⟨_, Z', by (first | lia | omega), e2.symm, .inr ⟨f, e1.symm, hJ2, rfl⟩⟩
      refine hideP fun Po hPo => ?_
      obtain ⟨kk, q3, hkk, rfl, cs⟩ := cs
      refine hPo ?_; clear hPo Po
      exact ⟨kk, _, _, _, hkk, ⟨A0, A1, A2, k0, k1, k2, fact2, q3, es, n, u, k, pv, kp, t, kK, G, by walk_at "v", by walk_at "v", by walk_at "v", by walk_at "v", rfl, he, hR, rA0, rA1, rA2, cs⟩, I⟩
end
section
open PySem PySem.W PySem.Calls
set_option Elab.async false
set_option compiler.extract_closed false
set_option maxRecDepth 100000
noncomputable def drawnL (l : List Int) : List Int := (l.take 5).map fun x => x.fmod 48
noncomputable def numsL (l : List Int) : List Int := drawnL l ++ ([41, 0, 19, 25, 7] : List Int).drop (drawnL l).length
noncomputable def totalL (l : List Int) : Int := ((l.take 12).map fun x => x.fmod 720).sum
noncomputable def let0 (l : List Int) : Nat := (7 + (totalL l).fmod 16).toNat
noncomputable def let1 (l : List Int) : Nat := (7 + (totalL l + 1 + ((totalL l).fdiv 16).fmod 15).fmod 16).toNat
noncomputable def marksS : Str := ofL [34, 92, 32, 34, 92]
theorem marks_eq : Str.ofString "\"\\ \"\\" = marksS := by decide +kernel
noncomputable def namesL (l : List Int) : Str := ofL ((marksS.cps.toList.drop ((totalL l).fmod 3).toNat).take 3)
noncomputable def numK (l : List Int) (k : Nat) : Nat := ((numsL l).getD k 0).toNat
noncomputable def ruleK (l : List Int) (k : Nat) : List Int := ruleF (let0 l) (let1 l) k (numK l k)
noncomputable def rulesL (l : List Int) : List (List Int) := (List.range 5).map (ruleK l)
noncomputable def qm : Str := ofL [34]
theorem qm_eq : Str.ofString "\"" = qm := by decide +kernel
noncomputable def markK (l : List Int) (k : Nat) : Str := if numK l k / 24 = 0 then emp else qm
noncomputable def lineK (l : List Int) (k : Nat) : Str := writtenF (ruleK l k) (namesL l) (markK l k)
noncomputable def textL (l : List Int) : Str := ofL (catL ((List.range 5).map (lineK l)))
theorem nums_len (l : List Int) : (numsL l).length = 5 := by
  unfold numsL
  rw [List.length_append, List.length_drop]
  have : (drawnL l).length ≤ 5 := by unfold drawnL; rw [List.length_map, List.length_take]; (first | lia | omega)
  show _ + (5 - _) = 5
  (first | lia | omega)
theorem nums_at (l : List Int) {k : Nat} (hk : k < 5) : (numsL l)[k]? = some ((numK l k : Nat) : Int) ∧ numK l k < 48 := by
  have hl := nums_len l
  have hk' : k < (numsL l).length := by (first | lia | omega)
  have hb : ∀ x ∈ numsL l, 0 ≤ x ∧ x < 48 := by
    intro x hx
    unfold numsL at hx
    rcases List.mem_append.mp hx with h | h
    · unfold drawnL at h
      obtain ⟨y, _, rfl⟩ := List.mem_map.mp h
      exact ⟨Int.fmod_nonneg_of_pos _ (by decide), Int.fmod_lt_of_pos _ (by decide)⟩
    · have := List.mem_of_mem_drop h
      simp only [List.mem_cons, List.not_mem_nil, or_false] at this
      rcases this with rfl | rfl | rfl | rfl | rfl <;> decide
  have := hb _ (List.getElem_mem hk')
  unfold numK
  rw [List.getElem?_eq_getElem hk']
  simp only [List.getD, List.getElem?_eq_getElem hk', Option.getD_some]
  constructor
  · congr 1; (first | lia | omega)
  · (first | lia | omega)
theorem total_nn (l : List Int) : 0 ≤ totalL l := by
  unfold totalL
  have : ∀ xs : List Int, 0 ≤ (xs.map fun x : Int => x.fmod 720).sum := by
    intro xs
    induction xs with
    | nil => exact Int.le_refl 0
    | cons x xs ih =>
      rw [List.map_cons, List.sum_cons]
      have := Int.fmod_nonneg_of_pos x (b := 720) (by decide)
      (first | lia | omega)
  exact this _
theorem names_len (l : List Int) : (namesL l).length = 3 := by
  unfold namesL
  have h1 := Int.fmod_nonneg_of_pos (totalL l) (b := 3) (by decide)
  have h2 := Int.fmod_lt_of_pos (totalL l) (b := 3) (by decide)
  have : (totalL l).fmod 3 = 0 ∨ (totalL l).fmod 3 = 1 ∨ (totalL l).fmod 3 = 2 := by (first | lia | omega)
  rcases this with h | h | h <;> rw [h] <;> decide
theorem let_ok (l : List Int) : (7 ≤ let0 l ∧ let0 l ≤ 22) ∧ 7 ≤ let1 l ∧ let1 l ≤ 22 := by
  unfold let0 let1
  have h1 := Int.fmod_nonneg_of_pos (totalL l) (b := 16) (by decide)
  have h2 := Int.fmod_lt_of_pos (totalL l) (b := 16) (by decide)
  have h3 := Int.fmod_nonneg_of_pos (totalL l + 1 + ((totalL l).fdiv 16).fmod 15) (b := 16) (by decide)
  have h4 := Int.fmod_lt_of_pos (totalL l + 1 + ((totalL l).fdiv 16).fmod 15) (b := 16) (by decide)
  (first | lia | omega)
/-- each rule is well formed; none leads from a state to itself -/
inductive RSh (l : List Int) (k : Nat) : Prop
  | mk (s a b : Nat) (e : ruleK l k = [(s : Int), (a : Int), (b : Int)]) (hs : s = 256 ∨ s = 257)
    (h : (7 ≤ a ∧ a ≤ 22 ∧ (a = let0 l ∨ a = let1 l) ∧ (b = 258 ∨ b = 513 - s)) ∨ ((a = 258 ∨ a = 513 - s) ∧ 7 ≤ b ∧ b ≤ 22 ∧ (b = let0 l ∨ b = let1 l)))
theorem ruleK_shape (l : List Int) (k : Nat) : RSh l k := by
  obtain ⟨⟨h1, h2⟩, h3, h4⟩ := let_ok l
  have hs : startF (numK l k) = 256 ∨ startF (numK l k) = 257 := by unfold startF; (first | lia | omega)
  have hg : goalF k (numK l k) = 258 ∨ goalF k (numK l k) = 513 - startF (numK l k) := by
    unfold goalF startF; split
    · exact .inl rfl
    · right; (first | lia | omega)
  have hl : letF (let0 l) (let1 l) (numK l k) = let0 l ∨ letF (let0 l) (let1 l) (numK l k) = let1 l := by
    unfold letF; split
    · exact .inl rfl
    · exact .inr rfl
  have hl7 : 7 ≤ letF (let0 l) (let1 l) (numK l k) ∧ letF (let0 l) (let1 l) (numK l k) ≤ 22 := by
    rcases hl with e | e <;> rw [e] <;> constructor <;> assumption
  have e : ruleK l k = ruleF (let0 l) (let1 l) k (numK l k) := rfl
  unfold ruleF at e
  split at e
  · exact ⟨_, _, _, e, hs, .inr ⟨hg, hl7.1, hl7.2, hl⟩⟩
  · exact ⟨_, _, _, e, hs, .inl ⟨hl7.1, hl7.2, hl, hg⟩⟩
theorem ruleK_rok (l : List Int) (k : Nat) : Rok (ruleK l k) ∧ RuleOk (ruleK l k) := by
  obtain ⟨s, a, b, e, hs, h⟩ := ruleK_shape l k
  rw [e]
  constructor
  · refine ⟨s, a, b, rfl, hs, ?_⟩
    rcases h with ⟨h1, h2, _, h3⟩ | ⟨h3, h1, h2, _⟩
    · exact .inl ⟨h1, h2, by (first | lia | omega)⟩
    · exact .inr ⟨by (first | lia | omega), h1, h2⟩
  · refine ⟨by simp, fun p hp => ?_⟩
    simp only [List.mem_cons, List.not_mem_nil, or_false] at hp
    rcases hp with rfl | rfl | rfl <;> (first | lia | omega)
theorem mem_rules {l : List Int} {r : List Int} (h : r ∈ rulesL l) : ∃ k, k < 5 ∧ r = ruleK l k := by
  unfold rulesL at h
  obtain ⟨k, hk, e⟩ := List.mem_map.mp h
  exact ⟨k, List.mem_range.mp hk, e.symm⟩
end
section
open PySem PySem.W PySem.Calls
set_option Elab.async false
set_option maxRecDepth 100000
noncomputable def PartOk (p : Int) : Prop := (7 ≤ p ∧ p ≤ 22) ∨ p = 256 ∨ p = 257 ∨ p = 258
noncomputable def signN (names : Str) (p : Int) : Nat := if p < 256 then opsL.getD (p - 7).toNat 0 else names.cps.toList.getD (p - 256).toNat 0
noncomputable def namesC : List (List Nat) := [[34, 92, 32], [92, 32, 34], [32, 34, 92]]
theorem names_in (l : List Int) : ∃ ns ∈ namesC, namesL l = ofL ns := by
  have h1 := Int.fmod_nonneg_of_pos (totalL l) (b := 3) (by decide)
  have h2 := Int.fmod_lt_of_pos (totalL l) (b := 3) (by decide)
  have : (totalL l).fmod 3 = 0 ∨ (totalL l).fmod 3 = 1 ∨ (totalL l).fmod 3 = 2 := by (first | lia | omega)
  rcases this with h | h | h
  · exact ⟨_, .head _, by unfold namesL; rw [h]; rfl⟩
  · exact ⟨_, .tail _ (.head _), by unfold namesL; rw [h]; rfl⟩
  · exact ⟨_, .tail _ (.tail _ (.head _)), by unfold namesL; rw [h]; rfl⟩
theorem sign_cases {ns : List Nat} (hn : ns ∈ namesC) {p : Int} (hp : PartOk p) :
    (p < 256 ∧ signF (ofL ns) p = [signN (ofL ns) p] ∧ signN (ofL ns) p ∈ opsL) ∨ (¬ p < 256 ∧ signF (ofL ns) p = [92, signN (ofL ns) p] ∧ signN (ofL ns) p ∈ ([34, 92, 32] : List Nat)) := by
  by_cases h : p < 256
  · refine .inl ⟨h, ?_, ?_⟩
    · unfold signF signN; rw [if_pos h, if_pos h]
    · unfold signN
      rw [if_pos h]
      have hlt : (p - 7).toNat < opsL.length := by show _ < 16; rcases hp with h | h | h | h <;> (first | lia | omega)
      simp only [List.getD, List.getElem?_eq_getElem hlt, Option.getD_some]
      exact List.getElem_mem hlt
  · refine .inr ⟨h, ?_, ?_⟩
    · unfold signF signN; rw [if_neg h, if_neg h]
    · unfold signN
      rw [if_neg h]
      have hp : p = 256 ∨ p = 257 ∨ p = 258 := hp.resolve_left (by (first | lia | omega))
      simp only [namesC, List.mem_cons, List.not_mem_nil, or_false] at hn
      rcases hn with rfl | rfl | rfl <;> rcases hp with rfl | rfl | rfl <;> decide
theorem ops_plain : ∀ c ∈ opsL, isWs c = false ∧ c ≠ 34 ∧ c ≠ 92 := by decide
theorem scB_rule {ns : List Nat} (hn : ns ∈ namesC) (r : List Nat) : ∀ (rule : List Int) (acc : List Nat), (∀ p ∈ rule, PartOk p) → scB (rule.flatMap (signF (ofL ns)) ++ 34 :: r) acc = (acc ++ rule.map (signN (ofL ns)), r)
  | [], acc, _ => by show scB (34 :: r) acc = _; unfold scB; simp
  | p :: ps, acc, h => by
    have ih := scB_rule hn r ps (acc ++ [signN (ofL ns) p]) fun q hq => h q (.tail _ hq)
    rw [List.flatMap_cons]
    rcases sign_cases hn (h p (.head _)) with ⟨_, e, hm⟩ | ⟨_, e, _⟩
    · obtain ⟨_, h34, h92⟩ := ops_plain _ hm
      rw [e]
      simp only [List.cons_append, List.nil_append]
      unfold scB
      rw [if_neg h34, if_neg h92, ih]
      simp
    · rw [e]
      simp only [List.cons_append, List.nil_append]
      unfold scB
      rw [if_neg (by decide), if_pos rfl]
      dsimp only
      rw [ih]
      simp
theorem scC_rule {ns : List Nat} (hn : ns ∈ namesC) (r : List Nat) : ∀ (rule : List Int) (acc : List Nat), (∀ p ∈ rule, PartOk p) → scC (rule.flatMap (signF (ofL ns)) ++ 10 :: r) acc = (acc ++ rule.map (signN (ofL ns)), r)
  | [], acc, _ => by show scC (10 :: r) acc = _; unfold scC; simp [isWs]
  | p :: ps, acc, h => by
    have ih := scC_rule hn r ps (acc ++ [signN (ofL ns) p]) fun q hq => h q (.tail _ hq)
    rw [List.flatMap_cons]
    rcases sign_cases hn (h p (.head _)) with ⟨_, e, hm⟩ | ⟨_, e, _⟩
    · obtain ⟨hw, h34, h92⟩ := ops_plain _ hm
      rw [e]
      simp only [List.cons_append, List.nil_append]
      unfold scC
      rw [hw, if_neg (by simp), if_neg h92, ih]
      simp
    · rw [e]
      simp only [List.cons_append, List.nil_append]
      unfold scC
      rw [if_neg (by decide), if_pos rfl]
      dsimp only
      rw [ih]
      simp
theorem scA_nl (r : List Nat) : scA (10 :: r) = scA r := by
  conv => lhs; unfold scA
  rw [if_pos (by decide)]
theorem hear_nl (n : Nat) (r : List Nat) : hear n (10 :: r) = hear n r := by
  cases n with
  | zero => rfl
  | succ n => rw [hear_s, hear_s, scA_nl]
theorem hearEnd_nl (n : Nat) (r : List Nat) : hearEnd n (10 :: r) = hearEnd n r := by
  cases n with
  | zero => show (scA (10 :: r)).2 = _; rw [scA_nl]; rfl
  | succ n => rw [hearEnd_s, hearEnd_s, scA_nl]
theorem hear_line {ns : List Nat} (hn : ns ∈ namesC) {rule : List Int} {N : Int} {ps : List Int} (hr : rule = N :: ps) (hN : N = 256 ∨ N = 257) (ok : ∀ p ∈ rule, PartOk p) {mark : Str} (hm : mark = emp ∨ mark = qm) (n : Nat) (r : List Nat) :
    hear (n + 1) ((writtenF rule (ofL ns) mark).cps.toList ++ r) = rule.map (signN (ofL ns)) :: hear n r ∧ hearEnd (n + 1) ((writtenF rule (ofL ns) mark).cps.toList ++ r) = hearEnd n r := by
  have key : scA ((writtenF rule (ofL ns) mark).cps.toList ++ r) = (rule.map (signN (ofL ns)), r) ∨ scA ((writtenF rule (ofL ns) mark).cps.toList ++ r) = (rule.map (signN (ofL ns)), 10 :: r) := by
    rcases hm with rfl | rfl
    · left
      have e : (writtenF rule (ofL ns) emp).cps.toList ++ r = rule.flatMap (signF (ofL ns)) ++ 10 :: r := by
        unfold writtenF
        rw [toList_app, toList_app, toList_app, ofL_toList]
        simp [emp, nlS, ofL]
      rw [e, hr]
      rw [List.flatMap_cons]
      have hNp : ¬ N < 256 := by (first | lia | omega)
      rcases sign_cases hn (p := N) (.inr (by rcases hN with h | h; exact .inl h; exact .inr (.inl h))) with ⟨h, _, _⟩ | ⟨_, e, _⟩
      · exact absurd h hNp
      · rw [e]
        simp only [List.cons_append, List.nil_append]
        unfold scA
        rw [if_neg (by decide), if_neg (by decide), if_pos rfl]
        dsimp only
        rw [scC_rule hn r ps _ (fun p hp => ok p (by rw [hr]; exact .tail _ hp))]
        simp
    · right
      have e : (writtenF rule (ofL ns) qm).cps.toList ++ r = 34 :: (rule.flatMap (signF (ofL ns)) ++ 34 :: 10 :: r) := by
        unfold writtenF
        rw [toList_app, toList_app, toList_app, ofL_toList]
        simp [qm, nlS, ofL]
      rw [e]
      unfold scA
      rw [if_neg (by decide), if_pos rfl, scB_rule hn _ rule _ ok]
      simp
  have hne : rule.map (signN (ofL ns)) ≠ [] := by rw [hr]; simp
  have c1 : ∀ (wd : List Nat) n l, wd ≠ [] → contW wd n l = wd :: hear n l ∧ endW wd n l = hearEnd n l := fun wd n l h => by
    cases wd with
    | nil => exact absurd rfl h
    | cons a b => exact ⟨rfl, rfl⟩
  rw [hear_s, hearEnd_s]
  rcases key with e | e <;> rw [e]
  · exact c1 _ _ _ hne
  · obtain ⟨a, b⟩ := c1 _ n (10 :: r) hne
    exact ⟨by rw [a, hear_nl], by rw [b, hearEnd_nl]⟩
noncomputable def partsAll : List Int := [7, 8, 9, 10, 11, 12, 13, 14, 15, 16, 17, 18, 19, 20, 21, 22, 256, 257, 258]
theorem part_mem {p : Int} (h : PartOk p) : p ∈ partsAll := by
  have : p = 7 ∨ p = 8 ∨ p = 9 ∨ p = 10 ∨ p = 11 ∨ p = 12 ∨ p = 13 ∨ p = 14 ∨ p = 15 ∨ p = 16 ∨ p = 17 ∨ p = 18 ∨ p = 19 ∨ p = 20 ∨ p = 21 ∨ p = 22 ∨ p = 256 ∨ p = 257 ∨ p = 258 := by
    rcases h with h | h | h | h <;> (first | lia | omega)
  rcases this with h | h | h | h | h | h | h | h | h | h | h | h | h | h | h | h | h | h | h <;> rw [h] <;> decide
theorem tok_all : (namesC.all fun ns => partsAll.all fun p => decide (tokI (ofL ns) (signN (ofL ns) p) = p)) = true := by decide +kernel
theorem tok_back {ns : List Nat} (hn : ns ∈ namesC) {p : Int} (h : PartOk p) : tokI (ofL ns) (signN (ofL ns) p) = p := by
  have := List.all_eq_true.mp (List.all_eq_true.mp tok_all _ hn) _ (part_mem h)
  simpa using this
theorem sign_nonl {ns : List Nat} (hn : ns ∈ namesC) {p : Int} (h : PartOk p) : (signF (ofL ns) p).count 10 = 0 := by
  rcases sign_cases hn h with ⟨_, e, hm⟩ | ⟨_, e, hm⟩ <;> rw [e]
  · have q : ∀ c ∈ opsL, List.count 10 [c] = 0 := by decide
    exact q _ hm
  · have q : ∀ c ∈ ([34, 92, 32] : List Nat), List.count 10 [92, c] = 0 := by decide
    exact q _ hm
theorem flat_nonl {ns : List Nat} (hn : ns ∈ namesC) : ∀ rule : List Int, (∀ p ∈ rule, PartOk p) → (rule.flatMap (signF (ofL ns))).count 10 = 0
  | [], _ => rfl
  | p :: ps, h => by rw [List.flatMap_cons, List.count_append, sign_nonl hn (h p (.head _)), flat_nonl hn ps fun q hq => h q (.tail _ hq)]
theorem line_nl {ns : List Nat} (hn : ns ∈ namesC) {rule : List Int} (ok : ∀ p ∈ rule, PartOk p) {mark : Str} (hm : mark = emp ∨ mark = qm) : (writtenF rule (ofL ns) mark).cps.toList.count 10 = 1 := by
  unfold writtenF
  rw [toList_app, toList_app, toList_app, ofL_toList]
  simp only [List.count_append]
  rw [flat_nonl hn rule ok]
  rcases hm with rfl | rfl <;> decide
theorem mark_in (l : List Int) (k : Nat) : markK l k = emp ∨ markK l k = qm := by unfold markK; split; exact .inl rfl; exact .inr rfl
theorem line_len (l : List Int) (k : Nat) : (lineK l k).length ≤ 100 ∧ 1 ≤ (lineK l k).cps.toList.length := by
  have h1 := signs_len (namesL l) (ruleK l k)
  have h2 := (ruleK_rok l k).2.len
  have e : (lineK l k).cps.toList.length = (markK l k).cps.toList.length + ((ruleK l k).flatMap (signF (namesL l))).length + (markK l k).cps.toList.length + 1 := by
    unfold lineK writtenF
    rw [toList_app, toList_app, toList_app, ofL_toList]
    simp [nlS, ofL]
    (first | lia | omega)
  have e2 : (markK l k).cps.toList.length ≤ 1 := by rcases mark_in l k with h | h <;> rw [h] <;> decide
  have e3 : (lineK l k).length = (lineK l k).cps.toList.length := by simp [Str.length]
  (first | lia | omega)
theorem text_eq (l : List Int) : (textL l).cps.toList = (lineK l 0).cps.toList ++ ((lineK l 1).cps.toList ++ ((lineK l 2).cps.toList ++ ((lineK l 3).cps.toList ++ ((lineK l 4).cps.toList ++ [])))) := rfl
theorem pure_heard (l : List Int) : rowD (namesL l) (hear ((textL l).length + 1) (textL l).cps.toList) = ((rulesL l).map fun c => PyData.list (c.map PyData.int)) ∧ hearEnd ((textL l).length + 1) (textL l).cps.toList = [] ∧ nlOf (textL l).cps.toList = 5 := by
  obtain ⟨ns, hn, en⟩ := names_in l
  have hl : ∃ m, (textL l).length + 1 = m + 1 + 1 + 1 + 1 + 1 + 1 := by
    have e : (textL l).length = (textL l).cps.toList.length := by simp [Str.length]
    have h0 := (line_len l 0).2
    have h1 := (line_len l 1).2
    have h2 := (line_len l 2).2
    have h3 := (line_len l 3).2
    have h4 := (line_len l 4).2
    rw [text_eq] at e
    simp only [List.length_append] at e
    exact ⟨(textL l).length - 5, by (first | lia | omega)⟩
  obtain ⟨m, hm⟩ := hl
  have L : ∀ k n r, hear (n + 1) ((lineK l k).cps.toList ++ r) = (ruleK l k).map (signN (ofL ns)) :: hear n r ∧ hearEnd (n + 1) ((lineK l k).cps.toList ++ r) = hearEnd n r := fun k n r => by
    unfold lineK
    rw [en]
    obtain ⟨sN, aN, bN, hps, hs, _⟩ := ruleK_shape l k
    exact hear_line hn hps (by (first | lia | omega)) (ruleK_rok l k).2.parts (mark_in l k) n r
  have C : ∀ k, (lineK l k).cps.toList.count 10 = 1 := fun k => by
    unfold lineK
    rw [en]
    exact line_nl hn (ruleK_rok l k).2.parts (mark_in l k)
  refine ⟨?_, ?_, ?_⟩
  · rw [hm, text_eq, (L 0 _ _).1, (L 1 _ _).1, (L 2 _ _).1, (L 3 _ _).1, (L 4 _ _).1]
    have e0 : hear (m + 1) [] = [] := rfl
    rw [e0, en]
    have R : ∀ k, ((ruleK l k).map (signN (ofL ns))).map (tokI (ofL ns)) = ruleK l k := fun k => by
      rw [List.map_map]
      have : ∀ ps : List Int, (∀ p ∈ ps, PartOk p) → ps.map (tokI (ofL ns) ∘ signN (ofL ns)) = ps := by
        intro ps
        induction ps with
        | nil => intro _; rfl
        | cons p ps ih =>
          intro h
          rw [List.map_cons, ih fun q hq => h q (.tail _ hq)]
          show tokI (ofL ns) (signN (ofL ns) p) :: ps = _
          rw [tok_back hn (h p (.head _))]
      exact this _ (ruleK_rok l k).2.parts
    show [PyData.list _, PyData.list _, PyData.list _, PyData.list _, PyData.list _] = _
    rw [R, R, R, R, R]
    rfl
  · rw [hm, text_eq, (L 0 _ _).2, (L 1 _ _).2, (L 2 _ _).2, (L 3 _ _).2, (L 4 _ _).2]
    rfl
  · unfold nlOf
    rw [text_eq]
    simp only [List.count_append, C]
    rfl
end
section
open PySem PySem.W PySem.Calls
set_option Elab.async false
set_option maxRecDepth 100000
noncomputable def Sb (x y : Str) : Prop := x.cps.toList.Sublist y.cps.toList
theorem Sb.refl (x : Str) : Sb x x := List.Sublist.refl _
theorem Sb.trans {x y z : Str} (a : Sb x y) (b : Sb y z) : Sb x z := List.Sublist.trans a b
theorem str_eq {x y : Str} (h : x.cps.toList = y.cps.toList) : x = y := Str.ext' (Array.toList_inj.mp h)
theorem Sb.anti {x y : Str} (a : Sb x y) (b : Sb y x) : x = y := str_eq (List.Sublist.eq_of_length_le a (List.Sublist.length_le b))
theorem Sb.len {x y : Str} (a : Sb x y) : x.length ≤ y.length := by
  have := List.Sublist.length_le a
  simpa [Str.length] using this
theorem Sb.eq_of_len {x y : Str} (a : Sb x y) (h : y.length ≤ x.length) : x = y := str_eq (a.eq_of_length_le (by simpa [Str.length] using h))
theorem stand_go (sh : Str) : ∀ (lo : List Nat) (a : Nat), a ≤ sh.cps.size → ((lo.foldl (stStep sh) a = sh.cps.size) ↔ (sh.cps.toList.drop a).Sublist lo)
  | [], a, h => by
    show a = _ ↔ _
    rw [List.sublist_nil, List.drop_eq_nil_iff]
    have : sh.cps.toList.length = sh.cps.size := by simp
    (first | lia | omega)
  | c :: lo, a, h => by
    rw [List.foldl_cons]
    by_cases ha : a < sh.cps.size
    · have e0 : sh.cps.toList.drop a = sh.cps.toList[a]'(by simpa using ha) :: sh.cps.toList.drop (a + 1) := List.drop_eq_getElem_cons _
      have e1 : sh.cps[a]? = some (sh.cps.toList[a]'(by simpa using ha)) := by rw [← Array.getElem?_toList]; exact List.getElem?_eq_getElem _
      by_cases hc : sh.cps.toList[a]'(by simpa using ha) = c
      · have : stStep sh a c = a + 1 := by unfold stStep; rw [if_pos ⟨ha, by rw [e1, hc]⟩]
        rw [this, stand_go sh lo (a + 1) ha, e0, hc, List.cons_sublist_cons]
      · have : stStep sh a c = a := by unfold stStep; rw [if_neg fun q => hc (by rw [e1] at q; exact Option.some.inj q.2)]
        rw [this, stand_go sh lo a h, e0]
        constructor
        · intro q; exact .cons _ q
        · intro q
          cases q with
          | cons _ q => exact q
          | cons_cons _ q => exact absurd rfl hc
    · have e : a = sh.cps.size := by (first | lia | omega)
      have e0 : sh.cps.toList.drop a = [] := List.drop_eq_nil_iff.mpr (by simp; (first | lia | omega))
      have : stStep sh a c = a := by unfold stStep; rw [if_neg fun q => ha q.1]
      rw [this, stand_go sh lo a h, e0]
      simp
theorem stands_iff (x y : Str) : standsF x y = true ↔ Sb x y := by
  unfold standsF Sb
  rw [beq_iff_eq, stand_go x _ 0 (Nat.zero_le _), List.drop_zero]
theorem low_go : ∀ (l acc : List Str), ∃ L, l.foldl lowStep acc = acc ++ L ∧ L.Sublist l ∧ (∀ x ∈ l, ∃ y ∈ acc ++ L, Sb y x) ∧ (acc.Pairwise (fun a b => ¬ Sb a b) → (acc ++ L).Pairwise (fun a b => ¬ Sb a b))
  | [], acc => ⟨[], by simp, .slnil, fun _ h => (nomatch h), fun h => by simpa using h⟩
  | x :: l, acc => by
    rw [List.foldl_cons]
    by_cases h : (acc.filter fun y => standsF y x).isEmpty = true
    · have e : lowStep acc x = acc ++ [x] := by unfold lowStep; rw [if_pos h]
      have hn : ∀ y ∈ acc, ¬ Sb y x := fun y hy hs => by
        have : y ∈ acc.filter fun y => standsF y x := List.mem_filter.mpr ⟨hy, (stands_iff _ _).mpr hs⟩
        rw [List.isEmpty_iff.mp h] at this; cases this
      obtain ⟨L, e1, e2, e3, e4⟩ := low_go l (acc ++ [x])
      refine ⟨x :: L, by rw [e, e1]; simp, .cons_cons _ e2, fun z hz => ?_, fun hp => ?_⟩
      · rcases List.mem_cons.mp hz with rfl | hz
        · exact ⟨z, by simp, Sb.refl _⟩
        · obtain ⟨y, hy, hs⟩ := e3 z hz
          exact ⟨y, by simpa using hy, hs⟩
      · have := e4 (List.pairwise_append.mpr ⟨hp, List.pairwise_singleton _ _, fun a ha b hb => by rw [List.mem_singleton.mp hb]; exact hn a ha⟩)
        simpa using this
    · have e : lowStep acc x = acc := by unfold lowStep; rw [if_neg h]
      obtain ⟨L, e1, e2, e3, e4⟩ := low_go l acc
      refine ⟨L, by rw [e, e1], .cons _ e2, fun z hz => ?_, e4⟩
      rcases List.mem_cons.mp hz with rfl | hz
      · cases q : acc.filter fun y => standsF y z with
        | nil => rw [q] at h; exact absurd rfl h
        | cons y r =>
          have : y ∈ acc.filter fun y => standsF y z := by rw [q]; exact .head _
          obtain ⟨h1, h2⟩ := List.mem_filter.mp this
          exact ⟨y, List.mem_append_left _ h1, (stands_iff _ _).mp h2⟩
      · exact e3 z hz
theorem pw_sym {α : Type} {R : α → α → Prop} (hs : ∀ a b, R a b → R b a) : ∀ {l : List α}, l.Pairwise R → ∀ a ∈ l, ∀ b ∈ l, a ≠ b → R a b
  | _ :: l, h, a, ha, b, hb, hne => by
    obtain ⟨h1, h2⟩ := List.pairwise_cons.mp h
    rcases List.mem_cons.mp ha with rfl | ha'
    · rcases List.mem_cons.mp hb with rfl | hb'
      · exact absurd rfl hne
      · exact h1 _ hb'
    · rcases List.mem_cons.mp hb with rfl | hb'
      · exact hs _ _ (h1 _ ha')
      · exact pw_sym hs h2 a ha' b hb' hne
noncomputable def Apart (a b : Str) : Prop := ¬ Sb a b ∧ ¬ Sb b a
theorem apart_sym (a b : Str) (h : Apart a b) : Apart b a := ⟨h.2, h.1⟩
theorem apart_nodup {l : List Str} (h : l.Pairwise Apart) : l.Nodup := List.Pairwise.imp (R := Apart) (S := (· ≠ ·)) (fun {a b} h e => by subst e; exact h.1 (Sb.refl _)) h
theorem low_eq {kept trees : List Str} (pw : kept.Pairwise Apart) (sub : ∀ k ∈ kept, k ∈ trees) (cov : ∀ t ∈ trees, ∃ k ∈ kept, Sb k t) : sortW kept = lowF trees := by
  obtain ⟨L, e1, e2, e3, e4⟩ := low_go (sortW trees) []
  have e1 : lowF trees = L := by unfold lowF; rw [e1]; rfl
  rw [e1]
  have ms : ∀ x, x ∈ sortW trees ↔ x ∈ trees := fun x => (sortW_perm trees).mem_iff
  have srt : L.Pairwise fun a b => ltW b a = false := (sortW_pw trees).sublist e2
  have nsb : L.Pairwise fun a b => ¬ Sb a b := by simpa using e4 List.Pairwise.nil
  have ap : L.Pairwise Apart := by
    refine (srt.and nsb).imp fun {a b} h => ⟨h.2, fun hs => ?_⟩
    have hl := hs.len
    have : a.length ≤ b.length := by
      have q := h.1
      cases e : decide (b.length < a.length) with
      | true =>
        have : ltW b a = true := (ltW_iff _ _).mpr (.inl (by simpa using e))
        rw [this] at q; cases q
      | false => have := of_decide_eq_false e; (first | lia | omega)
    have := hs.eq_of_len this
    subst this
    exact h.2 (Sb.refl _)
  have lin : ∀ x ∈ L, x ∈ trees := fun x hx => (ms x).mp (e2.subset hx)
  refine (sortW_uniq ?_ srt).symm
  refine (List.perm_ext_iff_of_nodup (apart_nodup ap) (apart_nodup pw)).mpr fun x => ⟨fun hx => ?_, fun hx => ?_⟩
  · obtain ⟨k, hk, hkx⟩ := cov x (lin x hx)
    obtain ⟨y, hy, hyk⟩ := e3 k ((ms k).mpr (sub k hk))
    have hy : y ∈ L := by simpa using hy
    by_cases e : y = x
    · subst e
      have := hyk.anti hkx
      rw [this]; exact hk
    · exact absurd (hyk.trans hkx) (pw_sym apart_sym ap y hy x hx e).1
  · obtain ⟨y, hy, hyx⟩ := e3 x ((ms x).mpr (sub x hx))
    have hy : y ∈ L := by simpa using hy
    obtain ⟨k, hk, hky⟩ := cov y (lin y hy)
    by_cases e : k = x
    · subst e
      have := hky.anti hyx
      rw [this]; exact hy
    · exact absurd (hky.trans hyx) (pw_sym apart_sym pw k hk x hx e).1
end
section
open PySem PySem.W PySem.Calls
set_option maxRecDepth 100000
theorem pre_anti {α : Type} {a b : List α} (h1 : a <+: b) (h2 : b.length ≤ a.length) : b = a := (h1.eq_of_length_le h2).symm
theorem lenR_le {r q : List Str × List Str} (h : r.1 <+: q.1 ∧ r.2 <+: q.2) (h2 : lenR q ≤ lenR r) : q = r := by
  obtain ⟨h1, h3⟩ := h
  have a := h1.length_le
  have b := h3.length_le
  unfold lenR at h2
  exact Prod.ext (pre_anti h1 (by (first | lia | omega))) (pre_anti h3 (by (first | lia | omega)))
theorem lenR_mono {r q : List Str × List Str} (h : r.1 <+: q.1 ∧ r.2 <+: q.2) : lenR r ≤ lenR q := by
  have a := h.1.length_le
  have b := h.2.length_le
  unfold lenR; (first | lia | omega)
theorem fold_fix {rules : List (List Int)} {st : Nat} (hst : st = 0 ∨ st = 1) : ∀ (ws : List Str) (r : List Str × List Str), roundS rules ws st r = r → ∀ x ∈ ws, addR rules st r x = r
  | [], _, _, x, hx => by cases hx
  | y :: ws, r, h, x, hx => by
    have p1 := addR_pre (rules := rules) hst r y
    have p2 := roundS_pre (rules := rules) hst ws (addR rules st r y)
    have e : roundS rules ws st (addR rules st r y) = r := h
    rw [e] at p2
    have e1 : addR rules st r y = r := lenR_le p1 (lenR_mono p2)
    rcases List.mem_cons.mp hx with rfl | hx
    · exact e1
    · rw [e1] at e; exact fold_fix hst ws r e x hx
theorem fix_round {rules : List (List Int)} {ws : List Str} {rc : List Str × List Str} (h : roundR rules ws rc = rc) {st : Nat} (hst : st = 0 ∨ st = 1) : roundS rules ws st rc = rc := by
  have p1 := roundS_pre (rules := rules) (.inl rfl) ws rc
  have p2 := roundS_pre (rules := rules) (.inr rfl) ws (roundS rules ws 0 rc)
  have e : roundS rules ws 1 (roundS rules ws 0 rc) = rc := h
  rw [e] at p2
  have e0 : roundS rules ws 0 rc = rc := lenR_le p1 (lenR_mono p2)
  rcases hst with rfl | rfl
  · exact e0
  · rw [e0] at e; exact e
/-- a fixed reach has each word that goes -/
theorem fix_mem {rules : List (List Int)} {ws : List Str} {rc : List Str × List Str} (h : roundR rules ws rc = rc) {st : Nat} (hst : st = 0 ∨ st = 1) {x : Str} (hx : x ∈ ws) (hg : goesF (ownF rules st) rc.1 rc.2 (mineR st rc) x = true) : x ∈ mineR st rc := by
  have e := fold_fix hst ws rc (fix_round h hst) x hx
  unfold addR at e
  rw [hg, Bool.and_true] at e
  cases hm : memB x (mineR st rc) with
  | true => exact memB_iff.mp hm
  | false =>
    rw [hm] at e
    rw [if_pos (by rfl)] at e
    have := congrArg lenR e
    rcases hst with rfl | rfl
    · have : ((rc.1 ++ [x]).length + rc.2.length : Nat) = rc.1.length + rc.2.length := this
      simp at this
    · have : (rc.1.length + (rc.2 ++ [x]).length : Nat) = rc.1.length + rc.2.length := this
      simp at this
noncomputable def Hd (k : List WP) (w : List Nat) : Prop := ∃ x ∈ k, x.1.Sublist w
theorem hd_iff {k : List WP} {w : List Nat} : holdsB (ofL w) (k.map fun x => ofL x.1) = true ↔ Hd k w := by
  unfold holdsB Hd
  rw [List.any_eq_true]
  constructor
  · rintro ⟨y, hy, e⟩
    obtain ⟨x, hx, rfl⟩ := List.mem_map.mp hy
    exact ⟨x, hx, of_decide_eq_true e⟩
  · rintro ⟨x, hx, e⟩
    exact ⟨_, List.mem_map.mpr ⟨x, hx, rfl⟩, decide_eq_true e⟩
theorem hd_one {w v : List Nat} : holdsB (ofL v) [ofL w] = true ↔ w.Sublist v := by
  unfold holdsB
  rw [List.any_eq_true]
  constructor
  · rintro ⟨y, hy, e⟩
    rw [List.mem_singleton.mp hy] at e
    exact of_decide_eq_true e
  · intro e; exact ⟨_, List.mem_singleton.mpr rfl, decide_eq_true e⟩
theorem hd_new {k : List WP} {w p v : List Nat} (h : Hd k v) : Hd (newW k w p) v := by
  obtain ⟨x, hx, hs⟩ := h
  unfold newW Hd
  cases hh : holdsB (ofL x.1) [ofL w] with
  | true => exact ⟨(w, p), List.mem_append_right _ (.head _), (hd_one.mp hh).trans hs⟩
  | false => exact ⟨x, List.mem_append_left _ (List.mem_filter.mpr ⟨hx, by rw [hh]; rfl⟩), hs⟩
theorem hd_self {k : List WP} {w p : List Nat} : Hd (newW k w p) w := ⟨(w, p), List.mem_append_right _ (.head _), List.Sublist.refl _⟩
theorem mem_newW {k : List WP} {w p : List Nat} {x : WP} (h : x ∈ newW k w p) : x ∈ k ∨ x = (w, p) := by
  unfold newW at h
  rcases List.mem_append.mp h with h | h
  · exact .inl (List.mem_filter.mp h).1
  · exact .inr (List.mem_singleton.mp h)
noncomputable def ApartW (a b : WP) : Prop := ¬ a.1.Sublist b.1 ∧ ¬ b.1.Sublist a.1
theorem apart_new {k : List WP} {w p : List Nat} (h : k.Pairwise ApartW) (hn : ¬ Hd k w) : (newW k w p).Pairwise ApartW := by
  unfold newW
  rw [List.pairwise_append]
  refine ⟨h.sublist List.filter_sublist, List.pairwise_singleton _ _, fun a ha b hb => ?_⟩
  rw [List.mem_singleton.mp hb]
  obtain ⟨h1, h2⟩ := List.mem_filter.mp ha
  refine ⟨fun q => hn ⟨a, h1, q⟩, fun q => ?_⟩
  rw [hd_one.mpr q] at h2
  cases h2
noncomputable def Lt (l : List Int) (w : List Nat) : Prop := ∀ c ∈ w, c = 64 + let0 l ∨ c = 64 + let1 l
noncomputable def signsL (l : List Int) : List Str := [oneS (64 + let0 l), oneS (64 + let1 l)]
noncomputable def wordsL (l : List Int) : List Str := [emp] ++ signsL l ++ (signsL l).flatMap fun x => (signsL l).map (x ++ ·)
theorem mem_words {l : List Int} {w : List Nat} (h : Lt l w) (h2 : w.length ≤ 2) : ofL w ∈ wordsL l := by
  match w, h, h2 with
  | [], _, _ => exact .head _
  | [c], h, _ =>
    rcases h c (.head _) with rfl | rfl
    · exact .tail _ (.head _)
    · exact .tail _ (.tail _ (.head _))
  | [c, d], h, _ =>
    rcases h c (.head _) with rfl | rfl <;> rcases h d (.tail _ (.head _)) with rfl | rfl
    · exact .tail _ (.tail _ (.tail _ (.head _)))
    · exact .tail _ (.tail _ (.tail _ (.tail _ (.head _))))
    · exact .tail _ (.tail _ (.tail _ (.tail _ (.tail _ (.head _)))))
    · exact .tail _ (.tail _ (.tail _ (.tail _ (.tail _ (.tail _ (.head _))))))
  | _ :: _ :: _ :: _, _, h2 => simp at h2
theorem words_ok {l : List Int} {x : Str} (h : x ∈ wordsL l) : Lt l x.cps.toList ∧ x.cps.toList.length ≤ 2 ∧ x.length ≤ 2 ∧ Lw x := by
  have key : Lt l x.cps.toList ∧ x.cps.toList.length ≤ 2 := by
    have a : x = ofL [] ∨ x = ofL [64 + let0 l] ∨ x = ofL [64 + let1 l] ∨ x = ofL [64 + let0 l, 64 + let0 l] ∨ x = ofL [64 + let0 l, 64 + let1 l] ∨ x = ofL [64 + let1 l, 64 + let0 l] ∨ x = ofL [64 + let1 l, 64 + let1 l] := by
      have h : x ∈ [ofL [], ofL [64 + let0 l], ofL [64 + let1 l], ofL [64 + let0 l, 64 + let0 l], ofL [64 + let0 l, 64 + let1 l], ofL [64 + let1 l, 64 + let0 l], ofL [64 + let1 l, 64 + let1 l]] := h
      simpa only [List.mem_cons, List.not_mem_nil, or_false] using h
    rcases a with rfl | rfl | rfl | rfl | rfl | rfl | rfl <;> (rw [ofL_toList]; refine ⟨fun c hc => ?_, by simp⟩; simp only [List.mem_cons, List.not_mem_nil, or_false] at hc; try (first | lia | omega))
  obtain ⟨h1, h2⟩ := key
  obtain ⟨⟨a, b⟩, c, d⟩ := let_ok l
  refine ⟨h1, h2, by simpa [Str.length] using h2, fun z hz => ?_⟩
  rcases h1 z hz with e | e <;> (first | lia | omega)
end
section
open PySem PySem.W PySem.Calls
set_option maxRecDepth 100000
theorem rules_at (l : List Int) {k : Nat} (hk : k < 5) : (rulesL l)[k]? = some (ruleK l k) := by
  unfold rulesL
  rw [List.getElem?_map, List.getElem?_range hk]; rfl
theorem rules_len (l : List Int) : (rulesL l).length = 5 := by unfold rulesL; simp
theorem rules_mem (l : List Int) {k : Nat} (hk : k < 5) : ruleK l k ∈ rulesL l := List.mem_of_getElem? (rules_at l hk)
theorem ruleGo_true {r0 r1 : List Str} {word y : Str} {rule : List Int} (hy : y ∈ afterF rule word) (h : goalR rule = 258 ∨ y ∈ reachOf r0 r1 (goalR rule)) : ruleGo r0 r1 word rule = true := by
  unfold ruleGo
  have h1 : (afterF rule word).isEmpty = false := by
    cases e : afterF rule word with
    | nil => rw [e] at hy; cases hy
    | cons a b => rfl
  rw [h1, Bool.not_false, Bool.true_and, Bool.or_eq_true]
  rcases h with h | h
  · exact .inl (by rw [h]; rfl)
  · right
    have : y ∈ (afterF rule word).filter fun one => memB one (reachOf r0 r1 (goalR rule)) := List.mem_filter.mpr ⟨hy, memB_iff.mpr h⟩
    cases e : (afterF rule word).filter fun one => memB one (reachOf r0 r1 (goalR rule)) with
    | nil => rw [e] at this; cases this
    | cons a b => rfl
theorem goes_rule {rules : List (List Int)} {st : Nat} {rc : List Str × List Str} {word y : Str} {rule : List Int} (hr : rule ∈ rules) (hs : rule.getD 0 0 = 256 + (st : Int)) (hy : y ∈ afterF rule word) (h : goalR rule = 258 ∨ y ∈ reachOf rc.1 rc.2 (goalR rule)) :
    goesF (ownF rules st) rc.1 rc.2 (mineR st rc) word = true := by
  unfold goesF
  rw [Bool.or_eq_true]
  exact .inr (List.any_eq_true.mpr ⟨rule, List.mem_filter.mpr ⟨hr, by rw [hs]; simp⟩, ruleGo_true hy h⟩)
theorem goes_loss {rules : List (List Int)} {st : Nat} {rc : List Str × List Str} {word : Str} {k : Nat} (hk : k < word.length) (h : lossAt word k ∈ mineR st rc) : goesF (ownF rules st) rc.1 rc.2 (mineR st rc) word = true := by
  unfold goesF
  rw [Bool.or_eq_true]
  exact .inl (List.any_eq_true.mpr ⟨k, List.mem_range.mpr hk, memB_iff.mpr h⟩)
noncomputable def InR (l : List Int) (N : Nat) (w : List Nat) : Prop := (N = 258 → w = []) ∧ ∀ rc, roundR (rulesL l) (wordsL l) rc = rc → ∀ st, (st = 0 ∨ st = 1) → N = 256 + st → ofL w ∈ mineR st rc
theorem inR_reach {l : List Int} {N : Nat} {w : List Nat} (h : InR l N w) (hN : N = 256 ∨ N = 257 ∨ N = 258) {rc : List Str × List Str} (hf : roundR (rulesL l) (wordsL l) rc = rc) : (N : Int) = 258 ∨ ofL w ∈ reachOf rc.1 rc.2 (N : Int) := by
  rcases hN with rfl | rfl | rfl
  · exact .inr (h.2 rc hf 0 (.inl rfl) rfl)
  · exact .inr (h.2 rc hf 1 (.inr rfl) rfl)
  · exact .inl rfl
/-- the three ways in which a rule makes a need -/
theorem need_cases {s a b k N : Nat} {w p : List Nat} {f : Fact} (h : f ∈ needF [(s : Int), (a : Int), (b : Int)] k N w p) :
    (a < 256 ∧ b = N ∧ f = (s, (64 + a) :: w, figL.getD k 0 :: p)) ∨ (256 ≤ a ∧ a = N ∧ w.drop (w.length - 1) = [64 + b] ∧ f = (s, w.take (w.length - 1), figL.getD k 0 :: p)) ∨ (256 ≤ a ∧ a = N ∧ f = (s, w, abcL.getD k 0 :: p)) := by
  unfold needF at h
  change f ∈ (if (a : Int) < 256 then (if (b : Int) = (N : Int) then [(((s : Int)).toNat, (64 + (a : Int)).toNat :: w, figL.getD k 0 :: p)] else []) else if (a : Int) = (N : Int) then (if ofL (w.drop (w.length - 1)) = oneS (64 + (b : Int)).toNat then [((s : Int).toNat, w.take (w.length - 1), figL.getD k 0 :: p)] else [((s : Int).toNat, w, abcL.getD k 0 :: p)]) else []) at h
  have e1 : (64 + (a : Int)).toNat = 64 + a := by (first | lia | omega)
  have e2 : (64 + (b : Int)).toNat = 64 + b := by (first | lia | omega)
  rw [Int.toNat_natCast, e1, e2] at h
  split at h
  · split at h
    · exact .inl ⟨by (first | lia | omega), by (first | lia | omega), List.mem_singleton.mp h⟩
    · cases h
  · split at h
    · split at h
      · rename_i q
        have : w.drop (w.length - 1) = [64 + b] := congrArg (fun x => x.cps.toList) q
        exact .inr (.inl ⟨by (first | lia | omega), by (first | lia | omega), this, List.mem_singleton.mp h⟩)
      · exact .inr (.inr ⟨by (first | lia | omega), by (first | lia | omega), List.mem_singleton.mp h⟩)
    · cases h
theorem init_last {w : List Nat} {c : Nat} (h : w.drop (w.length - 1) = [c]) : w = w.take (w.length - 1) ++ [c] := by
  rw [← h, List.take_append_drop]
theorem goalR_eq (s a b : Nat) : goalR [(s : Int), (a : Int), (b : Int)] = if 256 ≤ a then (a : Int) else (b : Int) := by
  change (if (256 : Int) ≤ (a : Int) then (a : Int) else (b : Int)) = _
  by_cases h : 256 ≤ a
  · rw [if_pos h, if_pos (by (first | lia | omega))]
  · rw [if_neg h, if_neg (by (first | lia | omega))]
theorem after_take {s a b : Nat} {w : List Nat} (h : a < 256) : ofL w ∈ afterF [(s : Int), (a : Int), (b : Int)] (ofL ((64 + a) :: w)) := by
  change ofL w ∈ (if (256 : Int) ≤ (a : Int) then thirds (ofL ((64 + a) :: w) ++ oneS (64 + (b : Int)).toNat) else if ofL (List.take 1 ((64 + a) :: w)) = oneS (64 + (a : Int)).toNat then [ofL (List.drop 1 ((64 + a) :: w))] else [])
  rw [if_neg (by (first | lia | omega)), if_pos (by rw [show (64 + (a : Int)).toNat = 64 + a by (first | lia | omega)]; rfl)]
  exact .head _
theorem after_put {s a b : Nat} {w : List Nat} (h : 256 ≤ a) : afterF [(s : Int), (a : Int), (b : Int)] (ofL w) = thirds (ofL (w ++ [64 + b])) := by
  change (if (256 : Int) ≤ (a : Int) then thirds (ofL w ++ oneS (64 + (b : Int)).toNat) else _) = _
  rw [if_pos (by (first | lia | omega)), show (64 + (b : Int)).toNat = 64 + b by (first | lia | omega), oneS_ofL, ofL_app]
/-- what is needed is reached -/
theorem need_inR {l : List Int} {k N : Nat} (hk : k < 5) (hN : N = 256 ∨ N = 257 ∨ N = 258) {w p : List Nat} (hl : Lt l w) (h2 : w.length ≤ 2) (h : InR l N w) {f : Fact} (hf : f ∈ needF (ruleK l k) k N w p) (hf2 : f.2.1.length ≤ 2) : Lt l f.2.1 ∧ (f.1 = 256 ∨ f.1 = 257) ∧ InR l f.1 f.2.1 := by
  obtain ⟨s, a, b, e, hs, hab⟩ := ruleK_shape l k
  have hmem := rules_mem l hk
  rw [e] at hf hmem
  have hlet : ∀ c, (c = let0 l ∨ c = let1 l) → 64 + c = 64 + let0 l ∨ 64 + c = 64 + let1 l := fun c hc => by (first | lia | omega)
  have own : ∀ st, s = 256 + st → ([(s : Int), (a : Int), (b : Int)] : List Int).getD 0 0 = 256 + (st : Int) := fun st hst => by
    show (s : Int) = _; (first | lia | omega)
  rcases need_cases hf with ⟨ha, hb, rfl⟩ | ⟨ha, hb, hlast, rfl⟩ | ⟨ha, hb, rfl⟩
  · subst hb
    have ha2 : a = let0 l ∨ a = let1 l := by (first | lia | omega)
    have hl' : Lt l ((64 + a) :: w) := fun c hc => by
      rcases List.mem_cons.mp hc with rfl | hc
      · exact hlet _ ha2
      · exact hl c hc
    refine ⟨hl', hs, fun q => by (first | lia | omega), fun rc hfix st hst hstN => ?_⟩
    refine fix_mem hfix hst (mem_words hl' hf2) (goes_rule hmem (own st hstN) (after_take ha) ?_)
    rw [goalR_eq, if_neg (by (first | lia | omega))]
    exact inR_reach h hN hfix
  · subst hb
    have hw := init_last hlast
    have hl' : Lt l (w.take (w.length - 1)) := fun c hc => hl c (List.mem_of_mem_take hc)
    refine ⟨hl', hs, fun q => by (first | lia | omega), fun rc hfix st hst hstN => ?_⟩
    refine fix_mem hfix hst (mem_words hl' (by rw [List.length_take]; (first | lia | omega))) (goes_rule hmem (own st hstN) (y := ofL w) ?_ ?_)
    · rw [after_put ha, ← hw]
      unfold thirds
      rw [if_pos (by rw [ofL_len]; (first | lia | omega))]
      exact .head _
    · rw [goalR_eq, if_pos ha]
      exact inR_reach h hN hfix
  · subst hb
    have hb2 : b = let0 l ∨ b = let1 l := by (first | lia | omega)
    refine ⟨hl, hs, fun q => by (first | lia | omega), fun rc hfix st hst hstN => ?_⟩
    by_cases h1 : w.length ≤ 1
    · -- the longer line is reached by a loss
      have hl2 : Lt l (w ++ [64 + b]) := fun c hc => by
        rcases List.mem_append.mp hc with hc | hc
        · exact hl c hc
        · rw [List.mem_singleton.mp hc]; exact hlet _ hb2
      refine fix_mem hfix hst (mem_words hl h2) (goes_rule hmem (own st hstN) (y := ofL (w ++ [64 + b])) ?_ ?_)
      · rw [after_put ha]
        unfold thirds
        rw [if_pos (show (ofL (w ++ [64 + b])).length < 3 by rw [ofL_len, List.length_append, List.length_singleton]; (first | lia | omega))]
        exact .head _
      · rw [goalR_eq, if_pos ha]
        rcases hN with rfl | rfl | rfl
        · right
          have hm := h.2 rc hfix 0 (.inl rfl) rfl
          refine fix_mem (st := 0) hfix (.inl rfl) (mem_words hl2 (by rw [List.length_append]; show _ + 1 ≤ 2; (first | lia | omega))) (goes_loss (k := w.length) (by rw [ofL_len, List.length_append]; show _ < _ + 1; (first | lia | omega)) ?_)
          have : lossAt (ofL (w ++ [64 + b])) w.length = ofL w := by
            unfold lossAt
            rw [ofL_toList, ofL_app]; simp
          rw [this]; exact hm
        · right
          have hm := h.2 rc hfix 1 (.inr rfl) rfl
          refine fix_mem (st := 1) hfix (.inr rfl) (mem_words hl2 (by rw [List.length_append]; show _ + 1 ≤ 2; (first | lia | omega))) (goes_loss (k := w.length) (by rw [ofL_len, List.length_append]; show _ < _ + 1; (first | lia | omega)) ?_)
          have : lossAt (ofL (w ++ [64 + b])) w.length = ofL w := by
            unfold lossAt
            rw [ofL_toList, ofL_app]; simp
          rw [this]; exact hm
        · exact .inl rfl
    · refine fix_mem hfix hst (mem_words hl h2) (goes_rule hmem (own st hstN) (y := ofL w) ?_ ?_)
      · rw [after_put ha]
        unfold thirds
        have h22 : 2 ≤ w.length := by (first | lia | omega)
        rw [if_neg (show ¬ (ofL (w ++ [64 + b])).length < 3 by rw [ofL_len, List.length_append, List.length_singleton]; (first | lia | omega))]
        refine .tail _ (.tail _ ?_)
        rw [ofL_toList, List.take_append_of_le_length h22, List.take_of_length_le h2]
        exact .head _
      · rw [goalR_eq, if_pos ha]
        exact inR_reach h hN hfix
end
section
open PySem PySem.W PySem.Calls
set_option maxRecDepth 100000
theorem fig_plan {k : Nat} (hk : k < 5) : ∃ j : Fin 10, figL.getD k 0 = planL.getD j 0 ∧ j.val / 2 = k ∧ j.val % 2 = 0 := by
  have : k = 0 ∨ k = 1 ∨ k = 2 ∨ k = 3 ∨ k = 4 := by (first | lia | omega)
  rcases this with rfl | rfl | rfl | rfl | rfl
  · exact ⟨0, rfl, rfl, rfl⟩
  · exact ⟨2, rfl, rfl, rfl⟩
  · exact ⟨4, rfl, rfl, rfl⟩
  · exact ⟨6, rfl, rfl, rfl⟩
  · exact ⟨8, rfl, rfl, rfl⟩
theorem abc_plan {k : Nat} (hk : k < 5) : ∃ j : Fin 10, abcL.getD k 0 = planL.getD j 0 ∧ j.val / 2 = k ∧ j.val % 2 = 1 := by
  have : k = 0 ∨ k = 1 ∨ k = 2 ∨ k = 3 ∨ k = 4 := by (first | lia | omega)
  rcases this with rfl | rfl | rfl | rfl | rfl
  · exact ⟨1, rfl, rfl, rfl⟩
  · exact ⟨3, rfl, rfl, rfl⟩
  · exact ⟨5, rfl, rfl, rfl⟩
  · exact ⟨7, rfl, rfl, rfl⟩
  · exact ⟨9, rfl, rfl, rfl⟩
theorem sign_no32 {k : Nat} : figL.getD k 0 ≠ 32 ∧ abcL.getD k 0 ≠ 32 := by
  match k with
  | 0 => decide
  | 1 => decide
  | 2 => decide
  | 3 => decide
  | 4 => decide
  | n + 5 => simp [figL, abcL]
/-- each need's plan arrives -/
theorem need_arr {l : List Int} {k N : Nat} (hk : k < 5) {w p : List Nat} (h : Arr (rulesL l) p (N : Int) w) {f : Fact} (hf : f ∈ needF (ruleK l k) k N w p) : Arr (rulesL l) f.2.2 (f.1 : Int) f.2.1 := by
  obtain ⟨s, a, b, e, hs, hab⟩ := ruleK_shape l k
  have hr := rules_at l hk
  have hlo := let_ok l
  rw [e] at hf hr
  rcases need_cases hf with ⟨ha, hb, rfl⟩ | ⟨ha, hb, hlast, rfl⟩ | ⟨ha, hb, rfl⟩
  · subst hb
    obtain ⟨j, hj, hj2, _⟩ := fig_plan hk
    exact ⟨j, a, b, hj, by rw [hj2]; exact hr, .inl ⟨ha, by (first | lia | omega), w, rfl, h⟩⟩
  · subst hb
    obtain ⟨j, hj, hj2, hj3⟩ := fig_plan hk
    refine ⟨j, a, b, hj, by rw [hj2]; exact hr, .inr ⟨ha, by (first | lia | omega), ?_⟩⟩
    rw [if_pos hj3, ← init_last hlast]; exact h
  · subst hb
    obtain ⟨j, hj, hj2, hj3⟩ := abc_plan hk
    refine ⟨j, a, b, hj, by rw [hj2]; exact hr, .inr ⟨ha, by (first | lia | omega), ?_⟩⟩
    rw [if_neg (by (first | lia | omega))]; exact h
noncomputable def Nm3 (N : Nat) : Prop := N = 256 ∨ N = 257 ∨ N = 258
theorem kOf_new {k0 k1 k2 : List WP} {N M : Nat} {w p : List Nat} (hM : Nm3 M) : kOf (newK 256 k0 N w p) (newK 257 k1 N w p) (newK 258 k2 N w p) M = if N = M then newW (kOf k0 k1 k2 M) w p else kOf k0 k1 k2 M := by
  unfold kOf newK
  rcases hM with rfl | rfl | rfl <;> simp
theorem hd_mono {k0 k1 k2 : List WP} {N M : Nat} {w p v : List Nat} (hM : Nm3 M) (h : Hd (kOf k0 k1 k2 M) v) : Hd (kOf (newK 256 k0 N w p) (newK 257 k1 N w p) (newK 258 k2 N w p) M) v := by
  rw [kOf_new hM]
  split
  · exact hd_new h
  · exact h
noncomputable def univ (l : List Int) : List (Nat × List Nat) := (258, []) :: ((wordsL l).map fun x => (256, x.cps.toList)) ++ ((wordsL l).map fun x => (257, x.cps.toList))
noncomputable def unheld (k0 k1 k2 : List WP) (u : Nat × List Nat) : Bool := !holdsB (ofL u.2) ((kOf k0 k1 k2 u.1).map fun x => ofL x.1)
noncomputable def Ux (l : List Int) (k0 k1 k2 : List WP) : Nat := ((univ l).filter (unheld k0 k1 k2)).length
theorem filter_lt {α : Type} {p q : α → Bool} : ∀ {xs : List α}, (∀ x, q x = true → p x = true) → (∃ x ∈ xs, p x = true ∧ q x = false) → (xs.filter q).length < (xs.filter p).length
  | [], _, h => by obtain ⟨x, hx, _⟩ := h; cases hx
  | y :: ys, hm, h => by
    have hle : (ys.filter q).length ≤ (ys.filter p).length := by
      rw [← List.countP_eq_length_filter, ← List.countP_eq_length_filter]
      exact List.countP_mono_left fun x _ hx => hm x hx
    obtain ⟨x, hx, hp, hq⟩ := h
    rw [List.filter_cons, List.filter_cons]
    rcases List.mem_cons.mp hx with rfl | hx
    · rw [if_pos hp, if_neg (by rw [hq]; decide), List.length_cons]; (first | lia | omega)
    · have ih := filter_lt hm ⟨x, hx, hp, hq⟩
      cases e : q y with
      | true => rw [if_pos (hm y e), if_pos rfl, List.length_cons, List.length_cons]; (first | lia | omega)
      | false =>
        rw [if_neg (by decide)]
        split
        · rw [List.length_cons]; (first | lia | omega)
        · exact ih
theorem mem_univ {l : List Int} {N : Nat} {w : List Nat} (hN : Nm3 N) (h8 : N = 258 → w = []) (hl : Lt l w) (h2 : w.length ≤ 2) : (N, w) ∈ univ l := by
  have hm := mem_words hl h2
  unfold univ
  rcases hN with rfl | rfl | rfl
  · exact List.mem_append_left _ (.tail _ (List.mem_map.mpr ⟨_, hm, rfl⟩))
  · exact List.mem_append_right _ (List.mem_map.mpr ⟨_, hm, rfl⟩)
  · rw [h8 rfl]; exact List.mem_append_left _ (.head _)
theorem ux_lt {l : List Int} {k0 k1 k2 : List WP} {N : Nat} {w p : List Nat} (hN : Nm3 N) (hu : (N, w) ∈ univ l) (hn : ¬ Hd (kOf k0 k1 k2 N) w) : Ux l (newK 256 k0 N w p) (newK 257 k1 N w p) (newK 258 k2 N w p) < Ux l k0 k1 k2 := by
  unfold Ux
  refine filter_lt (fun u hu => ?_) ⟨_, hu, ?_, ?_⟩
  · unfold unheld at hu ⊢
    rw [Bool.not_eq_true'] at hu ⊢
    cases hh : holdsB (ofL u.2) ((kOf k0 k1 k2 u.1).map fun x => ofL x.1) with
    | false => rfl
    | true =>
      exfalso
      have hM : Hd (kOf (newK 256 k0 N w p) (newK 257 k1 N w p) (newK 258 k2 N w p) u.1) u.2 := by
        by_cases h6 : Nm3 u.1
        · exact hd_mono h6 (hd_iff.mp hh)
        · have e : ∀ (a b c : List WP), kOf a b c u.1 = c := fun a b c => by
            unfold kOf
            rw [if_neg fun q => h6 (.inl q), if_neg fun q => h6 (.inr (.inl q))]
          rw [e] at hh ⊢
          unfold newK
          split
          · exact hd_new (hd_iff.mp hh)
          · exact hd_iff.mp hh
      rw [hd_iff.mpr hM] at hu
      cases hu
  · unfold unheld
    rw [Bool.not_eq_true']
    cases hh : holdsB (ofL (N, w).2) ((kOf k0 k1 k2 (N, w).1).map fun x => ofL x.1) with
    | false => rfl
    | true => exact absurd (hd_iff.mp hh) hn
  · unfold unheld
    rw [Bool.not_eq_false']
    refine hd_iff.mpr ?_
    rw [kOf_new hN, if_pos rfl]
    exact hd_self
end
section
open PySem PySem.W PySem.Calls
set_option maxRecDepth 100000
structure GoodK (l : List Int) (k0 k1 k2 : List WP) (N : Nat) (x : WP) : Prop where
  lt : Lt l x.1
  len : x.1.length ≤ 2
  arr : Arr (rulesL l) x.2 (N : Int) x.1
  chain : 2 ≤ x.1.length → N ≠ 258 ∧ Hd (kOf k0 k1 k2 (513 - N)) x.1
  inr : InR l N x.1
  pl : x.2.length ≤ 15
structure GoodQ (l : List Int) (k0 k1 k2 : List WP) (f : Fact) : Prop where
  nm : Nm3 f.1
  lt : Lt l f.2.1
  len : f.2.1.length ≤ 2 ∨ Hd (kOf k0 k1 k2 f.1) f.2.1
  l3 : f.2.1.length ≤ 3
  arr : Arr (rulesL l) f.2.2 (f.1 : Int) f.2.1
  chain : 2 ≤ f.2.1.length → f.1 ≠ 258 ∧ Hd (kOf k0 k1 k2 (513 - f.1)) f.2.1
  inr : f.2.1.length ≤ 2 → InR l f.1 f.2.1
  p32 : 32 ∉ f.2.2
  pl : f.2.2.length + Ux l k0 k1 k2 ≤ 15
structure JW (l : List Int) (k0 k1 k2 : List WP) (q : List Fact) : Prop where
  kin : ∀ N, Nm3 N → ∀ x ∈ kOf k0 k1 k2 N, GoodK l k0 k1 k2 N x
  qin : ∀ f ∈ q, GoodQ l k0 k1 k2 f
  ap : ∀ N, Nm3 N → (kOf k0 k1 k2 N).Pairwise ApartW
  cov : ∀ N, Nm3 N → ∀ x ∈ kOf k0 k1 k2 N, ∀ k, k < 5 → ∀ f ∈ needF (ruleK l k) k N x.1 x.2, Hd (kOf k0 k1 k2 f.1) f.2.1 ∨ f ∈ q
  cov0 : Hd k2 [] ∨ (258, [], []) ∈ q
  sz : k0.length + k1.length + k2.length + Ux l k0 k1 k2 ≤ 15
  sq : 6 * Ux l k0 k1 k2 + q.length ≤ 91
noncomputable def muW (l : List Int) (k0 k1 k2 : List WP) (q : List Fact) : Nat := 6 * Ux l k0 k1 k2 + q.length
theorem kOf2 (k0 k1 k2 : List WP) : kOf k0 k1 k2 258 = k2 := rfl
theorem oth_nm {N : Nat} (h : Nm3 N) (h2 : N ≠ 258) : Nm3 (513 - N) := by
  rcases h with rfl | rfl | rfl
  · exact .inr (.inl rfl)
  · exact .inl rfl
  · exact absurd rfl h2
theorem jw_start (l : List Int) : JW l [] [] [] [(258, [], [])] where
  kin := fun N hN x hx => by rcases hN with rfl | rfl | rfl <;> cases hx
  qin := fun f hf => by
    rw [List.mem_singleton.mp hf]
    have hU : Ux l [] [] [] ≤ 15 := by
      unfold Ux
      refine Nat.le_trans (List.length_filter_le _ _) ?_
      unfold univ wordsL signsL
      simp
    exact ⟨.inr (.inr rfl), fun c hc => (nomatch hc), .inl (Nat.zero_le _), Nat.zero_le _, ⟨rfl, rfl⟩, fun h => by simp at h, fun _ => ⟨fun _ => rfl, fun rc _ st hst e => by rcases hst with rfl | rfl <;> simp at e⟩, fun h => (nomatch h), by show 0 + _ ≤ _; (first | lia | omega)⟩
  ap := fun N hN => by rcases hN with rfl | rfl | rfl <;> exact .nil
  cov := fun N hN x hx => by rcases hN with rfl | rfl | rfl <;> cases hx
  cov0 := .inr (.head _)
  sz := by
    unfold Ux
    have := List.length_filter_le (unheld [] [] []) (univ l)
    have e : (univ l).length = 15 := by unfold univ wordsL signsL; simp
    simp only [List.length_nil]; (first | lia | omega)
  sq := by
    unfold Ux
    have := List.length_filter_le (unheld [] [] []) (univ l)
    have e : (univ l).length = 15 := by unfold univ wordsL signsL; simp
    show _ + 1 ≤ _; (first | lia | omega)
theorem jw_drop {l : List Int} {k0 k1 k2 : List WP} {f : Fact} {q : List Fact} (J : JW l k0 k1 k2 (f :: q)) (h : Hd (kOf k0 k1 k2 f.1) f.2.1) : JW l k0 k1 k2 q ∧ muW l k0 k1 k2 q < muW l k0 k1 k2 (f :: q) := by
  refine ⟨⟨J.kin, fun g hg => J.qin g (.tail _ hg), J.ap, fun N hN x hx k hk g hg => ?_, ?_, J.sz, ?_⟩, ?_⟩
  · rcases J.cov N hN x hx k hk g hg with a | a
    · exact .inl a
    · rcases List.mem_cons.mp a with rfl | a
      · exact .inl h
      · exact .inr a
  · rcases J.cov0 with a | a
    · exact .inl a
    · rcases List.mem_cons.mp a with rfl | a
      · exact .inl h
      · exact .inr a
  · have := J.sq
    rw [List.length_cons] at this; (first | lia | omega)
  · unfold muW; rw [List.length_cons]; (first | lia | omega)
theorem needs_mem {l : List Int} {N : Nat} {w p : List Nat} {f : Fact} : f ∈ needsTo (rulesL l) (rulesL l).length N w p ↔ ∃ k, k < 5 ∧ f ∈ needF (ruleK l k) k N w p := by
  unfold needsTo
  rw [List.mem_flatMap]
  have e : ∀ k, k < 5 → (rulesL l).getD k [] = ruleK l k := fun k hk => by rw [List.getD_eq_getElem?_getD, rules_at l hk]; rfl
  constructor
  · rintro ⟨k, hk, hf⟩
    have hk : k < 5 := by rw [rules_len] at hk; exact List.mem_range.mp hk
    rw [e k hk] at hf
    exact ⟨k, hk, hf⟩
  · rintro ⟨k, hk, hf⟩
    exact ⟨k, List.mem_range.mpr (by rw [rules_len]; exact hk), by rw [e k hk]; exact hf⟩
theorem jw_keep {l : List Int} {k0 k1 k2 : List WP} {N : Nat} {w p : List Nat} {q : List Fact} (J : JW l k0 k1 k2 ((N, w, p) :: q)) (h : ¬ Hd (kOf k0 k1 k2 N) w) :
    JW l (newK 256 k0 N w p) (newK 257 k1 N w p) (newK 258 k2 N w p) (q ++ needsTo (rulesL l) (rulesL l).length N w p) ∧ muW l (newK 256 k0 N w p) (newK 257 k1 N w p) (newK 258 k2 N w p) (q ++ needsTo (rulesL l) (rulesL l).length N w p) < muW l k0 k1 k2 ((N, w, p) :: q) := by
  have G := J.qin _ (.head _)
  have hN : Nm3 N := G.nm
  have h2 : w.length ≤ 2 := G.len.resolve_right h
  have hin : InR l N w := G.inr h2
  have hU := ux_lt (p := p) hN (mem_univ hN hin.1 G.lt h2) h
  have hself : Hd (kOf (newK 256 k0 N w p) (newK 257 k1 N w p) (newK 258 k2 N w p) N) w := by rw [kOf_new hN, if_pos rfl]; exact hd_self
  have hlen : (newK 256 k0 N w p).length + (newK 257 k1 N w p).length + (newK 258 k2 N w p).length ≤ k0.length + k1.length + k2.length + 1 := by
    have a : ∀ k : List WP, (newW k w p).length ≤ k.length + 1 := fun k => by
      unfold newW
      rw [List.length_append]
      have := List.length_filter_le (fun one : WP => !holdsB (ofL one.1) [ofL w]) k
      show _ + 1 ≤ _; (first | lia | omega)
    have a0 := a k0
    have a1 := a k1
    have a2 := a k2
    unfold newK
    rcases hN with rfl | rfl | rfl <;> simp <;> (first | lia | omega)
  have hnl : (needsTo (rulesL l) (rulesL l).length N w p).length ≤ 5 := by
    have := needs_len (rulesL l) N w p (rulesL l).length
    rw [rules_len] at this ⊢
    exact this
  have hsq := J.sq
  have hsz := J.sz
  rw [List.length_cons] at hsq
  have hmono : ∀ {M v}, Nm3 M → Hd (kOf k0 k1 k2 M) v → Hd (kOf (newK 256 k0 N w p) (newK 257 k1 N w p) (newK 258 k2 N w p) M) v := fun hM hv => hd_mono hM hv
  generalize hk0 : newK 256 k0 N w p = k0' at *
  generalize hk1 : newK 257 k1 N w p = k1' at *
  generalize hk2 : newK 258 k2 N w p = k2' at *
  have hnew : ∀ M, Nm3 M → kOf k0' k1' k2' M = if N = M then newW (kOf k0 k1 k2 M) w p else kOf k0 k1 k2 M := fun M hM => by
    rw [← hk0, ← hk1, ← hk2]; exact kOf_new hM
  have hpl := G.pl
  dsimp only at hpl
  -- what is needed
  have hneed : ∀ k, k < 5 → ∀ f ∈ needF (ruleK l k) k N w p, GoodQ l k0' k1' k2' f := by
    intro k hk f hf
    have hI := fun hf2 => need_inR hk hN G.lt h2 hin hf (f := f) hf2
    have hA := need_arr hk G.arr hf
    obtain ⟨s, a, b, e, hs, hab⟩ := ruleK_shape l k
    have hlo := let_ok l
    rw [e] at hf
    have hs3 : Nm3 s := by rcases hs with h | h; exact .inl h; exact .inr (.inl h)
    have cons_hd : ∀ {M v c}, Hd (kOf k0' k1' k2' M) v → Hd (kOf k0' k1' k2' M) (c :: v) := fun h => by
      obtain ⟨x, hx, hs⟩ := h
      exact ⟨x, hx, hs.trans (List.sublist_cons_self _ _)⟩
    have hp32 : ∀ {c}, c ≠ 32 → 32 ∉ c :: p := fun hc hm => by
      rcases List.mem_cons.mp hm with e | e
      · exact hc e.symm
      · exact G.p32 e
    rcases need_cases hf with ⟨ha, hb, rfl⟩ | ⟨ha, hb, hlast, rfl⟩ | ⟨ha, hb, rfl⟩
    · subst hb
      have ha2 : a = let0 l ∨ a = let1 l := by (first | lia | omega)
      have hl' : Lt l ((64 + a) :: w) := fun c hc => by
        rcases List.mem_cons.mp hc with rfl | hc
        · (first | lia | omega)
        · exact G.lt c hc
      have hbs : b = 258 ∨ b = 513 - s := by (first | lia | omega)
      refine ⟨hs3, hl', ?_, by show w.length + 1 ≤ 3; (first | lia | omega), hA, fun h2' => ?_, fun q => (hI q).2.2, hp32 sign_no32.1, by show p.length + 1 + _ ≤ _; (first | lia | omega)⟩
      · by_cases hw : w.length ≤ 1
        · exact .inl (by show w.length + 1 ≤ 2; (first | lia | omega))
        · right
          obtain ⟨c1, c2⟩ := G.chain (by show 2 ≤ w.length; (first | lia | omega))
          have hh := hmono (oth_nm hN c1) c2
          have es : 513 - b = s := by
            have : b ≠ 258 := c1
            (first | lia | omega)
          have hh : Hd (kOf k0' k1' k2' (513 - b)) w := hh
          rw [es] at hh
          exact cons_hd hh
      · have h2' : 2 ≤ w.length + 1 := h2'
        have hb8 : b ≠ 258 := fun e8 => by
          have := hin.1 e8
          rw [this] at h2'; simp at h2'
        refine ⟨by show s ≠ 258; (first | lia | omega), ?_⟩
        show Hd (kOf k0' k1' k2' (513 - s)) ((64 + a) :: w)
        rw [show 513 - s = b by (first | lia | omega)]
        exact cons_hd hself
    · subst hb
      have hl' : Lt l (w.take (w.length - 1)) := fun c hc => G.lt c (List.mem_of_mem_take hc)
      have hlen1 : (w.take (w.length - 1)).length ≤ 1 := by rw [List.length_take]; (first | lia | omega)
      exact ⟨hs3, hl', .inl (by show (w.take (w.length - 1)).length ≤ 2; (first | lia | omega)), by show (w.take (w.length - 1)).length ≤ 3; (first | lia | omega), hA, fun h2' => by
        have h2' : 2 ≤ (w.take (w.length - 1)).length := h2'
        (first | lia | omega), fun q => (hI q).2.2, hp32 sign_no32.1, by show p.length + 1 + _ ≤ _; (first | lia | omega)⟩
    · subst hb
      refine ⟨hs3, G.lt, .inl h2, by show w.length ≤ 3; (first | lia | omega), hA, fun h2' => ?_, fun q => (hI q).2.2, hp32 sign_no32.2, by show p.length + 1 + _ ≤ _; (first | lia | omega)⟩
      have h2' : 2 ≤ w.length := h2'
      have ha8 : a ≠ 258 := fun e8 => by
        have := hin.1 e8
        rw [this] at h2'; simp at h2'
      refine ⟨by show s ≠ 258; (first | lia | omega), ?_⟩
      show Hd (kOf k0' k1' k2' (513 - s)) w
      rw [show 513 - s = a by (first | lia | omega)]
      exact hself
  refine ⟨⟨fun M hM x hx => ?_, fun f hf => ?_, fun M hM => ?_, fun M hM x hx k hk f hf => ?_, ?_, by (first | lia | omega), ?_⟩, ?_⟩
  · rw [hnew M hM] at hx
    have old : x ∈ kOf k0 k1 k2 M → GoodK l k0' k1' k2' M x := fun hx => by
      have g := J.kin M hM x hx
      exact ⟨g.lt, g.len, g.arr, fun a => ⟨(g.chain a).1, hmono (oth_nm hM (g.chain a).1) (g.chain a).2⟩, g.inr, g.pl⟩
    split at hx
    · rename_i e
      subst e
      rcases mem_newW hx with hx | rfl
      · exact old hx
      · exact ⟨G.lt, h2, G.arr, fun a => ⟨(G.chain a).1, hmono (oth_nm hN (G.chain a).1) (G.chain a).2⟩, hin, by show p.length ≤ 15; (first | lia | omega)⟩
    · exact old hx
  · rcases List.mem_append.mp hf with hf | hf
    · have g := J.qin f (.tail _ hf)
      have := g.pl
      exact ⟨g.nm, g.lt, g.len.imp id (hmono g.nm), g.l3, g.arr, fun a => ⟨(g.chain a).1, hmono (oth_nm g.nm (g.chain a).1) (g.chain a).2⟩, g.inr, g.p32, by (first | lia | omega)⟩
    · obtain ⟨k, hk, hf⟩ := needs_mem.mp hf
      exact hneed k hk f hf
  · rw [hnew M hM]
    split
    · rename_i e
      subst e
      exact apart_new (J.ap N hM) h
    · exact J.ap M hM
  · rw [hnew M hM] at hx
    have old : x ∈ kOf k0 k1 k2 M → Hd (kOf k0' k1' k2' f.1) f.2.1 ∨ f ∈ q ++ needsTo (rulesL l) (rulesL l).length N w p := fun hx => by
      have g := J.kin M hM x hx
      have hnm : Nm3 f.1 := by
        obtain ⟨s, a, b, e, hs, _⟩ := ruleK_shape l k
        rw [e] at hf
        have : f.1 = s := by rcases need_cases hf with ⟨_, _, rfl⟩ | ⟨_, _, _, rfl⟩ | ⟨_, _, rfl⟩ <;> rfl
        rw [this]; rcases hs with h | h; exact .inl h; exact .inr (.inl h)
      rcases J.cov M hM x hx k hk f hf with a | a
      · exact .inl (hmono hnm a)
      · rcases List.mem_cons.mp a with rfl | a
        · exact .inl hself
        · exact .inr (List.mem_append_left _ a)
    split at hx
    · rename_i e
      subst e
      rcases mem_newW hx with hx | rfl
      · exact old hx
      · exact .inr (List.mem_append_right _ (needs_mem.mpr ⟨k, hk, hf⟩))
    · exact old hx
  · rcases J.cov0 with a | a
    · have := hmono (M := 258) (.inr (.inr rfl)) a
      exact .inl this
    · rcases List.mem_cons.mp a with a | a
      · injection a with a1 a2
        injection a2 with a2 a3
        subst a1 a2
        exact .inl hself
      · exact .inr (List.mem_append_left _ a)
  · rw [List.length_append]; (first | lia | omega)
  · unfold muW
    rw [List.length_append, List.length_cons]; (first | lia | omega)
end
section
open PySem PySem.W PySem.Calls
set_option maxRecDepth 100000
theorem lt_low {l : List Int} {w : List Nat} (h : Lt l w) {c : Nat} (hc : c < 71) : c ∉ w := fun hm => by
  have := let_ok l
  rcases h c hm with e | e <;> (first | lia | omega)
theorem kOf_any (k0 k1 k2 : List WP) (N : Nat) : ∃ M, Nm3 M ∧ kOf k0 k1 k2 N = kOf k0 k1 k2 M := by
  by_cases h : Nm3 N
  · exact ⟨N, h, rfl⟩
  · refine ⟨258, .inr (.inr rfl), ?_⟩
    unfold kOf
    rw [if_neg fun q => h (.inl q), if_neg fun q => h (.inr (.inl q))]
    rfl
theorem jw_kn (l : List Int) : KN (rulesL l) (JW l) (muW l) where
  start := jw_start l
  ok := fun k0 k1 k2 q J => by
    have hs := J.sz
    have hq := J.sq
    refine ⟨by (first | lia | omega), by (first | lia | omega), by (first | lia | omega), fun N x hx => ?_, by (first | lia | omega), fun f hf => ?_⟩
    · obtain ⟨M, hM, e⟩ := kOf_any k0 k1 k2 N
      rw [e] at hx
      have g := J.kin M hM x hx
      exact ⟨by have := g.len; (first | lia | omega), lt_low g.lt (by decide)⟩
    · have g := J.qin f hf
      have := g.l3
      have := g.pl
      exact ⟨g.nm, by (first | lia | omega), lt_low g.lt (by decide), lt_low g.lt (by decide), g.p32, by (first | lia | omega)⟩
  drop := fun k0 k1 k2 f q J h => jw_drop J (hd_iff.mp h)
  keep := fun k0 k1 k2 f q J h => jw_keep (N := f.1) (w := f.2.1) (p := f.2.2) J fun q => by rw [hd_iff.mpr q] at h; cases h
/-- each kept word's plan arrives -/
theorem jw_arr {l : List Int} {k0 k1 k2 : List WP} (J : JW l k0 k1 k2 []) {N : Nat} (hN : Nm3 N) {x : WP} (hx : x ∈ kOf k0 k1 k2 N) : Arr (rulesL l) x.2 (N : Int) x.1 ∧ x.1.length ≤ 2 ∧ x.2.length ≤ 15 := ⟨(J.kin N hN x hx).arr, (J.kin N hN x hx).len, (J.kin N hN x hx).pl⟩
theorem jw_258 {l : List Int} {k0 k1 k2 : List WP} (J : JW l k0 k1 k2 []) : k2.map (fun x => ofL x.1) = [emp] := by
  have h0 : Hd k2 [] := J.cov0.resolve_right (fun h => nomatch h)
  have hw : ∀ x ∈ k2, x.1 = [] := fun x hx => (J.kin 258 (.inr (.inr rfl)) x hx).inr.1 rfl
  have ap : k2.Pairwise ApartW := J.ap 258 (.inr (.inr rfl))
  match k2, h0, hw, ap with
  | [], h0, _, _ => obtain ⟨x, hx, _⟩ := h0; cases hx
  | [x], _, hw, _ => show [ofL x.1] = _; rw [hw x (.head _)]; rfl
  | x :: y :: r, _, hw, ap =>
    have h1 := (List.pairwise_cons.mp ap).1 y (.head _)
    exact absurd (by rw [hw x (.head _)]; exact List.nil_sublist _) h1.1
theorem need_take {s a b k N : Nat} {w p : List Nat} (ha : a < 256) (hb : b = N) : (s, (64 + a) :: w, figL.getD k 0 :: p) ∈ needF [(s : Int), (a : Int), (b : Int)] k N w p := by
  unfold needF
  change _ ∈ (if (a : Int) < 256 then (if (b : Int) = (N : Int) then [(((s : Int)).toNat, (64 + (a : Int)).toNat :: w, figL.getD k 0 :: p)] else []) else _)
  rw [if_pos (by (first | lia | omega)), if_pos (by (first | lia | omega)), Int.toNat_natCast, show (64 + (a : Int)).toNat = 64 + a by (first | lia | omega)]
  exact .head _
theorem need_put {s a b k N : Nat} {w p : List Nat} (ha : 256 ≤ a) (hb : a = N) : (w.drop (w.length - 1) = [64 + b] ∧ (s, w.take (w.length - 1), figL.getD k 0 :: p) ∈ needF [(s : Int), (a : Int), (b : Int)] k N w p) ∨ (w.drop (w.length - 1) ≠ [64 + b] ∧ (s, w, abcL.getD k 0 :: p) ∈ needF [(s : Int), (a : Int), (b : Int)] k N w p) := by
  unfold needF
  change (_ ∧ _ ∈ (if (a : Int) < 256 then _ else if (a : Int) = (N : Int) then (if ofL (w.drop (w.length - 1)) = oneS (64 + (b : Int)).toNat then [((s : Int).toNat, w.take (w.length - 1), figL.getD k 0 :: p)] else [((s : Int).toNat, w, abcL.getD k 0 :: p)]) else [])) ∨ (_ ∧ _ ∈ (if (a : Int) < 256 then _ else if (a : Int) = (N : Int) then (if ofL (w.drop (w.length - 1)) = oneS (64 + (b : Int)).toNat then [((s : Int).toNat, w.take (w.length - 1), figL.getD k 0 :: p)] else [((s : Int).toNat, w, abcL.getD k 0 :: p)]) else []))
  rw [if_neg (by (first | lia | omega)), if_pos (by (first | lia | omega)), Int.toNat_natCast, show (64 + (b : Int)).toNat = 64 + b by (first | lia | omega)]
  by_cases h : w.drop (w.length - 1) = [64 + b]
  · left
    refine ⟨h, ?_⟩
    rw [if_pos (by rw [h]; rfl)]
    exact .head _
  · right
    refine ⟨h, ?_⟩
    rw [if_neg fun q => h (congrArg (fun x => x.cps.toList) q)]
    exact .head _
theorem drop_last {v : List Nat} {c : Nat} (u : List Nat) : (u ++ [c]).drop ((u ++ [c]).length - 1) = [c] := by
  rw [List.length_append, List.length_singleton, Nat.add_sub_cancel, List.drop_left]
/-- what stands below a line with one more letter -/
theorem sub_line {v x : List Nat} {c : Nat} (h : v.Sublist (x ++ [c])) (hn : v.drop (v.length - 1) ≠ [c]) : v.Sublist x := by
  obtain ⟨v1, v2, e, h1, h2⟩ := List.sublist_append_iff.mp h
  subst e
  match v2, h2 with
  | [], _ => rw [List.append_nil]; exact h1
  | [d], h2 =>
    have : d = c := by simpa using h2
    subst this
    exact absurd (drop_last (v := []) v1) hn
  | _ :: _ :: _, h2 => have := h2.length_le; simp at this
end
section
open PySem PySem.W PySem.Calls
set_option maxRecDepth 100000
theorem hd_sub {k : List WP} {v x : List Nat} (h : Hd k v) (hs : v.Sublist x) : Hd k x := by
  obtain ⟨y, hy, h⟩ := h
  exact ⟨y, hy, h.trans hs⟩
theorem thirds_sub {x y : Str} (h : y ∈ thirds x) : y.cps.toList.Sublist x.cps.toList := by
  unfold thirds at h
  split at h
  · rw [List.mem_singleton.mp h]; exact List.Sublist.refl _
  · rename_i h3
    have hl : x.cps.toList.length = x.length := by simp [Str.length]
    simp only [List.mem_cons, List.not_mem_nil, or_false] at h
    rcases h with rfl | rfl | rfl
    · exact List.drop_sublist _ _
    · match e : x.cps.toList with
      | a :: b :: c :: r =>
        show [a, c].Sublist _
        exact ((List.cons_sublist_cons.mpr (List.nil_sublist r)).cons b).cons_cons a
      | [] => rw [e] at hl; simp at hl; (first | lia | omega)
      | [_] => rw [e] at hl; simp at hl; (first | lia | omega)
      | [_, _] => rw [e] at hl; simp at hl; (first | lia | omega)
    · exact List.take_sublist _ _
theorem ruleGo_un {r0 r1 : List Str} {word : Str} {rule : List Int} (h : ruleGo r0 r1 word rule = true) : ∃ y ∈ afterF rule word, goalR rule = 258 ∨ y ∈ reachOf r0 r1 (goalR rule) := by
  unfold ruleGo at h
  rw [Bool.and_eq_true, Bool.or_eq_true] at h
  obtain ⟨h1, h2⟩ := h
  rcases h2 with h2 | h2
  · cases e : afterF rule word with
    | nil => rw [e] at h1; cases h1
    | cons y r => exact ⟨y, .head _, .inl (beq_iff_eq.mp h2)⟩
  · cases e : (afterF rule word).filter fun one => memB one (reachOf r0 r1 (goalR rule)) with
    | nil => rw [e] at h2; cases h2
    | cons y r =>
      have : y ∈ (afterF rule word).filter fun one => memB one (reachOf r0 r1 (goalR rule)) := by rw [e]; exact .head _
      obtain ⟨a, b⟩ := List.mem_filter.mp this
      exact ⟨y, a, .inr (memB_iff.mp b)⟩
/-- what is reached holds a kept word -/
noncomputable def PR (l : List Int) (k0 k1 k2 : List WP) (rc : List Str × List Str) : Prop := ∀ st, (st = 0 ∨ st = 1) → (mineR st rc).Nodup ∧ ∀ x ∈ mineR st rc, x ∈ wordsL l ∧ Hd (kOf k0 k1 k2 (256 + st)) x.cps.toList
theorem goes_hd {l : List Int} {k0 k1 k2 : List WP} (J : JW l k0 k1 k2 []) {rc : List Str × List Str} (hP : PR l k0 k1 k2 rc) {st : Nat} (hst : st = 0 ∨ st = 1) {x : Str} (h : goesF (ownF (rulesL l) st) rc.1 rc.2 (mineR st rc) x = true) : Hd (kOf k0 k1 k2 (256 + st)) x.cps.toList := by
  unfold goesF at h
  rw [Bool.or_eq_true] at h
  have cov : ∀ N, Nm3 N → ∀ v ∈ kOf k0 k1 k2 N, ∀ k, k < 5 → ∀ f ∈ needF (ruleK l k) k N v.1 v.2, Hd (kOf k0 k1 k2 f.1) f.2.1 := fun N hN v hv k hk f hf => (J.cov N hN v hv k hk f hf).resolve_right fun h => nomatch h
  rcases h with h | h
  · obtain ⟨k, hk, hm⟩ := List.any_eq_true.mp h
    have := ((hP st hst).2 _ (memB_iff.mp hm)).2
    refine hd_sub this ?_
    unfold lossAt
    rw [toList_app, ofL_toList, ofL_toList]
    conv => rhs; rw [← List.take_append_drop k x.cps.toList]
    refine List.Sublist.append (List.Sublist.refl _) ?_
    rw [← List.drop_drop]
    exact List.drop_sublist _ _
  · obtain ⟨rule, hr, hg⟩ := List.any_eq_true.mp h
    obtain ⟨hr, hs⟩ := List.mem_filter.mp hr
    obtain ⟨k, hk, rfl⟩ := mem_rules hr
    obtain ⟨y, hy, hgoal⟩ := ruleGo_un hg
    obtain ⟨s, a, b, e, hsS, hab⟩ := ruleK_shape l k
    have hlo := let_ok l
    have cov2 := fun N hN v hv f => cov N hN v hv k hk f
    rw [e] at hy hgoal hs cov2
    have hss : s = 256 + st := by
      have : ((s : Int) == 256 + (st : Int)) = true := hs
      have := beq_iff_eq.mp this
      (first | lia | omega)
    rw [goalR_eq] at hgoal
    -- the kept word behind y
    have hv : ∀ N : Nat, Nm3 N → ((N : Int) = 258 ∨ y ∈ reachOf rc.1 rc.2 (N : Int)) → ∃ v ∈ kOf k0 k1 k2 N, v.1.Sublist y.cps.toList := fun N hN hg => by
      rcases hN with rfl | rfl | rfl
      · have hg := hg.resolve_left (by decide)
        exact ((hP 0 (.inl rfl)).2 y hg).2
      · have hg := hg.resolve_left (by decide)
        exact ((hP 1 (.inr rfl)).2 y hg).2
      · obtain ⟨v, hv, _⟩ := J.cov0.resolve_right fun h => nomatch h
        exact ⟨v, hv, by rw [(J.kin 258 (.inr (.inr rfl)) v hv).inr.1 rfl]; exact List.nil_sublist _⟩
    by_cases ha : 256 ≤ a
    · rw [if_pos ha] at hgoal
      have hN : Nm3 a := by unfold Nm3; (first | lia | omega)
      obtain ⟨v, hv1, hv2⟩ := hv a hN hgoal
      have hy' : y ∈ thirds (ofL (x.cps.toList ++ [64 + b])) := by
        rw [← after_put (s := s) ha, ofL_self]; exact hy
      have hsub : v.1.Sublist (x.cps.toList ++ [64 + b]) := hv2.trans (thirds_sub hy')
      rcases need_put (s := s) (b := b) (k := k) (w := v.1) (p := v.2) ha rfl with ⟨h1, h2⟩ | ⟨h1, h2⟩
      · have := cov2 a hN v hv1 _ h2
        rw [← hss]
        refine hd_sub this ?_
        rw [init_last h1] at hsub
        exact (List.append_sublist_append_right _).mp hsub
      · have := cov2 a hN v hv1 _ h2
        rw [← hss]
        exact hd_sub this (sub_line hsub h1)
    · rw [if_neg ha] at hgoal
      have hN : Nm3 b := by unfold Nm3; (first | lia | omega)
      obtain ⟨v, hv1, hv2⟩ := hv b hN hgoal
      have := cov2 b hN v hv1 _ (need_take (by (first | lia | omega)) rfl)
      rw [← hss]
      refine hd_sub this ?_
      change y ∈ (if (256 : Int) ≤ (a : Int) then _ else if ofL (x.cps.toList.take 1) = oneS (64 + (a : Int)).toNat then [ofL (x.cps.toList.drop 1)] else []) at hy
      rw [if_neg (by (first | lia | omega)), show (64 + (a : Int)).toNat = 64 + a by (first | lia | omega)] at hy
      split at hy
      · rename_i q
        rw [List.mem_singleton.mp hy] at hv2
        have q : x.cps.toList.take 1 = [64 + a] := congrArg (fun x => x.cps.toList) q
        have ex : x.cps.toList = (64 + a) :: x.cps.toList.drop 1 := by
          conv => lhs; rw [← List.take_append_drop 1 x.cps.toList, q]
          rfl
        rw [ex]
        exact List.cons_sublist_cons.mpr hv2
      · cases hy
end
section
open PySem PySem.W PySem.Calls
set_option maxRecDepth 100000
theorem nodup_len {α : Type} [BEq α] [LawfulBEq α] : ∀ (a b : List α), a.Nodup → (∀ x ∈ a, x ∈ b) → a.length ≤ b.length
  | [], b, _, _ => Nat.zero_le _
  | x :: a, b, h, hs => by
    have hx := hs x (.head _)
    obtain ⟨h1, h2⟩ := List.nodup_cons.mp h
    have ih := nodup_len a (b.erase x) h2 fun y hy => (List.mem_erase_of_ne (fun e : y = x => by subst e; exact h1 hy)).mpr (hs y (.tail _ hy))
    rw [List.length_erase_of_mem hx] at ih
    have := List.length_pos_of_mem hx
    rw [List.length_cons]; (first | lia | omega)
theorem words_len (l : List Int) : (wordsL l).length = 7 := by unfold wordsL signsL; simp
theorem pr_start (l : List Int) (k0 k1 k2 : List WP) : PR l k0 k1 k2 ([], []) := fun st hst => by
  rcases hst with rfl | rfl <;> exact ⟨.nil, fun x hx => nomatch hx⟩
theorem pr_len {l : List Int} {k0 k1 k2 : List WP} {rc : List Str × List Str} (h : PR l k0 k1 k2 rc) : rc.1.length ≤ 8 ∧ rc.2.length ≤ 8 := by
  have a := h 0 (.inl rfl)
  have b := h 1 (.inr rfl)
  have e := words_len l
  have := nodup_len rc.1 (wordsL l) a.1 fun x hx => (a.2 x hx).1
  have := nodup_len rc.2 (wordsL l) b.1 fun x hx => (b.2 x hx).1
  (first | lia | omega)
theorem pr_add {l : List Int} {k0 k1 k2 : List WP} (J : JW l k0 k1 k2 []) (st : Nat) (rc : List Str × List Str) (x : Str) (hst : st = 0 ∨ st = 1) (hx : x ∈ wordsL l) (hP : PR l k0 k1 k2 rc) : PR l k0 k1 k2 (addR (rulesL l) st rc x) := by
  unfold addR
  split
  · rename_i h
    rw [Bool.and_eq_true] at h
    obtain ⟨h1, h2⟩ := h
    have hnm : x ∉ mineR st rc := fun q => by rw [memB_iff.mpr q] at h1; cases h1
    have hd := goes_hd J hP hst h2
    intro su hsu
    by_cases e : su = st
    · subst e
      rw [(mine_ord hst _ _).1]
      refine ⟨?_, fun y hy => ?_⟩
      · rw [List.nodup_append]
        exact ⟨(hP su hsu).1, by simp, fun a ha b hb e => hnm (by rw [List.mem_singleton.mp hb] at e; exact e ▸ ha)⟩
      · rcases List.mem_append.mp hy with hy | hy
        · exact (hP su hsu).2 y hy
        · rw [List.mem_singleton.mp hy]; exact ⟨hx, hd⟩
    · have e2 : su = 1 - st := by (first | lia | omega)
      subst e2
      rw [(mine_ord hst _ _).2]
      exact hP _ hsu
  · exact hP
/-- kept are just the least of the reached -/
theorem fin_low {l : List Int} {k0 k1 k2 : List WP} (J : JW l k0 k1 k2 []) {rc : List Str × List Str} (hfix : roundR (rulesL l) (wordsL l) rc = rc) (hP : PR l k0 k1 k2 rc) {st : Nat} (hst : st = 0 ∨ st = 1) : sortW ((kOf k0 k1 k2 (256 + st)).map fun x => ofL x.1) = lowF (mineR st rc) := by
  have hN : Nm3 (256 + st) := by unfold Nm3; (first | lia | omega)
  refine low_eq ?_ (fun y hy => ?_) (fun t ht => ?_)
  · rw [List.pairwise_map]
    exact (J.ap _ hN).imp fun {a b} h => h
  · obtain ⟨x, hx, rfl⟩ := List.mem_map.mp hy
    exact (J.kin _ hN x hx).inr.2 rc hfix st hst rfl
  · obtain ⟨x, hx, hs⟩ := ((hP st hst).2 t ht).2
    exact ⟨_, List.mem_map.mpr ⟨x, hx, rfl⟩, hs⟩
theorem fin_all {l : List Int} {k0 k1 k2 : List WP} (J : JW l k0 k1 k2 []) {rc : List Str × List Str} (hfix : roundR (rulesL l) (wordsL l) rc = rc) (hP : PR l k0 k1 k2 rc) :
    sortW (k0.map fun x => ofL x.1) = lowF rc.1 ∧ sortW (k1.map fun x => ofL x.1) = lowF rc.2 ∧ sortW (k2.map fun x => ofL x.1) = [emp] := by
  refine ⟨fin_low J hfix hP (.inl rfl), fin_low J hfix hP (.inr rfl), ?_⟩
  rw [jw_258 J]
  exact (sortW_uniq (List.Perm.refl _) (List.pairwise_singleton _ _)).symm
/-- what the walk of law asks of the pure part -/
structure LawPure (l : List Int) : Prop where
  ok : ∀ k, k < 5 → RuleOk (ruleK l k)
  line : ∀ k, k < 5 → (lineK l k).length ≤ 100
  heard2 : rowD (namesL l) (hear ((textL l).length + 1) (textL l).cps.toList) = (rulesL l).map fun c => PyData.list (c.map PyData.int)
  fin : hearEnd ((textL l).length + 1) (textL l).cps.toList = []
  nl : nlOf (textL l).cps.toList = 5
  kn : KN (rulesL l) (JW l) (muW l)
theorem law_pure (l : List Int) : LawPure l where
  ok := fun k _ => (ruleK_rok l k).2
  line := fun k _ => (line_len l k).1
  heard2 := (pure_heard l).1
  fin := (pure_heard l).2.1
  nl := (pure_heard l).2.2
  kn := jw_kn l
end
section
open PySem PySem.W PySem.Calls
set_option Elab.async false
set_option compiler.extract_closed false
set_option maxRecDepth 100000
theorem snoc_ints {f : Int → Int} (xs : List Int) {j : Nat} {x : Int} (h : xs[j]? = some x) : ((xs.take j).map f).map PyData.int ++ [PyData.int (f x)] = ((xs.take (j + 1)).map f).map PyData.int := by
  rw [List.take_add_one, h]; simp
theorem viaN {P : Prop} {g : Mp} {s₀ : Shared} {T : List Addr} {env : Env} {m : Str → Option Value} {W : List (Addr × Obj)} {s : Shared} {nA : Addr} {vs : List Value} {ds : List PyData} {n : Nat} (I : Inv g s₀ T env m ((nA, lstO vs n) :: W) s) (hr : RdAll g vs ds)
    (K : ∀ nvs, RdAll g nvs ds → Inv g s₀ T env m ((nA, lstO nvs n) :: W) s → P) : P := K _ hr I
local macro_rules | `(tactic| walk_at "w2") => `(tactic| first
  | ((with_reducible show wpAny _ _ (storeName _ _ _) _ _ _); skip)
  | (walk_at "s"; walk_at "w2"))
theorem absN {P : Prop} {g : Mp} {s₀ : Shared} {env : Env} {m : Str → Option Value} {W : List (Addr × Obj)} {s : Shared} {nA : Addr} {vs : List Value} {ds : List PyData} {n : Nat} (I : Inv g s₀ [75] env m ((nA, lstO vs n) :: W) s) (hm : ∃ o1, (75, o1) ∈ W) (hr : RdAll g vs ds)
    (K : ∀ g', Gr s₀ g g' → Rd g' (.ref nA) (.list ds) → Inv g' s₀ [75] env m W s → P) : P := by
  obtain ⟨o1, h1⟩ := hm
  have nd := (List.pairwise_cons.mp I.nd).1
  have h0 := I.offW _ (.head _)
  have f0 : s₀.heap.get? nA = none := h0.2.resolve_left (fun hz => nd _ h1 (List.mem_singleton.mp hz))
  refine K _ ⟨Mp.le_put h0.1, fun b ob e => ?_⟩ (Rd.lst (Mp.put_self _ _ _) (hr.mono (Mp.le_put h0.1))) I.absorb1
  unfold Mp.put at e
  split at e
  · rename_i q; subst q; exact .inr f0
  · exact .inl e
theorem strsI {g : Mp} : ∀ {vs : List Value} {ns : List Int}, RdAll (fun _ => none) vs (ns.map PyData.int) → RdAll g vs (ns.map PyData.int)
  | [], [], _ => .nil
  | [], _ :: _, h => by have := h.1; simp at this
  | _ :: _, [], h => by have := h.1; simp at this
  | v :: vs, n :: ns, h => by
    have ⟨h1, h2⟩ := h.uncons
    refine hideP fun Po hPo => ?_
    obtain ⟨t, rfl⟩ := h1.unint
    refine hPo ?_; clear hPo Po
    exact .cons (.int _ _) (strsI h2)
theorem absO {P : Prop} {g : Mp} {s₀ : Shared} {env : Env} {m : Str → Option Value} {W : List (Addr × Obj)} {s : Shared} {nA : Addr} {o : Obj} (I : Inv g s₀ [75] env m ((nA, o) :: W) s) (hm : ∃ o1, (75, o1) ∈ W)
    (K : ∀ g', Gr s₀ g g' → g' nA = some o → Inv g' s₀ [75] env m W s → P) : P := by
  obtain ⟨o1, h1⟩ := hm
  have nd := (List.pairwise_cons.mp I.nd).1
  have h0 := I.offW _ (.head _)
  have f0 : s₀.heap.get? nA = none := h0.2.resolve_left (fun hz => nd _ h1 (List.mem_singleton.mp hz))
  refine K _ ⟨Mp.le_put h0.1, fun b ob e => ?_⟩ (Mp.put_self _ _ _) I.absorb1
  unfold Mp.put at e
  split at e
  · rename_i q; subst q; exact .inr f0
  · exact .inl e
theorem absM1 {P : Prop} {g : Mp} {s₀ : Shared} {T : List Addr} {env : Env} {m : Str → Option Value} {W : List (Addr × Obj)} {s : Shared} {x1 : Str} {v1 : Value} (I : Inv g s₀ T env m W s) (h1 : m x1 = some v1)
    (K : ∀ m, m x1 = some v1 → Inv g s₀ T env m W s → P) : P := K m h1 I
theorem absM3 {P : Prop} {g : Mp} {s₀ : Shared} {T : List Addr} {env : Env} {m : Str → Option Value} {W : List (Addr × Obj)} {s : Shared} {x1 x2 x3 : Str} {v1 v2 v3 : Value} (I : Inv g s₀ T env m W s) (h1 : m x1 = some v1) (h2 : m x2 = some v2) (h3 : m x3 = some v3)
    (K : ∀ m, m x1 = some v1 → m x2 = some v2 → m x3 = some v3 → Inv g s₀ T env m W s → P) : P := K m h1 h2 h3 I
theorem absM4 {P : Prop} {g : Mp} {s₀ : Shared} {T : List Addr} {env : Env} {m : Str → Option Value} {W : List (Addr × Obj)} {s : Shared} {x1 x2 x3 x4 : Str} {v1 v2 v3 v4 : Value} (I : Inv g s₀ T env m W s) (h1 : m x1 = some v1) (h2 : m x2 = some v2) (h3 : m x3 = some v3) (h4 : m x4 = some v4)
    (K : ∀ m, m x1 = some v1 → m x2 = some v2 → m x3 = some v3 → m x4 = some v4 → Inv g s₀ T env m W s → P) : P := K m h1 h2 h3 h4 I
theorem canRows : ∀ xs : List (List Int), PyData.canLayAll0 (xs.map fun c => PyData.list (c.map PyData.int)) = true
  | [] => rfl
  | x :: r => by show (PyData.canLayAll0 (x.map PyData.int) && _) = true; rw [canRows r, canInts]; rfl
theorem depthRows (xs : List (List Int)) : (PyData.list (xs.map fun c => PyData.list (c.map PyData.int))).depth ≤ 2 := by
  have : ∀ xs : List (List Int), PyData.depthAll (xs.map fun c => PyData.list (c.map PyData.int)) ≤ 1 := by
    intro xs
    induction xs with
    | nil => exact Nat.zero_le _
    | cons x r ih =>
      show max (PyData.depthAll (x.map PyData.int) + 1) _ ≤ 1
      rw [depthInts]
      (first | lia | omega)
  have h1 := this xs
  rw [depthList]
  (first | lia | omega)
theorem depthPairs : ∀ xs : List Str, PyData.depthAll (xs.map pairD) ≤ 1
  | [] => Nat.zero_le _
  | x :: r => by
    show max ((max 0 (max 0 0)) + 1) _ ≤ 1
    have := depthPairs r
    (first | lia | omega)
theorem kcan {l : List Int} {k0 k1 k2 : List WP} (J : JW l k0 k1 k2 []) {N : Nat} (hN : Nm3 N) : PyData.canLayAll0 ((sortW ((kOf k0 k1 k2 N).map fun x => ofL x.1)).map pairD) = true := canPairs _ (fun y hy => by
  refine hideP fun Po hPo => ?_
  obtain ⟨x, hx, rfl⟩ := List.mem_map.mp ((sortW_perm _).mem_iff.mp hy)
  refine hPo ?_; clear hPo Po
  have g := J.kin N hN x hx
  exact lw_ok (words_ok (mem_words g.lt g.len)).2.2.2)
noncomputable abbrev l_law : List (Str × NameKind) := [(Str.ofString "script", .local), (Str.ofString "drawn", .local), (Str.ofString "numbers", .cell), (Str.ofString "total", .local), (Str.ofString "letters", .cell), (Str.ofString "names", .cell), (Str.ofString "rules", .cell), (Str.ofString "machine", .local), (Str.ofString "heard", .local), (Str.ofString "kept", .local), (Str.ofString "state", .local), (Str.ofString "word", .local), (Str.ofString "plan", .local), (Str.ofString "told", .local), (Str.ofString "signs", .cell), (Str.ofString "words", .local), (Str.ofString "len", .globalImplicit), (Str.ofString "sum", .globalImplicit), (Str.ofString "range", .globalImplicit), (Str.ofString "_law_machine", .globalImplicit), (Str.ofString "_law_heard", .globalImplicit), (Str.ofString "_law_needed", .globalImplicit), (Str.ofString "_law_arrives", .globalImplicit), (Str.ofString "_law_reached", .globalImplicit)]
theorem f141b (w : World) (a : Value) : bindArgs (fd1 w 141) ⟨[a], []⟩ = pure ([Str.ofString "script"].zip [a]) := by kernel_rfl
set_option maxHeartbeats 8000000 in
theorem c_law {w : World} {A : Around} {s : Shared} {g : Mp} {l : List Int} {vl : Value} {Q : Value → Shared → Prop} (r : Room A 10) (b : Bs (K1 w) g) (bm : Bm g) (hg : ∀ a o, g a = some o → s.heap.get? a = some o)
    (hP : s.heap.get? 75 = some (tabObj #[])) (nP : g 75 = none) (hv : Rd g vl (.list (l.map PyData.int))) (hl : l.length ≤ 63) (X : LawPure l)
    (h : ∀ s' ps, (∀ b o, s.heap.get? b = some o → b ∉ [75] → s'.heap.get? b = some o) → s'.heap.get? 75 = some (tabObj ps) → (∃ h tk, s' = { s with heap := h, toks := tk }) → Q (.bool true) s') :
    codeAny (model pr1 w) A (.call (.ref 141) ⟨[vl], []⟩) (RV Q) s := by
  have F : Fn (K1 w) 141 (fd1 w 141) l_law [Str.ofString "script"] _ := ⟨by kernel_rfl, by kernel_rfl, by rfl, by kernel_rfl, by kernel_rfl, by kernel_rfl, by kernel_rfl, by kernel_rfl, by kernel_rfl, by kernel_rfl, by decide⟩
  refine hideP fun Po hPo => ?_
  obtain ⟨la, lvs, ln, rfl, ela, hlvs⟩ := hv.unlist
  refine hPo ?_; clear hPo Po
  have hll : lvs.length = l.length := by rw [hlvs.1]; simp
  refine r_defA F r b hg rfl (f141b w _) ?_
  clear F
  intro env s₁ el _ _ r I cw
  conv in (fB _) => whnf
  generalize A.deeper env = A1 at r ⊢
  have cP : ∀ q ∈ env.cells, (75 : Addr) ≠ q.2 := fun q hq e => by rcases cw q hq with h | h; exact (nomatch h); rw [← e, hP] at h; cases h
  have I := I.addT hP (by simp) nP cP (fun _ h => (nomatch h))
  have cw := cw.moreT (T' := [75]) (fun _ h => (nomatch h))
  refine x_cons ?_
  refine k_lcA ((swaps_eq el I.eo.fk _ _ _ _).trans (by kernel_rfl)) cw el (by decide) rfl (by decide) (by decide) r.hand ?_
  refine k_slL cw ?_
  walk_at "w"
  refine ⟨_, lvs, none, some 5, _, _, _, rfl, ⟨_, I.keep _ _ ela, rfl, _, rfl⟩, .none, .int _ _, by rw [sizeLine_eq]; (first | lia | omega), I, fun D s' I => ?_⟩
  have e4 : (slicePick lvs.toArray none (some 5) none).toList = lvs.take 5 := pick_to lvs 5
  rw [e4] at I
  clear e4
  have hT : ∀ {g' m W s'}, Inv g' s [75] env m W s' → (∃ o1, (75, o1) ∈ W) → ∀ z ∈ [75], ∃ o, s'.heap.get? z = some o := by
    intro g' m W s' I hm z hz
    obtain ⟨o1, h1⟩ := hm
    rw [List.mem_singleton.mp hz]
    exact ⟨_, I.led _ h1⟩
  have notT : ∀ {g' m W s' z o}, Inv g' s [75] env m ((z, o) :: W) s' → (∃ o1, (75, o1) ∈ W) → Gr s g' (g'.put z o) := by
    intro g' m W s' z o I hm
    obtain ⟨o1, h1⟩ := hm
    have nd := (List.pairwise_cons.mp I.nd).1
    have h0 := I.offW _ (.head _)
    have f0 : s.heap.get? z = none := h0.2.resolve_left (fun hz => nd _ h1 (List.mem_singleton.mp hz))
    exact ⟨Mp.le_put h0.1, fun b ob e => by
      unfold Mp.put at e
      split at e
      · rename_i q; subst q; exact .inr f0
      · exact .inl e⟩
  have G1 := notT I ⟨_, .head _⟩
  have I := I.absorb1
  have eD := Mp.put_self g D (lstO (lvs.take 5) 0)
  have rD : RdAll (g.put D (lstO (lvs.take 5) 0)) (lvs.take 5) ((l.take 5).map PyData.int) := by
    rw [List.map_take]; exact (hlvs.take 5).mono G1.le
  generalize g.put D (lstO (lvs.take 5) 0) = g1 at *
  refine ⟨_, _, _, _, _, fun j g ds => ds = (((l.take 5).take j).map fun x : Int => x.fmod 48).map PyData.int, I, itr_list eD rfl rfl, ⟨by simp, ?_, ?_⟩, ?_⟩
  · rintro j g ds hz1
    refine hideP fun Po hPo => ?_
    obtain rfl := hz1
    refine hPo ?_; clear hPo Po
    rw [sizeLine_eq, List.length_map, List.length_map, List.length_take, List.length_take]; (first | lia | omega)
  · rintro j v g2 ds cenv mc W2 s2 hj hvj G2 hz1 el' hmc I2
    refine hideP fun Po hPo => ?_
    obtain rfl := hz1
    obtain ⟨x, hx, u, rfl⟩ := int_at rD (by simpa using hvj)
    refine hPo ?_; clear hPo Po
    refine tests_nil ?_
    refine btrue rfl ?_
    refine hideQ fun Qo8 hQ8 => ?_
    walk_at "w"
    refine hQ8 _ _ ⟨_, _, Gr.refl _ _, .int _ _, ?_, I⟩
    exact snoc_ints _ hx
  rintro dA g0 g2 ds s2 I2 hz1 hz2 le2 hR fdA
  refine hideP fun Po hPo => ?_
  obtain ⟨s3, G⟩ := hz1
  obtain rfl := hz2
  refine hPo ?_; clear hPo Po
  have Gd := I.gr (hT I ⟨_, .head _⟩) G
  have hsl : (lvs.take 5).toArray.size = (l.take 5).length := by simp [hll]
  rw [hsl, List.take_length] at hR
  have hR : Rd g2 (.ref dA) (.list ((drawnL l).map PyData.int)) := hR
  have G2 := G1.trans Gd
  clear I eD hsl rD
  have I := I2
  clear I2 Gd G G1
  refine hideP fun Po hPo => ?_
  obtain ⟨dA', dvs, dn, e1, edA, hdvs⟩ := hR.unlist
  cases e1
  refine hPo ?_; clear hPo Po
  have hdl : dvs.length = (drawnL l).length := by rw [hdvs.1]; simp
  have hd4 : (drawnL l).length ≤ 5 := by unfold drawnL; rw [List.length_map, List.length_take]; (first | lia | omega)
  -- numbers
  have b0 := b
  have b := b.mono G2.le
  refine Sq.next (x_cons ?_)
  refine r_assign ?_
  refine k_bin ?_
  refine n_var el I (by decide) (by walk_at "v") ?_
  refine k_slLT cw ?_
  walk_at "w"
  refine r_newList I (by show 5 ≤ sizeLine; rw [sizeLine_eq]; decide) (fun C s' I => ?_)
  walk_at "w"
  refine r_lenL I (.inl ⟨_, edA⟩) (by (first | lia | omega)) (fun t s' I => ?_)
  walk_at "w"
  refine ⟨_, _, some (dvs.length : Int), none, _, _, _, rfl, ⟨_, I.led _ (.head _), rfl, _, rfl⟩, .int _ _, .none, by rw [sizeLine_eq]; simp only [List.length_cons, List.length_nil]; (first | lia | omega), I, fun D s' I => ?_⟩
  rw [pick_from] at I
  refine r_addL I (.inl ⟨_, edA⟩) (.inr ⟨_, .head _⟩) (by rw [sizeLine_eq, List.length_drop]; simp only [List.length_cons, List.length_nil]; (first | lia | omega)) (fun nA s' I => ?_)
  refine n_store el cw I (by decide) (fun s' I => ?_)
  have I := I.sublist (W' := [(nA, _), (75, tabObj #[])]) (.cons_cons _ (.cons _ (.cons _ (.cons_cons _ .slnil))))
  have hq : ∀ {t1 t2 t3 t4 t5 : Tok}, RdAll g2 (dvs ++ List.drop dvs.length [Value.int 41 t1, .int 0 t2, .int 19 t3, .int 25 t4, .int 7 t5]) ((numsL l).map PyData.int) := by
    intro t1 t2 t3 t4 t5
    have q : RdAll g2 [Value.int 41 t1, .int 0 t2, .int 19 t3, .int 25 t4, .int 7 t5] (([41, 0, 19, 25, 7] : List Int).map PyData.int) := .cons (.int _ _) (.cons (.int _ _) (.cons (.int _ _) (.cons (.int _ _) (.cons (.int _ _) .nil))))
    unfold numsL
    rw [List.map_append, hdl, List.map_drop]
    exact hdvs.append (q.drop _)
  refine viaN I hq (fun nvs hnv I => ?_)
  clear hq
  have G1 := notT I ⟨_, .head _⟩
  have I := I.absorb1
  have G2 := G2.trans G1
  have rN := Rd.lst (Mp.put_self g2 nA (lstO nvs 0)) (hnv.mono G1.le)
  generalize g2.put nA (lstO nvs 0) = g3 at *
  have rl3 := hlvs.mono G2.le
  have el3 := G2.le _ _ ela
  clear edA hdvs hR hdl
  -- total
  have b := b0.mono G2.le
  refine Sq.next (x_cons ?_)
  refine r_assign ?_
  refine k_call ?_
  walk_at "w"
  refine k_lc cw el (by decide) rfl (by decide) r.hand ?_
  refine k_slL cw ?_
  walk_at "w"
  refine ⟨_, lvs, none, some 12, _, _, _, rfl, ⟨_, I.keep _ _ el3, rfl, _, rfl⟩, .none, .int _ _, by rw [sizeLine_eq]; (first | lia | omega), I, fun D s' I => ?_⟩
  have e4 : (slicePick lvs.toArray none (some 12) none).toList = lvs.take 12 := pick_to lvs 12
  rw [e4] at I
  clear e4
  have G1 := notT I ⟨_, .head _⟩
  have I := I.absorb1
  have G2 := G2.trans G1
  have rN := rN.mono G1.le
  have eD := Mp.put_self g3 D (lstO (lvs.take 12) 0)
  have rD : RdAll (g3.put D (lstO (lvs.take 12) 0)) (lvs.take 12) ((l.take 12).map PyData.int) := by
    rw [List.map_take]; exact (rl3.take 12).mono G1.le
  generalize g3.put D (lstO (lvs.take 12) 0) = g4 at *
  refine ⟨_, _, _, _, _, fun j g ds => ds = (((l.take 12).take j).map fun x : Int => x.fmod 720).map PyData.int, I, itr_list eD rfl rfl, ⟨by simp, ?_, ?_⟩, ?_⟩
  · rintro j g ds hz1
    refine hideP fun Po hPo => ?_
    obtain rfl := hz1
    refine hPo ?_; clear hPo Po
    rw [sizeLine_eq, List.length_map, List.length_map, List.length_take, List.length_take]; (first | lia | omega)
  · rintro j v g2 ds cenv mc W2 s2 hj hvj G2 hz1 el' hmc I2
    refine hideP fun Po hPo => ?_
    obtain rfl := hz1
    obtain ⟨x, hx, u, rfl⟩ := int_at rD (by simpa using hvj)
    refine hPo ?_; clear hPo Po
    refine tests_nil ?_
    refine btrue rfl ?_
    refine hideQ fun Qo8 hQ8 => ?_
    walk_at "w"
    refine hQ8 _ _ ⟨_, _, Gr.refl _ _, .int _ _, ?_, I⟩
    exact snoc_ints _ hx
  rintro tA g0' g5 ds s2 I2 G hz1 le5 hR _
  refine hideP fun Po hPo => ?_
  obtain rfl := hz1
  refine hPo ?_; clear hPo Po
  have Gd := I.gr (hT I ⟨_, .head _⟩) G
  have hsl : (lvs.take 12).toArray.size = (l.take 12).length := by simp [hll]
  rw [hsl, List.take_length] at hR
  have G2 := G2.trans Gd
  have rN := rN.mono Gd.le
  clear I eD hsl rD
  have I := I2
  clear I2 Gd G G1
  refine hideP fun Po hPo => ?_
  obtain ⟨tA', tvs, tn, e1, etA, htvs⟩ := hR.unlist
  cases e1
  refine hPo ?_; clear hPo Po
  have b := b0.mono G2.le
  walk_at "w"
  refine r_sum I r.hand (.inl ⟨_, etA⟩) htvs (fun t s' I => ?_)
  have eT : ((l.take 12).map fun x : Int => x.fmod 720).sum = totalL l := rfl
  rw [eT]
  clear eT etA htvs hR
  have tnn := total_nn l
  have hf : 7 + (totalL l).fmod 16 = (let0 l : Int) := by
    unfold let0
    have h1 := Int.fmod_nonneg_of_pos (totalL l) (b := 16) (by decide)
    (first | lia | omega)
  have hs : 7 + (totalL l + 1 + ((totalL l).fdiv 16).fmod 15).fmod 16 = (let1 l : Int) := by
    unfold let1
    have h1 := Int.fmod_nonneg_of_pos (totalL l + 1 + ((totalL l).fdiv 16).fmod 15) (b := 16) (by decide)
    (first | lia | omega)
  walk_at "w"
  refine r_div I (by decide) (by decide) (fun t s' I => ?_)
  walk_at "w"
  rw [hf, hs]
  refine r_newList I (by show 2 ≤ sizeLine; rw [sizeLine_eq]; decide) (fun LA s' I => ?_)
  refine absN I ⟨_, .head _⟩ (ds := [PyData.int (let0 l), PyData.int (let1 l)]) (.cons (.int _ _) (.cons (.int _ _) .nil)) (fun g6 H0 RL I => ?_)
  clear hf hs
  have G2 := G2.trans H0
  have rN := rN.mono H0.le
  clear H0
  have b := b0.mono G2.le
  refine n_store el cw I (by decide) (fun s' I => ?_)
  -- names
  refine Sq.next (x_cons ?_)
  refine r_assign ?_
  refine k_slFT cw ?_
  walk_at "w"
  have ht3 : (totalL l).fmod 3 = (((totalL l).fmod 3).toNat : Int) := (Int.toNat_of_nonneg (Int.fmod_nonneg_of_pos _ (by decide))).symm
  have ht4 : ((totalL l).fmod 3).toNat < 3 := by
    have := Int.fmod_lt_of_pos (totalL l) (b := 3) (by decide)
    have := Int.fmod_nonneg_of_pos (totalL l) (b := 3) (by decide)
    (first | lia | omega)
  refine ⟨_, _, _, _, _, _, _, _, _, rfl, rfl, rfl, by rw [sizeLine_eq]; decide, I, fun t s' I => ?_⟩
  have hnm : Txt.slice (Str.ofString "\"\\ \"\\") (some ((totalL l).fmod 3)) (some ((totalL l).fmod 3 + 3)) = namesL l := by
    rw [marks_eq, ht3, show (((totalL l).fmod 3).toNat : Int) + 3 = ((((totalL l).fmod 3).toNat + 3 : Nat) : Int) from rfl, txt_run _ _ _ (by (first | lia | omega)) (by show _ ≤ 5; (first | lia | omega))]
    unfold namesL
    congr 2
    (first | lia | omega)
  rw [hnm]
  refine n_store el cw I (by decide) (fun s' I => ?_)
  refine absM3 I (x1 := Str.ofString "numbers") (x2 := Str.ofString "letters") (x3 := Str.ofString "names") (by walk_at "v") (by walk_at "v") (by walk_at "v") (fun m mN mL mM I => ?_)
  clear hnm ht3 ht4
  -- rules
  refine Sq.next (x_cons ?_)
  refine r_assign ?_ ((swaps_eq el I.eo.fk _ _ _ _).trans (by kernel_rfl))
  refine k_lc cw el (by decide) rfl (by decide) r.hand ?_
  walk_at "w"
  refine r_range1 I (fun D t u v s' I => ?_)
  refine absO I ⟨_, .head _⟩ (fun g7 GD eD I => ?_)
  have rN := rN.mono GD.le
  have RL := RL.mono GD.le
  have G2 := G2.trans GD
  have b := b0.mono G2.le
  refine ⟨_, _, _, _, _, fun j g ds => j ≤ 5 ∧ ds = ((List.range j).map (ruleK l)).map fun c => PyData.list (c.map PyData.int), I, itr_range eD (by decide) (by decide) (by decide) (by decide), ⟨by simp, ?_, ?_⟩, ?_⟩
  · rintro j g ds hz1
    refine hideP fun Po hPo => ?_
    obtain ⟨hj, rfl⟩ := hz1
    refine hPo ?_; clear hPo Po
    rw [sizeLine_eq, List.length_map, List.length_map, List.length_range]; (first | lia | omega)
  · rintro j v g2 ds cenv mc W2 s2 hj hvj G3 hz1 el' hmc I2
    refine hideP fun Po hPo => ?_
    obtain ⟨_, rfl⟩ := hz1
    refine hPo ?_; clear hPo Po
    have hj5 : j < 5 := by simpa using hj
    refine hideP fun Po hPo => ?_
    obtain ⟨tj, rfl⟩ := hvj
    refine hPo ?_; clear hPo Po
    have b := b.mono G3.le
    refine hideP fun Po hPo => ?_
    obtain ⟨nAv, nvs, nn, e1, eN, hnv⟩ := (rN.mono G3.le).unlist
    cases e1
    refine hPo ?_; clear hPo Po
    have hmn : mc (Str.ofString "numbers") = some (.ref nA) := (hmc _ (by decide) (by decide)).trans (by walk_at "v")
    have hmC : mc (Str.ofString "letters") = some (.ref LA) := (hmc _ (by decide) (by decide)).trans (by walk_at "v")
    refine hideP fun Po hPo => ?_
    obtain ⟨hnk, hnl⟩ := nums_at l hj5
    obtain ⟨x, hx, rx⟩ := hnv.get' (i := j) (d := PyData.int (numK l j)) (by rw [List.getElem?_map, hnk]; rfl)
    obtain ⟨tx, rfl⟩ := rx.unint
    refine hPo ?_; clear hPo Po
    refine tests_nil ?_
    refine btrue rfl ?_
    refine hideQ fun Qo8 hQ8 => ?_
    walk_at "w"
    refine k_fn (o := fo w 87) (fd := fd1 w 87) rfl ?_
    walk_at "w"
    refine i_list I (.inl ⟨_, eN⟩) (by (first | lia | omega)) (by (first | lia | omega)) (v := .int (numK l j) tx) ?_ ?_
    · have : ((0 : Int) + (j : Int)).toNat = j := by (first | lia | omega)
      rw [this]; exact hx
    walk_at "w"
    refine ⟨I.keep _ _ (b.k _ _ (ko87 w)), ?_⟩
    rw [Int.zero_add]
    refine c_rule (r.less (by decide)) b I.keep (RL.mono G3.le) (by (first | lia | omega)) (fun a vs n s' k fa ha hvs => ?_)
    have I := I.recv k fa ha
    refine hQ8 _ _ ⟨_, _, I.grPut (.head _), Rd.lst (Mp.put_self _ _ _) (strsI hvs), ⟨hj5, ?_⟩, I.absorb1⟩
    rw [List.range_succ, List.map_append, List.map_append]
    rfl
  rintro rA g0' g8 ds s2 I2 G hz1 le8 hR fdR
  refine hideP fun Po hPo => ?_
  obtain ⟨_, rfl⟩ := hz1
  refine hPo ?_; clear hPo Po
  have Gd := I.gr (hT I ⟨_, .head _⟩) G
  have G2 := G2.trans Gd
  have rN := rN.mono Gd.le
  have RL := RL.mono Gd.le
  have hR : Rd g8 (.ref rA) (.list ((rulesL l).map fun c => PyData.list (c.map PyData.int))) := hR
  clear I eD
  have I := I2
  clear I2 Gd G GD
  have b := b0.mono G2.le
  refine n_store el cw I (by decide) (fun s' I => ?_)
  refine absM4 I (x1 := Str.ofString "numbers") (x2 := Str.ofString "letters") (x3 := Str.ofString "names") (x4 := Str.ofString "rules") (by walk_at "v") (by walk_at "v") (by walk_at "v") (by walk_at "v") (fun m mN' mL' mM' mR' I => ?_)
  clear mN mL mM
  -- the text
  refine Sq.next (x_cons ?_)
  refine r_assign ?_
  walk_at "w"
  refine k_fn (o := fo w 80) (fd := fd1 w 80) rfl ?_
  walk_at "w"
  refine k_lc cw el (by decide) rfl (by decide) r.hand ?_
  walk_at "w"
  refine r_range1 I (fun D t u v s' I => ?_)
  refine absO I ⟨_, .head _⟩ (fun g9 GD eD I => ?_)
  have rN := rN.mono GD.le
  have RL := RL.mono GD.le
  have rR := hR.mono GD.le
  clear hR
  have G2 := G2.trans GD
  have b := b0.mono G2.le
  refine ⟨_, _, _, _, _, fun j g ds => j ≤ 5 ∧ ds = ((List.range j).map (lineK l)).map PyData.str, I, itr_range eD (by decide) (by decide) (by decide) (by decide), ⟨by simp, ?_, ?_⟩, ?_⟩
  · rintro j g ds hz1
    refine hideP fun Po hPo => ?_
    obtain ⟨hj, rfl⟩ := hz1
    refine hPo ?_; clear hPo Po
    rw [sizeLine_eq, List.length_map, List.length_map, List.length_range]; (first | lia | omega)
  · rintro j v g2 ds cenv mc W2 s2 hj hvj G3 hz1 el' hmc I2
    refine hideP fun Po hPo => ?_
    obtain ⟨_, rfl⟩ := hz1
    refine hPo ?_; clear hPo Po
    have hj5 : j < 5 := by simpa using hj
    refine hideP fun Po hPo => ?_
    obtain ⟨tj, rfl⟩ := hvj
    refine hPo ?_; clear hPo Po
    rw [Int.zero_add] at I2
    have b := b.mono G3.le
    refine hideP fun Po hPo => ?_
    obtain ⟨nAv, nvs, nn, e1, eN, hnv⟩ := (rN.mono G3.le).unlist
    cases e1
    obtain ⟨rAv, rvs, rn, e1, eR, hrv⟩ := (rR.mono G3.le).unlist
    cases e1
    refine hPo ?_; clear hPo Po
    have hmn : mc (Str.ofString "numbers") = some (.ref nA) := (hmc _ (by decide) (by decide)).trans (by walk_at "v")
    have hmr : mc (Str.ofString "rules") = some (.ref rA) := (hmc _ (by decide) (by decide)).trans (by walk_at "v")
    refine hideP fun Po hPo => ?_
    obtain ⟨tm, hmm⟩ : ∃ tm, mc (Str.ofString "names") = some (.str (namesL l) tm) := ⟨_, (hmc _ (by decide) (by decide)).trans (by walk_at "v")⟩
    obtain ⟨hnk, hnl⟩ := nums_at l hj5
    obtain ⟨x, hx, rx⟩ := hnv.get' (i := j) (d := PyData.int (numK l j)) (by rw [List.getElem?_map, hnk]; rfl)
    obtain ⟨tx, rfl⟩ := rx.unint
    obtain ⟨y, hy, ry⟩ := hrv.get' (i := j) (d := PyData.list ((ruleK l j).map PyData.int)) (by
      unfold rulesL
      rw [List.getElem?_map, List.getElem?_map, List.getElem?_range hj5]; rfl)
    refine hPo ?_; clear hPo Po
    refine tests_nil ?_
    refine btrue rfl ?_
    refine hideQ fun Qo8 hQ8 => ?_
    walk_at "w"
    refine k_fn (o := fo w 92) (fd := fd1 w 92) rfl ?_
    walk_at "w"
    refine i_list I (.inl ⟨_, eR⟩) (by (first | lia | omega)) (by (first | lia | omega)) (v := y) hy ?_
    walk_at "w"
    refine i_list I (.inl ⟨_, eN⟩) (by (first | lia | omega)) (by (first | lia | omega)) (v := .int (numK l j) tx) hx ?_
    walk_at "w"
    refine r_div I (by decide) (by decide) (fun t s' I => ?_)
    rw [show ((numK l j : Nat) : Int).fdiv 24 = ((numK l j / 24 : Nat) : Int) from fdivN _ 24]
    refine r_mulS I (by (first | lia | omega)) (fun t s' I => ?_)
    have emk : (if ((numK l j / 24 : Nat) : Int) = 0 then emp else Str.ofString "\"") = markK l j := by
      unfold markK
      rw [qm_eq]
      by_cases q : numK l j / 24 = 0
      · rw [if_pos q, if_pos (by (first | lia | omega))]
      · rw [if_neg q, if_neg (by (first | lia | omega))]
    rw [emk]
    have hmk8 : (markK l j).length ≤ 8 := by unfold markK; split <;> decide
    walk_at "w"
    refine ⟨I.keep _ _ (b.k _ _ (ko92 w)), of_code (c_written (r.less (by decide)) b I.keep ry (X.ok j hj5) (names_len l) hmk8 (fun t s' k => ?_))⟩
    refine hQ8 _ _ ⟨_, _, Gr.refl _ _, .str _ _, ⟨hj5, ?_⟩, by rw [Int.zero_add]; exact I.keeps k⟩
    rw [List.range_succ, List.map_append, List.map_append]
    rfl
  rintro tA g0' g10 ds s2 I2 G hz1 le10 hR _
  refine hideP fun Po hPo => ?_
  obtain ⟨_, rfl⟩ := hz1
  refine hPo ?_; clear hPo Po
  have Gd := I.gr (hT I ⟨_, .head _⟩) G
  have G2 := G2.trans Gd
  have RL := RL.mono Gd.le
  have rR := rR.mono Gd.le
  have hR : Rd g10 (.ref tA) (.list (((List.range 5).map (lineK l)).map PyData.str)) := hR
  clear I eD rN
  have I := I2
  clear I2 Gd G GD
  have b := b0.mono G2.le
  have bm0 := bm
  have bm := bm0.mono G2.le
  refine hideP fun Po hPo => ?_
  obtain ⟨tA', tvs, tn, e1, etA, htvs⟩ := hR.unlist
  cases e1
  refine hPo ?_; clear hPo Po
  clear hR
  walk_at "w"
  rw [emp_eq]
  have hcl : (catL ((List.range 5).map (lineK l))).length ≤ 500 := by
    have h0 := X.line 0 (by decide)
    have h1 := X.line 1 (by decide)
    have h2 := X.line 2 (by decide)
    have h3 := X.line 3 (by decide)
    have h4 := X.line 4 (by decide)
    have e : catL ((List.range 5).map (lineK l)) = (lineK l 0).cps.toList ++ ((lineK l 1).cps.toList ++ ((lineK l 2).cps.toList ++ ((lineK l 3).cps.toList ++ ((lineK l 4).cps.toList ++ [])))) := rfl
    have q : ∀ x : Str, x.length = x.cps.toList.length := fun x => by simp [Str.length]
    rw [q] at h0 h1 h2 h3 h4
    rw [e]
    simp only [List.length_append, List.length_nil]
    (first | lia | omega)
  refine r_join I (.inl ⟨_, etA⟩) htvs (by rw [sizeLine_eq]; (first | lia | omega)) (fun t s' I => ?_)
  have htx : ofL (catL ((List.range 5).map (lineK l))) = textL l := rfl
  have htl : (textL l).length ≤ 500 := by rw [← htx]; show (List.toArray _).size ≤ 500; rw [List.size_toArray]; exact hcl
  rw [htx]
  clear htx hcl htvs etA
  walk_at "w"
  refine ⟨I.keep _ _ (b.k _ _ (ko80 w)), of_code (c_mach (r.less (by decide)) b bm I.keep (I.led _ (.head _)) (I.offW _ (.head _)).1 (by (first | lia | omega)) (fun a c2 g11 es n k k' tp s' hk0 hsame h75 M hnew hke nD nPb nA' fD fP fA he hdx hpb had => ?_))⟩
  have Iu := I.upd (W' := [(75, tabObj (tab2 a.cc c2))]) hk0 (fun z hz => by rw [List.mem_singleton.mp hz]; exact ⟨_, .head _⟩) rfl (fun p hp => by rw [List.mem_singleton.mp hp]; exact h75) hsame
  have Ir := Iu.regrow hnew hke (let ⟨_, ⟨oL, _, _, hoL, _⟩, _⟩ := I.ns; ⟨oL, hoL⟩) (fun q hq => let ⟨oc, ho, _⟩ := I.cell q hq; ⟨oc, ho⟩) (fun p hp => by rw [List.mem_singleton.mp hp]; exact ⟨_, I.led (75, tabObj #[]) (.head _)⟩)
  have n1 : a.Pb ≠ a.Ad := fun e => by rw [e, had] at hpb; injection hpb with hpb; injection hpb with _ _ h1 _; injection h1 with h1; exact absurd h1 (by simp)
  have n2 : a.dx ≠ a.Ad := fun e => by rw [e, had] at hdx; injection hdx with hdx; injection hdx with h1 _; injection h1 with h1; exact absurd h1 (by decide)
  have n3 : a.Pb ≠ a.dx := fun e => by rw [e, hdx] at hpb; injection hpb with hpb; injection hpb with h1 _; injection h1 with h1; exact absurd h1 (by decide)
  have i75 := I.led (75, _) (.head _)
  have m1 : (75 : Addr) ≠ a.Pb := fun e => by rw [← e, i75] at fP; cases fP
  have m2 : (75 : Addr) ≠ a.Ad := fun e => by rw [← e, i75] at fA; cases fA
  have m3 : (75 : Addr) ≠ a.dx := fun e => by rw [← e, i75] at fD; cases fD
  have I1 := Ir.fresh I (fun p hp => by rw [List.mem_singleton.mp hp]; exact .inr m1) fP hpb nPb
  have I2 := I1.fresh I (fun p hp => by
    simp only [List.mem_cons, List.not_mem_nil, or_false] at hp
    rcases hp with rfl | rfl
    · exact .inr n1
    · exact .inr m2) fA had nA'
  have I3 := I2.fresh I (fun p hp => by
    simp only [List.mem_cons, List.not_mem_nil, or_false] at hp
    rcases hp with rfl | rfl | rfl
    · exact .inr (Ne.symm n2)
    · exact .inr n3
    · exact .inr m3) fD hdx nD
  have Gm : Gr s g10 g11 := ⟨M.le, fun z o e => (hnew z o e).imp id fun h => I.gone (hT I ⟨_, .head _⟩) h⟩
  have G2 := G2.trans Gm
  have rR := rR.mono Gm.le
  have RL := RL.mono Gm.le
  refine hideP fun Po hPo => ?_
  obtain ⟨occ, cvs, tq, gcc, hcd, hcv⟩ := M.cc
  refine hPo ?_; clear hPo Po
  clear Iu Ir I1 I2 I Gm hnew hke hk0 hsame h75 fP fD fA i75 m1 m2 m3
  have I := I3
  clear I3
  refine n_store el cw I (by decide) (fun s' I => ?_)
  refine absM4 I (x1 := Str.ofString "machine") (x2 := Str.ofString "letters") (x3 := Str.ofString "names") (x4 := Str.ofString "rules") (by walk_at "v") (by walk_at "v") (by walk_at "v") (by walk_at "v") (fun m mN mL mM mR I => ?_)
  clear mN' mL' mM' mR'
  -- heard
  have bg := b.mono M.le
  refine Sq.next (x_cons ?_)
  refine r_assign ?_
  walk_at "w"
  refine k_fn (o := fo w 97) (fd := fd1 w 97) rfl ?_
  walk_at "w"
  refine ⟨I.keep _ _ (bg.k _ _ (ko97 w)), of_code (c_heard (p := 0) (r.less (by decide)) b M I.keep (I.led _ (.tail _ (.head _))) (I.led _ (.head _)) he (I.led _ (.tail _ (.tail _ (.head _)))) nA' nD (Nat.zero_le _) n1 (fun hA g12 p' u k1 es' n' s' hkp hsame Gh hk2 rH had' hdx' hp' hdr he' => ?_))⟩
  have m1 := (I.offW (75, tabObj (tab2 a.cc c2)) (.tail _ (.tail _ (.tail _ (.head _))))).1
  have ndI := I.nd
  have Iu := I.upd (Tc := [a.dx, a.Ad]) (W' := [(a.dx, dictOf es' n'), (a.Ad, lstO [.int p' u] k1), (a.Pb, lstO [] k), (75, tabObj (tab2 a.cc c2))]) hkp (fun z hz => by
      simp only [List.mem_cons, List.not_mem_nil, or_false] at hz
      rcases hz with rfl | rfl
      · exact ⟨_, .head _⟩
      · exact ⟨_, .tail _ (.head _)⟩) rfl (fun p hp => by
      simp only [List.mem_cons, List.not_mem_nil, or_false] at hp
      rcases hp with rfl | rfl | rfl | rfl
      · exact hdx'
      · exact had'
      · exact hkp _ _ (I.led _ (.tail _ (.tail _ (.head _)))) (by simp only [List.mem_cons, List.not_mem_nil, or_false, not_or]; exact ⟨n3, n1⟩)
      · refine hkp _ _ (I.led _ (.tail _ (.tail _ (.tail _ (.head _))))) ?_
        simp only [List.mem_cons, List.not_mem_nil, or_false, not_or]
        have q1 := (List.pairwise_cons.mp ndI).1 (75, tabObj (tab2 a.cc c2)) (.tail _ (.tail _ (.head _)))
        have q2 := (List.pairwise_cons.mp (List.pairwise_cons.mp ndI).2).1 (75, tabObj (tab2 a.cc c2)) (.tail _ (.head _))
        exact ⟨Ne.symm q1, Ne.symm q2⟩) hsame
  have Ir := Iu.regrow Gh.new hk2 (let ⟨_, ⟨oL, _, _, hoL, _⟩, _⟩ := I.ns; ⟨oL, hoL⟩) (fun q hq => let ⟨oc, ho, _⟩ := I.cell q hq; ⟨oc, ho⟩) (fun p hp => by
      simp only [List.mem_cons, List.not_mem_nil, or_false] at hp
      rcases hp with rfl | rfl | rfl | rfl
      · exact ⟨dictOf es n, I.led (a.dx, dictOf es n) (.head _)⟩
      · exact ⟨lstO [.int (0 : Nat) tp] k', I.led (a.Ad, lstO [.int (0 : Nat) tp] k') (.tail _ (.head _))⟩
      · exact ⟨_, I.led (a.Pb, lstO [] k) (.tail _ (.tail _ (.head _)))⟩
      · exact ⟨_, I.led (75, tabObj (tab2 a.cc c2)) (.tail _ (.tail _ (.tail _ (.head _))))⟩)
  have Gd : Gr s g11 g12 := ⟨Gh.le, fun z o e => (Gh.new z o e).imp id fun h => I.gone (hT I ⟨_, .tail _ (.tail _ (.tail _ (.head _)))⟩) h⟩
  have G2 := G2.trans Gd
  have rR := rR.mono Gd.le
  have RL := RL.mono Gd.le
  have gcc := Gd.le _ _ gcc
  have M := M.mono Gd.le
  have bg := b.mono M.le
  rw [List.drop_zero] at rH hdr he'
  rw [X.heard2] at rH
  rw [X.fin] at hdr
  rw [hdr, X.nl] at he'
  have he' : Ent a 6 es' := he'
  clear Iu m1 I hkp hsame Gh hk2 had' hdx' had hdx hpb he Gd
  have I := Ir
  clear Ir
  refine n_store el cw I (by decide) (fun s' I => ?_)
  refine absM4 I (x1 := Str.ofString "machine") (x2 := Str.ofString "letters") (x3 := Str.ofString "heard") (x4 := Str.ofString "rules") (by walk_at "v") (by walk_at "v") (by walk_at "v") (by walk_at "v") (fun m mN' mL' mM' mR' I => ?_)
  clear mN mL mM mR
  refine Sq.next (x_cons ?_)
  walk_at "w"
  refine c_neRd I rH rR (canList (canRows _)) (canList (canRows _)) (by have h1 := depthRows (rulesL l); have := r.units; (first | lia | omega)) ?_
  rw [SeqAt.eqv_refl _ (canList (canRows _))]
  refine t_bool ?_
  refine bfalse rfl ?_
  walk_at "w"
  refine hideP fun Po hPo => ?_
  obtain ⟨h1, h2, h3, h4, k1', k2, k3, k4, tl, tw, rfl⟩ := he'
  refine hPo ?_; clear hPo Po
  refine o_get I bg (.inl M.x) (.inr (.head _)) (lx_plain w _) (lx_dict w) (lx_no1 w) (by rfl) gl_ln rfl (fun s' I => ?_)
  walk_at "w"
  refine c_neI ?_
  refine t_bool ?_
  refine bfalse rfl ?_
  walk_at "w"
  refine bfalse rfl ?_
  -- kept
  walk_at "w"
  refine k_fn (o := fo w 107) (fd := fd1 w 107) rfl ?_
  walk_at "w"
  have hrk : ∀ r ∈ rulesL l, Rok r := fun r hr => by
    refine hideP fun Po hPo => ?_
    obtain ⟨k, hk, rfl⟩ := mem_rules hr
    refine hPo ?_; clear hPo Po
    exact (ruleK_rok l k).1
  refine ⟨I.keep _ _ (bg.k _ _ (ko107 w)), of_code (c_needed (p := p') (r.less (by decide)) b M I.keep X.kn rH hrk (rules_len l) (I.led _ (.tail _ (.head _))) (I.led _ (.head _)) ⟨h1, h2, h3, h4, k1', k2, k3, k4, tl, tw, rfl⟩ (I.led _ (.tail _ (.tail _ (.head _)))) (I.offW _ (.tail _ (.head _))).1 (I.offW _ (.head _)).1 (I.offW _ (.tail _ (.tail _ (.head _)))).1 hp' hdr n1 (fun K g13 k0 k1 k2 s' Gk hk3 hkp hsame hJ rK => ?_))⟩
  have ndI := I.nd
  have Iu := I.updS (Tc := [a.dx, a.Ad, a.Pb]) (W' := [(75, tabObj (tab2 a.cc c2))]) hkp (fun z hz => by
      simp only [List.mem_cons, List.not_mem_nil, or_false] at hz
      rcases hz with rfl | rfl | rfl
      · exact ⟨_, .head _⟩
      · exact ⟨_, .tail _ (.head _)⟩
      · exact ⟨_, .tail _ (.tail _ (.head _))⟩) (.cons _ (.cons _ (.cons _ (List.Sublist.refl _)))) (fun p hp => by
      rw [List.mem_singleton.mp hp]
      refine hkp _ _ (I.led _ (.tail _ (.tail _ (.tail _ (.head _))))) ?_
      simp only [List.mem_cons, List.not_mem_nil, or_false, not_or]
      have q1 := (List.pairwise_cons.mp ndI).1 (75, tabObj (tab2 a.cc c2)) (.tail _ (.tail _ (.head _)))
      have q2 := (List.pairwise_cons.mp (List.pairwise_cons.mp ndI).2).1 (75, tabObj (tab2 a.cc c2)) (.tail _ (.head _))
      have q3 := (List.pairwise_cons.mp (List.pairwise_cons.mp (List.pairwise_cons.mp ndI).2).2).1 (75, tabObj (tab2 a.cc c2)) (.head _)
      exact ⟨Ne.symm q1, Ne.symm q2, Ne.symm q3⟩) hsame
  have Ir := Iu.regrow Gk.new hk3 (let ⟨_, ⟨oL, _, _, hoL, _⟩, _⟩ := I.ns; ⟨oL, hoL⟩) (fun q hq => let ⟨oc, ho, _⟩ := I.cell q hq; ⟨oc, ho⟩) (fun p hp => by
      rw [List.mem_singleton.mp hp]
      exact ⟨_, I.led (75, tabObj (tab2 a.cc c2)) (.tail _ (.tail _ (.tail _ (.head _))))⟩)
  have Gd : Gr s g12 g13 := ⟨Gk.le, fun z o e => (Gk.new z o e).imp id fun h => I.gone (hT I ⟨_, .tail _ (.tail _ (.tail _ (.head _)))⟩) h⟩
  have G2 := G2.trans Gd
  have rR := rR.mono Gd.le
  have RL := RL.mono Gd.le
  have gcc := Gd.le _ _ gcc
  have b := b0.mono G2.le
  have bm := bm0.mono G2.le
  clear bg M Iu I hkp hsame Gk hk3 Gd ndI n1 n2 n3 rH hdr
  have I := Ir
  clear Ir
  generalize a.cc = cc at *
  refine n_store el cw I (by decide) (fun s' I => ?_)
  refine absM3 I (x1 := Str.ofString "kept") (x2 := Str.ofString "letters") (x3 := Str.ofString "rules") (by walk_at "v") (by walk_at "v") (by walk_at "v") (fun m mN mL mR I => ?_)
  clear mN' mL' mM' mR'
  -- each kept word is arrived at
  have hlk := X.kn.ok _ _ _ _ hJ
  refine Sq.next (x_cons ?_)
  refine r_forE cw r.hand ?_
  walk_at "w"
  refine r_newTuple I (by show 3 ≤ sizeLine; rw [sizeLine_eq]; decide) (fun P s' I => ?_)
  refine absO I ⟨_, .head _⟩ (fun g14 GD eP I => ?_)
  have rR := rR.mono GD.le
  have RL := RL.mono GD.le
  have rK := rK.mono GD.le
  have gcc := GD.le _ _ gcc
  have G2 := G2.trans GD
  have b := b0.mono G2.le
  have bm := bm0.mono G2.le
  clear GD
  refine hideP fun Po hPo => ?_
  obtain ⟨K', kvs, kn, e1, eK, hkvs⟩ := rK.unlist
  cases e1
  refine hPo ?_; clear hPo Po
  have hkl : kvs.length = 3 := hkvs.1
  have hat : ∀ N, Nm3 N → ∃ (kb : Addr) (xs : List Value) (n : Nat), kvs[N - 256]? = some (.ref kb) ∧ g14 kb = some (lstO xs n) ∧ RdAll g14 xs ((kOf k0 k1 k2 N).map pairPD) := by
    intro N hN
    have : GetV g14 (.list ((kOf k0 k1 k2 N).map pairPD)) kvs (N - 256) := by
      rcases hN with rfl | rfl | rfl
      · exact hkvs.get' (i := 0) rfl
      · exact hkvs.get' (i := 1) rfl
      · exact hkvs.get' (i := 2) rfl
    refine hideP fun Po hPo => ?_
    obtain ⟨u, h1, h2⟩ := this
    obtain ⟨kb, xs, n, rfl, e, h3⟩ := h2.unlist
    refine hPo ?_; clear hPo Po
    exact ⟨kb, xs, n, h1, e, h3⟩
  refine ⟨_, _, fun i g' m W => A5 (g14 = g') (m (Str.ofString "rules") = some (.ref rA)) (m (Str.ofString "kept") = some (.ref K)) (m (Str.ofString "letters") = some (.ref LA)) (W = [(75, tabObj (tab2 cc c2))]), _, _, _, I, itr_tuple eP rfl rfl, ⟨rfl, by walk_at "v", by walk_at "v", by walk_at "v", rfl⟩, ?_, ?_⟩
  · clear I
    rintro i v g' m W It s' hi hv le hz1 I
    refine hideP fun Po hPo => ?_
    obtain ⟨rfl, hmr, hmk, hml, rfl⟩ := hz1
    refine hPo ?_; clear hPo Po
    refine hideT fun Qo1 hQ1 => ?_
    refine hideP fun Po hPo => ?_
    obtain ⟨N, tN, rfl, hN⟩ : ∃ (N : Nat) (tN : Tok), v = .int (N : Int) tN ∧ Nm3 N := by
      rcases at3 (List.getElem?_toArray.symm.trans hv) with ⟨_, e⟩ | ⟨_, e⟩ | ⟨_, e⟩
      · exact ⟨256, _, e, .inl rfl⟩
      · exact ⟨257, _, e, .inr (.inl rfl)⟩
      · exact ⟨258, _, e, .inr (.inr rfl)⟩
    obtain ⟨kb, xs, kbn, hkb, ekb, hxs⟩ := hat N hN
    refine hPo ?_; clear hPo Po
    have hN1 : 256 ≤ N ∧ N ≤ 258 := by rcases hN with rfl | rfl | rfl <;> decide
    refine r_target (n_store el cw I (by decide) fun s' I => ?_)
    refine x_cons ?_
    refine r_forL cw r.hand ?_
    walk_at "w"
    refine i_list I (.inl ⟨_, eK⟩) (by (first | lia | omega)) (by (first | lia | omega)) (v := .ref kb) (by rw [show ((N : Int) - 256).toNat = N - 256 by (first | lia | omega)]; exact hkb) ?_
    refine ⟨kb, xs, kbn, fun j g9 m W => A6 (g14 = g9) (m (Str.ofString "rules") = some (.ref rA)) (m (Str.ofString "kept") = some (.ref K)) (m (Str.ofString "letters") = some (.ref LA)) (m (Str.ofString "state") = some (.int (N : Int) tN)) (W = [It, (75, tabObj (tab2 cc c2))]), _, _, _, rfl, I, ekb, ⟨rfl, by walk_at "v", by walk_at "v", by walk_at "v", by walk_at "v", rfl⟩, ?_, ?_⟩
    · clear I hmr hmk hml
      rintro j v g9 m W It2 s' hj hv2 le2 hz1 I
      refine hideP fun Po hPo => ?_
      obtain ⟨rfl, hmr, hmk, hml, hms, rfl⟩ := hz1
      refine hPo ?_; clear hPo Po
      refine hideT fun Qo2 hQ2 => ?_
      refine hideP fun Po hPo => ?_
      obtain ⟨x, ta, tn, t1, t2, hx, rfl, eta⟩ := wp_at hxs (by simpa using hv2)
      obtain ⟨a1, a2, a3⟩ := jw_arr hJ hN (List.mem_of_getElem? hx)
      refine hPo ?_; clear hPo Po
      refine r_unpackT el cw (by decide) (by decide) r.hand I eta (fun s' I => ?_)
      refine x_cons ?_
      walk_at "w"
      refine k_fn (o := fo w 114) (fd := fd1 w 114) rfl ?_
      walk_at "w"
      refine ⟨I.keep _ _ (b.k _ _ (ko114 w)), of_code (c_arrives (r.less (by decide)) b bm I.keep (I.led _ (.tail _ (.tail _ (.head _)))) (I.offW _ (.tail _ (.tail _ (.head _)))).1 gcc hcd hcv rR (by rw [rules_len]; decide) (by show (List.toArray _).size ≤ 64; rw [List.size_toArray]; (first | lia | omega)) (by show (List.toArray _).size ≤ _; rw [List.size_toArray]; (first | lia | omega)) a1 (fun s' kps => ?_))⟩
      have I := I.keeps kps
      clear kps
      walk_at "w"
      refine bfalse rfl ?_
      walk_at "w"
      exact ⟨_, _, _, le2, ⟨rfl, by walk_at "v", by walk_at "v", by walk_at "v", by walk_at "v", rfl⟩, I⟩
    · rintro g9 m W s' le2 hz1 I2
      refine hideP fun Po hPo => ?_
      obtain ⟨rfl, hmr, hmk, hml, hms, rfl⟩ := hz1
      refine hPo ?_; clear hPo Po
      clear I
      have I := I2
      clear I2
      walk_at "w"
      exact ⟨_, _, _, le, ⟨rfl, hmr, hmk, hml, rfl⟩, I⟩
  rintro g' m W s' le hz1 I2
  refine hideP fun Po hPo => ?_
  obtain ⟨rfl, hmr, hmk, hml, rfl⟩ := hz1
  refine hPo ?_; clear hPo Po
  clear I hat
  have I := I2
  clear I2
  -- told
  walk_at "w"
  refine k_lcA ((swaps_eq el I.eo.fk _ _ _ _).trans (by kernel_rfl)) cw el (by decide) rfl (by decide) (by decide) r.hand ?_
  walk_at "w"
  refine ⟨_, _, _, _, _, fun j g ds => ds = ([k0, k1, k2].take j).map fun ks => PyData.list ((sortW (ks.map fun x => ofL x.1)).map pairD), I, itr_list eK rfl rfl, ⟨by simp, ?_, ?_⟩, ?_⟩
  · rintro j g ds hz1
    refine hideP fun Po hPo => ?_
    obtain rfl := hz1
    refine hPo ?_; clear hPo Po
    rw [sizeLine_eq, List.length_map, List.length_take]
    simp only [List.length_cons, List.length_nil]; (first | lia | omega)
  · rintro j v g2 ds cenv mc W2 s2 hj hvj G3 hz1 el' hmc I2
    refine hideP fun Po hPo => ?_
    obtain rfl := hz1
    refine hPo ?_; clear hPo Po
    have b := b.mono G3.le
    have hvj' : kvs[j]? = some v := by simpa using hvj
    refine hideP fun Po hPo => ?_
    obtain ⟨d, hd1, hd2⟩ := hkvs.get hvj'
    obtain ⟨ks, hks, rfl, hksl⟩ : ∃ ks, [k0, k1, k2][j]? = some ks ∧ d = PyData.list (ks.map pairPD) ∧ ks.length ≤ 16 ∧ (∀ x ∈ ks, x.1.length ≤ 64) := by
      rcases at3 hd1 with ⟨q, e⟩ | ⟨q, e⟩ | ⟨q, e⟩
      · exact ⟨k0, by rw [q]; rfl, e, hlk.1, fun x hx => (hlk.2.2.2.1 256 x hx).1⟩
      · exact ⟨k1, by rw [q]; rfl, e, hlk.2.1, fun x hx => (hlk.2.2.2.1 257 x hx).1⟩
      · exact ⟨k2, by rw [q]; rfl, e, hlk.2.2.1, fun x hx => (hlk.2.2.2.1 258 x hx).1⟩
    obtain ⟨ka, kws, kk, rfl, eka, hkws⟩ := (hd2.mono G3.le).unlist
    refine hPo ?_; clear hPo Po
    have hkwl : kws.length = ks.length := by rw [hkws.1]; simp
    refine tests_nil ?_
    refine btrue rfl ?_
    refine hideQ fun Qo8 hQ8 => ?_
    walk_at "w"
    refine k_lcN I el' (by decide) rfl (by decide) r.hand ?_
    walk_at "w"
    refine ⟨_, _, _, _, _, fun j g ds => ds = ((ks.map fun x => ofL x.1).take j).map pairD, I, itr_list eka rfl rfl, ⟨by simp, ?_, ?_⟩, ?_⟩
    · rintro j g ds hz1
      refine hideP fun Po hPo => ?_
      obtain rfl := hz1
      refine hPo ?_; clear hPo Po
      rw [sizeLine_eq, List.length_map, List.length_take, List.length_map]; (first | lia | omega)
    · rintro j v g2 ds cenv mc W2 s2 hj hvj G2 hz1 el' hmc I2
      refine hideP fun Po hPo => ?_
      obtain rfl := hz1
      refine hPo ?_; clear hPo Po
      have b := b.mono G2.le
      refine hideP fun Po hPo => ?_
      obtain ⟨x, ta, tn, t1, t2, hxj, rfl, eta⟩ := wp_at hkws hvj
      refine hPo ?_; clear hPo Po
      have eta := G2.le _ _ eta
      have hxw : (ofL x.1).length ≤ 64 := by
        have := hksl.2 x (List.mem_of_getElem? hxj)
        show (List.toArray _).size ≤ 64; rw [List.size_toArray]; exact this
      refine tests_nil ?_
      refine btrue rfl ?_
      refine hideQ fun Qo8 hQ8 => ?_
      walk_at "w"
      refine i_tup I (I.keep _ _ eta) (by decide) (by decide) (by rfl) ?_
      walk_at "w"
      refine r_lenS I (by (first | lia | omega)) (fun t s' I => ?_)
      walk_at "w"
      refine i_tup I (I.keep _ _ eta) (by decide) (by decide) (by rfl) ?_
      walk_at "w"
      refine r_newTuple I (by show 2 ≤ sizeLine; rw [sizeLine_eq]; decide) (fun P s' I => ?_)
      refine hQ8 _ _ ⟨_, _, I.grPut (.head _), Rd.tup (Mp.put_self _ _ _) (.cons (.int _ _) (.cons (.str _ _) .nil)), ?_, I.absorb1⟩
      rw [List.take_add_one, List.getElem?_map, hxj]
      simp
    · rintro L g0' g3 ds s2 I2 G hz1 le2 hR _
      refine hideP fun Po hPo => ?_
      obtain rfl := hz1
      refine hPo ?_; clear hPo Po
      rw [List.take_of_length_le (by rw [List.length_map, List.size_toArray, hkwl]; exact Nat.le_refl _)] at hR
      refine hideP fun Po hPo => ?_
      obtain ⟨L', lvs, ln, e1, eL, hlvs⟩ := hR.unlist
      cases e1
      refine hPo ?_; clear hPo Po
      have b := b.mono G.le
      have G2 := I.gr0 G
      clear I
      walk_at "w"
      refine r_sorted I (.inl ⟨_, eL⟩) hlvs (by rw [List.length_map]; (first | lia | omega)) (fun S svs c s' I hsvs => ?_)
      have gS := I.grPut (.head _)
      refine hQ8 _ _ ⟨_, _, G2.trans gS, Rd.lst (Mp.put_self _ _ _) (hsvs.mono gS.le), ?_, I.absorb1⟩
      rw [List.take_add_one, hks]
      simp
  rintro tB g0' g15 ds s2 I2 hz1 hz2 le15 hR _
  refine hideP fun Po hPo => ?_
  obtain ⟨s3, G⟩ := hz1
  obtain rfl := hz2
  refine hPo ?_; clear hPo Po
  rw [List.take_of_length_le (by rw [List.size_toArray, hkl]; exact Nat.le_refl _)] at hR
  have Gd := I.gr (hT I ⟨_, .head _⟩) G
  have G2 := G2.trans Gd
  have rR := rR.mono Gd.le
  have RL := RL.mono Gd.le
  clear I eK hkvs gcc hcd hcv bm hmk
  have I := I2
  clear I2 Gd G
  have b := b0.mono G2.le
  have hR : Rd g15 (.ref tB) (.list [.list ((sortW (k0.map fun x => ofL x.1)).map pairD), .list ((sortW (k1.map fun x => ofL x.1)).map pairD), .list ((sortW (k2.map fun x => ofL x.1)).map pairD)]) := hR
  -- signs
  refine hideP fun Po hPo => ?_
  obtain ⟨LAv, svs, sn, e1, eLA, hsv⟩ := RL.unlist
  cases e1
  refine hPo ?_; clear hPo Po
  have hlo := let_ok l
  refine Sq.next (x_cons ?_)
  refine r_assign ?_ ((swaps_eq el I.eo.fk _ _ _ _).trans (by kernel_rfl))
  refine k_lc cw el (by decide) rfl (by decide) r.hand ?_
  walk_at "w"
  refine ⟨_, _, _, _, _, fun j g ds => ds = ((signsL l).take j).map PyData.str, I, itr_list eLA rfl rfl, ⟨by simp, ?_, ?_⟩, ?_⟩
  · rintro j g ds hz1
    refine hideP fun Po hPo => ?_
    obtain rfl := hz1
    refine hPo ?_; clear hPo Po
    rw [sizeLine_eq, List.length_map, List.length_take]
    have : (signsL l).length = 2 := rfl
    (first | lia | omega)
  · rintro j v g2 ds cenv mc W2 s2 hj hvj G3 hz1 el' hmc I2
    refine hideP fun Po hPo => ?_
    obtain rfl := hz1
    refine hPo ?_; clear hPo Po
    have hvj' : svs[j]? = some v := by simpa using hvj
    refine hideP fun Po hPo => ?_
    obtain ⟨d, hd1, hd2⟩ := hsv.get hvj'
    obtain ⟨c, hc, rfl, hc1, hc2⟩ : ∃ c : Nat, (signsL l)[j]? = some (oneS (64 + c)) ∧ d = PyData.int (c : Int) ∧ 7 ≤ c ∧ c ≤ 22 := by
      rcases at2 hd1 with ⟨q, e⟩ | ⟨q, e⟩
      · exact ⟨let0 l, by rw [q]; rfl, e, hlo.1.1, hlo.1.2⟩
      · exact ⟨let1 l, by rw [q]; rfl, e, hlo.2.1, hlo.2.2⟩
    obtain ⟨tc, rfl⟩ := hd2.unint
    refine hPo ?_; clear hPo Po
    have b := b.mono G3.le
    refine tests_nil ?_
    refine btrue rfl ?_
    refine hideQ fun Qo8 hQ8 => ?_
    walk_at "w"
    refine b_chr I (by (first | lia | omega)) (by (first | lia | omega)) (fun t s' I => ?_)
    have e64 : (64 + (c : Int)).toNat = 64 + c := by (first | lia | omega)
    rw [e64]
    refine hQ8 _ _ ⟨_, _, Gr.refl _ _, .str _ _, ?_, I⟩
    rw [List.take_add_one, hc]
    simp
  rintro sA g0' g16 ds s2 I2 G hz1 le16 hS fdS
  refine hideP fun Po hPo => ?_
  obtain rfl := hz1
  refine hPo ?_; clear hPo Po
  have Gd := I.gr (hT I ⟨_, .head _⟩) G
  have hsl : svs.length = 2 := hsv.1
  rw [List.take_of_length_le (by rw [List.size_toArray, hsl]; exact Nat.le_refl _)] at hS
  have G2 := G2.trans Gd
  have rR := rR.mono Gd.le
  have hR := hR.mono Gd.le
  clear I eLA hsv RL hml
  have I := I2
  clear I2 Gd G
  have b := b0.mono G2.le
  refine n_store el cw I (by decide) (fun s' I => ?_)
  -- words
  refine hideP fun Po hPo => ?_
  obtain ⟨sA', svs, sn, e1, esA, hsv⟩ := hS.unlist
  cases e1
  refine hPo ?_; clear hPo Po
  have hsl : svs.length = 2 := by rw [hsv.1]; rfl
  refine Sq.next (x_cons ?_)
  refine r_assign ?_
  walk_at "w"
  refine r_newList I (by show 1 ≤ sizeLine; rw [sizeLine_eq]; decide) (fun E0 s' I => ?_)
  walk_at "w"
  refine r_addL I (.inr ⟨_, .head _⟩) (.inl ⟨_, esA⟩) (by rw [hsl, sizeLine_eq]; show 1 + 2 ≤ _; decide) (fun E1 s' I => ?_)
  walk_at "w"
  refine k_lc2 cw el (by decide) rfl (by decide) (by decide) (by decide) r.hand ?_
  walk_at "w"
  refine ⟨_, _, _, _, _, fun j g ds => ds = (((signsL l).take j).flatMap fun x => (signsL l).map (x ++ ·)).map PyData.str, I, itr_list esA rfl rfl, ⟨by simp, ?_⟩, ?_⟩
  · rintro j v g2 ds cenv mc W2 s2 hj hvj G3 hz1 el' hmc I2
    refine hideP fun Po hPo => ?_
    obtain rfl := hz1
    refine hPo ?_; clear hPo Po
    have b := b.mono G3.le
    have hms : mc (Str.ofString "signs") = some (.ref sA) := (hmc _ (by decide) (by decide) (by decide)).trans (by walk_at "v")
    refine hideP fun Po hPo => ?_
    obtain ⟨x, hx, u, rfl⟩ := str_at hsv hvj
    refine hPo ?_; clear hPo Po
    walk_at "w"
    refine ⟨_, _, fun j2 g3 ds3 => ds3 = ((((signsL l).take j).flatMap fun x => (signsL l).map (x ++ ·)) ++ ((signsL l).take j2).map (x ++ ·)).map PyData.str, I, itr_list (G3.le _ _ esA) rfl rfl, by simp, ?_, ?_, ?_⟩
    · rintro j2 g3 ds3 hz1
      refine hideP fun Po hPo => ?_
      obtain rfl := hz1
      refine hPo ?_; clear hPo Po
      rw [sizeLine_eq, List.length_map, List.length_append, flat_len, List.length_map, List.length_take, List.length_take]
      have h2 : (signsL l).length = 2 := rfl
      rw [h2]
      (first | lia | omega)
    · rintro j2 u2 g3 ds3 m3 W3 s3 hj2 hu2 G4 hz1 hm3x hm3 I4
      refine hideP fun Po hPo => ?_
      obtain rfl := hz1
      obtain ⟨y, hy, uu, rfl⟩ := str_at hsv hu2
      refine hPo ?_; clear hPo Po
      have hlen : ∀ z ∈ signsL l, z.length = 1 := by
        intro z hz
        unfold signsL at hz
        simp only [List.mem_cons, List.not_mem_nil, or_false] at hz
        rcases hz with rfl | rfl <;> rfl
      refine hideQ fun Qo8 hQ8 => ?_
      walk_at "w"
      refine r_cat I (by rw [Str.length_append, sizeLine_eq, hlen x (List.mem_of_getElem? hx), hlen y (List.mem_of_getElem? hy)]; decide) (fun t s' I => ?_)
      refine hQ8 _ _ ⟨_, _, Gr.refl _ _, .str _ _, ?_, I⟩
      rw [List.take_add_one (i := j2), hy]
      simp
    · rintro g3 ds3 G4 hz1
      refine hideP fun Po hPo => ?_
      obtain rfl := hz1
      refine hPo ?_; clear hPo Po
      rw [List.take_of_length_le (l := signsL l) (i := svs.toArray.size) (by rw [List.size_toArray, hsl]; exact Nat.le_refl _), List.take_add_one, hx]
      simp
  rintro D2 g0' g17 ds s2 I2 G hz1 le17 hR2 fD2
  refine hideP fun Po hPo => ?_
  obtain rfl := hz1
  refine hPo ?_; clear hPo Po
  have Gd := I.gr (hT I ⟨_, .tail _ (.tail _ (.head _))⟩) G
  have G2 := G2.trans Gd
  have rR := rR.mono Gd.le
  have hR := hR.mono Gd.le
  have hsv := hsv.mono Gd.le
  rw [List.take_of_length_le (by rw [List.size_toArray, hsl]; exact Nat.le_refl _)] at hR2
  clear I esA
  have I := I2
  clear I2 Gd G
  have b := b0.mono G2.le
  refine hideP fun Po hPo => ?_
  obtain ⟨D2', wvs, wn, e1, eD2, hwv⟩ := hR2.unlist
  cases e1
  refine hPo ?_; clear hPo Po
  have hwl : wvs.length = 4 := by rw [hwv.1]; rfl
  refine r_addL I (.inr ⟨_, .head _⟩) (.inl ⟨_, eD2⟩) (by rw [List.length_append, hsl, hwl, sizeLine_eq]; show 1 + 2 + 4 ≤ _; decide) (fun wA s' I => ?_)
  refine absN I ⟨_, .tail _ (.tail _ (.head _))⟩ (ds := (wordsL l).map PyData.str) (by
    unfold wordsL
    rw [List.map_append, List.map_append]
    exact (RdAll.append (.cons (.str _ _) .nil) hsv).append hwv) (fun g18 GD rW I => ?_)
  have I := I.sublist (W' := [(75, tabObj (tab2 cc c2))]) (.cons _ (.cons _ (List.Sublist.refl _)))
  have rR := rR.mono GD.le
  have hR := hR.mono GD.le
  have G2 := G2.trans GD
  clear GD hwv hsv eD2 hR2
  have b := b0.mono G2.le
  refine n_store el cw I (by decide) (fun s' I => ?_)
  -- the end
  refine Sq.next (x_cons ?_)
  walk_at "w"
  refine k_lc cw el (by decide) rfl (by decide) r.hand ?_
  walk_at "w"
  refine k_fn (o := fo w 124) (fd := fd1 w 124) rfl ?_
  walk_at "w"
  refine ⟨I.keep _ _ (b.k _ _ (ko124 w)), of_code (c_reached (P := PR l k0 k1 k2) (r.less (by decide)) b I.keep rR hrk (by rw [rules_len]; decide) rW (fun x hx => ⟨(words_ok hx).2.2.1, (words_ok hx).2.2.2⟩) (by rw [words_len]; decide) (pr_start l k0 k1 k2) (fun st rc x hst hx hP => pr_add hJ st rc x hst hx hP) (fun rc hP => pr_len hP) (fun RA g19 s' rc G hRA hPR hfix => ?_))⟩
  have Gd := I.gr (hT I ⟨_, .head _⟩) G
  have I := I.got G
  have G2 := G2.trans Gd
  have hR := hR.mono Gd.le
  have b := b0.mono G2.le
  clear Gd G rW rR
  refine hideP fun Po hPo => ?_
  obtain ⟨RA', rvs, rn, e1, eRA, hrv⟩ := hRA.unlist
  cases e1
  refine hPo ?_; clear hPo Po
  have hrl : rvs.length = 2 := hrv.1
  have hlen := pr_len hPR
  refine ⟨_, _, _, _, _, fun j g ds => ds = ([rc.1, rc.2].take j).map fun ws => PyData.list ((lowF ws).map pairD), I, itr_list eRA rfl rfl, ⟨by simp, ?_, ?_⟩, ?_⟩
  · rintro j g ds hz1
    refine hideP fun Po hPo => ?_
    obtain rfl := hz1
    refine hPo ?_; clear hPo Po
    rw [sizeLine_eq, List.length_map, List.length_take]
    simp only [List.length_cons, List.length_nil]; (first | lia | omega)
  · rintro j v g2 ds cenv mc W2 s2 hj hvj G3 hz1 el' hmc I2
    refine hideP fun Po hPo => ?_
    obtain rfl := hz1
    refine hPo ?_; clear hPo Po
    have b := b.mono G3.le
    have hvj' : rvs[j]? = some v := by simpa using hvj
    refine hideP fun Po hPo => ?_
    obtain ⟨d, hd1, hd2⟩ := hrv.get hvj'
    obtain ⟨ws, hws, rfl, hwl, hwx⟩ : ∃ ws, [rc.1, rc.2][j]? = some ws ∧ d = PyData.list (ws.map PyData.str) ∧ ws.length < 64 ∧ (∀ x ∈ ws, x ∈ wordsL l) := by
      rcases at2 hd1 with ⟨q, e⟩ | ⟨q, e⟩
      · exact ⟨rc.1, by rw [q]; rfl, e, Nat.lt_of_le_of_lt hlen.1 (by decide), fun x hx => ((hPR 0 (.inl rfl)).2 x hx).1⟩
      · exact ⟨rc.2, by rw [q]; rfl, e, Nat.lt_of_le_of_lt hlen.2 (by decide), fun x hx => ((hPR 1 (.inr rfl)).2 x hx).1⟩
    refine hPo ?_; clear hPo Po
    refine tests_nil ?_
    refine btrue rfl ?_
    refine hideQ fun Qo8 hQ8 => ?_
    walk_at "w"
    refine k_fn (o := fo w 136) (fd := fd1 w 136) rfl ?_
    walk_at "w"
    refine ⟨I.keep _ _ (b.k _ _ (ko136 w)), of_code (c_lowest (r.less (by decide)) b I.keep (hd2.mono G3.le) hwl (fun x hx => ⟨by have := (words_ok (hwx x hx)).2.2.1; (first | lia | omega), lw_ok (words_ok (hwx x hx)).2.2.2⟩) (fun D g' s' G hD => ?_))⟩
    refine hQ8 _ _ ⟨_, _, I.gr0 G, hD, ?_, I.got G⟩
    rw [List.take_add_one, hws]
    simp
  rintro tC g0' g20 ds s2 I2 G hz1 le20 hR2 _
  refine hideP fun Po hPo => ?_
  obtain rfl := hz1
  refine hPo ?_; clear hPo Po
  have Gd := I.gr (hT I ⟨_, .head _⟩) G
  rw [List.take_of_length_le (by rw [List.size_toArray, hrl]; exact Nat.le_refl _)] at hR2
  have G2 := G2.trans Gd
  have hR := hR.mono Gd.le
  clear I eRA hrv hRA
  have I := I2
  clear I2 Gd G
  walk_at "w"
  refine r_newTuple I (by show 2 ≤ sizeLine; rw [sizeLine_eq]; decide) (fun T0 s' I => ?_)
  refine absO I ⟨_, .head _⟩ (fun g21 H1 eT0 I => ?_)
  walk_at "w"
  refine r_newList I (by show 1 ≤ sizeLine; rw [sizeLine_eq]; decide) (fun T1 s' I => ?_)
  refine absN I ⟨_, .head _⟩ (ds := [emp].map pairD) (.cons (Rd.tup eT0 (.cons (.int _ _) (.cons (.str _ _) .nil))) .nil) (fun g22 H2 rT1 I => ?_)
  walk_at "w"
  refine r_newList I (by show 1 ≤ sizeLine; rw [sizeLine_eq]; decide) (fun T2 s' I => ?_)
  refine absN I ⟨_, .head _⟩ (ds := [.list ([emp].map pairD)]) (.cons rT1 .nil) (fun g23 H3 rT2 I => ?_)
  have hR := ((hR.mono H1.le).mono H2.le).mono H3.le
  have hR2 := ((hR2.mono H1.le).mono H2.le).mono H3.le
  clear H1 H2 H3 eT0 rT1
  walk_at "w"
  refine hideP fun Po hPo => ?_
  obtain ⟨T2', uvs, un, e1, eT2, huv⟩ := rT2.unlist
  cases e1
  obtain ⟨tC', cvs, cn, e1, etC, hcv⟩ := hR2.unlist
  cases e1
  refine hPo ?_; clear hPo Po
  have hul : uvs.length = 1 := huv.1
  have hcl : cvs.length = 2 := hcv.1
  refine r_addL I (.inl ⟨_, etC⟩) (.inl ⟨_, eT2⟩) (by rw [hul, hcl, sizeLine_eq]; decide) (fun S s' I => ?_)
  refine absN I ⟨_, .head _⟩ (ds := [.list ((lowF rc.1).map pairD), .list ((lowF rc.2).map pairD), .list ([emp].map pairD)]) (hcv.append huv) (fun g24 H1 hS I => ?_)
  have hR := hR.mono H1.le
  clear H1
  refine hideP fun Po hPo => ?_
  obtain ⟨f0, f1, f2⟩ := fin_all hJ hfix hPR
  refine hPo ?_; clear hPo Po
  rw [← f0, ← f1, ← f2] at hS
  walk_at "w"
  have hcan : PyData.canLayAll0 [.list ((sortW (k0.map fun x => ofL x.1)).map pairD), .list ((sortW (k1.map fun x => ofL x.1)).map pairD), .list ((sortW (k2.map fun x => ofL x.1)).map pairD)] = true := by
    have c0 := kcan hJ (N := 256) (.inl rfl)
    have c1 := kcan hJ (N := 257) (.inr (.inl rfl))
    have c2 := kcan hJ (N := 258) (.inr (.inr rfl))
    show (PyData.canLayAll0 ((sortW ((kOf k0 k1 k2 256).map fun x => ofL x.1)).map pairD) && (PyData.canLayAll0 ((sortW ((kOf k0 k1 k2 257).map fun x => ofL x.1)).map pairD) && (PyData.canLayAll0 ((sortW ((kOf k0 k1 k2 258).map fun x => ofL x.1)).map pairD) && true))) = true
    rw [c0, c1, c2]
    rfl
  refine c_eqRd I hR hS (canList hcan) (canList hcan) ?_ ?_
  · have h1 : (PyData.list [.list ((sortW (k0.map fun x => ofL x.1)).map pairD), .list ((sortW (k1.map fun x => ofL x.1)).map pairD), .list ((sortW (k2.map fun x => ofL x.1)).map pairD)]).depth ≤ 3 := by
      show max (PyData.depthAll ((sortW (k0.map fun x => ofL x.1)).map pairD) + 1) (max (PyData.depthAll ((sortW (k1.map fun x => ofL x.1)).map pairD) + 1) (max (PyData.depthAll ((sortW (k2.map fun x => ofL x.1)).map pairD) + 1) 0)) + 1 ≤ 3
      have := depthPairs (sortW (k0.map fun x => ofL x.1))
      have := depthPairs (sortW (k1.map fun x => ofL x.1))
      have := depthPairs (sortW (k2.map fun x => ofL x.1))
      (first | lia | omega)
    have := r.units
    (first | lia | omega)
  rw [SeqAt.eqv_refl _ (canList hcan)]
  walk_at "w"
  exact h _ _ (fun b o e hb => I.keep0 b o e hb) (I.led (75, tabObj (tab2 cc c2)) (.head _)) I.same
end
end Mine
end
section
open PySem PySem.W PySem.Calls PyProof.Rows
set_option Elab.async false
set_option maxRecDepth 100000
namespace Mine
theorem k75 (w : World) : (K1 w).lookup 75 = none := by kernel_rfl
theorem n141 (w : World) : nsIn (K1 w) mainGlobals (Str.ofString "law") = some (some (.ref 141)) := by kernel_rfl
noncomputable def hide75 (h : Heap) : Mp := fun a => if a = 75 then none else h.get? a
theorem hide_get {h : Heap} {a : Addr} {o : Obj} (hne : a ≠ 75) (e : h.get? a = some o) : hide75 h a = some o := by unfold hide75; rw [if_neg hne]; exact e
theorem ns_hide {h : Heap} (hT : h.get? 75 = some (tabObj #[])) {a : Addr} {m : Str → Option Value} (x : NsM h.get? a m) : NsM (hide75 h) a m := by
  obtain ⟨o, es, ep, e, hd, r⟩ := x
  refine ⟨o, es, ep, hide_get (fun q => ?_) e, hd, r⟩
  rw [q, hT] at e
  injection e with e
  rw [← e] at hd
  cases hd
theorem bs_hide {w : World} {h : Heap} (hT : h.get? 75 = some (tabObj #[])) (b : Bs (K1 w) h.get?) : Bs (K1 w) (hide75 h) where
  k := fun a o e => hide_get (fun q => by rw [q, k75] at e; cases e) (b.k a o e)
  gl := let ⟨mg, a, c⟩ := b.gl; ⟨mg, ns_hide hT a, c⟩
  bl := let ⟨mg, a, c⟩ := b.bl; ⟨mg, ns_hide hT a, c⟩
  lim := let ⟨mg, a, c⟩ := b.lim; ⟨mg, ns_hide hT a, c⟩
theorem roomA : Room callerA 10 := ⟨rfl, by decide, by decide⟩
theorem ints_of {R : WRecords} {P : Params} {h : Heap} : ∀ {xs : List WData} {vs : List Value}, WellAll P h vs xs → WShape.hasItems R xs .int = true → ∃ l : List Int, xs.length = l.length ∧ ∀ g : Mp, RdAll g vs (l.map PyData.int)
  | [], _, .nil, _ => ⟨[], rfl, fun _ => .nil⟩
  | x :: xs, _, .cons h1 h2, hi => by
    have hi : WShape.has R x .int = true ∧ WShape.hasItems R xs .int = true := by simpa [WShape.hasItems] using hi
    obtain ⟨i, rfl⟩ := hasW_int hi.1
    cases h1
    obtain ⟨l, e, k⟩ := ints_of h2 hi.2
    exact ⟨i :: l, by simp [e], fun g => .cons (.int _ _) (k g)⟩
theorem len63 {R : WRecords} {xs : List WData} (h : WTm.holds R (WTm.and (.not (.lt (.lit (.int 63)) (.len (.arg 0)))) (.lit (.bool true))) { args := [.list xs] } = true) : xs.length ≤ 63 := by
  have hcond' := condW_of h (by wtm_val)
  simp at hcond'
  (first | lia | omega)
theorem end_old {w : World} {h h' : Heap} {ps : Array Value} (KX : (K1 w).In h) (hT : h.get? 75 = some (tabObj #[])) (k : ∀ b o, h.get? b = some o → b ∉ [75] → h'.get? b = some o) (hP : h'.get? 75 = some (tabObj ps)) : OldK h h' := by
  obtain ⟨o, vs, _, _, _, _, _, _, _, e1, e2, e3, e4, _⟩ := codeHd_of_K KX (lx_tab w)
  refine ⟨fun b ob e => ?_, fun b ob e => ?_⟩
  · by_cases q : b = 75
    · subst q
      rw [hT] at e
      cases e
      exact .inr (.inl ⟨⟨_, o, vs, e1, e2, e3, e4⟩, rfl, #[], ps, rfl, by rw [hP]; simp⟩)
    · exact .inl (k b ob e (by simpa using q))
  · by_cases q : b = 75
    · subst q; exact ⟨_, hP⟩
    · exact ⟨ob, k b ob e (by simpa using q)⟩
set_option maxHeartbeats 8000000 in
theorem u5 : PySem.Challenge.rw_re0101_02.Holds := hd1 (by
  intro w s₀ s₁ mg mb G Y fa o pm cd doc dV kV ho hd hcd hD hmg hg args vals as hpre hlay hrd hwl hlo
  have KX := km_in_of Y
  km_tabs Y
  rename ∀ P : Addr, P ∈ [75] → _ => hT8
  have hT75 := hT8 75 (.head _)
  refine Ground.open G ?_
  intro T B D TE TW
  have bs := bs_hide hT75 (Bs.of_top KX T)
  have bm : Bm (hide75 s₁.heap) := by
    obtain ⟨bm, ob, a1, a2, a3, a4, a5, a6⟩ := T.bmain
    refine ⟨mg, bm, ob, ns_hide hT75 T.g, a1, a2, hide_get (fun q => ?_) a3, a4, a5, a6⟩
    rw [q, hT75] at a3
    cases a3
    cases a6
  have hf : fa = 141 := by
    have h1 := mg_of KX T.g (n141 w)
    have h2 := hmg.symm.trans h1
    injection h2 with h2
    injection h2
  subst hf
  obtain ⟨hsh, hpr⟩ := pre_splitW hpre
  obtain ⟨d, rr, rfl, hd1', hsh⟩ := hasAllW_cons hsh
  have := hasAllW_nil hsh
  subst this
  obtain ⟨xs, rfl, hit⟩ := hasW_list hd1'
  have h63 : xs.length ≤ 63 := len63 hpr
  cases hwl with
  | cons r1 r2 =>
    cases r2
    cases r1 with
    | list e1 e4 =>
      rename_i la lvs
      obtain ⟨l, hl, hR⟩ := ints_of e4 hit
      have e0 : s₁.heap.get? la = some (lstO lvs 0) := e1
      have hv : Rd (hide75 s₁.heap) (.ref la) (.list (l.map PyData.int)) := Rd.lst (hide_get (fun q => by rw [q, hT75] at e0; cases e0) e0) (hR _)
      refine of_code (c_law roomA bs bm (fun a o e => by unfold hide75 at e; split at e; cases e; exact e) hT75 (by unfold hide75; rw [if_pos rfl]) hv (by (first | lia | omega)) (law_pure l) (fun s' ps k hP hs => ?_))
      refine ⟨.inl ⟨_, .bool true, [], rfl, fun _ => rfl, .bool _, ?_, fun _ => ⟨List.nodup_nil, fun _ h => (nomatch h)⟩⟩, end_old KX hT75 k hP, ?_, ?_⟩
      · first | exact postW_of rfl rfl rfl | exact postW_of (by wrow_shape) (by wtm_val) rfl | exact postW_of (by wrow_shape) (by wtm_val) (by w_fin)
      · obtain ⟨hh, tk, rfl⟩ := hs; rfl
      · obtain ⟨hh, tk, rfl⟩ := hs; exact AllBare.of_eq hg)
end Mine
end
theorem PySem.Challenge.cw_re0101_02_holds : PySem.Challenge.rw_re0101_02.Holds :=
  Mine.u5
