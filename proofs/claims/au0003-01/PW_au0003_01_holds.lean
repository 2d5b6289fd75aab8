import PyProof.Rows.All
import Wide.All
import OpenK.AllK
import Wide.FinOn
import PySem.Challenge.RW_au0003_01
set_option Elab.async false
set_option maxRecDepth 100000
set_option maxHeartbeats 4000000
set_option linter.unusedSectionVars false
set_option linter.unusedVariables false
namespace Mine
section
variable {α : Type} [DecidableEq α]

/-- z stands behind x in l -/
def After (l : List α) (x z : α) : Prop := ∃ a b, l = a ++ x :: b ∧ z ∈ b

noncomputable def del (U : α → List α) (a b : α) : α → List α := fun x => if x = a then (U x).filter (· != b) else if x = b then (U x).filter (· != a) else U x

theorem del_comm (U : α → List α) (a b : α) : del U a b = del U b a := by
  funext x
  unfold del
  by_cases h1 : x = a
  · by_cases h2 : x = b
    · subst h1; subst h2; rfl
    · subst h1; simp [h2]
  · by_cases h2 : x = b
    · subst h2; simp [h1]
    · simp [h1, h2]

theorem mem_del {U : α → List α} {a b x y : α} : y ∈ del U a b x ↔ y ∈ U x ∧ ¬ (x = a ∧ y = b) ∧ ¬ (x = b ∧ y = a) := by
  unfold del
  by_cases h1 : x = a
  · subst h1
    by_cases h2 : x = b
    · subst h2; simp [List.mem_filter]
    · simp [List.mem_filter, h2]
  · by_cases h2 : x = b
    · subst h2; simp [List.mem_filter, h1]
    · simp [h1, h2]

theorem del_sub (U : α → List α) (a b x : α) : (del U a b x).Sublist (U x) := by
  unfold del
  split
  · exact List.filter_sublist
  · split
    · exact List.filter_sublist
    · exact List.Sublist.refl _

/-- tables that hold both ways, nobody upon its own row -/
structure Ok (U : α → List α) : Prop where
  sym : ∀ x y, y ∈ U x → x ∈ U y
  nd : ∀ x, (U x).Nodup
  irr : ∀ x, x ∉ U x

theorem Ok.del {U : α → List α} (h : Ok U) (a b : α) : Ok (del U a b) where
  sym := fun x y hy => by
    rw [mem_del] at hy ⊢
    exact ⟨h.sym x y hy.1, fun e => hy.2.2 ⟨e.2, e.1⟩, fun e => hy.2.1 ⟨e.2, e.1⟩⟩
  nd := fun x => (h.nd x).sublist (del_sub U a b x)
  irr := fun x hx => h.irr x (mem_del.mp hx).1

/-- the pair y, z may be struck: somebody ahead of z upon y's row has y first -/
def Dom (U : α → List α) (y z : α) : Prop := ∃ x, (U x).head? = some y ∧ After (U y) x z

inductive Step : (α → List α) → (α → List α) → Prop
  | mk {U : α → List α} {y z : α} : Dom U y z → Step U (del U y z)

inductive Steps : (α → List α) → (α → List α) → Prop
  | refl {U} : Steps U U
  | step {U V W} : Step U V → Steps V W → Steps U W

theorem Steps.trans {U V W : α → List α} (a : Steps U V) (b : Steps V W) : Steps U W := by
  induction a with
  | refl => exact b
  | step h _ ih => exact .step h (ih b)
theorem Steps.one {U V : α → List α} (a : Step U V) : Steps U V := .step a .refl
theorem Steps.snoc {U V W : α → List α} (a : Steps U V) (b : Step V W) : Steps U W := a.trans (.one b)

def Normal (U : α → List α) : Prop := ∀ y z, ¬ Dom U y z

theorem After.mem {l : List α} {x z : α} (h : After l x z) : x ∈ l ∧ z ∈ l := by
  obtain ⟨a, b, rfl, hz⟩ := h
  simp [hz]
theorem After.ne {l : List α} {x z : α} (h : After l x z) (nd : l.Nodup) : x ≠ z := by
  obtain ⟨a, b, rfl, hz⟩ := h
  rintro rfl
  have := (List.nodup_append.mp nd).2.1
  exact (List.nodup_cons.mp this).1 hz

theorem After.filter {l : List α} {x z : α} (p : α → Bool) (h : After l x z) (hx : p x = true) (hz : p z = true) : After (l.filter p) x z := by
  obtain ⟨a, b, rfl, hb⟩ := h
  exact ⟨a.filter p, b.filter p, by rw [List.filter_append, List.filter_cons_of_pos hx], List.mem_filter.mpr ⟨hb, hz⟩⟩
theorem After.trans {l : List α} {x y z : α} (h : After l x y) (k : After l y z) (nd : l.Nodup) : After l x z := by
  obtain ⟨a, b, rfl, hy⟩ := h
  obtain ⟨b1, b2, rfl⟩ := List.append_of_mem hy
  obtain ⟨c, d, e, hz⟩ := k
  refine ⟨a, b1 ++ y :: b2, rfl, ?_⟩
  have e' : (a ++ x :: b1) ++ y :: b2 = c ++ y :: d := by rw [← e]; simp
  have nd' : ((a ++ x :: b1) ++ y :: b2).Nodup := by simpa using nd
  have hb : b2 = d := by
    have h1 : y ∉ a ++ x :: b1 := fun m => by
      have := (List.nodup_append.mp nd').2.2 y m y List.mem_cons_self
      exact this rfl
    have nd'' : (c ++ y :: d).Nodup := e' ▸ nd'
    have h2 : y ∉ c := fun m => by
      have := (List.nodup_append.mp nd'').2.2 y m y List.mem_cons_self
      exact this rfl
    have l1 : (a ++ x :: b1).length = c.length := by
      have i1 : ((a ++ x :: b1) ++ y :: b2).idxOf y = (a ++ x :: b1).length := by
        rw [List.idxOf_append, if_neg h1]; simp
      have i2 : (c ++ y :: d).idxOf y = c.length := by
        rw [List.idxOf_append, if_neg h2]; simp
      rw [e'] at i1
      omega
    have := List.append_inj e' l1
    exact (List.cons.inj this.2).2
  rw [hb]; simp [hz]

theorem head_filter {l : List α} {y : α} {p : α → Bool} (h : l.head? = some y) (hp : p y = true) : (l.filter p).head? = some y := by
  cases l with
  | nil => cases h
  | cons a r => simp at h; subst h; rw [List.filter_cons_of_pos hp]; rfl

theorem head_mem {l : List α} {y : α} (h : l.head? = some y) : y ∈ l := by
  cases l with
  | nil => cases h
  | cons a r => simp at h; subst h; simp

/-- nothing stands ahead of the first -/
theorem not_after_head {l : List α} {x y : α} (h : l.head? = some y) (nd : l.Nodup) : ¬ After l x y := by
  rintro ⟨a, b, rfl, hy⟩
  cases a with
  | nil =>
    simp at h; subst h
    exact (List.nodup_cons.mp nd).1 hy
  | cons c r =>
    simp at h; subst h
    have := (List.nodup_cons.mp nd).1
    exact this (by simp [hy])

theorem head_del {U : α → List α} {a b x y : α} (h : (U x).head? = some y) (h1 : ¬ (x = a ∧ y = b)) (h2 : ¬ (x = b ∧ y = a)) : (del U a b x).head? = some y := by
  unfold del
  split
  · rename_i e
    exact head_filter h (by simpa using fun q => h1 ⟨e, q⟩)
  · split
    · rename_i e
      exact head_filter h (by simpa using fun q => h2 ⟨e, q⟩)
    · exact h

theorem after_del {U : α → List α} {a b x y z : α} (h : After (U y) x z) (hx : x ∈ del U a b y) (hz : z ∈ del U a b y) : After (del U a b y) x z := by
  rw [mem_del] at hx hz
  unfold del
  split
  · rename_i e
    exact h.filter _ (by simpa using fun q => hx.2.1 ⟨e, q⟩) (by simpa using fun q => hz.2.1 ⟨e, q⟩)
  · split
    · rename_i e
      exact h.filter _ (by simpa using fun q => hx.2.2 ⟨e, q⟩) (by simpa using fun q => hz.2.2 ⟨e, q⟩)
    · exact h

/-- a pair that may be struck stays so until it is -/
theorem dom_stays {U : α → List α} (ok : Ok U) {y z a b : α} (h : Dom U y z) (s : Dom U a b) (hz : z ∈ del U a b y) : Dom (del U a b) y z := by
  obtain ⟨x, hx, hxz⟩ := h
  have hxy : x ∈ U y := hxz.mem.1
  have hyx : y ∈ U x := head_mem hx
  by_cases h1 : x = a ∧ y = b
  · -- x's row first: nobody stands ahead of y there
    obtain ⟨rfl, rfl⟩ := h1
    obtain ⟨c, hc, hcy⟩ := s
    exact absurd hcy (not_after_head hx (ok.nd x))
  · by_cases h2 : x = b ∧ y = a
    · obtain ⟨rfl, rfl⟩ := h2
      obtain ⟨c, hc, hcx⟩ := s
      have hcz := hcx.trans hxz (ok.nd y)
      have hcx' : c ≠ x := hcx.ne (ok.nd y)
      have hcy : c ≠ y := fun e => ok.irr y (by have := hcx.mem.1; rwa [e] at this)
      refine ⟨c, head_del hc (fun e => hcy e.1) (fun e => hcx' e.1), after_del hcz ?_ hz⟩
      rw [mem_del]
      exact ⟨hcx.mem.1, fun e => hcx' e.2, fun e => hcy e.2⟩
    · refine ⟨x, head_del hx h1 h2, after_del hxz ?_ hz⟩
      rw [mem_del]
      exact ⟨hxy, fun e => h2 ⟨e.2, e.1⟩, fun e => h1 ⟨e.2, e.1⟩⟩

theorem del_del (U : α → List α) (a b c d : α) : del (del U a b) c d = del (del U c d) a b := by
  funext x
  unfold del
  by_cases h1 : x = a <;> by_cases h2 : x = b <;> by_cases h3 : x = c <;> by_cases h4 : x = d <;> simp [h1, h2, h3, h4, List.filter_filter] <;> (try (subst_vars)) <;> (try simp_all) <;> (try (congr 1; funext q; exact Bool.and_comm _ _))

theorem Step.ok {U V : α → List α} (ok : Ok U) (s : Step U V) : Ok V := by
  cases s with
  | mk h => exact ok.del _ _
theorem Steps.ok {U V : α → List α} (ok : Ok U) (s : Steps U V) : Ok V := by
  induction s with
  | refl => exact ok
  | step h _ ih => exact ih (h.ok ok)

theorem diamond {U V W : α → List α} (ok : Ok U) (a : Step U V) (b : Step U W) : V = W ∨ ∃ X, Step V X ∧ Step W X := by
  cases a with
  | @mk y z ha =>
  cases b with
  | @mk y' z' hb =>
  by_cases e : (y = y' ∧ z = z') ∨ (y = z' ∧ z = y')
  · left
    rcases e with ⟨rfl, rfl⟩ | ⟨rfl, rfl⟩
    · rfl
    · exact del_comm U _ _
  · right
    have hz : z ∈ U y := by obtain ⟨_, _, h⟩ := ha; exact h.mem.2
    have hz' : z' ∈ U y' := by obtain ⟨_, _, h⟩ := hb; exact h.mem.2
    refine ⟨del (del U y z) y' z', .mk (dom_stays ok hb ha ?_), ?_⟩
    · rw [mem_del]
      exact ⟨hz', fun q => e (.inl ⟨q.1.symm, q.2.symm⟩), fun q => e (.inr ⟨q.2.symm, q.1.symm⟩)⟩
    · rw [del_del]
      refine .mk (dom_stays ok ha hb ?_)
      rw [mem_del]
      exact ⟨hz, fun q => e (.inl q), fun q => e (.inr q)⟩

theorem strip {U N V : α → List α} (ok : Ok U) (a : Steps U N) (n : Normal N) (b : Step U V) : Steps V N := by
  induction a generalizing V with
  | refl =>
    cases b with
    | mk h => exact absurd h (n _ _)
  | step h t ih =>
    rcases diamond ok h b with rfl | ⟨X, hx, hx'⟩
    · exact t
    · exact .step hx' (ih (h.ok ok) n hx)

theorem unique {U N N' : α → List α} (ok : Ok U) (a : Steps U N) (n : Normal N) (b : Steps U N') (n' : Normal N') : N = N' := by
  induction b with
  | refl =>
    cases a with
    | refl => rfl
    | step h _ => cases h with | mk h => exact absurd h (n' _ _)
  | step h _ ih => exact ih (h.ok ok) (strip ok a n h) n'
end
end Mine
namespace Mine
section
variable {α : Type} [DecidableEq α]

/-- between two turns of the phase -/
structure Inv (ps : List α) (L U : α → List α) (M : α → Option α) (free : List α) : Prop where
  ok : Ok U
  closed : ∀ x y, y ∈ U x → y ∈ ps
  fnd : free.Nodup
  fsub : ∀ x ∈ free, x ∈ ps
  fne : ∀ x ∈ free, U x ≠ []
  held : ∀ y x, M y = some x → x ∈ ps ∧ (U x).head? = some y ∧ (U y).getLast? = some x ∧ x ∉ free
  idle : ∀ x ∈ ps, x ∉ free → U x = [] ∨ ∃ y, M y = some x
  reach : Steps L U

/-- within a turn: x has asked y -/
structure InvT (ps : List α) (L U : α → List α) (M : α → Option α) (free : List α) (x y : α) : Prop where
  ok : Ok U
  closed : ∀ x y, y ∈ U x → y ∈ ps
  xps : x ∈ ps
  fnd : free.Nodup
  fsub : ∀ x ∈ free, x ∈ ps
  fne : ∀ x ∈ free, U x ≠ []
  xfree : x ∉ free
  my : M y = some x
  hx : (U x).head? = some y
  held : ∀ y' x', y' ≠ y → M y' = some x' → x' ∈ ps ∧ (U x').head? = some y' ∧ (U y').getLast? = some x' ∧ x' ∉ free
  idle : ∀ x ∈ ps, x ∉ free → U x = [] ∨ ∃ y, M y = some x
  reach : Steps L U

noncomputable def takeFree (U : α → List α) (free : List α) (z : α) : List α := if U z = [] ∧ z ∈ free then free.erase z else free

theorem last_filter {l : List α} {y : α} {p : α → Bool} (h : l.getLast? = some y) (hp : p y = true) : (l.filter p).getLast? = some y := by
  have hne : l ≠ [] := by rintro rfl; cases h
  rw [List.getLast?_eq_some_iff] at h
  obtain ⟨ys, rfl⟩ := h
  rw [List.filter_append, List.filter_cons_of_pos hp]
  simp

theorem InvT.step {ps : List α} {L U : α → List α} {M : α → Option α} {free : List α} {x y z : α} (I : InvT ps L U M free x y) (ha : After (U y) x z) :
    InvT ps L (del U z y) M (takeFree (del U z y) free z) x y := by
  have hzy : z ∈ U y := ha.mem.2
  have hxy : x ∈ U y := ha.mem.1
  have hyz : y ∈ U z := I.ok.sym y z hzy
  have hxz : x ≠ z := ha.ne (I.ok.nd y)
  have hxney : x ≠ y := fun e => I.ok.irr y (e ▸ hxy)
  have hzney : z ≠ y := fun e => I.ok.irr y (e ▸ hzy)
  have ok' := I.ok.del z y
  have hx' : (del U z y x).head? = some y := head_del I.hx (fun e => hxz e.1) (fun e => hxney e.1)
  have fsub' : ∀ q ∈ takeFree (del U z y) free z, q ∈ free ∧ (q = z → del U z y z ≠ []) := by
    intro q hq
    unfold takeFree at hq
    split at hq
    · rename_i e
      refine ⟨List.mem_of_mem_erase hq, fun e' => ?_⟩
      subst e'
      exact absurd hq (fun m => by rw [I.fnd.mem_erase_iff] at m; exact m.1 rfl)
    · rename_i e
      refine ⟨hq, fun e' h => e ⟨h, e' ▸ hq⟩⟩
  refine ⟨ok', fun a b hb => I.closed a b (mem_del.mp hb).1, I.xps, ?_, fun q hq => I.fsub q (fsub' q hq).1, ?_, fun h => I.xfree (fsub' x h).1, I.my, hx', ?_, ?_, ?_⟩
  · unfold takeFree
    split
    · exact I.fnd.erase z
    · exact I.fnd
  · intro q hq
    obtain ⟨h1, h2⟩ := fsub' q hq
    by_cases hqz : q = z
    · subst hqz; exact h2 rfl
    · by_cases hqy : q = y
      · subst hqy
        have : x ∈ del U z q q := mem_del.mpr ⟨hxy, fun e => hzney e.1.symm, fun e => hxz e.2⟩
        intro h; rw [h] at this; cases this
      · have : del U z y q = U q := by unfold del; rw [if_neg hqz, if_neg hqy]
        rw [this]; exact I.fne q h1
  · intro y' x' hne hM
    obtain ⟨h1, h2, h3, h4⟩ := I.held y' x' hne hM
    refine ⟨h1, ?_, ?_, fun h => h4 (fsub' x' h).1⟩
    · refine head_del h2 (fun e => hne e.2) (fun e => ?_)
      obtain ⟨rfl, rfl⟩ := e
      exact not_after_head h2 (I.ok.nd _) ha
    · unfold del
      split
      · rename_i e
        subst e
        have hne' : x' ≠ y := fun e => by subst e; exact not_after_head h2 (I.ok.nd _) ha
        exact last_filter h3 (by simpa using hne')
      · first
          | exact h3
          | (split
             · rename_i e; exact absurd e hne
             · exact h3)
  · intro q hq hqf
    by_cases hqfree : q ∈ free
    · left
      unfold takeFree at hqf
      split at hqf
      · rename_i e
        by_cases hqz : q = z
        · rw [hqz]; exact e.1
        · exact absurd (I.fnd.mem_erase_iff.mpr ⟨hqz, hqfree⟩) hqf
      · exact absurd hqfree hqf
    · rcases I.idle q hq hqfree with h | h
      · left
        have := del_sub U z y q
        rw [h] at this
        exact List.sublist_nil.mp this
      · exact .inr h
  · refine I.reach.snoc ?_
    rw [del_comm]
    exact .mk ⟨x, I.hx, ha⟩

theorem InvT.done {ps : List α} {L U : α → List α} {M : α → Option α} {free : List α} {x y : α} (I : InvT ps L U M free x y) (hl : (U y).getLast? = some x) : Inv ps L U M free where
  ok := I.ok
  closed := I.closed
  fnd := I.fnd
  fsub := I.fsub
  fne := I.fne
  held := fun y' x' h => by
    by_cases e : y' = y
    · subst e
      obtain rfl : x = x' := Option.some.inj (I.my.symm.trans h)
      exact ⟨I.xps, I.hx, hl, I.xfree⟩
    · exact I.held y' x' e h
  idle := I.idle
  reach := I.reach

theorem Inv.ask {ps : List α} {L U : α → List α} {M : α → Option α} {fr : List α} {x y : α} (I : Inv ps L U M (fr ++ [x])) (hy : (U x).head? = some y) :
    InvT ps L U (fun q => if q = y then some x else M q) (match M y with | none => fr | some c => fr ++ [c]) x y := by
  have hnd := I.fnd
  have hxfr : x ∉ fr := fun h => (List.nodup_append.mp hnd).2.2 x h x (by simp) rfl
  have hfrnd : fr.Nodup := (List.nodup_append.mp hnd).1
  have hc : ∀ c, M y = some c → c ∈ ps ∧ (U c).head? = some y ∧ c ∉ fr ∧ c ≠ x := fun c hc => by
    obtain ⟨h1, h2, _, h4⟩ := I.held y c hc
    exact ⟨h1, h2, fun h => h4 (List.mem_append_left _ h), fun e => h4 (e ▸ List.mem_append_right _ (by simp))⟩
  have hfree : ∀ q, q ∈ (match M y with | none => fr | some c => fr ++ [c]) ↔ q ∈ fr ∨ M y = some q := by
    intro q
    cases h : M y with
    | none => simp
    | some c => simp [eq_comm]
  refine ⟨I.ok, I.closed, I.fsub x (by simp), ?_, ?_, ?_, ?_, by simp, hy, ?_, ?_, I.reach⟩
  · cases h : M y with
    | none => exact hfrnd
    | some c =>
      show (fr ++ [c]).Nodup
      refine List.nodup_append.mpr ⟨hfrnd, by simp, fun a ha b hb => ?_⟩
      simp at hb; subst hb
      exact fun e => (hc _ h).2.2.1 (e ▸ ha)
  · intro q hq
    rcases (hfree q).mp hq with h | h
    · exact I.fsub q (List.mem_append_left _ h)
    · exact (hc q h).1
  · intro q hq
    rcases (hfree q).mp hq with h | h
    · exact I.fne q (List.mem_append_left _ h)
    · intro e; have := (hc q h).2.1; rw [e] at this; cases this
  · intro hq
    rcases (hfree x).mp hq with h | h
    · exact hxfr h
    · exact (hc x h).2.2.2 rfl
  · intro y' x' hne hM
    simp only [if_neg hne] at hM
    obtain ⟨h1, h2, h3, h4⟩ := I.held y' x' hM
    refine ⟨h1, h2, h3, fun hq => ?_⟩
    rcases (hfree x').mp hq with h | h
    · exact h4 (List.mem_append_left _ h)
    · have := (hc x' h).2.1
      exact hne (Option.some.inj (h2.symm.trans this))
  · intro q hq hqf
    by_cases hqx : q = x
    · subst hqx; exact .inr ⟨y, by simp⟩
    · have h1 : q ∉ fr := fun h => hqf ((hfree q).mpr (.inl h))
      have h2 : M y ≠ some q := fun h => hqf ((hfree q).mpr (.inr h))
      rcases I.idle q hq (by simp [h1, hqx]) with h | ⟨y', h⟩
      · exact .inl h
      · by_cases e : y' = y
        · subst e; exact absurd h h2
        · exact .inr ⟨y', by simp [e, h]⟩

/-- the phase is over: nothing is left to strike -/
theorem Inv.normal {ps : List α} {L U : α → List α} {M : α → Option α} (I : Inv ps L U M []) (hps : ∀ x, U x ≠ [] → x ∈ ps) : Normal U := by
  rintro y z ⟨x, hx, ha⟩
  have hne : U x ≠ [] := fun e => by rw [e] at hx; cases hx
  rcases I.idle x (hps x hne) (by simp) with h | ⟨y', h⟩
  · exact hne h
  · obtain ⟨_, h2, h3, _⟩ := I.held y' x h
    obtain rfl : y = y' := Option.some.inj (hx.symm.trans h2)
    obtain ⟨a, b, e, hz⟩ := ha
    rcases List.eq_nil_or_concat b with rfl | ⟨b', t, rfl⟩
    · cases hz
    have nd := I.ok.nd y
    rw [List.concat_eq_append] at e
    rw [e] at nd h3
    have h4 : (a ++ x :: (b' ++ [t])).getLast? = some t := by
      rw [show a ++ x :: (b' ++ [t]) = (a ++ x :: b') ++ [t] by simp, List.getLast?_append]; rfl
    obtain rfl : x = t := Option.some.inj (h3.symm.trans h4)
    exact (List.nodup_cons.mp (List.nodup_append.mp nd).2.1).1 (by simp)
end
end Mine
namespace Mine
section
variable {α β : Type} [DecidableEq α] [DecidableEq β]

/-- all rows lie within ns -/
structure Cl (ns : List α) (V : α → List α) : Prop where
  own : ∀ x, V x ≠ [] → x ∈ ns
  sub : ∀ x y, y ∈ V x → y ∈ ns
theorem Cl.del {ns : List α} {V : α → List α} (c : Cl ns V) (a b : α) : Cl ns (del V a b) where
  own := fun x h => c.own x fun e => h (List.sublist_nil.mp (e ▸ del_sub V a b x))
  sub := fun x y h => c.sub x y ((del_sub V a b x).subset h)
theorem Cl.mem {ns : List α} {V : α → List α} (c : Cl ns V) {x y : α} (h : y ∈ V x) : x ∈ ns := c.own x fun e => by rw [e] at h; cases h

noncomputable def liftU (ns : List α) (P : α → β) (V : α → List α) : β → List β := fun a => match ns.find? (fun x => P x = a) with
  | some x => (V x).map P
  | none => []

theorem lift_at {ns : List α} {P : α → β} {V : α → List α} (inj : ∀ x ∈ ns, ∀ y ∈ ns, P x = P y → x = y) {x : α} (hx : x ∈ ns) : liftU ns P V (P x) = (V x).map P := by
  unfold liftU
  cases e : ns.find? (fun z => P z = P x) with
  | none => exact absurd (List.find?_eq_none.mp e x hx) (by simp)
  | some z =>
    have h1 := List.find?_some e
    have h2 := List.mem_of_find?_eq_some e
    obtain rfl := inj z h2 x hx (by simpa using h1)
    rfl
theorem lift_mem {ns : List α} {P : α → β} {V : α → List α} {a b : β} (inj : ∀ x ∈ ns, ∀ y ∈ ns, P x = P y → x = y) (h : b ∈ liftU ns P V a) : ∃ x y, x ∈ ns ∧ P x = a ∧ y ∈ V x ∧ P y = b := by
  unfold liftU at h
  cases e : ns.find? (fun z => P z = a) with
  | none => rw [e] at h; cases h
  | some z =>
    rw [e] at h
    obtain ⟨y, hy, rfl⟩ := List.mem_map.mp h
    exact ⟨z, y, List.mem_of_find?_eq_some e, by simpa using List.find?_some e, hy, rfl⟩

theorem map_filter_ne {ns : List α} {P : α → β} (inj : ∀ x ∈ ns, ∀ y ∈ ns, P x = P y → x = y) {l : List α} (hl : ∀ x ∈ l, x ∈ ns) {b : α} (hb : b ∈ ns) : (l.filter (· != b)).map P = (l.map P).filter (· != P b) := by
  induction l with
  | nil => rfl
  | cons a r ih =>
    have := ih fun x hx => hl x (.tail _ hx)
    by_cases e : a = b
    · subst e
      rw [List.filter_cons_of_neg (by simp), List.map_cons, List.filter_cons_of_neg (by simp), this]
    · have e' : P a ≠ P b := fun h => e (inj a (hl a (.head _)) b hb h)
      rw [List.filter_cons_of_pos (by simpa using e), List.map_cons, List.map_cons, List.filter_cons_of_pos (by simpa using e'), this]

theorem lift_out {ns : List α} {P : α → β} {V : α → List α} {a : β} (h : ∀ x ∈ ns, P x ≠ a) : liftU ns P V a = [] := by
  unfold liftU
  rw [List.find?_eq_none.mpr fun x hx => by simpa using h x hx]

theorem lift_del {ns : List α} {P : α → β} {V : α → List α} (inj : ∀ x ∈ ns, ∀ y ∈ ns, P x = P y → x = y) (c : Cl ns V) {y z : α} (hy : y ∈ ns) (hz : z ∈ ns) : liftU ns P (del V y z) = del (liftU ns P V) (P y) (P z) := by
  funext a
  by_cases h : ∃ x ∈ ns, P x = a
  · obtain ⟨x, hx, rfl⟩ := h
    rw [lift_at inj hx]
    unfold del
    by_cases h1 : x = y
    · subst h1
      rw [if_pos rfl, if_pos rfl, map_filter_ne inj (c.sub x) hz, lift_at inj hx]
    · rw [if_neg h1, if_neg (fun e => h1 (inj x hx y hy e))]
      by_cases h2 : x = z
      · subst h2
        rw [if_pos rfl, if_pos rfl, map_filter_ne inj (c.sub x) hy, lift_at inj hx]
      · rw [if_neg h2, if_neg (fun e => h2 (inj x hx z hz e)), lift_at inj hx]
  · have hn : ∀ x ∈ ns, P x ≠ a := fun x hx e => h ⟨x, hx, e⟩
    rw [lift_out hn]
    unfold del
    rw [if_neg (fun e => hn y hy e.symm), if_neg (fun e => hn z hz e.symm), lift_out hn]

theorem After.map {P : α → β} {l : List α} {x z : α} (h : After l x z) : After (l.map P) (P x) (P z) := by
  obtain ⟨a, b, rfl, hz⟩ := h
  exact ⟨a.map P, b.map P, by simp, List.mem_map_of_mem hz⟩

theorem lift_dom {ns : List α} {P : α → β} {V : α → List α} (inj : ∀ x ∈ ns, ∀ y ∈ ns, P x = P y → x = y) (c : Cl ns V) {y z : α} (h : Dom V y z) : y ∈ ns ∧ z ∈ ns ∧ Dom (liftU ns P V) (P y) (P z) := by
  obtain ⟨x, hx, ha⟩ := h
  have hyx : y ∈ V x := head_mem hx
  have hxn := c.mem hyx
  have hyn := c.sub x y hyx
  have hzn := c.sub y z ha.mem.2
  refine ⟨hyn, hzn, P x, ?_, ?_⟩
  · rw [lift_at inj hxn, List.head?_map, hx]; rfl
  · rw [lift_at inj hyn]; exact ha.map

theorem lift_steps {ns : List α} {P : α → β} {U V : α → List α} (inj : ∀ x ∈ ns, ∀ y ∈ ns, P x = P y → x = y) (s : Steps U V) (c : Cl ns U) : Cl ns V ∧ Steps (liftU ns P U) (liftU ns P V) := by
  induction s with
  | refl => exact ⟨c, .refl⟩
  | step h _ ih =>
    obtain ⟨hd⟩ := h
    obtain ⟨hy, hz, hD⟩ := lift_dom (P := P) inj c hd
    obtain ⟨c', s'⟩ := ih (c.del _ _)
    refine ⟨c', .step ?_ s'⟩
    rw [lift_del inj c hy hz]
    exact .mk hD

theorem after_map_inv {ns : List α} {P : α → β} (inj : ∀ x ∈ ns, ∀ y ∈ ns, P x = P y → x = y) {l : List α} (hl : ∀ x ∈ l, x ∈ ns) {x : α} (hx : x ∈ ns) {c : β} (h : After (l.map P) (P x) c) : ∃ z, P z = c ∧ After l x z := by
  obtain ⟨a, b, e, hc⟩ := h
  obtain ⟨l1, l2, rfl, e1, e2⟩ := List.map_eq_append_iff.mp e
  obtain ⟨x', r, rfl, e3, e4⟩ := List.map_eq_cons_iff.mp e2
  obtain rfl := inj x' (hl x' (by simp)) x hx e3
  rw [← e4] at hc
  obtain ⟨z, hz, rfl⟩ := List.mem_map.mp hc
  exact ⟨z, rfl, l1, r, rfl, hz⟩

theorem lift_normal {ns : List α} {P : α → β} {V : α → List α} (inj : ∀ x ∈ ns, ∀ y ∈ ns, P x = P y → x = y) (c : Cl ns V) (n : Normal V) : Normal (liftU ns P V) := by
  rintro b d ⟨a, ha, hA⟩
  obtain ⟨x, y, hx, rfl, hy, rfl⟩ := lift_mem inj (head_mem ha)
  have hyn := c.sub x y hy
  rw [lift_at inj hx, List.head?_map] at ha
  obtain ⟨y', hy', e⟩ := Option.map_eq_some_iff.mp ha
  obtain rfl := inj y' (c.sub x y' (head_mem hy')) y hyn e
  rw [lift_at inj hyn] at hA
  obtain ⟨z, rfl, hz⟩ := after_map_inv inj (c.sub y') hx hA
  exact n y' z ⟨x, hy', hz⟩

theorem lift_ok {ns : List α} {P : α → β} {V : α → List α} (inj : ∀ x ∈ ns, ∀ y ∈ ns, P x = P y → x = y) (c : Cl ns V) (ok : Ok V) : Ok (liftU ns P V) where
  sym := fun a b h => by
    obtain ⟨x, y, hx, rfl, hy, rfl⟩ := lift_mem inj h
    rw [lift_at inj (c.sub x y hy)]
    exact List.mem_map_of_mem (ok.sym x y hy)
  nd := fun a => by
    by_cases h : ∃ x ∈ ns, P x = a
    · obtain ⟨x, hx, rfl⟩ := h
      rw [lift_at inj hx]
      refine List.pairwise_map.mpr ((ok.nd x).imp_of_mem fun ha hb hne e => hne (inj _ (c.sub x _ ha) _ (c.sub x _ hb) e))
    · rw [lift_out fun x hx e => h ⟨x, hx, e⟩]; exact List.nodup_nil
  irr := fun a h => by
    obtain ⟨x, y, hx, rfl, hy, e⟩ := lift_mem inj h
    obtain rfl := inj y (c.sub x y hy) x hx e
    exact ok.irr y hy

/-- along the strikes the rows only lose -/
theorem Steps.sub {U V : α → List α} (s : Steps U V) : ∀ x, (V x).Sublist (U x) := by
  induction s with
  | refl => exact fun x => List.Sublist.refl _
  | step h _ ih => obtain ⟨hd⟩ := h; exact fun x => (ih x).trans (del_sub _ _ _ x)

theorem After.sub {l r : List α} {x z : α} (h : After l x z) (s : l.Sublist r) : After r x z := by
  obtain ⟨a, b, rfl, hz⟩ := h
  obtain ⟨r1, r2, rfl, h1, h2⟩ := List.append_sublist_iff.mp s
  obtain ⟨r3, r4, rfl, h3, h4⟩ := List.cons_sublist_iff.mp h2
  obtain ⟨p, q, rfl⟩ := List.append_of_mem h3
  exact ⟨r1 ++ p, q ++ r4, by simp, List.mem_append_right _ (h4.subset hz)⟩

/-- no pair of a stable pairing is struck -/
theorem stable_kept {ns : List α} {U V : α → List α} (mate : α → α) (ok : Ok U) (c : Cl ns U) (hm : ∀ x ∈ ns, mate x ∈ U x ∧ mate (mate x) = x)
    (hs : ∀ x ∈ ns, ∀ y, After (U x) y (mate x) → ¬ After (U y) x (mate y)) (s : Steps U V) : ∀ x ∈ ns, mate x ∈ V x := by
  have key : ∀ {W V : α → List α}, Steps W V → Steps U W → (∀ x ∈ ns, mate x ∈ W x) → ∀ x ∈ ns, mate x ∈ V x := by
    intro W V s
    induction s with
    | refl => exact fun _ h => h
    | @step W W' V h _ ih =>
      intro sU hW
      refine ih (sU.snoc h) ?_
      obtain ⟨hd⟩ := h
      rename_i y z _
      obtain ⟨x, hx, ha⟩ := hd
      have okW := sU.ok ok
      have cW : Cl ns W := (lift_steps (P := id) (fun _ _ _ _ e => e) sU c).1
      intro q hq
      have hqm := hW q hq
      refine mem_del.mpr ⟨hqm, ?_, ?_⟩ <;> intro e
      all_goals
        obtain ⟨e1, e2⟩ := e
        have hyx : y ∈ W x := head_mem hx
        have hxn := cW.mem hyx
        have hyn := cW.sub x y hyx
        have hzn := cW.sub y z ha.mem.2
        have hxz : x ≠ z := ha.ne (okW.nd y)
        have hyz : mate y = z ∧ mate z = y := by
          first
            | exact ⟨by rw [← e1]; exact e2, by rw [← e2, ← e1]; exact (hm q hq).2⟩
            | exact ⟨by rw [← e2, ← e1]; exact (hm q hq).2, by rw [← e1]; exact e2⟩
        have hmx : mate x ≠ y := fun e => hxz (by rw [← (hm x hxn).2, e, hyz.1])
        have h1 : After (W x) y (mate x) := by
          have := hW x hxn
          cases hw : W x with
          | nil => rw [hw] at this; cases this
          | cons p r =>
            rw [hw] at hx this
            obtain rfl : p = y := Option.some.inj hx
            rcases List.mem_cons.mp this with e | e
            · exact absurd e hmx
            · exact ⟨[], r, rfl, e⟩
        exact hs x hxn y (h1.sub (sU.sub x)) (by rw [hyz.1]; exact ha.sub (sU.sub y))
  exact key s .refl fun x hx => (hm x hx).1

/-- whoever has a row holds its last one -/
theorem nodup_full {l r : List α} (hl : l.Nodup) (hs : ∀ x ∈ l, x ∈ r) (hle : r.length ≤ l.length) (hr : r.Nodup) : ∀ x ∈ r, x ∈ l := by
  induction l generalizing r with
  | nil =>
    intro x hx
    have : 0 < r.length := List.length_pos_of_mem hx
    simp at hle; subst hle; cases hx
  | cons a t ih =>
    have ha : a ∈ r := hs a (.head _)
    intro x hx
    by_cases e : x = a
    · rw [e]; exact .head _
    · refine .tail _ (ih (r := r.erase a) (List.nodup_cons.mp hl).2 (fun y hy => (List.mem_erase_of_ne (fun e => by subst e; exact (List.nodup_cons.mp hl).1 hy)).mpr (hs y (.tail _ hy))) ?_ (hr.erase a) x ((List.mem_erase_of_ne e).mpr hx))
      rw [List.length_erase_of_mem ha]
      simp only [List.length_cons] at hle
      omega

theorem Inv.ends {ps : List α} {L U : α → List α} {M : α → Option α} (I : Inv ps L U M []) (hnd : ps.Nodup) (hps : ∀ x, U x ≠ [] → x ∈ ps) :
    (∀ y ∈ ps, U y = [] → M y = none) ∧ (∀ y ∈ ps, U y ≠ [] → ∃ x, M y = some x ∧ x ∈ ps ∧ (U x).head? = some y ∧ (U y).getLast? = some x) := by
  have hheld : ∀ y x, M y = some x → x ∈ ps ∧ (U x).head? = some y ∧ (U y).getLast? = some x ∧ U y ≠ [] ∧ U x ≠ [] := fun y x h => by
    obtain ⟨h1, h2, h3, _⟩ := I.held y x h
    exact ⟨h1, h2, h3, (fun e => by rw [e] at h3; cases h3), (fun e => by rw [e] at h2; cases h2)⟩
  refine ⟨fun y hy h => ?_, fun y hy h => ?_⟩
  · cases e : M y with
    | none => rfl
    | some x => exact absurd h (hheld y x e).2.2.2.1
  · let A := ps.filter fun x => !(U x).isEmpty
    have hA : ∀ x, x ∈ A ↔ x ∈ ps ∧ U x ≠ [] := fun x => by simp [A, List.mem_filter]
    have hAnd : A.Nodup := hnd.sublist List.filter_sublist
    let f : α → α := fun x => ((U x).head?).getD x
    have hf : ∀ x ∈ A, M (f x) = some x := fun x hx => by
      obtain ⟨h1, h2⟩ := (hA x).mp hx
      rcases I.idle x h1 (by simp) with e | ⟨y, e⟩
      · exact absurd e h2
      · have := (hheld y x e).2.1
        show M (((U x).head?).getD x) = some x
        rw [this]; exact e
    have hmap : (A.map f).Nodup := List.pairwise_map.mpr (hAnd.imp_of_mem fun ha hb hne e => hne (Option.some.inj ((hf _ ha).symm.trans ((congrArg M e).trans (hf _ hb)))))
    have hsub : ∀ y ∈ A.map f, y ∈ A := fun y hy => by
      obtain ⟨x, hx, rfl⟩ := List.mem_map.mp hy
      have := (hheld _ _ (hf x hx)).2.2.2.1
      exact (hA _).mpr ⟨hps _ this, this⟩
    have := nodup_full hmap hsub (by simp) hAnd y ((hA y).mpr ⟨hy, h⟩)
    obtain ⟨x, hx, rfl⟩ := List.mem_map.mp this
    obtain ⟨h1, h2, h3, _, _⟩ := hheld _ _ (hf x hx)
    exact ⟨x, hf x hx, h1, h2, h3⟩
end
end Mine
namespace Mine
open_top hd for PySem.Challenge.rw_au0003_01
end Mine
open PySem PySem.W PySem.Spec PySem.Calls PyProof.Rows PyProof.V
namespace Mine

theorem hide {P : Prop} (h : ∀ G : Prop, (P → G) → G) : P := h P id
/-- the wanted end kept out of the steps -/
theorem hideQ {M : Model} {A : Around} {α : Type} {t : Sem α} {Q : α → Shared → Prop} {E : Value → Shared → Prop} {s : Shared}
    (h : ∀ Q' : α → Shared → Prop, (∀ r s, Q r s → Q' r s) → wpAny M A t Q' E s) : wpAny M A t Q E s := h Q fun _ _ x => x
abbrev Ldg := List (Addr × Obj)
abbrev NE : Value → Shared → Prop := fun _ _ => False

def Ct (w : World) (f : Addr) (args : List Value) (dp un : Nat) (Pre : Ldg → Prop) (Post : Ldg → Value → Ldg → Prop) : Prop :=
  ∀ (p : Program) (loose : List Str) (mean : ExcName → Option Value) (mg mb : Str → Option Value) (gd : Option (List Code)) (cn : Str) (cs : Scope) (a : Addr) (ccd : Value) (cl : List (Str × Addr)) (outer : List Env) (A₀ : Around) (base h₀ : Heap) (L : Addr) (m : Str → Option Value) (nw : Ldg) (s : Shared)
    (Q : Value → Shared → Prop),
    Below A₀ base outer h₀ → Fr h₀ L s.heap m → (hd.heap_39 w.params).In h₀ → News h₀ L s.heap nw → Top p loose mean mg mb h₀ → cs.kind = .function → Pre nw →
    (∀ r nw' h' tk', Fr h₀ L h' m → News h₀ L h' nw' → Post nw r nw' → Q r { s with heap := h', toks := tk' }) →
    wpAny (model Challenge.rw_au0003_01.row.prog w) (ktrTop dp un gd cn cs L a ccd cl outer) (call (.ref f) args) Q NE s

theorem Ct.use {w : World} {f : Addr} {args : List Value} {dp un dp' un' : Nat} {Pre : Ldg → Prop} {Post : Ldg → Value → Ldg → Prop} (C : Ct w f args dp un Pre Post) (hdp : dp' ≤ dp) (hu : un' ≤ un)
    {p : Program} {loose : List Str} {mean : ExcName → Option Value} {mg mb : Str → Option Value} {gd : Option (List Code)} {cn : Str} {cs : Scope} {a : Addr} {ccd : Value} {cl : List (Str × Addr)} {outer : List Env} {A₀ : Around} {base h₀ : Heap} {L : Addr} {m : Str → Option Value} {nw : Ldg} {s : Shared}
    {Q E : Value → Shared → Prop} (B : Below A₀ base outer h₀) (F : Fr h₀ L s.heap m) (X : (hd.heap_39 w.params).In h₀) (N : News h₀ L s.heap nw) (T : Top p loose mean mg mb h₀) (hk : cs.kind = .function) (hp : Pre nw)
    (ret : ∀ r nw' h' tk', Fr h₀ L h' m → News h₀ L h' nw' → Post nw r nw' → Q r { s with heap := h', toks := tk' }) :
    wpAny (model Challenge.rw_au0003_01.row.prog w) (ktrTop dp' un' gd cn cs L a ccd cl outer) (call (.ref f) args) Q E s := by
  have h := C p loose mean mg mb gd cn cs a ccd cl outer A₀ base h₀ L m nw s Q B F X N T hk hp ret
  refine wpAny_mono (fun Γ q hΓ => h Γ q ⟨hΓ.1, Nat.le_trans hΓ.2.1 hdp, hΓ.2.2.1, hΓ.2.2.2.1, Nat.le_trans hΓ.2.2.2.2 hu⟩) (fun _ _ x => x) (fun _ _ x => x.elim)

/-- what a walked body shows at its end -/
inductive Fin (g : Heap) (Post : Ldg → Value → Ldg → Prop) (s : Shared) (nw : Ldg) (fl : Flow) (s' : Shared) : Prop
  | mk (L' : Addr) (m' : Str → Option Value) (nw' : Ldg) (f1 : Fr g L' s'.heap m') (f2 : News g L' s'.heap nw') (f3 : s'.gens = s.gens) (f4 : s'.drawn = s.drawn) (f5 : s'.os = s.os) (f6 : Post nw (match fl with | .ret v => v | _ => .none) nw')

theorem Ct.intro {w : World} {f : Addr} {args : List Value} {dp un : Nat} {Pre : Ldg → Prop} {Post : Ldg → Value → Ldg → Prop}
    {name qual : Str} {params : Arguments} {body : List Stmt} {scope : Scope} {dV kV doc pm cdv ct oc : Value} {an od : Option Addr} {osl : Array (Option Value)} {binds : List (Str × Value)}
    (ho : (hd.heap_39 w.params).lookup f = some ⟨oc, od, .func (fnOf name qual params body scope dV kV doc pm an cdv ct), osl⟩) (hcd : codeIn (hd.heap_39 w.params) cdv qual = true) (hroom : dp < recursionLimit)
    (hbind : bindArgs (fnOf name qual params body scope dV kV doc pm an cdv ct) ⟨args, []⟩ = pure binds) (hloc : ∀ y ∈ binds, scope.names.lookup y.1 = some .local)
    (hco : scope.isCoroutine = false) (hgen : scope.isGenerator = false) (hk : scope.kind = .function) (hcell : ∀ x ∈ scope.names, x.2 ≠ .cell)
    (h : ∀ (p : Program) (loose : List Str) (mean : ExcName → Option Value) (mg mb : Str → Option Value) (gd : Option (List Code)) (outer : List Env) (A₀ : Around) (base g : Heap) (L : Addr) (h₁ : Heap) (tk : Nat) (s : Shared) (nw : Ldg),
      Below A₀ base outer g → Fr g L h₁ (fun y => binds.reverse.lookup y) → (hd.heap_39 w.params).In g → News g L h₁ nw → Top p loose mean mg mb g → Pre nw →
      wpAny (model Challenge.rw_au0003_01.row.prog w) (ktrTop (dp + 1) (un + 3) gd qual scope L f cdv [] outer) (execs body (envX qual scope L f cdv [])) (Fin g Post s nw) NE { s with heap := h₁, toks := tk }) :
    Ct w f args dp un Pre Post := by
  intro p loose mean mg mb gd cn cs a ccd cl outer A₀ base h₀ L m nw s Q B F X N T hck hP hret
  refine wpAny_call (code_def B F X N T (env := envX cn cs L a ccd cl) (outer := outer) rfl rfl hck ho hcd hroom (BindsTo.of_eq hbind) hloc ?_ hco hgen hk hcell)
  intro g L' h₁ FG F' N' B' X' T'
  refine wpAny_mono (h p loose mean mg mb gd (envX cn cs L a ccd cl :: outer) _ base g L' h₁ _ s nw B' F' X' N' T' hP) (fun fl s' hf => ?_) (fun _ _ x => x.elim)
  obtain ⟨L₂, m₂, nw₂, F₂, N₂, e1, e2, e3, hpost⟩ := hf
  refine leaveK_ F₂ N₂ fun F₃ N₃ => ?_
  obtain ⟨hh, gg, dd, tt, oo⟩ := s'
  simp only at e1 e2 e3
  subst e1 e2 e3
  exact hret _ nw₂ hh tt F₃ N₃ hpost

end Mine
namespace Mine

def Kp (T : List Addr) (nw nw' : Ldg) : Prop := ∀ q ∈ nw, q.1 ∉ T → q ∈ nw'
theorem Kp.refl {T nw} : Kp T nw nw := fun _ h _ => h
theorem Kp.trans {T a b c} (x : Kp T a b) (y : Kp T b c) : Kp T a c := fun q h n => y q (x q h n) n
theorem Kp.mono {T T' a b} (x : Kp T a b) (h : ∀ t ∈ T, t ∈ T') : Kp T' a b := fun q hq n => x q hq fun m => n (h _ m)
theorem Kp.cons {T a b p} (x : Kp T a b) : Kp T a (p :: b) := fun q h n => .tail _ (x q h n)
theorem Kp.of_cons {T a b p} (x : Kp T (p :: a) b) : Kp T a b := fun q h n => x q (.tail _ h) n
theorem Kp.one {d a b} (x : ∀ q ∈ a, q.1 ≠ d → q ∈ b) : Kp [d] a b := fun q h n => x q h fun e => n (e ▸ .head _)
theorem Kp.nil {a b} (x : Kp [] a b) : ∀ q ∈ a, q ∈ b := fun q h => x q h (fun h => nomatch h)

theorem nsub {h₀ h : Heap} {L : Addr} {a b : Ldg} (N : News h₀ L h a) (x : ∀ q ∈ b, q ∈ a) : News h₀ L h b := fun p hp => N p (x p hp)
theorem nsame {h₀ h : Heap} {L a : Addr} {o o' : Obj} {nw : Ldg} (N : News h₀ L h nw) (x : (a, o) ∈ nw) (y : (a, o') ∈ nw) : o = o' :=
  Option.some.inj ((N _ x).1.symm.trans (N _ y).1)
theorem nneO {h₀ h : Heap} {L a b : Addr} {o o' : Obj} {nw : Ldg} (N : News h₀ L h nw) (x : (a, o) ∈ nw) (y : (b, o') ∈ nw) (h : o ≠ o') : a ≠ b := fun e => h (by subst e; exact nsame N x y)
theorem nneC {h₀ h : Heap} {L a b : Addr} {o o' : Obj} {nw : Ldg} (N : News h₀ L h nw) (x : (a, o) ∈ nw) (y : (b, o') ∈ nw) (h : o.cls ≠ o'.cls) : a ≠ b := nneO N x y fun e => h (e ▸ rfl)

theorem mutV {h₀ h h' : Heap} {L d : Addr} {m : Str → Option Value} {nw : Ldg} {o o' : Obj} (F : Fr h₀ L h m) (N : News h₀ L h nw) (hm : (d, o) ∈ nw) (hs : Heap.SameBut d h h') (ho : h'.get? d = some o') {P : Prop}
    (k : ∀ nw', Fr h₀ L h' m → News h₀ L h' nw' → (d, o') ∈ nw' → Kp [d] nw nw' → P) : P := by
  have hd := N _ hm
  refine k (nw.map fun p => if p.1 = d then (d, o') else p) (F.change hs hd.2.1 hd.2.2) (N.replace hs ho) ?_ (Kp.one fun q hq hne => ?_)
  · exact List.mem_map.mpr ⟨(d, o), hm, by simp⟩
  · exact List.mem_map.mpr ⟨q, hq, by simp [hne]⟩

/-- iterators -/
noncomputable def isIt (o : Obj) : Bool := match o.cls with
  | .type n => n == "list_iterator" || n == "tuple_iterator" || n == "dict_keyiterator" || n == "enumerate"
  | _ => false

section
variable {prog : Program} {w : World} {A : Around} {s : Shared} {env : Env} {h₀ : Heap} {m : Str → Option Value}

inductive TEnd (h₀ : Heap) (L : Addr) (T : List Addr) (nw₁ : Ldg) (Jn : (Str → Option Value) → Ldg → Prop) (s s' : Shared) : Prop
  | mk (h' : Heap) (tk' : Nat) (m' : Str → Option Value) (nw' : Ldg) (f1 : s' = { s with heap := h', toks := tk' }) (f2 : Fr h₀ L h' m') (f3 : News h₀ L h' nw') (f4 : Kp T nw₁ nw') (f5 : Jn m' nw')
/-- the for loop's own invariant -/
inductive FLi (h₀ : Heap) (L : Addr) (T : List Addr) (nw₀ : Ldg) (I : Addr) (St : Nat → Heap → Prop) (J : Nat → (Str → Option Value) → Ldg → Prop) (n : Nat) (s : Shared) (k : Nat) (s' : Shared) : Prop
  | mk (h' : Heap) (tk : Nat) (m' : Str → Option Value) (nw' : Ldg) (i : Nat) (f1 : s' = { s with heap := h', toks := tk }) (f2 : St i h') (f3 : Fr h₀ L h' m') (f4 : News h₀ L h' nw') (f5 : Kp T nw₀ nw') (f6 : ∃ o, (I, o) ∈ nw' ∧ isIt o = true) (f7 : J i m' nw') (f8 : i ≤ n) (f9 : k = n + 1 - i)

def TurnEnd (h₀ : Heap) (L : Addr) (T : List Addr) (nw₁ : Ldg) (Jn : (Str → Option Value) → Ldg → Prop) (s : Shared) (Q : Flow → Shared → Prop) (f : Flow) (s' : Shared) : Prop :=
  match f with
  | .ret v => Q (.ret v) s'
  | .brk => Q .next s'
  | _ => TEnd h₀ L T nw₁ Jn s s'

def ForK (prog : Program) (w : World) (A : Around) (env : Env) (x : Str) (px : Pos) (body : List Stmt) (Q : Flow → Shared → Prop) (xv : Value) (s : Shared) : Prop :=
  wpAny (model prog w) A (pyIter xv) (fun it s₂ => codeAny (model prog w) A (.forLoop (.Name x px) it body [] env) (fun r s' => match r with | .ok f => Q f s' | .error _ => False) s₂) NE s

theorem For_open {x : Str} {px pos : Pos} {iter : Expr} {body : List Stmt} {Q : Flow → Shared → Prop} {E : Value → Shared → Prop}
    (h : wpAny (model prog w) A (eval iter env) (ForK prog w A env x px body Q) NE s) (hs : ∀ x, foldedSetIterable iter env x = pure x) :
    wpAny (model prog w) A (exec (.For (.Name x px) iter body [] pos) env) Q E s := by
  refine wpAny_mono (E := NE) (Q := Q) ?_ (fun _ _ x => x) (fun _ _ x => x.elim)
  refine wpAny_For (wpAny_mono h (fun xv s₁ h₁ => wpAny_mono h₁ (fun it s₂ h₂ => codeAny_mono h₂ fun r s' hr => ?_) fun _ _ e => e) fun _ _ e => e) hs
  cases r with
  | ok f => exact hr
  | error e => exact hr.elim

theorem forLoop_W {x : Str} {px : Pos} {body : List Stmt} {I : Addr} {fp : List Addr} {n : Nat} {P : Nat → Value → Prop} {St : Nat → Heap → Prop} {nw₀ : Ldg} {oI : Obj} {T : List Addr} {Q : Flow → Shared → Prop}
    (W : Walks prog w A I fp [I] n P St) (hIo : ∀ i h, St i h → ∃ o, h.get? I = some o ∧ isIt o = true) (hx : env.kindOf x = some .local)
    (hp : (env.scope.kind == .class || (env.scope.kind == .module && env.locals != env.globals)) = false)
    (hst : St 0 s.heap) (F : Fr h₀ env.locals s.heap m) (N : News h₀ env.locals s.heap ((I, oI) :: nw₀)) (hoI : isIt oI = true) (hlt : ∀ p ∈ nw₀, p.1 < I)
    (hT : ∀ a ∈ T, ∃ o, (a, o) ∈ nw₀) (hfp : ∀ b ∈ fp, b ≠ I → b ∉ T ∧ ∃ o, (b, o) ∈ nw₀)
    (J : Nat → (Str → Option Value) → Ldg → Prop) (stab : ∀ i m nw nw', J i m nw → (∀ q ∈ nw, isIt q.2 = false → q ∈ nw') → J i m nw') (h0 : J 0 m nw₀)
    (turn : ∀ i v m₁ nw₁ h tk, i < n → P i v → J i m₁ nw₁ → Kp T nw₀ nw₁ → Fr h₀ env.locals h (fun y => if y = x then some v else m₁ y) → News h₀ env.locals h nw₁ →
      wpAny (model prog w) A (execs body env) (TurnEnd h₀ env.locals T nw₁ (J (i + 1)) { s with heap := h, toks := tk } Q) NE { s with heap := h, toks := tk })
    (done : ∀ m₁ nw₁ h tk, J n m₁ nw₁ → Kp T nw₀ nw₁ → Fr h₀ env.locals h m₁ → News h₀ env.locals h nw₁ → Q .next { s with heap := h, toks := tk }) :
    codeAny (model prog w) A (.forLoop (.Name x px) (.ref I) body [] env) (fun r s' => match r with | .ok f => Q f s' | .error _ => False) s := by
  have hIT : I ∉ T := fun h => by obtain ⟨o, ho⟩ := hT I h; exact Nat.lt_irrefl _ (hlt _ ho)
  have hI := N (I, oI) (.head _)
  have hLI : env.locals ≠ I := Ne.symm hI.2.1
  have hI0 : h₀.get? I = none := hI.2.2
  refine codeAny_forLoop
    (FLi h₀ env.locals T nw₀ I St J n s) ?_ (n + 1)
    ⟨s.heap, s.toks, m, _, 0, rfl, hst, F, N, fun q hq _ => .tail _ hq, ⟨oI, .head _, hoI⟩, stab 0 m _ _ h0 (fun q hq _ => .tail _ hq), Nat.zero_le _, rfl⟩
  rintro k s' ⟨h', tk, m', nw', i, rfl, hst', F', N', K', ⟨oi, hoi, hoit⟩, hJ, hi, rfl⟩
  have next : ∀ h₁ : Heap, (∀ b o, b ∉ [I] → h'.get? b = some o → h₁.get? b = some o) → Fr h₀ env.locals h₁ m' := fun h₁ hk₁ =>
    ⟨F'.ns.at' fun o e => hk₁ _ o (by simpa using hLI) e, fun b o e => hk₁ b o (fun hb => by rw [List.mem_singleton.mp hb, hI0] at e; cases e) (F'.keep b o e), F'.above⟩
  by_cases hlt' : i < n
  · refine W.item i _ _ _ hlt' hst' fun v h₁ tk₁ hP hst₁ hk₁ => ?_
    have F₁ := next h₁ hk₁
    refine hide fun Gx hGx => ?_
    obtain ⟨oi₁, hoi₁, hit₁⟩ := hIo _ _ hst₁
    refine hGx ?_
    refine wpAny_assign_Name (wpAny_storeName_local hx F₁.ns (fun h₂ hn₂ hs₂ => ?_) hp)
    have F₂ := F₁.set hn₂ hs₂
    have N₁ : News h₀ env.locals h₂ ((I, oi₁) :: nw'.filter fun q => q.1 != I) := fun p hp => by
      rcases List.mem_cons.mp hp with rfl | hp
      · exact ⟨(hs₂.2 _ (Ne.symm hLI)).trans hoi₁, Ne.symm hLI, hI0⟩
      · refine hide fun Gx hGx => ?_
        obtain ⟨hp, hne⟩ := List.mem_filter.mp hp
        refine hGx ?_
        have hne' : p.1 ≠ I := by simpa using hne
        have z := N' p hp
        exact ⟨(hs₂.2 _ z.2.1).trans (hk₁ _ _ (by simpa using hne') z.1), z.2⟩
    have J₁ : J i m' ((I, oi₁) :: nw'.filter fun q => q.1 != I) := stab i m' _ _ hJ fun q hq hf => by
      refine .tail _ (List.mem_filter.mpr ⟨hq, ?_⟩)
      have : q.1 ≠ I := fun e => by
        refine hide fun Gx hGx => ?_
        obtain ⟨a, o⟩ := q
        refine hGx ?_
        cases (show a = I from e)
        rw [nsame N' hq hoi, hoit] at hf; cases hf
      simpa using this
    have K₁ : Kp T nw₀ ((I, oi₁) :: nw'.filter fun q => q.1 != I) := fun q hq hn => by
      refine .tail _ (List.mem_filter.mpr ⟨K' q hq hn, ?_⟩)
      simpa using Nat.ne_of_lt (hlt q hq)
    refine wpAny_mono (turn i v m' _ h₂ _ hlt' hP J₁ K₁ F₂ N₁) (fun f s₃ h₃ => ?_) fun _ _ e => e.elim
    have fin : TEnd h₀ env.locals T ((I, oi₁) :: nw'.filter fun q => q.1 != I) (J (i + 1)) { s with heap := h₂, toks := tk₁ + 1 } s₃ → ∃ k', k' < n + 1 - i ∧ FLi h₀ env.locals T nw₀ I St J n s k' s₃ := by
      rintro ⟨h₄, tk₄, m₄, nw₄, rfl, F₄, N₄, K₄, J₄⟩
      refine ⟨n + 1 - (i + 1), Nat.sub_lt_sub_left (Nat.lt_succ_of_lt hlt') (Nat.lt_succ_self i), h₄, tk₄, m₄, nw₄, i + 1, rfl, ?_, F₄, N₄, K₁.trans K₄, ⟨oi₁, K₄ _ (.head _) hIT, hit₁⟩, J₄, hlt', rfl⟩
      have hst₂ : St (i + 1) h₂ := W.frame _ _ _ hst₁ fun b hb o e => by
        refine (hs₂.2 b fun q => ?_).trans e
        by_cases hbI : b = I
        · exact hLI (q.symm.trans hbI)
        · refine hide fun Gx hGx => ?_
          obtain ⟨_, o', ho'⟩ := hfp b hb hbI
          refine hGx ?_
          exact (N (b, o') (.tail _ ho')).2.1 q
      refine W.frame _ _ _ hst₂ fun b hb o e => ?_
      by_cases hbI : b = I
      · have z := N₁ (I, oi₁) (.head _)
        have : oi₁ = o := Option.some.inj (z.1.symm.trans (hbI ▸ e))
        rw [hbI, ← this]; exact (N₄ _ (K₄ _ (.head _) hIT)).1
      · refine hide fun Gx hGx => ?_
        obtain ⟨hbT, o', ho'⟩ := hfp b hb hbI
        refine hGx ?_
        have : (b, o') ∈ ((I, oi₁) :: nw'.filter fun q => q.1 != I) := K₁ _ ho' hbT
        have z := (N₁ _ this).1
        have : o' = o := Option.some.inj (z.symm.trans e)
        rw [← this]; exact (N₄ _ (K₄ _ (K₁ _ ho' hbT) hbT)).1
    cases f with
    | ret v => exact h₃
    | brk => exact h₃
    | cont => exact fin h₃
    | next => exact fin h₃
  · have hin : i = n := by omega
    subst hin
    refine W.done _ _ _ hst' fun h₁ tk₁ hk₁ => wpAny_execs_nil ?_
    have F₁ := next h₁ hk₁
    refine done m' (nw'.filter fun q => q.1 != I) h₁ tk₁ (stab i m' _ _ hJ fun q hq hf => ?_) (fun q hq hn => ?_) F₁ fun p hp => ?_
    · refine List.mem_filter.mpr ⟨hq, ?_⟩
      have : q.1 ≠ I := fun e => by
        refine hide fun Gx hGx => ?_
        obtain ⟨a, o⟩ := q
        refine hGx ?_
        cases (show a = I from e)
        rw [nsame N' hq hoi, hoit] at hf; cases hf
      simpa using this
    · refine List.mem_filter.mpr ⟨K' q hq hn, ?_⟩
      simpa using Nat.ne_of_lt (hlt q hq)
    · refine hide fun Gx hGx => ?_
      obtain ⟨hp, hne⟩ := List.mem_filter.mp hp
      refine hGx ?_
      have hne' : p.1 ≠ I := by simpa using hne
      have z := N' p hp
      exact ⟨hk₁ _ _ (by simpa using hne') z.1, z.2⟩
end
end Mine
namespace Mine

noncomputable abbrev PR : Program := Challenge.rw_au0003_01.row.prog
noncomputable abbrev tupOf (its : Array Value) (n : Nat) : Obj := { cls := .type "tuple", data := .seq its n }
theorem szN {a : Nat} (h : a ≤ 900) : a ≤ sizeLine := Nat.le_trans h (by rw [sizeLine_eq]; decide)
/-- a dict of the ledger by its str keys -/
def DictIn (w : World) (nw : Ldg) (d : Addr) (kvs : List (Str × Value)) : Prop := ∃ o, (d, o) ∈ nw ∧ o.IsDictOf (strKind Challenge.rw_au0003_01.row.prog w) kvs ∧ (d == sysModules) = false
theorem DictIn.mono {w : World} {nw nw' : Ldg} {d : Addr} {kvs : List (Str × Value)} (x : DictIn w nw d kvs) (k : ∀ q ∈ nw, q.1 = d → q ∈ nw') : DictIn w nw' d kvs := let ⟨o, h, r⟩ := x; ⟨o, k _ h rfl, r⟩
theorem DictIn.dictOf {w : World} {nw : Ldg} {d : Addr} {kvs : List (Str × Value)} {h₀ h : Heap} {L : Addr} (x : DictIn w nw d kvs) (N : News h₀ L h nw) : h.DictOf (strKind Challenge.rw_au0003_01.row.prog w) d kvs :=
  let ⟨o, hm, r, _⟩ := x; Heap.dictOf_iff.mpr ⟨o, (N _ hm).1, r⟩
theorem DictIn.notIt {w : World} {nw : Ldg} {d : Addr} {kvs : List (Str × Value)} (x : DictIn w nw d kvs) {nw' : Ldg} (k : ∀ q ∈ nw, isIt q.2 = false → q ∈ nw') : DictIn w nw' d kvs := by
  refine hide fun Gx hGx => ?_
  obtain ⟨o, h, ⟨es, ep, ⟨hc, h2, h3⟩, r⟩, r'⟩ := x
  refine hGx ?_
  refine ⟨o, k _ h ?_, ⟨es, ep, ⟨hc, h2, h3⟩, r⟩, r'⟩
  show isIt o = false
  unfold isIt; rw [hc]; rfl

section
variable {w : World} {A : Around} {s : Shared} {env : Env} {h₀ : Heap} {m : Str → Option Value}

theorem fr_up {h h' : Heap} {L : Addr} (F : Fr h₀ L h m) (k : ∀ b o, h.get? b = some o → h'.get? b = some o) : Fr h₀ L h' m := F.keeps k

theorem forK_list {x : Str} {px : Pos} {body : List Stmt} {Q : Flow → Shared → Prop} {l : Addr} {items : Array Value} {k : Nat} {nw₀ : Ldg} (hh : A.handled = none) (hx : env.kindOf x = some .local)
    (hp : (env.scope.kind == .class || (env.scope.kind == .module && env.locals != env.globals)) = false)
    (F : Fr h₀ env.locals s.heap m) (N : News h₀ env.locals s.heap nw₀) (hl : (l, listOf items k) ∈ nw₀) (T : List Addr) (hT : ∀ a ∈ T, ∃ o, (a, o) ∈ nw₀) (hlT : l ∉ T)
    (J : Nat → (Str → Option Value) → Ldg → Prop) (stab : ∀ i m nw nw', J i m nw → (∀ q ∈ nw, isIt q.2 = false → q ∈ nw') → J i m nw') (h0 : J 0 m nw₀)
    (turn : ∀ i v m₁ nw₁ h tk, items[i]? = some v → J i m₁ nw₁ → Kp T nw₀ nw₁ → Fr h₀ env.locals h (fun y => if y = x then some v else m₁ y) → News h₀ env.locals h nw₁ →
      wpAny (model Challenge.rw_au0003_01.row.prog w) A (execs body env) (TurnEnd h₀ env.locals T nw₁ (J (i + 1)) { s with heap := h, toks := tk } Q) NE { s with heap := h, toks := tk })
    (done : ∀ m₁ nw₁ h tk, J items.size m₁ nw₁ → Kp T nw₀ nw₁ → Fr h₀ env.locals h m₁ → News h₀ env.locals h nw₁ → Q .next { s with heap := h, toks := tk }) :
    ForK Challenge.rw_au0003_01.row.prog w A env x px body Q (.ref l) s := by
  have hL : s.heap.IsList l items := ⟨_, (N _ hl).1, rfl, k, rfl⟩
  have hlt : l < s.heap.objs.size := Heap.lt_size (N _ hl).1
  refine wpAny_pyIter_list hL ?_
  have up : ∀ b o, s.heap.get? b = some o → (s.heap.push { cls := .type "list_iterator", data := .fields #[.ref l, .int 0 0] }).get? b = some o := fun b o e => Heap.get?_push_of_some _ e
  refine forLoop_W (nw₀ := nw₀) (oI := { cls := .type "list_iterator", data := .fields #[.ref l, .int 0 0] }) (Walks.list hh s.heap.objs.size l (Nat.ne_of_lt hlt) items) (fun i h st => ?_) hx hp
    ⟨⟨_, Heap.get?_push_size _ rfl, rfl, rfl⟩, hL.push _⟩ (F.push _) (N.push F _) rfl (fun p hp => Heap.lt_size (N p hp).1) hT (fun b hb hne => ?_) J stab h0 (fun i v m₁ nw₁ h tk _ hP => turn i v m₁ nw₁ h tk hP) done
  · refine hide fun Gx hGx => ?_
    obtain ⟨o, ho, hc, _⟩ := st.1
    refine hGx ?_
    exact ⟨o, ho, by unfold isIt; rw [hc]; rfl⟩
  · have : b = l := by simpa [hne] using hb
    subst this
    exact ⟨hlT, _, hl⟩

theorem forK_tuple {x : Str} {px : Pos} {body : List Stmt} {Q : Flow → Shared → Prop} {l : Addr} {items : Array Value} {k : Nat} {nw₀ : Ldg} (hh : A.handled = none) (hx : env.kindOf x = some .local)
    (hp : (env.scope.kind == .class || (env.scope.kind == .module && env.locals != env.globals)) = false)
    (F : Fr h₀ env.locals s.heap m) (N : News h₀ env.locals s.heap nw₀) (hl : (l, tupOf items k) ∈ nw₀) (T : List Addr) (hT : ∀ a ∈ T, ∃ o, (a, o) ∈ nw₀) (hlT : l ∉ T)
    (J : Nat → (Str → Option Value) → Ldg → Prop) (stab : ∀ i m nw nw', J i m nw → (∀ q ∈ nw, isIt q.2 = false → q ∈ nw') → J i m nw') (h0 : J 0 m nw₀)
    (turn : ∀ i v m₁ nw₁ h tk, items[i]? = some v → J i m₁ nw₁ → Kp T nw₀ nw₁ → Fr h₀ env.locals h (fun y => if y = x then some v else m₁ y) → News h₀ env.locals h nw₁ →
      wpAny (model Challenge.rw_au0003_01.row.prog w) A (execs body env) (TurnEnd h₀ env.locals T nw₁ (J (i + 1)) { s with heap := h, toks := tk } Q) NE { s with heap := h, toks := tk })
    (done : ∀ m₁ nw₁ h tk, J items.size m₁ nw₁ → Kp T nw₀ nw₁ → Fr h₀ env.locals h m₁ → News h₀ env.locals h nw₁ → Q .next { s with heap := h, toks := tk }) :
    ForK Challenge.rw_au0003_01.row.prog w A env x px body Q (.ref l) s := by
  have hL : s.heap.IsTuple l items := ⟨_, (N _ hl).1, rfl, k, rfl⟩
  have hlt : l < s.heap.objs.size := Heap.lt_size (N _ hl).1
  refine wpAny_pyIter_tuple hL ?_
  refine forLoop_W (nw₀ := nw₀) (oI := { cls := .type "tuple_iterator", data := .fields #[.ref l, .int 0 0] }) (Walks.tuple hh s.heap.objs.size l (Nat.ne_of_lt hlt) items) (fun i h st => ?_) hx hp
    ⟨⟨_, Heap.get?_push_size _ rfl, rfl, rfl⟩, hL.at fun o e => Heap.get?_push_of_some _ e⟩ (F.push _) (N.push F _) rfl (fun p hp => Heap.lt_size (N p hp).1) hT (fun b hb hne => ?_) J stab h0 (fun i v m₁ nw₁ h tk _ hP => turn i v m₁ nw₁ h tk hP) done
  · refine hide fun Gx hGx => ?_
    obtain ⟨o, ho, hc, _⟩ := st.1
    refine hGx ?_
    exact ⟨o, ho, by unfold isIt; rw [hc]; rfl⟩
  · have : b = l := by simpa [hne] using hb
    subst this
    exact ⟨hlT, _, hl⟩

theorem forK_dict {x : Str} {px : Pos} {body : List Stmt} {Q : Flow → Shared → Prop} {d : Addr} {kvs : List (Str × Value)} {nw₀ : Ldg} (hh : A.handled = none) (hx : env.kindOf x = some .local)
    (hp : (env.scope.kind == .class || (env.scope.kind == .module && env.locals != env.globals)) = false)
    (F : Fr h₀ env.locals s.heap m) (N : News h₀ env.locals s.heap nw₀) (hl : DictIn w nw₀ d kvs) (T : List Addr) (hT : ∀ a ∈ T, ∃ o, (a, o) ∈ nw₀) (hlT : d ∉ T)
    (J : Nat → (Str → Option Value) → Ldg → Prop) (stab : ∀ i m nw nw', J i m nw → (∀ q ∈ nw, isIt q.2 = false → q ∈ nw') → J i m nw') (h0 : J 0 m nw₀)
    (turn : ∀ i k t x' m₁ nw₁ h tk, kvs[i]? = some (k, x') → J i m₁ nw₁ → Kp T nw₀ nw₁ → Fr h₀ env.locals h (fun y => if y = x then some (.str k t) else m₁ y) → News h₀ env.locals h nw₁ →
      wpAny (model Challenge.rw_au0003_01.row.prog w) A (execs body env) (TurnEnd h₀ env.locals T nw₁ (J (i + 1)) { s with heap := h, toks := tk } Q) NE { s with heap := h, toks := tk })
    (done : ∀ m₁ nw₁ h tk, J kvs.length m₁ nw₁ → Kp T nw₀ nw₁ → Fr h₀ env.locals h m₁ → News h₀ env.locals h nw₁ → Q .next { s with heap := h, toks := tk }) :
    ForK Challenge.rw_au0003_01.row.prog w A env x px body Q (.ref d) s := by
  have hD := hl.dictOf N
  refine hide fun Gx hGx => ?_
  obtain ⟨od, hd, _, hds⟩ := id hl
  obtain ⟨ep, hA⟩ := hD.dictAt
  refine hGx ?_
  have hlt : d < s.heap.objs.size := Heap.lt_size (N _ hd).1
  refine wpAny_pyIter_dict hds hA ?_
  refine forLoop_W (nw₀ := nw₀) (oI := { cls := .type "dict_keyiterator", data := .fields #[.ref d, .int 0 0, .int kvs.length 0, .int ep 0] }) (Walks.dictKeys hh s.heap.objs.size d (Nat.ne_of_lt hlt) kvs ep) (fun i h st => ?_) hx hp
    ⟨⟨_, Heap.get?_push_size _ rfl, rfl, rfl⟩, hA.push _⟩ (F.push _) (N.push F _) rfl (fun p hp => Heap.lt_size (N p hp).1) hT (fun b hb hne => ?_) J stab h0 (fun i v m₁ nw₁ h tk _ hP => ?_) done
  · refine hide fun Gx hGx => ?_
    obtain ⟨o, ho, hc, _⟩ := st.1
    refine hGx ?_
    exact ⟨o, ho, by unfold isIt; rw [hc]; rfl⟩
  · have : b = d := by simpa [hne] using hb
    subst this
    exact ⟨hlT, _, hd⟩
  · refine hide fun Gx hGx => ?_
    obtain ⟨k, x', hk, hv⟩ := hP
    obtain ⟨t, rfl⟩ := Value.isStrOf_shape hv
    refine hGx ?_
    exact turn i k t x' m₁ nw₁ h tk hk

inductive WEnd (h₀ : Heap) (L : Addr) (J : Nat → (Str → Option Value) → Ldg → Prop) (n : Nat) (s s' : Shared) : Prop
  | mk (h' : Heap) (tk' : Nat) (m' : Str → Option Value) (nw' : Ldg) (n' : Nat) (f0 : n' < n) (f1 : s' = { s with heap := h', toks := tk' }) (f2 : Fr h₀ L h' m') (f3 : News h₀ L h' nw') (f4 : J n' m' nw')
theorem While_V {test : Expr} {body : List Stmt} {pos : Pos} {Q : Flow → Shared → Prop} {E : Value → Shared → Prop} {nw₀ : Ldg} (F : Fr h₀ env.locals s.heap m) (N : News h₀ env.locals s.heap nw₀)
    (J : Nat → (Str → Option Value) → Ldg → Prop) (n₀ : Nat) (h0 : J n₀ m nw₀)
    (turn : ∀ n m₁ nw₁ h tk, J n m₁ nw₁ → Fr h₀ env.locals h m₁ → News h₀ env.locals h nw₁ →
      wpAny (model Challenge.rw_au0003_01.row.prog w) A (isTrue test env (eval test env)) (fun b s₂ =>
        if b then wpAny (model Challenge.rw_au0003_01.row.prog w) A (execs body env) (fun f s₃ => match f with
          | .ret v => Q (.ret v) s₃
          | .brk => Q .next s₃
          | _ => WEnd h₀ env.locals J n s s₃) NE s₂
        else Q .next s₂) NE { s with heap := h, toks := tk }) :
    wpAny (model Challenge.rw_au0003_01.row.prog w) A (exec (.While test body [] pos) env) Q E s := by
  refine wpAny_mono (E := NE) (Q := Q) ?_ (fun _ _ x => x) (fun _ _ x => x.elim)
  refine wpAny_While (codeAny_whileLoop (fun n s' => ∃ h tk m₁ nw₁, s' = { s with heap := h, toks := tk } ∧ Fr h₀ env.locals h m₁ ∧ News h₀ env.locals h nw₁ ∧ J n m₁ nw₁) ?_ n₀ ⟨s.heap, s.toks, m, nw₀, rfl, F, N, h0⟩)
  rintro n s' ⟨h, tk, m₁, nw₁, rfl, F₁, N₁, J₁⟩
  refine wpAny_mono (turn n m₁ nw₁ h tk J₁ F₁ N₁) (fun b s₂ hb => ?_) fun _ _ e => e.elim
  cases b with
  | false =>
    simp only [Bool.false_eq_true, if_false] at hb ⊢
    exact wpAny_execs_nil hb
  | true =>
    simp only [if_true] at hb ⊢
    refine wpAny_mono hb (fun f s₃ hf => ?_) fun _ _ e => e.elim
    cases f with
    | ret v => exact hf
    | brk => exact hf
    | next => obtain ⟨h', tk', m', nw', n', hn, e, r1, r2, r3⟩ := hf; exact ⟨n', hn, h', tk', m', nw', e, r1, r2, r3⟩
    | cont => obtain ⟨h', tk', m', nw', n', hn, e, r1, r2, r3⟩ := hf; exact ⟨n', hn, h', tk', m', nw', e, r1, r2, r3⟩
end
end Mine
namespace Mine
open LCg (NsObj ns_obj lst lst_snoc)

section
variable {prog : Program} {w : World} {A : Around} {s : Shared} {env : Env} {h₀ : Heap} {m : Str → Option Value}

inductive CEnd (h₀ : Heap) (L : Addr) (m : Str → Option Value) (nw₁ nj : Ldg) (Jn : Ldg → Prop) (s s' : Shared) : Prop
  | mk (h' : _) (tk' : _) (nw' : _) (added : _) (f1 : s' = { s with heap := h', toks := tk' }) (f2 : Fr h₀ L h' m) (f3 : News h₀ L h' nw') (f4 : (∀ q ∈ nw₁, q ∈ nw')) (f5 : (∀ q ∈ added, q ∈ nw' ∧ ∀ p ∈ nw₁, p.1 < q.1)) (f6 : Jn (added ++ nj))

noncomputable def tests (ifs : List Expr) (cenv : Env) : Sem Bool := forIn ifs true fun c r => if r = true then do let ok ← isTrue c cenv (eval c cenv); pure (ForInStep.yield ok) else pure (ForInStep.yield r)

def CTurn (prog : Program) (w : World) (A : Around) (h₀ : Heap) (L : Addr) (m : Str → Option Value) (cenv : Env) (ifs : List Expr) (elt : Expr) (nw₁ nj : Ldg) (J : Nat → List Value → Ldg → Prop) (i : Nat) (ys : List Value) (s : Shared) : Prop :=
  wpAny (model prog w) A (tests ifs cenv) (fun ok s₃ => if ok = true then wpAny (model prog w) A (eval elt cenv) (fun y s₄ => CEnd h₀ L m nw₁ nj (J (i + 1) (ys ++ [y])) s s₄) NE s₃ else CEnd h₀ L m nw₁ nj (J (i + 1) ys) s s₃) NE s

/-- the comprehension's own invariant -/
inductive CLi (h₀ : Heap) (L : Addr) (m : Str → Option Value) (St : Nat → Heap → Prop) (J : Nat → List Value → Ldg → Prop) (nw₀ : Ldg) (I C D : Addr) (n : Nat) (s : Shared) (k : Nat) (s' : Shared) : Prop
  | mk (h' : Heap) (tk i : Nat) (ys : List Value) (m' : Str → Option Value) (nj : Ldg) (f1 : s' = { s with heap := h', toks := tk }) (f2 : i ≤ n) (f3 : k = n + 1 - i) (f4 : ys.length ≤ i) (f5 : St i h') (f6 : Fr h₀ L h' m) (f7 : h'.Ns C m') (f8 : News h₀ L h' ((D, lst ys) :: nj))
      (f9 : ∀ p ∈ nj, p.1 ≠ I ∧ p.1 ≠ C ∧ p.1 ≠ D) (f10 : ∀ q ∈ nw₀, q ∈ nj) (f11 : J i ys nj)
inductive CLe (h₀ : Heap) (L : Addr) (m m' : Str → Option Value) (St : Nat → Heap → Prop) (Jn : Ldg → Prop) (nw₀ : Ldg) (I C D : Addr) (i : Nat) (ys : List Value) (s s' : Shared) : Prop
  | mk (h₄ : Heap) (tk₄ : Nat) (nj' : Ldg) (f1 : s' = { s with heap := h₄, toks := tk₄ }) (f2 : St i h₄) (f3 : Fr h₀ L h₄ m) (f4 : h₄.Ns C m') (f5 : News h₀ L h₄ ((D, lst ys) :: nj')) (f6 : ∀ p ∈ nj', p.1 ≠ I ∧ p.1 ≠ C ∧ p.1 ≠ D) (f7 : ∀ q ∈ nw₀, q ∈ nj') (f8 : Jn nj')

theorem comp_block {L : Addr} {elt iter : Expr} {x : Str} {px : Pos} {ifs : List Expr} {scope : Scope} {cl : List (Str × Addr)} {pos : Pos} {I : Addr} {fp : List Addr} {n : Nat} {P : Nat → Value → Prop} {St : Nat → Heap → Prop} {nw₀ : Ldg} {oI : Obj}
    {RR : Value → Addr → Result → Shared → Prop}
    (W : Walks prog w A I fp [I] n P St) (hsz : n ≤ sizeLine) (hIo : ∀ i h, St i h → ∃ o, h.get? I = some o)
    (hcell : ∀ y ∈ scope.names, y.2 ≠ .cell) (hkind : scope.kind = .function) (hx : scope.names.lookup x = some .local)
    (hst : St 0 s.heap) (F : Fr h₀ L s.heap m) (N : News h₀ L s.heap ((I, oI) :: nw₀)) (hlt : ∀ p ∈ nw₀, p.1 < I) (hfp : ∀ b ∈ fp, b ≠ I → ∃ o, (b, o) ∈ nw₀)
    (J : Nat → List Value → Ldg → Prop) (h0 : J 0 [] nw₀)
    (turn : ∀ i v ys nj nw₁ C oC m₂ h tk, i < n → P i v → J i ys nj → (∀ q ∈ nw₀, q ∈ nj) → (∀ q ∈ nj, q ∈ nw₁) → (C, oC) ∈ nw₁ → NsObj oC m₂ → m₂ x = some v → Fr h₀ L h m → News h₀ L h nw₁ → L < C →
      CTurn prog w A h₀ L m (compEnvC scope cl C env) ifs elt nw₁ nj J i ys { s with heap := h, toks := tk })
    (hRR : ∀ D C h tk m' ys nj, J n ys nj → (∀ q ∈ nw₀, q ∈ nj) → Fr h₀ L h m → News h₀ L h ((D, lst ys) :: nj) → h.Ns C m' → h₀.get? C = none → C ≠ L → C ≠ D → (∀ p ∈ nj, p.1 ≠ C) → (∀ p ∈ nw₀, p.1 < D) →
      RR (.ref D) C (.ok .next) { s with heap := h, toks := tk }) :
    wpAny (model prog w) A (newList []) (fun acc s₃ => wpAny (model prog w) A (newFunctionEnv scope env.globals cl [] env.qual none .none (some env)) (fun cenv s₄ =>
      codeAny (model prog w) A (.compStart (.ListComp elt [⟨.Name x px, iter, ifs, 0⟩] scope pos) 0 (.ref I) acc { cenv with scope := relabel scope env }) (RR acc cenv.locals) s₄) NE s₃) NE s := by
  refine wpAny_newObj_type (wpAny_newFunctionEnv hcell (by intro y hy; simp at hy) (fun h₁ hns₁ hsb₁ => ?_) hkind)
  dsimp only at hns₁ hsb₁ ⊢
  generalize hH2 : s.heap.push { cls := .type "list", dict := none, data := .seq ([] : List Value).toArray } = H2 at hns₁ hsb₁ ⊢
  have hC : H2.objs.size = s.heap.objs.size + 1 := by rw [← hH2, Heap.size_push]
  have hDC : s.heap.objs.size ≠ H2.objs.size := by rw [hC]; exact Nat.ne_of_lt (Nat.lt_succ_self _)
  have below : ∀ b, b < s.heap.objs.size → b ≠ H2.objs.size ∧ b ≠ s.heap.objs.size := fun b hb => ⟨by rw [hC]; exact Nat.ne_of_lt (Nat.lt_succ_of_lt hb), Nat.ne_of_lt hb⟩
  have hI := N (I, oI) (.head _)
  have hIlt : I < s.heap.objs.size := Heap.lt_size hI.1
  have hfplt : ∀ b ∈ fp, b < s.heap.objs.size := fun b hb => by
    by_cases hbI : b = I
    · rw [hbI]; exact hIlt
    · obtain ⟨o, ho⟩ := hfp b hb hbI; exact Heap.lt_size (N _ (.tail _ ho)).1
  have hDf : s.heap.objs.size ∉ fp := fun hm => Nat.lt_irrefl _ (hfplt _ hm)
  have hCf : H2.objs.size ∉ fp := fun hm => by have := hfplt _ hm; rw [hC] at this; exact Nat.lt_irrefl _ (Nat.lt_of_succ_lt this)
  have old : ∀ b o, s.heap.get? b = some o → h₁.get? b = some o := fun b o e => hsb₁.extBut b o (below b (Heap.lt_size e)).1 (Heap.get?_push_of_some _ (hH2 ▸ Heap.get?_push_of_some _ e))
  have hacc : h₁.get? s.heap.objs.size = some (lst []) := hsb₁.extBut _ _ hDC (Heap.get?_push_of_some _ (hH2 ▸ Heap.get?_push_size _ rfl))
  have hst₁ : St 0 h₁ := W.frame _ _ _ hst fun b _ o e => old b o e
  have fresh : ∀ a, s.heap.objs.size ≤ a → s.heap.get? a = none := fun a ha => by
    cases e : s.heap.get? a with
    | none => rfl
    | some o' => exact absurd (Heap.lt_size e) (Nat.not_lt.mpr ha)
  have fresh₀ : ∀ a, s.heap.objs.size ≤ a → h₀.get? a = none := fun a ha => by
    cases e : h₀.get? a with
    | none => rfl
    | some o' => have := F.keep a o' e; rw [fresh a ha] at this; cases this
  have hD₀ : h₀.get? s.heap.objs.size = none := fresh₀ _ (Nat.le_refl _)
  have hC₀ : h₀.get? H2.objs.size = none := fresh₀ _ (by rw [hC]; exact Nat.le_succ _)
  have hLlt : L < s.heap.objs.size := F.ns.lt
  have hDL : s.heap.objs.size ≠ L := Ne.symm (below _ hLlt).2
  have hCL : H2.objs.size ≠ L := Ne.symm (below _ hLlt).1
  have hCI : I ≠ H2.objs.size := (below I hIlt).1
  have hDI : I ≠ s.heap.objs.size := (below I hIlt).2
  have hIL : I ≠ L := hI.2.1
  have hI₀ : h₀.get? I = none := hI.2.2
  have loop : ∀ s₃ : Shared, s₃ = { s with heap := h₁, toks := s.toks + ([] : List (Str × Value)).length } →
      codeAny (model prog w) A (.compLoop (.ListComp elt [⟨.Name x px, iter, ifs, 0⟩] scope pos) 0 (.ref I) (.ref s.heap.objs.size) (compEnvC scope cl H2.objs.size env))
        (RR (.ref s.heap.objs.size) H2.objs.size) s₃ := by
    rintro s₃ rfl
    refine codeAny_compLoop_tests
      (CLi h₀ L m St J nw₀ I H2.objs.size s.heap.objs.size n s) ?_ (n + 1)
      ⟨h₁, _, 0, [], _, nw₀, rfl, Nat.zero_le _, rfl, Nat.le_refl _, hst₁, F.keeps old, hns₁, fun p hp => ?_, fun p hp => ⟨Nat.ne_of_lt (hlt p hp), (below _ (Nat.lt_trans (hlt p hp) hIlt)).1, (below _ (Nat.lt_trans (hlt p hp) hIlt)).2⟩, fun _ h => h, h0⟩
    · rintro k s' ⟨h', tk, i, ys, m', nj, rfl, hi, rfl, hyl, hst', F', hn', N', off', hs', hJ⟩
      by_cases hlt' : i < n
      · refine W.item i _ _ _ hlt' hst' fun v h₂ tk₂ hPv hst₂ hk₂ => ?_
        refine wpAny_assign_Name (wpAny_storeName_local (lookup_relabel_local hx) (hn'.at' fun o e => hk₂ _ o (by simpa using Ne.symm hCI) e) (fun h₃ hn₃ hs₃ => ?_) (by simp [compEnvC, relabel, hkind]))
        have hst₃ : St (i + 1) h₃ := W.frame _ _ _ hst₂ fun b hb o e => hs₃.extBut b o (fun q => hCf (by have q' : b = H2.objs.size := q; rw [← q']; exact hb)) e
        refine hide fun Gx hGx => ?_
        obtain ⟨oI₃, heI⟩ := hIo _ _ hst₃
        obtain ⟨oC, heC, hoC⟩ := ns_obj hn₃
        refine hGx ?_
        have F₃ : Fr h₀ L h₃ m := (LCg.fr_but F' hk₂ (Ne.symm hIL) hI₀).change hs₃ hCL hC₀
        have N₂ : News h₀ L h₂ ((s.heap.objs.size, lst ys) :: nj) := LCg.news_but N' hk₂ fun p hp => by
          rcases List.mem_cons.mp hp with rfl | hp
          · exact Ne.symm hDI
          · exact (off' p hp).1
        have N₃ : News h₀ L h₃ ((I, oI₃) :: (H2.objs.size, oC) :: (s.heap.objs.size, lst ys) :: nj) := fun p hp => by
          rcases List.mem_cons.mp hp with rfl | hp
          · exact ⟨heI, hIL, hI₀⟩
          · rcases List.mem_cons.mp hp with rfl | hp
            · exact ⟨heC, hCL, hC₀⟩
            · have z := N₂ p hp
              refine ⟨hs₃.extBut _ _ ?_ z.1, z.2⟩
              rcases List.mem_cons.mp hp with rfl | hp
              · exact hDC
              · exact (off' p hp).2.1
        have after : ∀ {Jn : Ldg → Prop} {s₄ : Shared}, CEnd h₀ L m ((I, oI₃) :: (H2.objs.size, oC) :: (s.heap.objs.size, lst ys) :: nj) nj Jn { s with heap := h₃, toks := tk₂ + 1 } s₄ →
            CLe h₀ L m (fun y => if y = x then some v else m' y) St Jn nw₀ I H2.objs.size s.heap.objs.size (i + 1) ys s s₄ := by
          rintro Jn s₄ ⟨h₄, tk₄, nw₄, added, rfl, F₄, N₄, sub₄, add₄, hJ₄⟩
          have zC := (N₄ _ (sub₄ _ (List.mem_cons_of_mem _ List.mem_cons_self))).1
          refine ⟨h₄, tk₄, added ++ nj, rfl, ?_, F₄, hoC.ns zC, fun p hp => ?_, fun p hp => ?_, fun q hq => List.mem_append_right _ (hs' q hq), hJ₄⟩
          · refine W.frame _ _ _ hst₃ fun b hb o e => ?_
            by_cases hbI : b = I
            · subst hbI
              have : oI₃ = o := Option.some.inj (heI.symm.trans e)
              rw [← this]; exact (N₄ _ (sub₄ _ List.mem_cons_self)).1
            · obtain ⟨o', ho'⟩ := hfp b hb hbI
              have z : (b, o') ∈ nj := hs' _ ho'
              have z' := (N₃ (b, o') (.tail _ (.tail _ (.tail _ z)))).1
              have : o' = o := Option.some.inj (z'.symm.trans e)
              rw [← this]; exact (N₄ _ (sub₄ _ (.tail _ (.tail _ (.tail _ z))))).1
          · rcases List.mem_cons.mp hp with rfl | hp
            · exact N₄ _ (sub₄ _ (.tail _ (.tail _ (.head _))))
            · rcases List.mem_append.mp hp with hp | hp
              · exact N₄ _ (add₄ p hp).1
              · exact N₄ _ (sub₄ _ (.tail _ (.tail _ (.tail _ hp))))
          · rcases List.mem_append.mp hp with hp | hp
            · have z := (add₄ p hp).2
              exact ⟨Nat.ne_of_gt (z _ (.head _)), Nat.ne_of_gt (z _ (.tail _ (.head _))), Nat.ne_of_gt (z _ (.tail _ (.tail _ (.head _))))⟩
            · exact off' p hp
        refine wpAny_mono (turn i v ys nj _ H2.objs.size oC _ h₃ _ hlt' hPv hJ hs' (fun q hq => .tail _ (.tail _ (.tail _ hq))) (.tail _ (.head _)) hoC (by simp) F₃ N₃ (by rw [hC]; exact Nat.lt_succ_of_lt hLlt)) (fun ok s₃ hok => ?_) fun _ _ e => e.elim
        cases ok with
        | false =>
          simp only [Bool.false_eq_true, if_false] at hok ⊢
          refine hide fun Gx hGx => ?_
          obtain ⟨h₄, tk₄, nj', rfl, st₄, F₄, n₄, N₄, off₄, hs₄, J₄⟩ := after hok
          refine hGx ?_
          exact ⟨n + 1 - (i + 1), Nat.sub_lt_sub_left (Nat.lt_succ_of_lt hlt') (Nat.lt_succ_self i), h₄, tk₄, i + 1, ys, _, nj', rfl, hlt', rfl, Nat.le_succ_of_le hyl, st₄, F₄, n₄, N₄, off₄, hs₄, J₄⟩
        | true =>
          simp only [if_true] at hok ⊢
          refine wpAny_mono hok (fun y s₄ hy => ?_) fun _ _ e => e.elim
          refine hide fun Gx hGx => ?_
          obtain ⟨h₄, tk₄, nj', rfl, st₄, F₄, n₄, N₄, off₄, hs₄, J₄⟩ := after hy
          refine hGx ?_
          have zD := (N₄ _ (.head _)).1
          refine append_at (hsz := by show ys.toArray.size ≤ sizeLine; rw [List.size_toArray]; exact Nat.le_trans hyl (Nat.le_trans hi hsz)) zD fun h₅ hs₅ hD₅ => ?_
          refine ⟨n + 1 - (i + 1), Nat.sub_lt_sub_left (Nat.lt_succ_of_lt hlt') (Nat.lt_succ_self i), h₅, tk₄, i + 1, ys ++ [y], _, nj', rfl, hlt', rfl, by rw [List.length_append, List.length_singleton]; exact Nat.succ_le_succ hyl,
            W.frame _ _ _ st₄ fun b hb o e => hs₅.extBut b o (fun q => hDf (q ▸ hb)) e, F₄.change hs₅ hDL hD₀, n₄.sameBut hs₅ (Ne.symm hDC), fun p hp => ?_, off₄, hs₄, J₄⟩
          rcases List.mem_cons.mp hp with rfl | hp
          · exact ⟨hD₅.trans (congrArg some (lst_snoc ys y)), hDL, hD₀⟩
          · exact ⟨hs₅.extBut _ _ (off₄ p hp).2.2 (N₄ p (.tail _ hp)).1, (N₄ p (.tail _ hp)).2⟩
      · refine hide fun Gx hGx => ?_
        obtain rfl : i = n := Nat.le_antisymm hi (Nat.not_lt.mp hlt')
        refine hGx ?_
        refine W.done _ _ _ hst' fun h₂ tk₂ hk₂ => ?_
        exact hRR _ _ h₂ tk₂ _ ys nj hJ hs' (LCg.fr_but F' hk₂ (Ne.symm hIL) hI₀) (LCg.news_but N' hk₂ fun p hp => by
          rcases List.mem_cons.mp hp with rfl | hp
          · exact Ne.symm hDI
          · exact (off' p hp).1) (hn'.at' fun o e => hk₂ _ o (by simpa using Ne.symm hCI) e) hC₀ hCL (Ne.symm hDC) (fun p hp => (off' p hp).2.1) (fun p hp => Nat.lt_trans (hlt p hp) hIlt)
    · rcases List.mem_cons.mp hp with rfl | hp
      · exact ⟨hacc, hDL, hD₀⟩
      · exact ⟨old _ _ (N p (.tail _ hp)).1, (N p (.tail _ hp)).2⟩
  exact codeAny_compStart_list (loop _ rfl) (W.self 0 _ _ _ hst₁ (loop _ rfl))

def CompE (prog : Program) (w : World) (A : Around) (env : Env) (elt : Expr) (x : Str) (px : Pos) (iter : Expr) (ifs : List Expr) (scope : Scope) (cl : List (Str × Addr)) (pos : Pos) (Q : Value → Shared → Prop) (xv : Value) (s₁ : Shared) : Prop :=
  wpAny (model prog w) A (pyIter xv) (fun it s₂ => wpAny (model prog w) A (newList []) (fun acc s₃ => wpAny (model prog w) A (newFunctionEnv scope env.globals cl [] env.qual none .none (some env)) (fun cenv s₄ =>
    codeAny (model prog w) A (.compStart (.ListComp elt [⟨.Name x px, iter, ifs, 0⟩] scope pos) 0 it acc { cenv with scope := relabel scope env }) (compPost (model prog w) A NE none Q acc cenv.locals) s₄) NE s₃) NE s₂) NE s₁

theorem ListComp_open {elt iter : Expr} {x : Str} {px : Pos} {ifs : List Expr} {scope : Scope} {cl : List (Str × Addr)} {pos : Pos} {Q : Value → Shared → Prop} {E : Value → Shared → Prop}
    (hclos : closureFor scope env = pure cl) (hkind : scope.kind = .function) (hnames : ∀ y ∈ scope.names, y.2 = .local → scope.names.lookup y.1 = some .local)
    (h : wpAny (model prog w) A (eval iter env) (CompE prog w A env elt x px iter ifs scope cl pos Q) NE s)
    (hs : ∀ x, foldedSetIterable iter env x = pure x) :
    wpAny (model prog w) A (eval (.ListComp elt [⟨.Name x px, iter, ifs, 0⟩] scope pos) env) Q E s := by
  refine wpAny_mono (E := NE) (Q := Q) ?_ (fun _ _ x => x) (fun _ _ x => x.elim)
  rw [eval_ListComp]
  exact wpAny_comprehension_free (use := none) rfl hs hclos hkind hnames h

/-- «x = [.. for ..]» upon a local name -/
def CompA (prog : Program) (w : World) (A : Around) (env : Env) (y : Str) (py : Pos) (elt : Expr) (x : Str) (px : Pos) (iter : Expr) (ifs : List Expr) (scope : Scope) (cl : List (Str × Addr)) (pos : Pos) (Q : Flow → Shared → Prop) (xv : Value) (s₁ : Shared) : Prop :=
  wpAny (model prog w) A (pyIter xv) (fun it s₂ => wpAny (model prog w) A (newList []) (fun acc s₃ => wpAny (model prog w) A (newFunctionEnv scope env.globals cl [] env.qual none .none (some env)) (fun cenv s₄ =>
    codeAny (model prog w) A (.compStart (.ListComp elt [⟨.Name x px, iter, ifs, 0⟩] scope pos) 0 it acc { cenv with scope := relabel scope env }) (compPost (model prog w) A NE (some (assign (.Name y py) env)) (fun _ s' => Q .next s') acc cenv.locals) s₄) NE s₃) NE s₂) NE s₁

theorem Assign_ListComp_open {elt iter : Expr} {x y : Str} {px py : Pos} {ifs : List Expr} {scope : Scope} {cl : List (Str × Addr)} {pos spos : Pos} {Q : Flow → Shared → Prop} {E : Value → Shared → Prop}
    (hsw : swapsWith (.ListComp elt [⟨.Name x px, iter, ifs, 0⟩] scope pos) (some (.Name y py)) spos.line env = pure true)
    (hclos : closureFor scope env = pure cl) (hkind : scope.kind = .function) (hnames : ∀ y ∈ scope.names, y.2 = .local → scope.names.lookup y.1 = some .local)
    (h : wpAny (model prog w) A (eval iter env) (CompA prog w A env y py elt x px iter ifs scope cl pos Q) NE s)
    (hs : ∀ x, foldedSetIterable iter env x = pure x) :
    wpAny (model prog w) A (exec (.Assign [.Name y py] (.ListComp elt [⟨.Name x px, iter, ifs, 0⟩] scope pos) spos) env) Q E s := by
  refine wpAny_mono (E := NE) (Q := Q) ?_ (fun _ _ x => x) (fun _ _ x => x.elim)
  rw [exec_Assign_Name_used _ _ _ _ hsw]
  refine wpAny_bind (wpAny_standAt (wpAny_bind ?_))
  show wpAny _ A (do let _ ← comprehension (.ListComp elt [⟨.Name x px, iter, ifs, 0⟩] scope pos) scope env _ (newList []) false (eval iter env) (some (assign (.Name y py) env))) _ _ s
  exact wpAny_bind (wpAny_mono (wpAny_comprehension_free (use := some (assign (.Name y py) env)) (Q := fun _ s' => Q .next s') rfl hs hclos hkind hnames h) (fun _ s' hq => wpAny_pure (wpAny_pure hq)) fun _ _ e => e)

theorem compE_W {L : Addr} {elt iter : Expr} {x : Str} {px : Pos} {ifs : List Expr} {scope : Scope} {cl : List (Str × Addr)} {pos : Pos} {I : Addr} {fp : List Addr} {n : Nat} {P : Nat → Value → Prop} {St : Nat → Heap → Prop} {nw₀ : Ldg} {oI : Obj} {Q : Value → Shared → Prop}
    (W : Walks prog w A I fp [I] n P St) (hsz : n ≤ sizeLine) (hIo : ∀ i h, St i h → ∃ o, h.get? I = some o)
    (hcell : ∀ y ∈ scope.names, y.2 ≠ .cell) (hkind : scope.kind = .function) (hx : scope.names.lookup x = some .local)
    (hst : St 0 s.heap) (F : Fr h₀ L s.heap m) (N : News h₀ L s.heap ((I, oI) :: nw₀)) (hlt : ∀ p ∈ nw₀, p.1 < I) (hfp : ∀ b ∈ fp, b ≠ I → ∃ o, (b, o) ∈ nw₀)
    (J : Nat → List Value → Ldg → Prop) (h0 : J 0 [] nw₀)
    (turn : ∀ i v ys nj nw₁ C oC m₂ h tk, i < n → P i v → J i ys nj → (∀ q ∈ nw₀, q ∈ nj) → (∀ q ∈ nj, q ∈ nw₁) → (C, oC) ∈ nw₁ → NsObj oC m₂ → m₂ x = some v → Fr h₀ L h m → News h₀ L h nw₁ → L < C →
      CTurn prog w A h₀ L m (compEnvC scope cl C env) ifs elt nw₁ nj J i ys { s with heap := h, toks := tk })
    (done : ∀ D h tk ys nj, J n ys nj → (∀ q ∈ nw₀, q ∈ nj) → Fr h₀ L h m → News h₀ L h ((D, lst ys) :: nj) → (∀ p ∈ nw₀, p.1 < D) → Q (.ref D) { s with heap := h, toks := tk }) :
    wpAny (model prog w) A (newList []) (fun acc s₃ => wpAny (model prog w) A (newFunctionEnv scope env.globals cl [] env.qual none .none (some env)) (fun cenv s₄ =>
      codeAny (model prog w) A (.compStart (.ListComp elt [⟨.Name x px, iter, ifs, 0⟩] scope pos) 0 (.ref I) acc { cenv with scope := relabel scope env }) (compPost (model prog w) A NE none Q acc cenv.locals) s₄) NE s₃) NE s := by
  refine comp_block (RR := fun acc C => compPost (model prog w) A NE none Q acc C) W hsz hIo hcell hkind hx hst F N hlt hfp J h0 turn ?_
  intro D C h tk m' ys nj hJ hs' F' N' hn hC₀ hCL hCD offC hD
  refine ⟨m', hn, fun h'' hs'' => done D h'' tk ys nj hJ hs' (F'.change hs'' hCL hC₀) (fun p hp => ?_) hD⟩
  refine ⟨hs''.extBut _ _ ?_ (N' p hp).1, (N' p hp).2⟩
  rcases List.mem_cons.mp hp with rfl | hp
  · exact Ne.symm hCD
  · exact offC p hp

theorem compA_W {y : Str} {py : Pos} {elt iter : Expr} {x : Str} {px : Pos} {ifs : List Expr} {scope : Scope} {cl : List (Str × Addr)} {pos : Pos} {I : Addr} {fp : List Addr} {n : Nat} {P : Nat → Value → Prop} {St : Nat → Heap → Prop} {nw₀ : Ldg} {oI : Obj} {Q : Flow → Shared → Prop}
    (hy : env.kindOf y = some .local) (hp : (env.scope.kind == .class || (env.scope.kind == .module && env.locals != env.globals)) = false)
    (W : Walks prog w A I fp [I] n P St) (hsz : n ≤ sizeLine) (hIo : ∀ i h, St i h → ∃ o, h.get? I = some o)
    (hcell : ∀ y ∈ scope.names, y.2 ≠ .cell) (hkind : scope.kind = .function) (hx : scope.names.lookup x = some .local)
    (hst : St 0 s.heap) (F : Fr h₀ env.locals s.heap m) (N : News h₀ env.locals s.heap ((I, oI) :: nw₀)) (hlt : ∀ p ∈ nw₀, p.1 < I) (hfp : ∀ b ∈ fp, b ≠ I → ∃ o, (b, o) ∈ nw₀)
    (J : Nat → List Value → Ldg → Prop) (h0 : J 0 [] nw₀)
    (turn : ∀ i v ys nj nw₁ C oC m₂ h tk, i < n → P i v → J i ys nj → (∀ q ∈ nw₀, q ∈ nj) → (∀ q ∈ nj, q ∈ nw₁) → (C, oC) ∈ nw₁ → NsObj oC m₂ → m₂ x = some v → Fr h₀ env.locals h m → News h₀ env.locals h nw₁ → env.locals < C →
      CTurn prog w A h₀ env.locals m (compEnvC scope cl C env) ifs elt nw₁ nj J i ys { s with heap := h, toks := tk })
    (done : ∀ D h tk ys nj, J n ys nj → (∀ q ∈ nw₀, q ∈ nj) → Fr h₀ env.locals h (fun z => if z = y then some (.ref D) else m z) → News h₀ env.locals h ((D, lst ys) :: nj) → (∀ p ∈ nw₀, p.1 < D) → Q .next { s with heap := h, toks := tk }) :
    wpAny (model prog w) A (newList []) (fun acc s₃ => wpAny (model prog w) A (newFunctionEnv scope env.globals cl [] env.qual none .none (some env)) (fun cenv s₄ =>
      codeAny (model prog w) A (.compStart (.ListComp elt [⟨.Name x px, iter, ifs, 0⟩] scope pos) 0 (.ref I) acc { cenv with scope := relabel scope env }) (compPost (model prog w) A NE (some (assign (.Name y py) env)) (fun _ s' => Q .next s') acc cenv.locals) s₄) NE s₃) NE s := by
  refine comp_block (RR := fun acc C => compPost (model prog w) A NE (some (assign (.Name y py) env)) (fun _ s' => Q .next s') acc C) W hsz hIo hcell hkind hx hst F N hlt hfp J h0 turn ?_
  intro D C h tk m' ys nj hJ hs' F' N' hn hC₀ hCL hCD offC hD
  show wpAny _ A (assign (.Name y py) env (.ref D)) _ _ _
  refine wpAny_assign_Name (wpAny_storeName_local hy F'.ns (fun h₂ hn₂ hs₂ => ?_) hp)
  have F₂ := F'.set hn₂ hs₂
  refine ⟨m', hn.sameBut hs₂ hCL, fun h'' hs'' => done D h'' _ ys nj hJ hs' (F₂.change hs'' hCL hC₀) (fun p hp => ?_) hD⟩
  have z : h₂.get? p.1 = some p.2 := hs₂.extBut _ _ (N' p hp).2.1 (N' p hp).1
  refine ⟨hs''.extBut _ _ ?_ z, (N' p hp).2⟩
  rcases List.mem_cons.mp hp with rfl | hp
  · exact Ne.symm hCD
  · exact offC p hp
end

section
variable {w : World} {A : Around} {s : Shared} {env : Env} {h₀ : Heap} {m : Str → Option Value}
theorem compE_list {L : Addr} {elt iter : Expr} {x : Str} {px : Pos} {ifs : List Expr} {scope : Scope} {cl : List (Str × Addr)} {pos : Pos} {nw₀ : Ldg} {Q : Value → Shared → Prop} {l : Addr} {items : Array Value} {k : Nat} (hh : A.handled = none)
    (hcell : ∀ y ∈ scope.names, y.2 ≠ .cell) (hkind : scope.kind = .function) (hx : scope.names.lookup x = some .local)
    (F : Fr h₀ L s.heap m) (N : News h₀ L s.heap nw₀) (hl : (l, listOf items k) ∈ nw₀) (hsz : items.size ≤ sizeLine)
    (J : Nat → List Value → Ldg → Prop) (h0 : J 0 [] nw₀)
    (turn : ∀ i v ys nj nw₁ C oC m₂ h tk, items[i]? = some v → J i ys nj → (∀ q ∈ nw₀, q ∈ nj) → (∀ q ∈ nj, q ∈ nw₁) → (C, oC) ∈ nw₁ → NsObj oC m₂ → m₂ x = some v → Fr h₀ L h m → News h₀ L h nw₁ → L < C →
      CTurn Challenge.rw_au0003_01.row.prog w A h₀ L m (compEnvC scope cl C env) ifs elt nw₁ nj J i ys { s with heap := h, toks := tk })
    (done : ∀ D h tk ys nj, J items.size ys nj → (∀ q ∈ nw₀, q ∈ nj) → Fr h₀ L h m → News h₀ L h ((D, lst ys) :: nj) → (∀ p ∈ nw₀, p.1 < D) → Q (.ref D) { s with heap := h, toks := tk }) :
    CompE Challenge.rw_au0003_01.row.prog w A env elt x px iter ifs scope cl pos Q (.ref l) s := by
  have hL : s.heap.IsList l items := ⟨_, (N _ hl).1, rfl, k, rfl⟩
  have hlt : l < s.heap.objs.size := Heap.lt_size (N _ hl).1
  refine wpAny_pyIter_list hL ?_
  refine compE_W (s := { s with heap := s.heap.push { cls := .type "list_iterator", data := .fields #[.ref l, .int 0 0] } }) (nw₀ := nw₀) (oI := { cls := .type "list_iterator", data := .fields #[.ref l, .int 0 0] }) (Walks.list hh s.heap.objs.size l (Nat.ne_of_lt hlt) items) hsz
    (fun i h st => by obtain ⟨o, ho, _⟩ := st.1; exact ⟨o, ho⟩) hcell hkind hx ⟨⟨_, Heap.get?_push_size _ rfl, rfl, rfl⟩, hL.push _⟩ (F.push _) (N.push F _) (fun p hp => Heap.lt_size (N p hp).1) (fun b hb hne => ?_) J h0
    (fun i v ys nj nw₁ C oC m₂ h tk _ hP => turn i v ys nj nw₁ C oC m₂ h tk hP) (fun D h tk ys nj a b c d e => done D h tk ys nj a b c d e)
  have : b = l := by simpa [hne] using hb
  subst this
  exact ⟨_, hl⟩

theorem compA_list {y : Str} {py : Pos} {elt iter : Expr} {x : Str} {px : Pos} {ifs : List Expr} {scope : Scope} {cl : List (Str × Addr)} {pos : Pos} {nw₀ : Ldg} {Q : Flow → Shared → Prop} {l : Addr} {items : Array Value} {k : Nat} (hh : A.handled = none)
    (hy : env.kindOf y = some .local) (hp : (env.scope.kind == .class || (env.scope.kind == .module && env.locals != env.globals)) = false)
    (hcell : ∀ y ∈ scope.names, y.2 ≠ .cell) (hkind : scope.kind = .function) (hx : scope.names.lookup x = some .local)
    (F : Fr h₀ env.locals s.heap m) (N : News h₀ env.locals s.heap nw₀) (hl : (l, listOf items k) ∈ nw₀) (hsz : items.size ≤ sizeLine)
    (J : Nat → List Value → Ldg → Prop) (h0 : J 0 [] nw₀)
    (turn : ∀ i v ys nj nw₁ C oC m₂ h tk, items[i]? = some v → J i ys nj → (∀ q ∈ nw₀, q ∈ nj) → (∀ q ∈ nj, q ∈ nw₁) → (C, oC) ∈ nw₁ → NsObj oC m₂ → m₂ x = some v → Fr h₀ env.locals h m → News h₀ env.locals h nw₁ → env.locals < C →
      CTurn Challenge.rw_au0003_01.row.prog w A h₀ env.locals m (compEnvC scope cl C env) ifs elt nw₁ nj J i ys { s with heap := h, toks := tk })
    (done : ∀ D h tk ys nj, J items.size ys nj → (∀ q ∈ nw₀, q ∈ nj) → Fr h₀ env.locals h (fun z => if z = y then some (.ref D) else m z) → News h₀ env.locals h ((D, lst ys) :: nj) → (∀ p ∈ nw₀, p.1 < D) → Q .next { s with heap := h, toks := tk }) :
    CompA Challenge.rw_au0003_01.row.prog w A env y py elt x px iter ifs scope cl pos Q (.ref l) s := by
  have hL : s.heap.IsList l items := ⟨_, (N _ hl).1, rfl, k, rfl⟩
  have hlt : l < s.heap.objs.size := Heap.lt_size (N _ hl).1
  refine wpAny_pyIter_list hL ?_
  refine compA_W (s := { s with heap := s.heap.push { cls := .type "list_iterator", data := .fields #[.ref l, .int 0 0] } }) hy hp (nw₀ := nw₀) (oI := { cls := .type "list_iterator", data := .fields #[.ref l, .int 0 0] }) (Walks.list hh s.heap.objs.size l (Nat.ne_of_lt hlt) items) hsz
    (fun i h st => by obtain ⟨o, ho, _⟩ := st.1; exact ⟨o, ho⟩) hcell hkind hx ⟨⟨_, Heap.get?_push_size _ rfl, rfl, rfl⟩, hL.push _⟩ (F.push _) (N.push F _) (fun p hp => Heap.lt_size (N p hp).1) (fun b hb hne => ?_) J h0
    (fun i v ys nj nw₁ C oC m₂ h tk _ hP => turn i v ys nj nw₁ C oC m₂ h tk hP) (fun D h tk ys nj a b c d e => done D h tk ys nj a b c d e)
  have : b = l := by simpa [hne] using hb
  subst this
  exact ⟨_, hl⟩

theorem compE_dict {L : Addr} {elt iter : Expr} {x : Str} {px : Pos} {ifs : List Expr} {scope : Scope} {cl : List (Str × Addr)} {pos : Pos} {nw₀ : Ldg} {Q : Value → Shared → Prop} {d : Addr} {kvs : List (Str × Value)} (hh : A.handled = none)
    (hcell : ∀ y ∈ scope.names, y.2 ≠ .cell) (hkind : scope.kind = .function) (hx : scope.names.lookup x = some .local)
    (F : Fr h₀ L s.heap m) (N : News h₀ L s.heap nw₀) (hl : DictIn w nw₀ d kvs) (hsz : kvs.length ≤ sizeLine)
    (J : Nat → List Value → Ldg → Prop) (h0 : J 0 [] nw₀)
    (turn : ∀ i k t x' ys nj nw₁ C oC m₂ h tk, kvs[i]? = some (k, x') → J i ys nj → (∀ q ∈ nw₀, q ∈ nj) → (∀ q ∈ nj, q ∈ nw₁) → (C, oC) ∈ nw₁ → NsObj oC m₂ → m₂ x = some (.str k t) → Fr h₀ L h m → News h₀ L h nw₁ → L < C →
      CTurn Challenge.rw_au0003_01.row.prog w A h₀ L m (compEnvC scope cl C env) ifs elt nw₁ nj J i ys { s with heap := h, toks := tk })
    (done : ∀ D h tk ys nj, J kvs.length ys nj → (∀ q ∈ nw₀, q ∈ nj) → Fr h₀ L h m → News h₀ L h ((D, lst ys) :: nj) → (∀ p ∈ nw₀, p.1 < D) → Q (.ref D) { s with heap := h, toks := tk }) :
    CompE Challenge.rw_au0003_01.row.prog w A env elt x px iter ifs scope cl pos Q (.ref d) s := by
  have hD := hl.dictOf N
  refine hide fun Gx hGx => ?_
  obtain ⟨od, hd, _, hds⟩ := id hl
  obtain ⟨ep, hA⟩ := hD.dictAt
  refine hGx ?_
  have hlt : d < s.heap.objs.size := Heap.lt_size (N _ hd).1
  refine wpAny_pyIter_dict hds hA ?_
  refine compE_W (s := { s with heap := s.heap.push { cls := .type "dict_keyiterator", data := .fields #[.ref d, .int 0 0, .int kvs.length 0, .int ep 0] } }) (nw₀ := nw₀) (oI := { cls := .type "dict_keyiterator", data := .fields #[.ref d, .int 0 0, .int kvs.length 0, .int ep 0] }) (Walks.dictKeys hh s.heap.objs.size d (Nat.ne_of_lt hlt) kvs ep) hsz
    (fun i h st => by obtain ⟨o, ho, _⟩ := st.1; exact ⟨o, ho⟩) hcell hkind hx ⟨⟨_, Heap.get?_push_size _ rfl, rfl, rfl⟩, hA.push _⟩ (F.push _) (N.push F _) (fun p hp => Heap.lt_size (N p hp).1) (fun b hb hne => ?_) J h0
    (fun i v ys nj nw₁ C oC m₂ h tk _ hP => ?_) (fun D h tk ys nj a b c d e => done D h tk ys nj a b c d e)
  · have : b = d := by simpa [hne] using hb
    subst this
    exact ⟨_, hd⟩
  · refine hide fun Gx hGx => ?_
    obtain ⟨k, x', hk, hv⟩ := hP
    obtain ⟨t, rfl⟩ := Value.isStrOf_shape hv
    refine hGx ?_
    exact turn i k t x' ys nj nw₁ C oC m₂ h tk hk
end
end Mine
namespace Mine

section
variable {prog : Program} {w : World} {A : Around} {E : Value → Shared → Prop} {s : Shared} {K : Frag} {x C dx L : Addr} {h₀ : Heap} {m : Str → Option Value} {nw : Ldg} {name : Str} {v : Value}

theorem setAttr_V {es es' : List DictEntry} {n n' : Nat} {Q : Unit → Shared → Prop} (F : Fr h₀ L s.heap m) (X₀ : K.In h₀) (N : News h₀ L s.heap nw) (h1 : (x, instObj C dx) ∈ nw) (h2 : (dx, dictOf es n) ∈ nw)
    (hs : findIn K (.ref C) "__setattr__" = some (some (.builtin "object.__setattr__"))) (hp : plainOver K C = true) (ht : takerIn K C name = some none) (hh : hasDictIn K C = true) (hl : (getL name es).isSome = true)
    (e : ∀ hsh tok, (putL name hsh (.str name tok) v es, putN name es n) = (es', n')) (hz : es'.length ≤ 1000)
    (h : ∀ h' nw', Fr h₀ L h' m → News h₀ L h' nw' → (dx, dictOf es' n') ∈ nw' → Kp [dx] nw nw' → Q () { s with heap := h', toks := s.toks + 2 }) :
    wpAny (model prog w) A (setAttr (.ref x) name v) Q E s := by
  have hne : x ≠ dx := nneO N h1 h2 (fun e => by cases e)
  have N' : News h₀ L s.heap ((dx, dictOf es n) :: nw.filter fun q => q.1 != dx) := nsub N fun q hq => by
    rcases List.mem_cons.mp hq with rfl | hq
    · exact h2
    · exact (List.mem_filter.mp hq).1
  have U : Upd dx (dictOf es n) (dictOf es' n') ((dx, dictOf es n) :: nw.filter fun q => q.1 != dx) ((dx, dictOf es' n') :: nw.filter fun q => q.1 != dx) := .head fun p hp => by simpa using (List.mem_filter.mp hp).2
  refine set_dict F X₀ N' (InstAt.of_news N h1 h2) rfl hs hp ht hh hl (e _ _) U hz fun h' F' N'' => ?_
  refine h h' _ F' N'' (.head _) (Kp.one fun q hq hne => .tail _ (List.mem_filter.mpr ⟨hq, by simpa using hne⟩))

theorem append_V {D : Addr} {its : Array Value} {n : Nat} {y : Value} {Q : Value → Shared → Prop} (F : Fr h₀ L s.heap m) (N : News h₀ L s.heap nw) (hm : (D, listOf its n) ∈ nw)
    (h : ∀ h' nw', Fr h₀ L h' m → News h₀ L h' nw' → (D, listOf (its.push y) (n + 1)) ∈ nw' → Kp [D] nw nw' → Q .none { s with heap := h' }) (hsz : its.size ≤ sizeLine) :
    wpAny (model prog w) A (call (.builtin "list.append") [.ref D, y]) Q E s :=
  append_at (hsz := hsz) (N _ hm).1 fun h' hs ho' => mutV F N hm hs ho' fun nw' => h h' nw'

theorem get_upd {h : Heap} {l : Addr} {its : Array Value} {n : Nat} (f : Array Value → Array Value) (hl : h.get? l = some (listOf its n)) : ∃ n', (h.update l (Obj.mapSeq f)).get? l = some (listOf (f its) n') := by
  by_cases hs : (f its).size == its.size
  · exact ⟨n, (Heap.get?_update_self _ hl (by simp only [Obj.mapSeq]; rfl)).trans (by simp only [Obj.mapSeq]; rw [if_pos hs])⟩
  · exact ⟨n + 1, (Heap.get?_update_self _ hl (by simp only [Obj.mapSeq]; rfl)).trans (by simp only [Obj.mapSeq]; rw [if_neg hs])⟩

theorem pop_V {D : Addr} {its : Array Value} {n : Nat} {y : Value} {Q : Value → Shared → Prop} (F : Fr h₀ L s.heap m) (N : News h₀ L s.heap nw) (hm : (D, listOf its n) ∈ nw) (hy : its[its.size - 1]? = some y) (hsz : its.size ≤ sizeLine)
    (h : ∀ h' nw' n', Fr h₀ L h' m → News h₀ L h' nw' → (D, listOf (its.eraseIdxIfInBounds (its.size - 1)) n') ∈ nw' → Kp [D] nw nw' → Q y { s with heap := h' }) :
    wpAny (model prog w) A (call (.builtin "list.pop") [.ref D]) Q E s := by
  have ho := (N _ hm).1
  refine hide fun Gx hGx => ?_
  obtain ⟨n', hn'⟩ := get_upd (fun xs => xs.eraseIdxIfInBounds (its.size - 1)) ho
  refine hGx ?_
  exact call_meets PySem.F.slot_list_pop ⟨_, ho, rfl⟩ PySem.F.entry_list_pop (PySem.F.args_list_pop_1 _) (MeetsSeq.list_pop_last D its n y hy hsz) ⟨ho, mutV F N hm (Heap.SameBut.update ..) hn' fun nw' a b c d => h _ nw' n' a b c d⟩

theorem popAt_V {D : Addr} {its : Array Value} {n : Nat} {i : Int} {u : Tok} {j : Nat} {y : Value} {Q : Value → Shared → Prop} (F : Fr h₀ L s.heap m) (N : News h₀ L s.heap nw) (hm : (D, listOf its n) ∈ nw) (hi : i = (j : Int)) (hj : its[j]? = some y) (hsz : its.size ≤ sizeLine)
    (h : ∀ h' nw' n', Fr h₀ L h' m → News h₀ L h' nw' → (D, listOf (its.eraseIdxIfInBounds j) n') ∈ nw' → Kp [D] nw nw' → Q y { s with heap := h' }) :
    wpAny (model prog w) A (call (.builtin "list.pop") [.ref D, .int i u]) Q E s := by
  have ho := (N _ hm).1
  have hlt : j < its.size := (Array.getElem?_eq_some_iff.mp hj).1
  have hsz' : its.size ≤ 16777216 := by rw [sizeLine_eq] at hsz; exact hsz
  refine hide fun Gx hGx => ?_
  obtain ⟨n', hn'⟩ := get_upd (fun xs => xs.eraseIdxIfInBounds j) ho
  refine hGx ?_
  have hk : seqIndex? i its.size = some j := by
    subst hi; unfold seqIndex?
    have : ¬ ((j : Int) < 0) := by omega
    simp [this]; omega
  have hf : Builtin.List.listFitsIndex i = true := by subst hi; unfold Builtin.List.listFitsIndex; simp; omega
  exact call_meets PySem.F.slot_list_pop ⟨_, ho, rfl⟩ PySem.F.entry_list_pop (PySem.F.args_list_pop_2 _ _) (MeetsSeq.list_pop_at D its n i u j y hf hk hj hsz) ⟨ho, mutV F N hm (Heap.SameBut.update ..) hn' fun nw' a b c d => h _ nw' n' a b c d⟩

/-- the search of list.remove, where each look is told at the state at hand -/
theorem removeAt (l : Addr) (items : Array Value) (n : Nat) (x : Value) (e : Value → Bool) (j : Nat) (hj : j < items.size) (hit : e items[j] = true) (hs1 : items.size ≤ sizeLine) (k : Nat) :
    ∀ i : Nat, i + k = j → (∀ m (hm : m < items.size), i ≤ m → m < j → e items[m] = false) → Meets (Builtin.«list.remove.loop» ⟨[.ref l, x, rawInt i], []⟩)
      (fun A R s => s.heap.get? l = some (listOf items n) ∧ (∀ y, y ∈ items → SeqAt.EqAt A.in1 s y x (e y)) ∧ R (.ok (.ret .none)) { s with heap := s.heap.update l (Obj.mapSeq fun xs => xs.eraseIdxIfInBounds j) }) := by
  induction k with
  | zero =>
    intro i hk hno prog w A R s h
    refine hide fun Gx hGx => ?_
    obtain ⟨hp, g, d, tk, os⟩ := s
    obtain ⟨hl, he, h⟩ := h
    obtain rfl : i = j := hk
    refine hGx ?_
    wp_walk using AutoSeq1.wpAny_loadPart' hl
    rw [show items[((i : Nat) : Int).toNat]? = some items[i] by simp [hj]]
    refine wpAny_bind (he _ (Array.getElem_mem hj) prog w _ _ ?_)
    rw [hit]
    wp_walk using (wpAny_updateSeq hl rfl (hz := hs1) (_hz' := Nat.le_trans (MeetsSeq.size_erased items _) (Nat.le_succ_of_le hs1))), AutoSeq1.wpAny_loadPart' hl
    simpa using h
  | succ k ih =>
    intro i hk hno prog w A R s h
    refine hide fun Gx hGx => ?_
    obtain ⟨hp, g, d, tk, os⟩ := s
    obtain ⟨hl, he, h⟩ := h
    refine hGx ?_
    have hij : i < j := by rw [← hk]; exact Nat.lt_add_of_pos_right (Nat.succ_pos k)
    have hlt : i < items.size := Nat.lt_trans hij hj
    wp_walk using AutoSeq1.wpAny_loadPart' hl
    rw [show items[((i : Nat) : Int).toNat]? = some items[i] by simp [hlt]]
    refine wpAny_bind (he _ (Array.getElem_mem hlt) prog w _ _ ?_)
    rw [hno i hlt (Nat.le_refl _) hij]
    wp_walk
    rw [show ((i : Int) + 1) = ((i + 1 : Nat) : Int) by push_cast; rfl]
    exact ⟨plainId_quiet MeetsSeq.plain_remove_loop _, codeAny_builtin MeetsSeq.entry_remove_loop (by
      rw [Around.under_plainId MeetsSeq.plain_remove_loop _]
      exact ih (i + 1) ((Nat.succ_add_eq_add_succ i k).trans hk) (fun m hm h1 h2 => hno m hm (Nat.le_of_succ_le h1) h2) prog w A R _ ⟨hl, he, h⟩)⟩

theorem removeAt0 (l : Addr) (items : Array Value) (n : Nat) (x : Value) (e : Value → Bool) (j : Nat) (hj : j < items.size) (hit : e items[j] = true) (hno : ∀ m (hm : m < items.size), m < j → e items[m] = false) (hs1 : items.size ≤ sizeLine) :
    Meets (Builtin.«list.remove» ⟨[.ref l, x], []⟩)
      (fun A R s => s.heap.get? l = some (listOf items n) ∧ (∀ y, y ∈ items → SeqAt.EqAt A.in1 s y x (e y)) ∧ R (.ok (.ret .none)) { s with heap := s.heap.update l (Obj.mapSeq fun xs => xs.eraseIdxIfInBounds j) }) := by
  intro prog w A R s h
  refine hide fun Gx hGx => ?_
  obtain ⟨hp, g, d, tk, os⟩ := s
  obtain ⟨hl, he, h⟩ := h
  refine hGx ?_
  wp_walk using AutoSeq1.wpAny_loadPart' hl
  exact ⟨plainId_quiet MeetsSeq.plain_remove_loop _, codeAny_builtin MeetsSeq.entry_remove_loop (by
    rw [Around.under_plainId MeetsSeq.plain_remove_loop _]
    exact removeAt l items n x e j hj hit hs1 j 0 (Nat.zero_add j) (fun m hm _ h2 => hno m hm h2) prog w A R _ ⟨hl, he, h⟩)⟩

theorem remove_V {D : Addr} {its : Array Value} {n : Nat} {x : Value} {Q : Value → Shared → Prop} (e : Value → Bool) (j : Nat) (F : Fr h₀ L s.heap m) (N : News h₀ L s.heap nw) (hm : (D, listOf its n) ∈ nw) (he : ∀ y, y ∈ its → SeqAt.EqAt A.in1 s y x (e y))
    (hj : j < its.size) (hit : e its[j] = true) (hno : ∀ m (hm : m < its.size), m < j → e its[m] = false) (hsz : its.size ≤ sizeLine)
    (h : ∀ h' nw' n', Fr h₀ L h' m → News h₀ L h' nw' → (D, listOf (its.eraseIdxIfInBounds j) n') ∈ nw' → Kp [D] nw nw' → Q .none { s with heap := h' }) :
    wpAny (model prog w) A (call (.builtin "list.remove") [.ref D, x]) Q E s := by
  have ho := (N _ hm).1
  refine hide fun Gx hGx => ?_
  obtain ⟨n', hn'⟩ := get_upd (fun xs => xs.eraseIdxIfInBounds j) ho
  refine hGx ?_
  exact call_meets PySem.F.slot_list_remove ⟨_, ho, rfl⟩ PySem.F.entry_list_remove (PySem.F.args_list_remove_2 _ _) (removeAt0 D its n x e j hj hit hno hsz) ⟨ho, he, mutV F N hm (Heap.SameBut.update ..) hn' fun nw' a b c d => h _ nw' n' a b c d⟩

theorem index_V {D : Addr} {its : Array Value} {n : Nat} {x : Value} {Q : Value → Shared → Prop} (e : Value → Bool) (j : Nat) (N : News h₀ L s.heap nw) (hm : (D, listOf its n) ∈ nw) (he : ∀ y, y ∈ its → SeqAt.EqAt A.in1 s y x (e y))
    (hj : j < its.size) (hit : e its[j] = true) (hno : ∀ m (hm : m < its.size), m < j → e its[m] = false) (hsz : its.size ≤ sizeLine)
    (h : Q (.int (j : Int) s.toks) { s with toks := s.toks + 1 }) :
    wpAny (model prog w) A (call (.builtin "list.index") [.ref D, x]) Q E s := by
  have ho := (N _ hm).1
  have hsz' : its.size ≤ 16777216 := by rw [sizeLine_eq] at hsz; exact hsz
  exact call_meets PySem.F.slot_list_index ⟨_, ho, rfl⟩ PySem.F.entry_list_index (PySem.F.args_list_index_2 _ _) (SeqAt.list_indexAt D its n none #[] x e j hj (by omega) hit hno) ⟨ho, he, h⟩

theorem in_V {D : Addr} {its : Array Value} {n : Nat} {x : Value} {Q : Value → Shared → Prop} (e : Value → Bool) (N : News h₀ L s.heap nw) (hm : (D, listOf its n) ∈ nw) (he : ∀ y, y ∈ its → SeqAt.EqAt A.in1 s y x (e y))
    (h : Q (.bool (its.any e)) s) : wpAny (model prog w) A (compareOp .In x (.ref D)) Q E s := SeqAt.in_listAt e ⟨_, (N _ hm).1, rfl, n, rfl⟩ he h
theorem notin_V {D : Addr} {its : Array Value} {n : Nat} {x : Value} {Q : Value → Shared → Prop} (e : Value → Bool) (N : News h₀ L s.heap nw) (hm : (D, listOf its n) ∈ nw) (he : ∀ y, y ∈ its → SeqAt.EqAt A.in1 s y x (e y))
    (h : Q (.bool (!its.any e)) s) : wpAny (model prog w) A (compareOp .NotIn x (.ref D)) Q E s := SeqAt.notIn_listAt e ⟨_, (N _ hm).1, rfl, n, rfl⟩ he h

theorem setItem_V {d : Addr} {k : Str} {t : Tok} {v : Value} {kvs : List (Str × Value)} {w : World} {Q : Unit → Shared → Prop} (F : Fr h₀ L s.heap m) (N : News h₀ L s.heap nw) (hd : DictIn w nw d kvs) (hsz : kvs.length ≤ sizeLine)
    (h : ∀ h' nw', Fr h₀ L h' m → News h₀ L h' nw' → DictIn w nw' d (stored kvs k v) → Kp [d] nw nw' → Q () { s with heap := h', toks := s.toks + 1 }) :
    wpAny (model Challenge.rw_au0003_01.row.prog w) A (setItem (.ref d) (.str k t) v) Q E s := by
  refine hide fun Gx hGx => ?_
  obtain ⟨o, hm, hdo, hds⟩ := id hd
  refine hGx ?_
  refine wpAny_setItem_pairs (hsz := hsz) (strKind_is _ _ k t) (hd.dictOf N) fun h' hd' hs' => ?_
  refine hide fun Gx hGx => ?_
  obtain ⟨o', ho', hdo'⟩ := Heap.dictOf_iff.mp hd'
  refine hGx ?_
  exact mutV (o' := o') F N hm hs' ho' fun nw' a b c e => h h' nw' a b ⟨o', c, hdo', hds⟩ e
end
end Mine
namespace Mine


theorem bind_eqS : ∀ self, bindSpecial (.builtin "object.__eq__") self = pure (.builtin "object.__eq__", [self]) := PySem.F.cmp_object.eq.bind
theorem bind_neS : ∀ self, bindSpecial (.builtin "object.__ne__") self = pure (.builtin "object.__ne__", [self]) := PySem.F.cmp_object.ne.bind

section
variable {w w' : World} {A : Around} {E : Value → Shared → Prop} {s : Shared} {x y dx dy : Addr}

def Kpl (w : World) (h : Heap) (x dx : Addr) : Prop := h.get? x = some (instObj 184 dx) ∧ (hd.heap_39 w.params).In h

theorem Kpl.type {h : Heap} {M : Model} (P : Kpl w h x dx) : Looks M h (typeOf (.ref x)) (.ref 184) := (Looks.ld P.1).andThen .now

theorem fill0 (w : World) : (Challenge.rw_au0003_01.Holds ∧ (hd.heap_39 w.params).In default) → True := by
  k_fill; intro _; trivial
theorem eq184 (w : World) : findIn (hd.heap_39 w.params) (.ref 184) "__eq__" = some (some (.builtin "object.__eq__")) := by k_is
theorem ne184 (w : World) : findIn (hd.heap_39 w.params) (.ref 184) "__ne__" = some (some (.builtin "object.__ne__")) := by kernel_rfl
theorem mro184 (w : World) : mroIn (hd.heap_39 w.params) 184 (.type "object") = some true := by kernel_rfl

theorem Kpl.inst {h : Heap} {M : Model} (P : Kpl w h x dx) : Looks M h (isInstance (.ref x) (.type "object")) true := P.type.andThen (looks_mroIn P.2 (mro184 w))

theorem Kpl.special {M : Model} {name : Str} {id : String} {args : List Value} {Q : Option Value → Shared → Prop} (P : Kpl w s.heap x dx) (hs : findIn (hd.heap_39 w.params) (.ref 184) name = some (some (.builtin id)))
    (hb : ∀ self, bindSpecial (.builtin id) self = pure (.builtin id, [self])) (h : wpAny M A (call (.builtin id) (.ref x :: args)) (fun v => Q (some v)) E s) : wpAny M A (callSpecialIfBound? (.ref x) name args) Q E s := by
  simp only [callSpecialIfBound?, bindSpecialIfBound?]
  refine wpAny_holding (wpAny_bind (wpAny_bind (wpAny_bind (P.type.here ((looks_findIn P.2 hs).here ?_)))))
  refine wpAny_bind (wpAny_askSetting (wpAny_ite ?_))
  have fin : wpAny M A (call (.builtin id) ([.ref x] ++ args) >>= fun v => pure (some v)) Q E s := wpAny_bind (wpAny_mono h (fun v s' h' => wpAny_pure h') fun _ _ h' => h')
  simp only [hb]
  split
  · exact wpAny_bind (wpAny_pure (wpAny_pure (by exact fin)))
  · exact wpAny_tryCatch (wpAny_bind (wpAny_pure (wpAny_pure (by exact fin))))

theorem Kpl.callEq {prog : Program} {Q : Value → Shared → Prop} (P : Kpl w s.heap x dx) (R : Kpl w s.heap y dy) (h : Q (if x = y then .bool true else .notImplemented) s) :
    wpAny (model prog w') A (call (.builtin "object.__eq__") [.ref x, .ref y]) Q E s := by
  refine wpAny_call (codeAny_call_builtin PySem.F.cmp_object.eq.plain PySem.F.cmpEntry_eq (@check_slot (model prog w') _ _ s "object.__eq__" "object" "__eq__" (.ref x) [.ref y] [] _ PySem.F.cmpKind_eq PySem.F.cmpSplit_eq P.inst (PySem.F.cmpArgs_eq (.ref x) (.ref y)) ?_))
  by_cases hxy : x = y
  · subst hxy; rw [if_pos rfl] at h; exact objEq_entry_same h
  · rw [if_neg hxy] at h; exact objEq_entry_other hxy P.1 R.1 (fun e => by cases e) h

theorem Kpl.callNe {prog : Program} {Q : Value → Shared → Prop} (hu : A.units + 1 < cLine) (P : Kpl w s.heap x dx) (R : Kpl w s.heap y dy) (h : Q (if x = y then .bool false else .notImplemented) s) :
    wpAny (model prog w') A (call (.builtin "object.__ne__") [.ref x, .ref y]) Q E s := by
  refine wpAny_call (codeAny_call_builtin PySem.F.cmp_object.ne.plain PySem.F.cmpEntry_ne (@check_slot (model prog w') _ _ s "object.__ne__" "object" "__ne__" (.ref x) [.ref y] [] _ PySem.F.cmpKind_ne PySem.F.cmpSplit_ne P.inst (PySem.F.cmpArgs_ne (.ref x) (.ref y)) ?_))
  show wpAny _ A.in1 _ _ _ s
  unfold Builtin.«object.__ne__»
  refine wpAny_bind ?_
  show wpAny _ A.in1 (pure (Value.ref x, [Value.ref y])) _ _ s
  refine wpAny_pure ?_
  show wpAny _ A.in1 (cRoomFor "comparison" [.ref x, .ref y] >>= _) _ _ s
  refine wpAny_bind (wpAny_cRoomFor hu ?_)
  refine wpAny_bind (Kpl.special P (eq184 w) bind_eqS (Kpl.callEq P R ?_))
  by_cases hxy : x = y
  · rw [if_pos hxy] at h ⊢
    exact wpAny_bind (wpAny_truthy_bool (wpAny_pure h))
  · rw [if_neg hxy] at h ⊢
    exact wpAny_pure h

theorem Kpl.rc {prog : Program} {Q : Value → Shared → Prop} (hu : A.units < cLine) (P : Kpl w s.heap x dx) (R : Kpl w s.heap y dy) (h : Q (.bool (decide (x = y))) s) :
    wpAny (model prog w') A (richCompare .Eq (.ref x) (.ref y)) Q E s := by
  unfold richCompare
  simp only [oneThing_ref, cmpInfo_Eq]
  refine wpAny_holding (wpAny_bind (wpAny_cRoomFor hu ?_))
  refine wpAny_bind (P.type.here (wpAny_bind (R.type.here ?_)))
  rw [if_neg (by simp)]
  refine wpAny_bind (wpAny_pure ?_)
  simp only [Bool.false_eq_true, if_false, Bool.not_false, if_true]
  unfold tryCompare
  refine wpAny_bind (wpAny_bind (Kpl.special P (eq184 w) bind_eqS (Kpl.callEq P R ?_)))
  by_cases hxy : x = y
  · rw [if_pos hxy]
    refine wpAny_pure (wpAny_pure ?_)
    simpa [hxy] using h
  · rw [if_neg hxy]
    refine wpAny_pure (wpAny_bind (wpAny_bind (Kpl.special R (eq184 w) bind_eqS (Kpl.callEq R P ?_))))
    rw [if_neg (Ne.symm hxy)]
    refine wpAny_pure (wpAny_bind (wpAny_rule (wpAny_bind (wpAny_isSame_ref_other hxy P.1 R.1 (fun e => by cases e) (wpAny_pure ?_)))))
    simpa [hxy] using h

theorem Kpl.rcNe {prog : Program} {Q : Value → Shared → Prop} (hu : A.units + 1 < cLine) (P : Kpl w s.heap x dx) (R : Kpl w s.heap y dy) (h : Q (.bool (!decide (x = y))) s) :
    wpAny (model prog w') A (richCompare .NotEq (.ref x) (.ref y)) Q E s := by
  unfold richCompare
  simp only [oneThing_ref, cmpInfo_NotEq]
  refine wpAny_holding (wpAny_bind (wpAny_cRoomFor (Nat.lt_of_succ_lt hu) ?_))
  refine wpAny_bind (P.type.here (wpAny_bind (R.type.here ?_)))
  rw [if_neg (by simp)]
  refine wpAny_bind (wpAny_pure ?_)
  simp only [Bool.false_eq_true, if_false, Bool.not_false, if_true]
  unfold tryCompare
  refine wpAny_bind (wpAny_bind (Kpl.special P (ne184 w) bind_neS (Kpl.callNe hu P R ?_)))
  by_cases hxy : x = y
  · rw [if_pos hxy]
    refine wpAny_pure (wpAny_pure ?_)
    simpa [hxy] using h
  · rw [if_neg hxy]
    refine wpAny_pure (wpAny_bind (wpAny_bind (Kpl.special R (ne184 w) bind_neS (Kpl.callNe hu R P ?_))))
    rw [if_neg (Ne.symm hxy)]
    refine wpAny_pure (wpAny_bind (wpAny_rule (wpAny_bind (wpAny_isSame_ref_other hxy P.1 R.1 (fun e => by cases e) (wpAny_pure ?_)))))
    simpa [hxy] using h

/-- two players, looked at by a list's method -/
theorem Kpl.eqAt {x y dx dy : Addr} {s : Shared} {A : Around} (hu : A.units < cLine) (P : Kpl w s.heap x dx) (R : Kpl w s.heap y dy) : SeqAt.EqAt A s (.ref x) (.ref y) (decide (x = y)) := fun prog w' E Q h => by
  unfold eqBool
  refine wpAny_holding ?_
  by_cases hxy : x = y
  · subst hxy
    rw [if_pos (by simp)]
    exact wpAny_bind (wpAny_rule (wpAny_pure (by simpa using h)))
  · rw [if_neg (by simpa using hxy)]
    exact wpAny_bind (Kpl.rc hu P R (wpAny_truthy_bool h))
end
end Mine
namespace Mine
noncomputable def PD (hs : Nat → Int) (ts : Nat → Tok) (nm pf mt pn op : Value) : List DictEntry :=
  [⟨hs 0, .str (Str.ofString "name") (ts 0), nm⟩, ⟨hs 1, .str (Str.ofString "prefs") (ts 1), pf⟩, ⟨hs 2, .str (Str.ofString "matching") (ts 2), mt⟩, ⟨hs 3, .str (Str.ofString "_pref_names") (ts 3), pn⟩, ⟨hs 4, .str (Str.ofString "_original_prefs") (ts 4), op⟩]

section
variable {hs : Nat → Int} {ts : Nat → Tok} {nm pf mt pn op v : Value} {h : Int} {key : Value} {n : Nat}
theorem PDg0 : getL (Str.ofString "name") (PD hs ts nm pf mt pn op) = some (some nm) := by with_unfolding_all rfl
theorem PDg1 : getL (Str.ofString "prefs") (PD hs ts nm pf mt pn op) = some (some pf) := by with_unfolding_all rfl
theorem PDg2 : getL (Str.ofString "matching") (PD hs ts nm pf mt pn op) = some (some mt) := by with_unfolding_all rfl
theorem PDg3 : getL (Str.ofString "_pref_names") (PD hs ts nm pf mt pn op) = some (some pn) := by with_unfolding_all rfl
theorem PDg4 : getL (Str.ofString "_original_prefs") (PD hs ts nm pf mt pn op) = some (some op) := by with_unfolding_all rfl
theorem PDp1 : putL (Str.ofString "prefs") h key v (PD hs ts nm pf mt pn op) = PD hs ts nm v mt pn op := by with_unfolding_all rfl
theorem PDp2 : putL (Str.ofString "matching") h key v (PD hs ts nm pf mt pn op) = PD hs ts nm pf v pn op := by with_unfolding_all rfl
theorem PDp3 : putL (Str.ofString "_pref_names") h key v (PD hs ts nm pf mt pn op) = PD hs ts nm pf mt v op := by with_unfolding_all rfl
theorem PDp4 : putL (Str.ofString "_original_prefs") h key v (PD hs ts nm pf mt pn op) = PD hs ts nm pf mt pn v := by with_unfolding_all rfl
theorem PDn1 : putN (Str.ofString "prefs") (PD hs ts nm pf mt pn op) n = n := by with_unfolding_all rfl
theorem PDn2 : putN (Str.ofString "matching") (PD hs ts nm pf mt pn op) n = n := by with_unfolding_all rfl
theorem PDn3 : putN (Str.ofString "_pref_names") (PD hs ts nm pf mt pn op) n = n := by with_unfolding_all rfl
theorem PDn4 : putN (Str.ofString "_original_prefs") (PD hs ts nm pf mt pn op) n = n := by with_unfolding_all rfl
end

theorem fill1 (w : World) : (Challenge.rw_au0003_01.Holds ∧ (hd.heap_39 w.params).In default) → True := by
  k_fill; intro _; trivial

section
variable {w : World} {A : Around} {E : Value → Shared → Prop} {s : Shared} {x dx L : Addr} {h₀ : Heap} {m : Str → Option Value} {nw : Ldg} {v : Value} {hs : Nat → Int} {ts : Nat → Tok} {nm pf mt pn op : Value} {n : Nat}

theorem setPrefs_V {Q : Unit → Shared → Prop} (F : Fr h₀ L s.heap m) (X₀ : (hd.heap_39 w.params).In h₀) (N : News h₀ L s.heap nw) (h1 : (x, instObj 184 dx) ∈ nw) (h2 : (dx, dictOf (PD hs ts nm pf mt pn op) n) ∈ nw)
    (h : ∀ h' nw', Fr h₀ L h' m → News h₀ L h' nw' → (dx, dictOf (PD hs ts nm v mt pn op) n) ∈ nw' → Kp [dx] nw nw' → Q () { s with heap := h', toks := s.toks + 2 }) :
    wpAny (model Challenge.rw_au0003_01.row.prog w) A (setAttr (.ref x) (Str.ofString "prefs") v) Q E s :=
  setAttr_V F X₀ N h1 h2 (by k_is) (by k_is) (by k_is) (by k_is) (by rw [PDg1]; rfl) (fun _ _ => by rw [PDp1, PDn1]) (Nat.le_of_ble_eq_true rfl) h
theorem setMat_V {Q : Unit → Shared → Prop} (F : Fr h₀ L s.heap m) (X₀ : (hd.heap_39 w.params).In h₀) (N : News h₀ L s.heap nw) (h1 : (x, instObj 184 dx) ∈ nw) (h2 : (dx, dictOf (PD hs ts nm pf mt pn op) n) ∈ nw)
    (h : ∀ h' nw', Fr h₀ L h' m → News h₀ L h' nw' → (dx, dictOf (PD hs ts nm pf v pn op) n) ∈ nw' → Kp [dx] nw nw' → Q () { s with heap := h', toks := s.toks + 2 }) :
    wpAny (model Challenge.rw_au0003_01.row.prog w) A (setAttr (.ref x) (Str.ofString "matching") v) Q E s :=
  setAttr_V F X₀ N h1 h2 (by k_is) (by k_is) (by k_is) (by k_is) (by rw [PDg2]; rfl) (fun _ _ => by rw [PDp2, PDn2]) (Nat.le_of_ble_eq_true rfl) h
theorem setPn_V {Q : Unit → Shared → Prop} (F : Fr h₀ L s.heap m) (X₀ : (hd.heap_39 w.params).In h₀) (N : News h₀ L s.heap nw) (h1 : (x, instObj 184 dx) ∈ nw) (h2 : (dx, dictOf (PD hs ts nm pf mt pn op) n) ∈ nw)
    (h : ∀ h' nw', Fr h₀ L h' m → News h₀ L h' nw' → (dx, dictOf (PD hs ts nm pf mt v op) n) ∈ nw' → Kp [dx] nw nw' → Q () { s with heap := h', toks := s.toks + 2 }) :
    wpAny (model Challenge.rw_au0003_01.row.prog w) A (setAttr (.ref x) (Str.ofString "_pref_names") v) Q E s :=
  setAttr_V F X₀ N h1 h2 (by k_is) (by k_is) (by k_is) (by k_is) (by rw [PDg3]; rfl) (fun _ _ => by rw [PDp3, PDn3]) (Nat.le_of_ble_eq_true rfl) h
theorem setOp_V {Q : Unit → Shared → Prop} (F : Fr h₀ L s.heap m) (X₀ : (hd.heap_39 w.params).In h₀) (N : News h₀ L s.heap nw) (h1 : (x, instObj 184 dx) ∈ nw) (h2 : (dx, dictOf (PD hs ts nm pf mt pn op) n) ∈ nw)
    (h : ∀ h' nw', Fr h₀ L h' m → News h₀ L h' nw' → (dx, dictOf (PD hs ts nm pf mt pn v) n) ∈ nw' → Kp [dx] nw nw' → Q () { s with heap := h', toks := s.toks + 2 }) :
    wpAny (model Challenge.rw_au0003_01.row.prog w) A (setAttr (.ref x) (Str.ofString "_original_prefs") v) Q E s :=
  setAttr_V F X₀ N h1 h2 (by k_is) (by k_is) (by k_is) (by k_is) (by rw [PDg4]; rfl) (fun _ _ => by rw [PDp4, PDn4]) (Nat.le_of_ble_eq_true rfl) h

theorem getName_V {ex : Bool} {Q : Value → Shared → Prop} (F : Fr h₀ L s.heap m) (X₀ : (hd.heap_39 w.params).In h₀) (N : News h₀ L s.heap nw) (h1 : (x, instObj 184 dx) ∈ nw) (h2 : (dx, dictOf (PD hs ts nm pf mt pn op) n) ∈ nw)
    (hv : handedIn nm = true) (h : Q nm { s with toks := s.toks + 1 }) : wpAny (model Challenge.rw_au0003_01.row.prog w) A (getAttr (.ref x) (Str.ofString "name") ex) Q E s :=
  get_own F X₀ (InstAt.of_news N h1 h2) (by k_is) (by k_is) (attr := none) (by k_is) (by k_is) PDg0 hv h
theorem getPrefs_V {ex : Bool} {Q : Value → Shared → Prop} (F : Fr h₀ L s.heap m) (X₀ : (hd.heap_39 w.params).In h₀) (N : News h₀ L s.heap nw) (h1 : (x, instObj 184 dx) ∈ nw) (h2 : (dx, dictOf (PD hs ts nm pf mt pn op) n) ∈ nw)
    (hv : handedIn pf = true) (h : Q pf { s with toks := s.toks + 1 }) : wpAny (model Challenge.rw_au0003_01.row.prog w) A (getAttr (.ref x) (Str.ofString "prefs") ex) Q E s :=
  get_own F X₀ (InstAt.of_news N h1 h2) (by k_is) (by k_is) (attr := none) (by k_is) (by k_is) PDg1 hv h
theorem getMat_V {ex : Bool} {Q : Value → Shared → Prop} (F : Fr h₀ L s.heap m) (X₀ : (hd.heap_39 w.params).In h₀) (N : News h₀ L s.heap nw) (h1 : (x, instObj 184 dx) ∈ nw) (h2 : (dx, dictOf (PD hs ts nm pf mt pn op) n) ∈ nw)
    (hv : handedIn mt = true) (h : Q mt { s with toks := s.toks + 1 }) : wpAny (model Challenge.rw_au0003_01.row.prog w) A (getAttr (.ref x) (Str.ofString "matching") ex) Q E s :=
  get_own F X₀ (InstAt.of_news N h1 h2) (by k_is) (by k_is) (attr := none) (by k_is) (by k_is) PDg2 hv h
theorem getOp_V {ex : Bool} {Q : Value → Shared → Prop} (F : Fr h₀ L s.heap m) (X₀ : (hd.heap_39 w.params).In h₀) (N : News h₀ L s.heap nw) (h1 : (x, instObj 184 dx) ∈ nw) (h2 : (dx, dictOf (PD hs ts nm pf mt pn op) n) ∈ nw)
    (hv : handedIn op = true) (h : Q op { s with toks := s.toks + 1 }) : wpAny (model Challenge.rw_au0003_01.row.prog w) A (getAttr (.ref x) (Str.ofString "_original_prefs") ex) Q E s :=
  get_own F X₀ (InstAt.of_news N h1 h2) (by k_is) (by k_is) (attr := none) (by k_is) (by k_is) PDg4 hv h
end


noncomputable abbrev plist (ps : List Addr) (k : Nat) : Obj := listOf (ps.map Value.ref).toArray k
theorem kpl {w : World} {h h₀ : Heap} {L x d : Addr} {m : Str → Option Value} {nw : Ldg} (F : Fr h₀ L h m) (X : (hd.heap_39 w.params).In h₀) (N : News h₀ L h nw) (hm : (x, instObj 184 d) ∈ nw) : Kpl w h x d := ⟨(N _ hm).1, X.keeps F.keep⟩
noncomputable def isRef (a : Addr) : Value → Bool
  | .ref p => decide (p = a)
  | _ => false
theorem refs_eqAt {w : World} {A : Around} {s : Shared} {h₀ : Heap} {L a da : Addr} {m : Str → Option Value} {nw : Ldg} {ps : List Addr} (hu : A.units < cLine) (F : Fr h₀ L s.heap m) (X : (hd.heap_39 w.params).In h₀) (N : News h₀ L s.heap nw)
    (hp : ∀ p ∈ ps, ∃ d, (p, instObj 184 d) ∈ nw) (ha : (a, instObj 184 da) ∈ nw) : ∀ y, y ∈ (ps.map Value.ref).toArray → SeqAt.EqAt A s y (.ref a) (isRef a y) := by
  intro y hy
  refine hide fun Gx hGx => ?_
  obtain ⟨p, hpm, rfl⟩ : ∃ p ∈ ps, Value.ref p = y := by simpa using hy
  obtain ⟨d, hd⟩ := hp p hpm
  refine hGx ?_
  exact Kpl.eqAt hu (kpl F X N hd) (kpl F X N ha)

variable {w : World}
end Mine
namespace Mine
section
variable {prog : Program} {w : World} {A : Around} {E : Value → Shared → Prop} {s : Shared} {L : Addr} {h₀ : Heap} {m : Str → Option Value} {nw : Ldg}

theorem item_V {value slice : Expr} {l : Addr} {its : Array Value} {n j : Nat} {k : Int} {u : Tok} {v : Value} {Q : Value → Shared → Prop} (N : News h₀ L s.heap nw) (hm : (l, listOf its n) ∈ nw) (hk : k = (j : Int)) (hj : its[j]? = some v) (hsz : its.size ≤ sizeLine) (h : Q v s)
    (hs : subscripted slice false (.ref l) (.int k u) = operate [.ref l, .int k u] (getItem (.ref l) (.int k u))) :
    wpAny (model prog w) A (subscriptTail value slice (.ref l) (.int k u)) Q E s := by
  have hsz' : its.size ≤ 16777216 := by rw [sizeLine_eq] at hsz; exact hsz
  have hlt : j < its.size := (Array.getElem?_eq_some_iff.mp hj).1
  exact item_listR ⟨_, (N _ hm).1, rfl, n, rfl⟩ (by omega) (by omega) (by subst hk; simpa using hj) h hs

theorem itemLast_V {value slice : Expr} {l : Addr} {its : Array Value} {n : Nat} {u : Tok} {v : Value} {Q : Value → Shared → Prop} (N : News h₀ L s.heap nw) (hm : (l, listOf its n) ∈ nw) (hj : its[its.size - 1]? = some v) (h : Q v s)
    (hs : subscripted slice false (.ref l) (.int (-1) u) = operate [.ref l, .int (-1) u] (getItem (.ref l) (.int (-1) u))) :
    wpAny (model prog w) A (subscriptTail value slice (.ref l) (.int (-1) u)) Q E s := by
  have hlt : its.size - 1 < its.size := (Array.getElem?_eq_some_iff.mp hj).1
  have hl : s.heap.IsList l its := ⟨_, (N _ hm).1, rfl, n, rfl⟩
  exact subscriptTail_builtinR hl.typeIs slot_list_getitem.lookup (wpAny_getItem_list_neg (Q := fun r s' => r = v ∧ Q r s') hl (by decide) (by omega) (by decide) (by rw [show ((-1 : Int) + (its.size : Int)).toNat = its.size - 1 by omega]; exact hj) ⟨rfl, h⟩) hs

theorem sliceAll_V {value slice : Expr} {l : Addr} {vs : List Value} {n : Nat} {hp : Heap} {gg : Array GenState} {dd : Drawn} {tt : Nat} {oo : OsState} {Q : Value → Shared → Prop} (F : Fr h₀ L hp m) (N : News h₀ L hp nw) (hm : (l, listOf vs.toArray n) ∈ nw) (hsz : vs.length ≤ sizeLine)
    (h : ∀ D h', Fr h₀ L h' m → News h₀ L h' ((D, listOf vs.toArray 0) :: nw) → (∀ p ∈ nw, p.1 < D) → Q (.ref D) ⟨h', gg, dd, tt, oo⟩)
    (hs : subscripted slice false (.ref l) (.ref hp.objs.size) = operate [.ref hp.objs.size, .ref l] (getItem (.ref l) (.ref hp.objs.size))) (ht : ∀ r, letTemporaryGo value (.ref l) r = pure ()) :
    wpAny (model prog w) A (subscriptTail value slice (.ref l) (.ref hp.objs.size)) Q E ⟨hp.push { cls := .type "slice", data := .fields #[.none, .none, .none] }, gg, dd, tt, oo⟩ := by
  have e : slicePick vs.toArray none none none = vs.toArray := by
    rw [kmk_pick_nat vs.toArray (a := 0) (b := vs.length) (by simp [sliceBounds])]; simp
  refine kmk_slice (s := ⟨hp, gg, dd, tt, oo⟩) F N ⟨_, (N _ hm).1, rfl, n, rfl⟩ .none .none (fun D h' F' N' l1 => h D h' F' (by rw [e] at N'; exact N') l1) hs ht (by simpa using hsz)

theorem sliceFrom_V {value slice : Expr} {l : Addr} {vs : List Value} {n j : Nat} {u : Tok} {k : Int} {hp : Heap} {gg : Array GenState} {dd : Drawn} {tt : Nat} {oo : OsState} {Q : Value → Shared → Prop} (F : Fr h₀ L hp m) (N : News h₀ L hp nw) (hm : (l, listOf vs.toArray n) ∈ nw) (hsz : vs.length ≤ sizeLine) (hk : k = (j : Int)) 
    (h : ∀ D h', Fr h₀ L h' m → News h₀ L h' ((D, listOf (vs.drop j).toArray 0) :: nw) → (∀ p ∈ nw, p.1 < D) → Q (.ref D) ⟨h', gg, dd, tt, oo⟩)
    (hs : subscripted slice false (.ref l) (.ref hp.objs.size) = operate [.ref hp.objs.size, .ref l] (getItem (.ref l) (.ref hp.objs.size))) (ht : ∀ r, letTemporaryGo value (.ref l) r = pure ()) :
    wpAny (model prog w) A (subscriptTail value slice (.ref l) (.ref hp.objs.size)) Q E ⟨hp.push { cls := .type "slice", data := .fields #[.int k u, .none, .none] }, gg, dd, tt, oo⟩ := by
  subst hk
  have e : slicePick vs.toArray (some (j : Int)) none none = (vs.drop j).toArray := by
    rw [kmk_pick_nat vs.toArray (a := min j vs.length) (b := vs.length) (by simp only [sliceBounds, Option.getD_none, show (1 : Int) > 0 by decide, if_true, if_neg (show ¬ ((j : Int) < 0) by omega), List.size_toArray]; congr 1; omega)]
    show ((vs.drop (min j vs.length)).take (vs.length - min j vs.length)).toArray = _
    rw [kmk_drop_min, List.take_of_length_le (by rw [List.length_drop]; omega)]
  refine kmk_slice (s := ⟨hp, gg, dd, tt, oo⟩) F N ⟨_, (N _ hm).1, rfl, n, rfl⟩ (.int _ _) .none (fun D h' F' N' l1 => h D h' F' (by rw [e] at N'; exact N') l1) hs ht (by simpa using hsz)

theorem sliceTo_V {value slice : Expr} {l : Addr} {vs : List Value} {n j : Nat} {u : Tok} {k : Int} {hp : Heap} {gg : Array GenState} {dd : Drawn} {tt : Nat} {oo : OsState} {Q : Value → Shared → Prop} (F : Fr h₀ L hp m) (N : News h₀ L hp nw) (hm : (l, listOf vs.toArray n) ∈ nw) (hsz : vs.length ≤ sizeLine) (hk : k = (j : Int)) 
    (h : ∀ D h', Fr h₀ L h' m → News h₀ L h' ((D, listOf (vs.take j).toArray 0) :: nw) → (∀ p ∈ nw, p.1 < D) → Q (.ref D) ⟨h', gg, dd, tt, oo⟩)
    (hs : subscripted slice false (.ref l) (.ref hp.objs.size) = operate [.ref hp.objs.size, .ref l] (getItem (.ref l) (.ref hp.objs.size))) (ht : ∀ r, letTemporaryGo value (.ref l) r = pure ()) :
    wpAny (model prog w) A (subscriptTail value slice (.ref l) (.ref hp.objs.size)) Q E ⟨hp.push { cls := .type "slice", data := .fields #[.none, .int k u, .none] }, gg, dd, tt, oo⟩ := by
  subst hk
  have e : slicePick vs.toArray none (some (j : Int)) none = (vs.take j).toArray := by
    rw [kmk_pick_nat vs.toArray (a := 0) (b := min j vs.length) (by simp only [sliceBounds, Option.getD_none, show (1 : Int) > 0 by decide, if_true, if_neg (show ¬ ((j : Int) < 0) by omega), List.size_toArray]; congr 1; congr 1; omega)]
    show ((vs.drop 0).take (min j vs.length - 0)).toArray = _
    rw [List.drop_zero, Nat.sub_zero, kmk_take_min]
  refine kmk_slice (s := ⟨hp, gg, dd, tt, oo⟩) F N ⟨_, (N _ hm).1, rfl, n, rfl⟩ .none (.int _ _) (fun D h' F' N' l1 => h D h' F' (by rw [e] at N'; exact N') l1) hs ht (by simpa using hsz)
end
end Mine
namespace Mine
theorem fill2 (w : World) : (Challenge.rw_au0003_01.Holds ∧ (hd.heap_39 w.params).In default) → True := by
  k_fill; intro _; trivial
variable {w : World}

theorem match_ct {p d : Addr} {hs ts nm pf mt pn op n} {v : Value} : Ct w 152 [.ref p, v] 500 3000 (fun nw => (p, instObj 184 d) ∈ nw ∧ (d, dictOf (PD hs ts nm pf mt pn op) n) ∈ nw)
    (fun nw r nw' => r = .none ∧ (d, dictOf (PD hs ts nm pf v pn op) n) ∈ nw' ∧ Kp [d] nw nw') := by
  refine' Ct.intro (binds := [(Str.ofString "self", .ref p), (Str.ofString "other", v)]) (by k_is) (by k_is) (by decide) (by exact rfl) (by exact locs rfl) (by exact rfl) (by exact rfl) (by exact rfl) (by decide) ?_
  intro pp loose mean mg mb gd outer A₀ base g L h₁ tk s nw B F X N T hP
  refine hide fun Gx hGx => ?_
  obtain ⟨h1, h2⟩ := hP
  refine hGx ?_
  iterate 4 walk1
  refine setMat_V F X N h1 h2 fun h' nw' F' N' a b => ?_
  walk1
  exact ⟨_, _, _, F', N', rfl, rfl, rfl, rfl, a, b⟩

theorem unmatch_ct {p d : Addr} {hs ts nm pf mt pn op n} : Ct w 159 [.ref p] 500 3000 (fun nw => (p, instObj 184 d) ∈ nw ∧ (d, dictOf (PD hs ts nm pf mt pn op) n) ∈ nw)
    (fun nw r nw' => r = .none ∧ (d, dictOf (PD hs ts nm pf .none pn op) n) ∈ nw' ∧ Kp [d] nw nw') := by
  refine' Ct.intro (binds := [(Str.ofString "self", .ref p)]) (by k_is) (by k_is) (by decide) (by exact rfl) (by exact locs rfl) (by exact rfl) (by exact rfl) (by exact rfl) (by decide) ?_
  intro pp loose mean mg mb gd outer A₀ base g L h₁ tk s nw B F X N T hP
  refine hide fun Gx hGx => ?_
  obtain ⟨h1, h2⟩ := hP
  refine hGx ?_
  iterate 4 walk1
  refine setMat_V F X N h1 h2 fun h' nw' F' N' a b => ?_
  walk1
  exact ⟨_, _, _, F', N', rfl, rfl, rfl, rfl, a, b⟩

theorem getfav_ct {p d l : Addr} {hs ts nm mt pn op n k} {its : Array Value} {v : Value} (hv : its[0]? = some v) (hsz : its.size ≤ sizeLine) : Ct w 166 [.ref p] 500 3000 (fun nw => (p, instObj 184 d) ∈ nw ∧ (d, dictOf (PD hs ts nm (.ref l) mt pn op) n) ∈ nw ∧ (l, listOf its k) ∈ nw)
    (fun nw r nw' => r = v ∧ Kp [] nw nw') := by
  refine' Ct.intro (binds := [(Str.ofString "self", .ref p)]) (by k_is) (by k_is) (by decide) (by exact rfl) (by exact locs rfl) (by exact rfl) (by exact rfl) (by exact rfl) (by decide) ?_
  intro pp loose mean mg mb gd outer A₀ base g L h₁ tk s nw B F X N T hP
  refine hide fun Gx hGx => ?_
  obtain ⟨h1, h2, h3⟩ := hP
  refine hGx ?_
  iterate 5 walk1
  refine getPrefs_V F X N h1 h2 rfl ?_
  walk1
  refine item_V (j := 0) N h3 rfl hv hsz ?_ (by with_unfolding_all rfl)
  exact ⟨_, _, _, F, N, rfl, rfl, rfl, rfl, Kp.refl⟩

/-- all are players of the ledger -/
def Pls (nw : Ldg) (ps : List Addr) : Prop := ∀ p ∈ ps, ∃ d, (p, instObj 184 d) ∈ nw

theorem getsucc_ct {p d l a da : Addr} {hs ts nm pn op n k} {ps : List Addr} {j : Nat} (hj : ps[j]? = some a) (hno : ∀ i, i < j → ps[i]? ≠ some a) (hsz : ps.length ≤ 1000) :
    Ct w 173 [.ref p] 500 3000 (fun nw => (p, instObj 184 d) ∈ nw ∧ (d, dictOf (PD hs ts nm (.ref l) (.ref a) pn op) n) ∈ nw ∧ (l, plist ps k) ∈ nw ∧ Pls nw ps ∧ (a, instObj 184 da) ∈ nw)
    (fun nw r nw' => ∃ D, r = .ref D ∧ (D, plist (ps.drop (j + 1)) 0) ∈ nw' ∧ (∀ q ∈ nw, q.1 < D) ∧ Kp [] nw nw') := by
  refine' Ct.intro (binds := [(Str.ofString "self", .ref p)]) (by k_is) (by k_is) (by decide) (by exact rfl) (by exact locs rfl) (by exact rfl) (by exact rfl) (by exact rfl) (by decide) ?_
  intro pp loose mean mg mb gd outer A₀ base g L h₁ tk s nw B F X N T hP
  refine hide fun Gx hGx => ?_
  obtain ⟨h1, h2, h3, h4, h5⟩ := hP
  refine hGx ?_
  repeat walk1
  have hjl : j < ps.length := (List.getElem?_eq_some_iff.mp hj).1
  refine index_V (isRef a) j N h3 (refs_eqAt (by show 3004 < cLine; decide) F X N h4 h5) (by simpa using hjl) ?_ ?_ (by rw [sizeLine_eq]; simp; omega) ?_
  · refine hide fun Gx hGx => ?_
    obtain ⟨h, e⟩ := List.getElem?_eq_some_iff.mp hj
    refine hGx ?_
    simp [isRef, e]
  · intro i hi hij
    have hi' : i < ps.length := by simpa using hi
    have := hno i hij
    simp only [List.getElem?_eq_getElem hi'] at this
    simp only [List.getElem_toArray, List.getElem_map, isRef]
    simpa using this
  repeat walk1
  dsimp only
  refine sliceFrom_V (j := j + 1) (by assumption) (by assumption) h3 (by rw [sizeLine_eq]; simp; omega) (by push_cast; rfl) (fun D h' F' N' lt => ?_) (by with_unfolding_all rfl) (by intro _; with_unfolding_all rfl)
  refine ⟨_, _, _, F', N', rfl, rfl, rfl, D, rfl, ?_, lt, fun q hq _ => .tail _ hq⟩
  rw [← List.map_drop]
  exact .head _
end Mine
namespace Mine
theorem fill3 (w : World) : (Challenge.rw_au0003_01.Holds ∧ (hd.heap_39 w.params).In default) → True := by
  k_fill; intro _; trivial

theorem Ct.introC {w : World} {f : Addr} {args : List Value} {dp un : Nat} {Pre : Ldg → Prop} {Post : Ldg → Value → Ldg → Prop}
    {name qual : Str} {params : Arguments} {body : List Stmt} {scope : Scope} {dV kV doc pm cdv ct oc : Value} {an od : Option Addr} {osl : Array (Option Value)} {binds : List (Str × Value)}
    (ho : (hd.heap_39 w.params).lookup f = some ⟨oc, od, .func (fnOf name qual params body scope dV kV doc pm an cdv ct), osl⟩) (hcd : codeIn (hd.heap_39 w.params) cdv qual = true) (hroom : dp < recursionLimit)
    (hbind : bindArgs (fnOf name qual params body scope dV kV doc pm an cdv ct) ⟨args, []⟩ = pure binds) (hkind : (binds.all fun y => scope.names.lookup y.1 == some .local || scope.names.lookup y.1 == some .cell) = true)
    (hnd : ((cellsFrom 0 scope.names []).map (·.1)).Nodup)
    (hco : scope.isCoroutine = false) (hgen : scope.isGenerator = false) (hk : scope.kind = .function)
    (h : ∀ (p : Program) (loose : List Str) (mean : ExcName → Option Value) (mg mb : Str → Option Value) (gd : Option (List Code)) (outer : List Env) (A₀ : Around) (base g : Heap) (L : Addr) (h₁ : Heap) (tk : Nat) (s : Shared) (nw : Ldg) (cells : Ldg),
      Below A₀ base outer g → Fr g L h₁ (bindL (envOfC qual scope L f cdv).kindOf binds fun _ => none) → (hd.heap_39 w.params).In g → News g L h₁ (cells ++ nw) → CellsAre (bindC (envOfC qual scope L f cdv).kindOf binds fun _ => none) (cellsFrom (L + 1) scope.names []) cells →
      (∀ p ∈ nw, p.1 < L) → Top p loose mean mg mb g → Pre nw →
      wpAny (model Challenge.rw_au0003_01.row.prog w) (ktrTop (dp + 1) (un + 3) gd qual scope L f cdv (cellsFrom (L + 1) scope.names []) outer) (execs body (envX qual scope L f cdv (cellsFrom (L + 1) scope.names []))) (Fin g Post s nw) NE { s with heap := h₁, toks := tk }) :
    Ct w f args dp un Pre Post := by
  intro p loose mean mg mb gd cn cs a ccd cl outer A₀ base h₀ L m nw s Q B F X N T hck hP hret
  refine wpAny_call (code_defC B F X N T (env := envX cn cs L a ccd cl) (outer := outer) rfl rfl hck ho hcd hroom (BindsTo.of_eq hbind) hkind hnd ?_ hco hgen hk)
  intro g L' h₁ tk cells FG F' N' Y B' X' T' lt
  refine wpAny_mono (h p loose mean mg mb gd (envX cn cs L a ccd cl :: outer) _ base g L' h₁ tk s nw cells B' F' X' N' Y lt T' hP) (fun fl s' hf => ?_) (fun _ _ x => x.elim)
  refine hide fun Gx hGx => ?_
  obtain ⟨L₂, m₂, nw₂, F₂, N₂, e1, e2, e3, hpost⟩ := hf
  refine hGx ?_
  refine leaveK_ F₂ N₂ fun F₃ N₃ => ?_
  refine hide fun Gx hGx => ?_
  obtain ⟨hh, gg, dd, tt, oo⟩ := s'
  refine hGx ?_
  simp only at e1 e2 e3
  subst e1 e2 e3
  exact hret _ nw₂ hh tt F₃ N₃ hpost

section
variable {M : Model} {A : Around} {E : Value → Shared → Prop} {s : Shared} {h₀ : Heap} {L C c : Addr} {nw : Ldg} {scope : Scope} {cl : List (Str × Addr)} {env : Env} {x : Str} {pos : Pos} {v : Value} {o oC : Obj} {m₂ : Str → Option Value} {Q : Value → Shared → Prop}
/-- a comprehension's own name -/
theorem nameL_C (N : News h₀ L s.heap nw) (hC : (C, oC) ∈ nw) (hn : LCg.NsObj oC m₂) (hv : m₂ x = some v) (h : Q v s)
    (hk : (compEnvC scope cl C env).scope.kind = .function) (hl : (compEnvC scope cl C env).kindOf x = some .local) (hd : (x == ("__debug__" : Str)) = false) :
    wpAny M A (eval (.Name x pos) (compEnvC scope cl C env)) Q E s := wpAny_Name (wpAny_loadName_local hk hl (hn.ns (N _ hC).1) hv h) hd
end

variable {w : World}
theorem forget_ct {p d l a da : Addr} {hs ts nm mt pn op n k} {ps : List Addr} (hsz : ps.length ≤ 1000) :
    Ct w 61 [.ref p, .ref a] 500 3000 (fun nw => (p, instObj 184 d) ∈ nw ∧ (d, dictOf (PD hs ts nm (.ref l) mt pn op) n) ∈ nw ∧ (l, plist ps k) ∈ nw ∧ Pls nw ps ∧ (a, instObj 184 da) ∈ nw)
    (fun nw r nw' => ∃ D k', r = .none ∧ (d, dictOf (PD hs ts nm (.ref D) mt pn op) n) ∈ nw' ∧ (D, plist (ps.filter (· != a)) k') ∈ nw' ∧ (∀ q ∈ nw, q.1 < D) ∧ Kp [d] nw nw') := by
  refine' Ct.introC (binds := [(Str.ofString "self", .ref p), (Str.ofString "other", .ref a)]) (by k_is) (by k_is) (by decide) (by exact rfl) (by exact rfl) (by decide +kernel) (by exact rfl) (by exact rfl) (by exact rfl) ?_
  intro pp loose mean mg mb gd outer A₀ base g L h₁ tk s nw cells B F X N Y lt T hP
  refine hide fun Gx hGx => ?_
  obtain ⟨h1, h2, h3, h4, h5⟩ := hP
  obtain ⟨oc, rfl, hc0⟩ := CellsAre.one (n := Str.ofString "other") (c := L + 1) Y
  refine hGx ?_
  have hc : oc.data = .cell (some (.ref a)) := hc0
  simp only [List.cons_append, List.nil_append] at N
  iterate 2 walk1
  refine ListComp_open (cl := [(Str.ofString "other", L + 1)]) (by with_unfolding_all rfl) (by rfl) (by decide) ?_ (by intro _; rfl)
  iterate 2 walk1
  refine getPrefs_V F X N (.tail _ h1) (.tail _ h2) rfl ?_
  dsimp only
  refine compE_list (nw₀ := (L + 1, oc) :: nw) rfl (by decide) rfl rfl F N (.tail _ h3) (by rw [sizeLine_eq]; simp; omega) (fun i ys nj => ys = ((ps.take i).filter (· != a)).map Value.ref ∧ nj = (L + 1, oc) :: nw) ⟨rfl, rfl⟩ ?_ ?_
  · intro i v ys nj nw₁ C oC m₂ h tk hv hJ hs0 hsj hC hnC hm hF hN hLC
    refine hide fun Gx hGx => ?_
    obtain ⟨rfl, rfl⟩ := hJ
    refine hGx ?_
    unfold CTurn tests
    refine wpAny_tests_one ?_
    iterate 1 walk1
    refine nameL_C hN hC hnC hm ?_ (by rfl) (by rfl) (by decide)
    refine lcf_cell (c := L + 1) hN rfl (hsj _ (.head _)) hc ?_ rfl rfl
    refine hide fun Gx hGx => ?_
    obtain ⟨q, hq, rfl⟩ : ∃ q, ps[i]? = some q ∧ Value.ref q = v := by simpa using hv
    obtain ⟨dq, hdq⟩ := h4 q (List.mem_of_getElem? hq)
    refine hGx ?_
    refine cmp_ofNotEq (Kpl.rcNe (by show 3004 < cLine; decide) (kpl hF X hN (hsj _ (.tail _ hdq))) (kpl hF X hN (hsj _ (.tail _ h5))) ?_)
    refine wpAny_truthy_bool ?_
    have htk : ps.take (i + 1) = ps.take i ++ [q] := by rw [List.take_add_one, hq]; rfl
    by_cases hqa : q = a
    · rw [if_neg (by simp [hqa])]
      refine ⟨_, _, nw₁, [], rfl, hF, hN, fun _ h => h, (fun _ h => nomatch h), ?_, rfl⟩
      rw [htk, List.filter_append, List.filter_cons_of_neg (by simp [hqa])]; simp
    · rw [if_pos (by simp [hqa])]
      refine nameL_C hN hC hnC hm ?_ (by rfl) (by rfl) (by decide)
      refine ⟨_, _, nw₁, [], rfl, hF, hN, fun _ h => h, (fun _ h => nomatch h), ?_, rfl⟩
      rw [htk, List.filter_append, List.filter_cons_of_pos (by simp [hqa])]; simp
  · intro D h tk ys nj hJ hs0 F' N' ltD
    refine hide fun Gx hGx => ?_
    obtain ⟨rfl, rfl⟩ := hJ
    refine hGx ?_
    iterate 1 walk1
    have hDd : D ≠ d := fun e => by subst e; exact Nat.lt_irrefl _ (ltD _ (.tail _ h2))
    refine setPrefs_V F' X N' (.tail _ (.tail _ h1)) (.tail _ (.tail _ h2)) fun h' nw' F'' N'' hm' hk' => ?_
    refine wpAny_execs_nil ?_
    have hD := hk' _ (.head _) (by simpa using hDd)
    simp only [List.size_toArray, List.length_map] at hD
    rw [List.take_of_length_le (Nat.le_refl _)] at hD
    exact ⟨_, _, _, F'', N'', rfl, rfl, rfl, D, _, rfl, hm', hD, fun q hq => ltD q (.tail _ hq), fun q hq hn => hk' q (.tail _ (.tail _ hq)) hn⟩
end Mine
namespace Mine
theorem fill4 (w : World) : (Challenge.rw_au0003_01.Holds ∧ (hd.heap_39 w.params).In default) → True := by
  k_fill; intro _; trivial
theorem listNeDict {a n b m} : listOf a n ≠ dictOf b m := fun e => absurd (congrArg Obj.cls e) (by show ¬ (Value.type "list" = Value.type "dict"); decide)
variable {w : World}
theorem delpair_ct {x dx lx y dy ly : Addr} {hs ts nm mt pn op n k hs' ts' nm' mt' pn' op' n' k'} {px py : List Addr} (hxy : x ≠ y) (hsx : px.length ≤ 1000) (hsy : py.length ≤ 1000) (hdd : dx ≠ dy) :
    Ct w 28 [.ref x, .ref y] 490 2900 (fun nw => (x, instObj 184 dx) ∈ nw ∧ (dx, dictOf (PD hs ts nm (.ref lx) mt pn op) n) ∈ nw ∧ (lx, plist px k) ∈ nw ∧ Pls nw px ∧ (y, instObj 184 dy) ∈ nw ∧ (dy, dictOf (PD hs' ts' nm' (.ref ly) mt' pn' op') n') ∈ nw ∧ (ly, plist py k') ∈ nw ∧ Pls nw py)
    (fun nw r nw' => ∃ D D' k k', r = .none ∧ (dx, dictOf (PD hs ts nm (.ref D) mt pn op) n) ∈ nw' ∧ (D, plist (px.filter (· != y)) k) ∈ nw' ∧ (dy, dictOf (PD hs' ts' nm' (.ref D') mt' pn' op') n') ∈ nw' ∧ (D', plist (py.filter (· != x)) k') ∈ nw' ∧
      (∀ q ∈ nw, q.1 < D) ∧ (∀ q ∈ nw, q.1 < D') ∧ Kp [dx, dy] nw nw') := by
  refine' Ct.intro (binds := [(Str.ofString "player", .ref x), (Str.ofString "other", .ref y)]) (by k_is) (by k_is) (by decide) (by exact rfl) (by exact locs rfl) (by exact rfl) (by exact rfl) (by exact rfl) (by decide) ?_
  intro pp loose mean mg mb gd outer A₀ base g L h₁ tk s nw B F X N T hP
  refine hide fun Gx hGx => ?_
  obtain ⟨h1, h2, h3, h4, h5, h6, h7, h8⟩ := hP
  refine hGx ?_
  iterate 9 walk1
  refine ⟨X.keeps F.keep, ?_⟩
  refine Ct.use (forget_ct hsx) (by decide) (by decide) B F X N T rfl ⟨h1, h2, h3, h4, h5⟩ fun r nw1 g1 tk1 F1 N1 hp => ?_
  refine hide fun Gx hGx => ?_
  obtain ⟨D, k1, rfl, a1, a2, a3, K1⟩ := hp
  refine hGx ?_
  have n1 : x ≠ dx := nneO N h1 h2 (fun e => by cases e)
  have n2 : y ≠ dx := nneO N h5 h2 (fun e => by cases e)
  have n3 : lx ≠ dx := nneO N h3 h2 listNeDict
  have n4 : ly ≠ dx := nneO N h7 h2 listNeDict
  have n5 : D ≠ dy := fun e => by subst e; exact Nat.lt_irrefl _ (a3 _ h6)
  have P1 : ∀ q ∈ nw, q.1 ≠ dx → q ∈ nw1 := fun q hq hn => K1 q hq (by simpa using hn)
  have c5 := P1 _ h5 n2
  have c6 := P1 _ h6 (Ne.symm hdd)
  iterate 9 walk1
  refine ⟨X.keeps F1.keep, ?_⟩
  refine Ct.use (forget_ct hsy) (by decide) (by decide) B F1 X N1 T rfl ⟨P1 _ h5 n2, P1 _ h6 (Ne.symm hdd), P1 _ h7 n4, fun p hp => ?_, P1 _ h1 n1⟩ fun r nw2 g2 tk2 F2 N2 hp => ?_
  · refine hide fun Gx hGx => ?_
    obtain ⟨d, hd'⟩ := h8 p hp
    refine hGx ?_
    exact ⟨d, P1 _ hd' (nneO N hd' h2 (fun e => by cases e))⟩
  refine hide fun Gx hGx => ?_
  obtain ⟨D', k2, rfl, b1, b2, b3, K2⟩ := hp
  refine hGx ?_
  have P2 : ∀ q ∈ nw1, q.1 ≠ dy → q ∈ nw2 := fun q hq hn => K2 q hq (by simpa using hn)
  refine wpAny_execs_nil ?_
  refine ⟨_, _, _, F2, N2, rfl, rfl, rfl, D, D', k1, k2, rfl, P2 _ a1 hdd, P2 _ a2 n5, b1, b2, a3, fun q hq => ?_, fun q hq hn => ?_⟩
  · by_cases hq1 : q.1 = dx
    · have := b3 _ a1; rw [hq1]; exact this
    · exact b3 _ (P1 _ hq hq1)
  · simp only [List.mem_cons, List.not_mem_nil, or_false, not_or] at hn
    exact P2 _ (P1 _ hq hn.1) hn.2
end Mine
namespace Mine
theorem fill5 (w : World) : (Challenge.rw_au0003_01.Holds ∧ (hd.heap_39 w.params).In default) → True := by
  k_fill; intro _; trivial

noncomputable def mvO : Option Addr → Value
  | none => .none
  | some y => .ref y

/-- the players of the ledger: rows U, held ones M, none of the rows' lists at the address bad -/
inductive PWx (nw : Ldg) (bad : Option Addr) (D : Addr → Addr) (nmv : Addr → Value) (U : Addr → List Addr) (M : Addr → Option Addr) (x : Addr) : Prop
  | mk (hs : _) (ts : _) (pn : _) (op : _) (n : _) (l : _) (k : _) (f1 : (x, instObj 184 (D x)) ∈ nw) (f2 : (D x, dictOf (PD hs ts (nmv x) (.ref l) (mvO (M x)) pn op) n) ∈ nw) (f3 : (l, plist (U x) k) ∈ nw) (f4 : ∀ b, bad = some b → l ≠ b)
def PW (nw : Ldg) (bad : Option Addr) (ps : List Addr) (D : Addr → Addr) (nmv : Addr → Value) (U : Addr → List Addr) (M : Addr → Option Addr) : Prop := ∀ x ∈ ps, PWx nw bad D nmv U M x

theorem keepO {h₀ h : Heap} {L : Addr} {nw nw' : Ldg} {T : List Addr} (N : News h₀ L h nw) (K : Kp T nw nw') (hT : ∀ t ∈ T, ∃ es n, (t, dictOf es n) ∈ nw) {a : Addr} {o : Obj} (hm : (a, o) ∈ nw) (ho : ∀ es n, o ≠ dictOf es n) : (a, o) ∈ nw' :=
  K _ hm fun ht => by obtain ⟨es, n, hd⟩ := hT a ht; exact ho es n (nsame N hm hd)
theorem instNeDict {x d es n} : instObj x d ≠ dictOf es n := fun e => absurd (congrArg Obj.cls e) (by simp)
theorem listNeInst {a n x d} : listOf a n ≠ instObj x d := fun e => absurd (congrArg Obj.cls e) (by simp)

theorem PW.pls {nw : Ldg} {bad : Option Addr} {ps : List Addr} {D : Addr → Addr} {nmv : Addr → Value} {U : Addr → List Addr} {M : Addr → Option Addr} (P : PW nw bad ps D nmv U M) {l : List Addr} (hl : ∀ x ∈ l, x ∈ ps) : Pls nw l := fun x hx => by
  refine hide fun Gx hGx => ?_
  obtain ⟨_, _, _, _, _, _, _, h, _⟩ := P x (hl x hx)
  refine hGx ?_
  exact ⟨_, h⟩

/-- more objects, or others turned that are no player's -/
theorem PW.mono {nw nw' : Ldg} {bad bad' : Option Addr} {ps : List Addr} {D : Addr → Addr} {nmv : Addr → Value} {U : Addr → List Addr} {M : Addr → Option Addr} (P : PW nw bad ps D nmv U M) (h : ∀ q ∈ nw, (∀ b, bad = some b → q.1 ≠ b) → q ∈ nw')
    (hi : ∀ x d b, (x, instObj 184 d) ∈ nw → bad = some b → x ≠ b) (hdd : ∀ x es n b, (x, dictOf es n) ∈ nw → bad = some b → x ≠ b) (hb : bad' = none ∨ bad' = bad) : PW nw' bad' ps D nmv U M := fun x hx => by
  refine hide fun Gx hGx => ?_
  obtain ⟨hs, ts, pn, op, n, l, k, h1, h2, h3, h4⟩ := P x hx
  refine hGx ?_
  refine ⟨hs, ts, pn, op, n, l, k, h _ h1 (hi _ _ · h1), h _ h2 (hdd _ _ _ · h2), h _ h3 h4, ?_⟩
  rcases hb with rfl | rfl
  · intro b hb; cases hb
  · exact h4

/-- one player's dict is turned -/
theorem PW.turn {h₀ h : Heap} {L : Addr} {nw nw' : Ldg} {bad : Option Addr} {ps : List Addr} {D : Addr → Addr} {nmv : Addr → Value} {U : Addr → List Addr} {M M' : Addr → Option Addr} (P : PW nw bad ps D nmv U M) (N : News h₀ L h nw)
    (inj : ∀ x ∈ ps, ∀ y ∈ ps, D x = D y → x = y) {y : Addr} (hy : y ∈ ps) (K : Kp [D y] nw nw') (hM : ∀ x, x ≠ y → M' x = M x)
    (hnew : ∃ hs ts pn op n l k, (D y, dictOf (PD hs ts (nmv y) (.ref l) (mvO (M' y)) pn op) n) ∈ nw' ∧ (l, plist (U y) k) ∈ nw' ∧ (∀ b, bad = some b → l ≠ b)) : PW nw' bad ps D nmv U M' := fun x hx => by
  refine hide fun Gx hGx => ?_
  obtain ⟨hs, ts, pn, op, n, l, k, h1, h2, h3, h4⟩ := P x hx
  obtain ⟨hs', ts', pn', op', n', l', k', g1, g2, g3, g4⟩ := P y hy
  refine hGx ?_
  have hT : ∀ t ∈ [D y], ∃ es n, (t, dictOf es n) ∈ nw := fun t ht => by rw [List.mem_singleton.mp ht]; exact ⟨_, _, g2⟩
  have k1 := keepO N K hT h1 (fun _ _ => instNeDict)
  by_cases e : x = y
  · subst e
    refine hide fun Gx hGx => ?_
    obtain ⟨hs, ts, pn, op, n, l, k, a, b, c⟩ := hnew
    refine hGx ?_
    exact ⟨hs, ts, pn, op, n, l, k, k1, a, b, c⟩
  · refine ⟨hs, ts, pn, op, n, l, k, k1, ?_, keepO N K hT h3 (fun _ _ => listNeDict), h4⟩
    rw [hM x e]
    exact K _ h2 fun ht => e (inj x hx y hy (List.mem_singleton.mp ht))

theorem PW.strike {h₀ h : Heap} {L : Addr} {nw nw' : Ldg} {bad : Option Addr} {ps : List Addr} {D : Addr → Addr} {nmv : Addr → Value} {U : Addr → List Addr} {M : Addr → Option Addr} (P : PW nw bad ps D nmv U M) (N : News h₀ L h nw)
    (inj : ∀ x ∈ ps, ∀ y ∈ ps, D x = D y → x = y) {z y : Addr} (hz : z ∈ ps) (hy : y ∈ ps) (hzy : z ≠ y) (K : Kp [D z, D y] nw nw')
    (hnz : ∃ hs ts pn op n l k, (D z, dictOf (PD hs ts (nmv z) (.ref l) (mvO (M z)) pn op) n) ∈ nw' ∧ (l, plist ((U z).filter (· != y)) k) ∈ nw' ∧ (∀ b, bad = some b → l ≠ b))
    (hny : ∃ hs ts pn op n l k, (D y, dictOf (PD hs ts (nmv y) (.ref l) (mvO (M y)) pn op) n) ∈ nw' ∧ (l, plist ((U y).filter (· != z)) k) ∈ nw' ∧ (∀ b, bad = some b → l ≠ b)) : PW nw' bad ps D nmv (del U z y) M := fun x hx => by
  refine hide fun Gx hGx => ?_
  obtain ⟨hs, ts, pn, op, n, l, k, h1, h2, h3, h4⟩ := P x hx
  refine hGx ?_
  have hT : ∀ t ∈ [D z, D y], ∃ es n, (t, dictOf es n) ∈ nw := fun t ht => by
    simp only [List.mem_cons, List.not_mem_nil, or_false] at ht
    rcases ht with rfl | rfl
    · obtain ⟨_, _, _, _, _, _, _, _, g, _⟩ := P z hz; exact ⟨_, _, g⟩
    · obtain ⟨_, _, _, _, _, _, _, _, g, _⟩ := P y hy; exact ⟨_, _, g⟩
  have k1 := keepO N K hT h1 (fun _ _ => instNeDict)
  by_cases ez : x = z
  · subst ez
    refine hide fun Gx hGx => ?_
    obtain ⟨hs, ts, pn, op, n, l, k, a, b, c⟩ := hnz
    refine hGx ?_
    refine ⟨hs, ts, pn, op, n, l, k, k1, a, ?_, c⟩
    unfold del; rw [if_pos rfl]; exact b
  · by_cases ey : x = y
    · subst ey
      refine hide fun Gx hGx => ?_
      obtain ⟨hs, ts, pn, op, n, l, k, a, b, c⟩ := hny
      refine hGx ?_
      refine ⟨hs, ts, pn, op, n, l, k, k1, a, ?_, c⟩
      unfold del; rw [if_neg ez, if_pos rfl]; exact b
    · refine ⟨hs, ts, pn, op, n, l, k, k1, ?_, ?_, h4⟩
      · refine K _ h2 fun ht => ?_
        simp only [List.mem_cons, List.not_mem_nil, or_false] at ht
        rcases ht with e | e
        · exact ez (inj x hx z hz e)
        · exact ey (inj x hx y hy e)
      · unfold del; rw [if_neg ez, if_neg ey]
        exact keepO N K hT h3 (fun _ _ => listNeDict)

/-- the sum that every turn lowers -/
noncomputable def weigh (ps : List Addr) (U : Addr → List Addr) (free : List Addr) : Nat := (ps.map fun x => (U x).length).sum + free.length

theorem sum_le {ps : List Addr} {f g : Addr → Nat} (h : ∀ x ∈ ps, f x ≤ g x) : (ps.map f).sum ≤ (ps.map g).sum := by
  induction ps with
  | nil => exact Nat.le_refl _
  | cons a r ih =>
    simp only [List.map_cons, List.sum_cons]
    exact Nat.add_le_add (h a (by simp)) (ih fun x hx => h x (by simp [hx]))
theorem sum_lt {ps : List Addr} {f g : Addr → Nat} (h : ∀ x ∈ ps, f x ≤ g x) {a : Addr} (ha : a ∈ ps) (hlt : f a < g a) : (ps.map f).sum < (ps.map g).sum := by
  induction ps with
  | nil => cases ha
  | cons b r ih =>
    simp only [List.map_cons, List.sum_cons]
    rcases List.mem_cons.mp ha with rfl | ha
    · exact Nat.add_lt_add_of_lt_of_le hlt (sum_le fun x hx => h x (by simp [hx]))
    · exact Nat.add_lt_add_of_le_of_lt (h b (by simp)) (ih (fun x hx => h x (by simp [hx])) ha)
end Mine
namespace Mine
theorem fill6 (w : World) : (Challenge.rw_au0003_01.Holds ∧ (hd.heap_39 w.params).In default) → True := by
  k_fill; intro _; trivial
variable {w : World}

theorem fr_two {h₀ h : Heap} {L : Addr} {m : Str → Option Value} {a b : Str} {va vb : Value} (F : Fr h₀ L h m) (ha : m a = some va) (hb : m b = some vb) : Fr h₀ L h (fun y => if y = a then some va else if y = b then some vb else m y) := by
  have e : (fun y => if y = a then some va else if y = b then some vb else m y) = m := by
    funext y
    by_cases h1 : y = a
    · rw [if_pos h1, h1, ha]
    · rw [if_neg h1]
      by_cases h2 : y = b
      · rw [if_pos h2, h2, hb]
      · rw [if_neg h2]
  rw [e]; exact F

theorem fr_in {h₀ h : Heap} {L : Addr} {m : Str → Option Value} {a : Str} {va : Value} (F : Fr h₀ L h m) (ha : m a = some va) : Fr h₀ L h (fun y => if y = a then some va else m y) := by
  have e : (fun y => if y = a then some va else m y) = m := by
    funext y
    by_cases h1 : y = a
    · rw [if_pos h1, h1, ha]
    · rw [if_neg h1]
  rw [e]; exact F

theorem nodup_len {α : Type} [DecidableEq α] {l : List α} (h : l.Nodup) : ∀ {r : List α}, (∀ x ∈ l, x ∈ r) → l.length ≤ r.length := by
  induction l with
  | nil => intro r _; exact Nat.zero_le _
  | cons a t ih =>
    intro r hs
    have ha : a ∈ r := hs a (.head _)
    have := @ih (List.nodup_cons.mp h).2 (r.erase a) (fun x hx => (List.mem_erase_of_ne (fun e => by subst e; exact (List.nodup_cons.mp h).1 hx)).mpr (hs x (.tail _ hx)))
    rw [List.length_erase_of_mem ha] at this
    have hp : 0 < r.length := List.length_pos_of_mem ha
    simp only [List.length_cons]; omega

theorem pop_arr {fr : List Addr} {x : Addr} : (((fr ++ [x]).map Value.ref).toArray).eraseIdxIfInBounds ((((fr ++ [x]).map Value.ref).toArray).size - 1) = (fr.map Value.ref).toArray := by
  simp [Array.eraseIdxIfInBounds, List.eraseIdx_toArray, List.eraseIdx_append_of_length_le]
theorem map_eraseIdx {α β : Type} (f : α → β) (l : List α) (j : Nat) : (l.map f).eraseIdx j = (l.eraseIdx j).map f := by
  induction l generalizing j with
  | nil => rfl
  | cons a t ih => cases j with
    | zero => rfl
    | succ j => simp [ih]
theorem erase_arr {fr : List Addr} {x : Addr} {j : Nat} (hj : fr[j]? = some x) (hno : ∀ i, i < j → fr[i]? ≠ some x) : ((fr.map Value.ref).toArray).eraseIdxIfInBounds j = ((fr.erase x).map Value.ref).toArray := by
  have hl : j < fr.length := (List.getElem?_eq_some_iff.mp hj).1
  have e : fr.erase x = fr.eraseIdx j := by
    induction fr generalizing j with
    | nil => cases hj
    | cons a t ih =>
      cases j with
      | zero => cases hj; simp
      | succ j =>
        have hax : a ≠ x := fun e => hno 0 (by omega) (by simp [e])
        rw [List.erase_cons_tail (by simpa using hax), List.eraseIdx_cons_succ, ih hj (fun i hi => hno (i + 1) (by omega)) (by simpa using hl)]
  rw [e]
  simp [Array.eraseIdxIfInBounds, List.eraseIdx_toArray, hl, map_eraseIdx]
theorem PW.drop {nw : Ldg} {bad : Option Addr} {ps : List Addr} {D : Addr → Addr} {nmv : Addr → Value} {U : Addr → List Addr} {M : Addr → Option Addr} (P : PW nw bad ps D nmv U M) : PW nw none ps D nmv U M := fun x hx => by
  refine hide fun Gx hGx => ?_
  obtain ⟨hs, ts, pn, op, n, l, k, h1, h2, h3, h4⟩ := P x hx
  refine hGx ?_
  exact ⟨hs, ts, pn, op, n, l, k, h1, h2, h3, fun _ e => nomatch e⟩
theorem PW.notIt {nw nw' : Ldg} {bad : Option Addr} {ps : List Addr} {D : Addr → Addr} {nmv : Addr → Value} {U : Addr → List Addr} {M : Addr → Option Addr} (P : PW nw bad ps D nmv U M) (h : ∀ q ∈ nw, isIt q.2 = false → q ∈ nw') : PW nw' bad ps D nmv U M := fun x hx => by
  refine hide fun Gx hGx => ?_
  obtain ⟨hs, ts, pn, op, n, l, k, h1, h2, h3, h4⟩ := P x hx
  refine hGx ?_
  exact ⟨hs, ts, pn, op, n, l, k, h _ h1 rfl, h _ h2 rfl, h _ h3 rfl, h4⟩
/-- the list at hand is turned, the players are not -/
theorem PW.list {h₀ h : Heap} {L : Addr} {nw nw' : Ldg} {fl : Addr} {its : Array Value} {k : Nat} {ps : List Addr} {D : Addr → Addr} {nmv : Addr → Value} {U : Addr → List Addr} {M : Addr → Option Addr} (P : PW nw (some fl) ps D nmv U M) (N : News h₀ L h nw) (hf : (fl, listOf its k) ∈ nw) (K : Kp [fl] nw nw') : PW nw' (some fl) ps D nmv U M := by
  refine P.mono (fun q hq hn => K q hq (by simpa using hn fl rfl)) (fun x d b hx hb => ?_) (fun x es n b hx hb => ?_) (.inr rfl)
  · cases hb; exact nneO N hx hf listNeInst.symm
  · cases hb; exact nneO N hx hf listNeDict.symm

theorem row_less {l1 r : List Addr} {x z : Addr} (h : (l1 ++ x :: z :: r).Nodup) : (l1 ++ x :: z :: r).filter (· != z) = l1 ++ x :: r := by
  have q1 : ∀ a ∈ l1, (a != z) = true := fun a ha => bne_iff_ne.mpr ((List.nodup_append.mp h).2.2 a ha z (by simp))
  have q2 := (List.nodup_append.mp h).2.1
  have q3 : x ≠ z := fun e => (List.nodup_cons.mp q2).1 (by simp [e])
  have q4 : ∀ a ∈ r, (a != z) = true := fun a ha => bne_iff_ne.mpr fun e => (List.nodup_cons.mp (List.nodup_cons.mp q2).2).1 (by rw [← e]; exact ha)
  rw [List.filter_append, List.filter_cons_of_pos (by simpa using q3), List.filter_cons_of_neg (by simp), List.filter_eq_self.mpr q1, List.filter_eq_self.mpr q4]

theorem first_at {l : List Addr} {z : Addr} (h : z ∈ l) : ∃ j : Nat, l[j]? = some z ∧ ∀ i, i < j → l[i]? ≠ some z := by
  induction l with
  | nil => cases h
  | cons a t ih =>
    by_cases e : a = z
    · exact ⟨0, by simp [e], fun i hi => by omega⟩
    · refine hide fun Gx hGx => ?_
      obtain ⟨j, h1, h2⟩ := ih (by rcases List.mem_cons.mp h with h | h; exact absurd h.symm e; exact h)
      refine hGx ?_
      refine ⟨j + 1, by simpa using h1, fun i hi => ?_⟩
      cases i with
      | zero => simpa using e
      | succ i => simpa using h2 i (by omega)

inductive phJ (fl pl : Addr) (ps : List Addr) (D : Addr → Addr) (nmv : Addr → Value) (U0 : Addr → List Addr) (nw : Ldg) (n : Nat) (m₁ : Str → Option Value) (nw₁ : Ldg) : Prop
  | mk (f1 : m₁ (Str.ofString "free_players") = some (.ref fl)) (f2 : m₁ (Str.ofString "players") = some (.ref pl)) (U : _) (M : _) (free : _) (k : _) (f3 : (fl, plist free k) ∈ nw₁) (f4 : PW nw₁ (some fl) ps D nmv U M) (f5 : Inv ps U0 U M free) (f6 : n = weigh ps U free) (f7 : (∀ x, (U x).length ≤ 900)) (f8 : Kp (fl :: ps.map D) nw nw₁)

inductive phJ2 (fl pl : Addr) (ps : List Addr) (D : Addr → Addr) (nmv : Addr → Value) (U0 U : Addr → List Addr) (M : Addr → Option Addr) (x y : Addr) (l1 zs free1 : List Addr) (i : Nat) (m : Str → Option Value) (nwi : Ldg) : Prop
  | mk (f1 : m (Str.ofString "free_players") = some (.ref fl)) (f2 : m (Str.ofString "players") = some (.ref pl)) (f3 : m (Str.ofString "favourite") = some (.ref y)) (U' : _) (free' : _) (k : _) (f4 : (fl, plist free' k) ∈ nwi) (f5 : PW nwi (some fl) ps D nmv U' (fun q => if q = y then some x else M q)) (f6 : InvT ps U0 U' (fun q => if q = y then some x else M q) free' x y) (f7 : U' y = l1 ++ x :: zs.drop i) (f8 : (∀ q, (U' q).length ≤ (U q).length)) (f9 : free'.length ≤ free1.length)

inductive phPost (pl : Addr) (ps : List Addr) (D : Addr → Addr) (nmv : Addr → Value) (U0 : Addr → List Addr) (nw : Ldg) (r : Value) (nw' : Ldg) : Prop
  | mk (U : _) (M : _) (f1 : r = .ref pl) (f2 : PW nw' none ps D nmv U M) (f3 : Inv ps U0 U M []) (f4 : Kp (ps.map D) nw nw')

theorem phase_ct {ps : List Addr} {pl k : Nat} {D : Addr → Addr} {nmv : Addr → Value} {U0 : Addr → List Addr} (inj : ∀ x ∈ ps, ∀ y ∈ ps, D x = D y → x = y) (hps : ps.length ≤ 900) (hnd : ps.Nodup) (hok : Ok U0) (hcl : ∀ x y, y ∈ U0 x → y ∈ ps) (hne : ∀ x ∈ ps, U0 x ≠ []) (hsz : ∀ x, (U0 x).length ≤ 900) :
    Ct w 35 [.ref pl] 480 2800 (fun nw => (pl, plist ps k) ∈ nw ∧ PW nw none ps D nmv U0 (fun _ => none))
    (phPost pl ps D nmv U0) := by
  refine' Ct.intro (binds := [(Str.ofString "players", .ref pl)]) (by k_is) (by k_is) (by decide) (by exact rfl) (by exact locs rfl) (by exact rfl) (by exact rfl) (by exact rfl) (by decide) ?_
  intro pp loose mean mg mb gd outer A₀ base g L h₁ tk s nw B F X N T hP
  refine hide fun Gx hGx => ?_
  obtain ⟨h1, hPW⟩ := hP
  refine hGx ?_
  refine hideQ fun Q0 hQ0 => ?_
  repeat walk1
  dsimp only
  refine sliceAll_V F N h1 (by rw [sizeLine_eq]; simp; omega) (fun fl h2 F2 N2 lt => ?_) (by with_unfolding_all rfl) (by intro _; with_unfolding_all rfl)
  iterate 1 walk1
  iterate 1 walk1
  have F2 := ‹Fr g L _ _›
  have N2 := ‹News g L _ _›
  refine wpAny_execs_cons ?_
  refine While_V F2 N2 (phJ fl pl ps D nmv U0 nw) (weigh ps U0 ps) ?_ ?_
  · refine ⟨rfl, rfl, U0, fun _ => none, ps, 0, .head _, fun x hx => ?_, ⟨hok, hcl, hnd, fun _ h => h, hne, (fun _ _ e => by cases e), fun x hx hn => absurd hx hn, .refl⟩, rfl, hsz, fun q hq _ => .tail _ hq⟩
    refine hide fun Gx hGx => ?_
    obtain ⟨hs, ts, pn, op, n, l, k, q1, q2, q3, q4⟩ := hPW x hx
    refine hGx ?_
    exact ⟨hs, ts, pn, op, n, l, k, .tail _ q1, .tail _ q2, .tail _ q3, fun b hb e => by cases hb; exact Nat.lt_irrefl l (by have := lt _ q3; rw [← e] at this; exact this)⟩
  intro n m₁ nw₁ h tk1 hJ F3 N3
  refine hide fun Gx hGx => ?_
  obtain ⟨hf, hpl, U, M, free, k1, a1, PW1, I1, rfl, hU, K1⟩ := hJ
  refine hGx ?_
  replace F3 := fr_two F3 hf hpl
  change Fr g L h _ at F3
  change News g L h _ at N3
  clear F2 N2 hf hpl
  refine hideQ fun Q1 hQ1 => ?_
  refine wpAny_isTrue_value ?_
  iterate 1 walk1
  have hfl : free.length ≤ ps.length := nodup_len I1.fnd I1.fsub
  refine wpAny_truthy_list (items := (free.map Value.ref).toArray) ⟨_, (N3 _ a1).1, rfl, k1, rfl⟩ (by simp; omega) ?_
  refine hQ1 _ _ ?_
  clear hQ1
  rcases List.eq_nil_or_concat free with rfl | ⟨fr, x, rfl⟩
  · rw [if_neg (by simp)]
    iterate 3 walk1
    have hfln : ∀ q ∈ nw, q.1 ≠ fl := fun q hq e => Nat.lt_irrefl fl (by have := lt q hq; rw [e] at this; exact this)
    exact hQ0 _ _ ⟨_, _, _, F3, N3, rfl, rfl, rfl, U, M, rfl, PW1.drop, I1, fun q hq hn => K1 q hq (by simp only [List.mem_cons, not_or]; exact ⟨hfln q hq, hn⟩)⟩
  rw [if_pos (by simp)]
  rw [List.concat_eq_append] at *
  have hxp : x ∈ ps := I1.fsub x (by simp)
  refine hide fun Gx hGx => ?_
  obtain ⟨y, hy⟩ : ∃ y, (U x).head? = some y := by
    cases e : U x with
    | nil => exact absurd e (I1.fne x (by simp))
    | cons y t => exact ⟨y, rfl⟩
  refine hGx ?_
  have hyU : y ∈ U x := List.mem_of_mem_head? hy
  have hyp : y ∈ ps := I1.closed x y hyU
  refine hideQ fun Q2 hQ2 => ?_
  repeat walk1
  refine pop_V (y := .ref x) F3 N3 a1 (by simp) (by rw [sizeLine_eq]; simp at hfl ⊢; omega) fun h4 nw4 k4 F4 N4 a4 K4 => ?_
  rw [pop_arr] at a4
  have PW4 := PW1.list N3 a1 K4
  refine hide fun Gx hGx => ?_
  obtain ⟨hsx, tsx, pnx, opx, nx, lx, kx, b1, b2, b3, b4⟩ := PW4 x hxp
  refine hGx ?_
  iterate 7 walk1
  have F5 := ‹Fr g L _ _›
  have N5 := ‹News g L _ _›
  have hux : (U x)[0]? = some y := by rw [← List.head?_eq_getElem?]; exact hy
  refine Ct.use (getfav_ct (v := .ref y) (by simp [hux]) (by rw [sizeLine_eq]; have := hU x; simp; omega)) (by decide) (by decide) B F5 X N5 T rfl ⟨b1, b2, b3⟩ fun r nw6 h6 tk6 F6 N6 hp => ?_
  refine hide fun Gx hGx => ?_
  obtain ⟨rfl, K6⟩ := hp
  have a6 := Kp.nil K6 _ a4
  have PW6 : PW nw6 (some fl) ps D nmv U M := PW4.notIt fun q hq _ => Kp.nil K6 q hq
  obtain ⟨hsy, tsy, pny, opy, ny, ly, ky, c1, c2, c3, c4⟩ := PW6 y hyp
  refine hGx ?_
  clear b1 b2 b3 b4 F5 N5
  iterate 5 walk1
  refine getMat_V (by assumption) X (by assumption) c1 c2 (by cases M y <;> rfl) ?_
  iterate 1 walk1
  have F8 := ‹Fr g L _ _›
  have N8 := ‹News g L _ _›
  refine wpAny_execs_cons ?_
  have PW6' : M y = none → PW nw6 (some fl) ps D nmv U (fun q => if q = y then none else M q) := fun e => by
    have : (fun q => if q = y then none else M q) = M := by funext q; by_cases hq : q = y; rw [if_pos hq, hq, e]; rw [if_neg hq]
    rw [this]; exact PW6
  refine wpAny_mono (E := NE) (Q := fun f s' => f = .next ∧ ∃ h' tk' nw' k', s' = ⟨h', s.gens, s.drawn, tk', s.os⟩ ∧
    Fr g L h' (fun q => if q = Str.ofString "current" then some (mvO (M y)) else if q = Str.ofString "favourite" then some (.ref y) else if q = Str.ofString "player" then some (.ref x) else if q = Str.ofString "free_players" then some (.ref fl) else if q = Str.ofString "players" then some (.ref pl) else m₁ q) ∧
    News g L h' nw' ∧ (fl, plist (match M y with | none => fr | some c => fr ++ [c]) k') ∈ nw' ∧ PW nw' (some fl) ps D nmv U (fun q => if q = y then none else M q) ∧ Kp (fl :: ps.map D) nw6 nw') ?_ ?_ (fun _ _ e => e)
  · cases hMy : M y with
    | none =>
      simp only [hMy, mvO] at F8
      refine hideQ fun Q3 hQ3 => ?_
      iterate 6 walk1
      rw [if_neg Bool.false_ne_true]
      exact wpAny_execs_nil (hQ3 _ _ ⟨rfl, _, _, nw6, k4, rfl, F8, N8, a6, PW6' hMy, Kp.refl⟩)
    | some c =>
      simp only [hMy, mvO] at F8 c2
      have hcp := (I1.held y c hMy).1
      refine hideQ fun Q3 hQ3 => ?_
      iterate 14 walk1
      have F9 := ‹Fr g L _ _›
      have N9 := ‹News g L _ _›
      refine Ct.use unmatch_ct (by decide) (by decide) B F9 X N9 T rfl ⟨c1, c2⟩ fun r nw7 h7 tk7 F10 N10 hp => ?_
      refine hide fun Gx hGx => ?_
      obtain ⟨rfl, e1, K7⟩ := hp
      refine hGx ?_
      have hfn := nneO N8 a6 c2 listNeDict
      have a7 : (fl, plist fr k4) ∈ nw7 := K7 _ a6 (by simpa using hfn)
      have c3' : (ly, plist (U y) ky) ∈ nw7 := K7 _ c3 (by simpa using nneO N8 c3 c2 listNeDict)
      have PW7 : PW nw7 (some fl) ps D nmv U (fun q => if q = y then none else M q) := PW6.turn N8 inj hyp K7 (fun q hq => if_neg hq) ⟨hsy, tsy, pny, opy, ny, ly, ky, by rw [if_pos rfl]; exact e1, c3', c4⟩
      repeat walk1
      refine append_V F10 N10 a7 (fun h11 nw11 F11 N11 a11 K11 => ?_) (by rw [sizeLine_eq]; simp at hfl ⊢; omega)
      refine wpAny_execs_nil (hQ3 _ _ ⟨rfl, _, _, nw11, _, rfl, F11, N11, by simpa [plist] using a11, PW7.list N10 a7 K11, fun q hq hn => K11 q (K7 q hq ?_) ?_⟩)
      · simp only [List.mem_cons, not_or, List.mem_map, not_exists, not_and, List.not_mem_nil, not_false_eq_true, and_true] at hn ⊢
        exact fun e => hn.2 y hyp e.symm
      · simp only [List.mem_cons, not_or, List.not_mem_nil, not_false_eq_true, and_true] at hn ⊢
        exact hn.1
  rintro f s' ⟨rfl, h9, tk9, nw9, k9, rfl, F9, N9, a9, PW9, K9⟩
  refine hide fun Gx hGx => ?_
  obtain ⟨hsz, tsz, pnz, opz, nz, lz, kz, c1, c2, c3, c4⟩ := PW9 y hyp
  refine hGx ?_
  iterate 9 walk1
  refine ⟨X.keeps F9.keep, ?_⟩
  refine Ct.use match_ct (by decide) (by decide) B F9 X N9 T rfl ⟨c1, c2⟩ fun r nw10 h10 tk10 F10 N10 hp => ?_
  refine hide fun Gx hGx => ?_
  obtain ⟨rfl, d2, K10⟩ := hp
  have a10 : (fl, plist (match M y with | none => fr | some c => fr ++ [c]) k9) ∈ nw10 := K10 _ a9 (by simpa using nneO N9 a9 c2 listNeDict)
  have d1 : (y, instObj 184 (D y)) ∈ nw10 := K10 _ c1 (by simpa using nneO N9 c1 c2 instNeDict)
  have d3 : (lz, plist (U y) kz) ∈ nw10 := K10 _ c3 (by simpa using nneO N9 c3 c2 listNeDict)
  have PW10 : PW nw10 (some fl) ps D nmv U (fun q => if q = y then some x else M q) := PW9.turn N9 inj hyp K10 (fun q hq => by rw [if_neg hq, if_neg hq]) ⟨hsz, tsz, pnz, opz, nz, lz, kz, by rw [if_pos rfl]; exact d2, d3, c4⟩
  obtain ⟨free1, hfree⟩ : ∃ f, f = (match M y with | none => fr | some c => fr ++ [c]) := ⟨_, rfl⟩
  have I2 : InvT ps U0 U (fun q => if q = y then some x else M q) free1 x y := by rw [hfree]; have := I1.ask hy; revert this; cases M y <;> exact id
  replace a10 : (fl, plist free1 k9) ∈ nw10 := by rw [hfree]; exact a10
  clear PW9 c1 c2 c3 PW6 PW6' PW4
  have hxy : x ∈ U y := I1.ok.sym x y hyU
  obtain ⟨l1, zs, hUy⟩ := List.append_of_mem hxy
  refine hGx ?_
  have hUnd := I1.ok.nd y
  have hx1 : x ∉ l1 := fun h => by rw [hUy] at hUnd; exact (List.nodup_append.mp hUnd).2.2 x h x (by simp) rfl
  iterate 1 walk1
  refine For_open ?_ (by intro _; rfl)
  iterate 4 walk1
  have hyU' : ∀ p ∈ U y, p ∈ ps := fun p hp => I1.closed y p hp
  refine Ct.use (getsucc_ct (ps := U y) (a := x) (da := D x) (l := lz) (j := l1.length) (by rw [hUy]; simp) (fun i hi h => hx1 (by rw [hUy, List.getElem?_append_left hi] at h; exact List.mem_of_getElem? h)) (by have := hU y; omega)) (by decide) (by decide) B (by assumption) X (by assumption) T rfl
    ⟨d1, by simpa [mvO] using d2, d3, PW10.pls hyU', by obtain ⟨_, _, _, _, _, _, _, h, _⟩ := PW10 x hxp; exact h⟩ fun r nw12 h12 tk12 F12 N12 hp => ?_
  refine hide fun Gx hGx => ?_
  obtain ⟨dz, rfl, e1, e2, K12⟩ := hp
  refine hGx ?_
  rw [show (U y).drop (l1.length + 1) = zs by rw [hUy]; simp] at e1
  have a12 := Kp.nil K12 _ a10
  have PW12 : PW nw12 (some fl) ps D nmv U (fun q => if q = y then some x else M q) := PW10.notIt fun q hq _ => Kp.nil K12 q hq
  have hzl : zs.length ≤ 900 := by have := hU y; rw [hUy] at this; simp at this; omega
  refine forK_list (items := (zs.map Value.ref).toArray) rfl rfl rfl F12 N12 e1 (fl :: ps.map D) (fun a ha => ?_) ?_
    (phJ2 fl pl ps D nmv U0 U M x y l1 zs free1)
    (fun i m nwi nwi' hJ hk => ?_) ⟨rfl, rfl, rfl, U, free1, k9, a12, PW12, I2, by simpa using hUy, fun q => Nat.le_refl _, Nat.le_refl _⟩ ?_ ?_
  · rcases List.mem_cons.mp ha with rfl | ha
    · exact ⟨_, a12⟩
    · refine hide fun Gx hGx => ?_
      obtain ⟨q, hq, rfl⟩ := List.mem_map.mp ha
      obtain ⟨_, _, _, _, _, _, _, _, h, _⟩ := PW12 q hq
      refine hGx ?_
      exact ⟨_, h⟩
  · intro hm
    rcases List.mem_cons.mp hm with e | hm
    · subst e; exact Nat.lt_irrefl _ (e2 _ a10)
    · refine hide fun Gx hGx => ?_
      obtain ⟨q, hq, e⟩ := List.mem_map.mp hm
      obtain ⟨_, _, _, _, _, _, _, _, h, _⟩ := PW10 q hq
      refine hGx ?_
      have := e2 _ h
      rw [e] at this
      exact Nat.lt_irrefl _ this
  · refine hide fun Gx hGx => ?_
    obtain ⟨j1, j2, j3, U', free', k', j4, j5, j6, j7, j8, j9⟩ := hJ
    refine hGx ?_
    exact ⟨j1, j2, j3, U', free', k', hk _ j4 rfl, j5.notIt hk, j6, j7, j8, j9⟩
  · intro i v m₂ nw₂ h13 tk13 hv hJ K13 F13 N13
    refine hide fun Gx hGx => ?_
    obtain ⟨j1, j2, j3, U', free', k', j4, j5, j6, j7, j8, j9⟩ := hJ
    obtain ⟨z, hz, rfl⟩ : ∃ z, zs[i]? = some z ∧ Value.ref z = v := by simpa using hv
    have hil : i < zs.length := (List.getElem?_eq_some_iff.mp hz).1
    have hzd : zs.drop i = z :: zs.drop (i + 1) := by rw [List.drop_eq_getElem_cons hil]; congr 1; exact (List.getElem?_eq_some_iff.mp hz).2
    have haft : After (U' y) x z := ⟨l1, zs.drop i, j7, by rw [hzd]; simp⟩
    have hzy : z ∈ U' y := haft.mem.2
    have hzp : z ∈ ps := j6.closed y z hzy
    have hzney : z ≠ y := fun e => j6.ok.irr y (e ▸ hzy)
    change Fr g L h13 _ at F13
    change News g L h13 _ at N13
    replace F13 := fr_in (fr_in (fr_in (fr_in F13 (a := Str.ofString "players") (va := .ref pl) ((if_neg (by decide)).trans j2)) (a := Str.ofString "favourite") (va := .ref y) ((if_neg (by decide)).trans ((if_neg (by decide)).trans j3)))
      (a := Str.ofString "free_players") (va := .ref fl) ((if_neg (by decide)).trans ((if_neg (by decide)).trans ((if_neg (by decide)).trans j1)))) (a := Str.ofString "successor") (va := .ref z) (by with_unfolding_all rfl)
    obtain ⟨hs1, ts1, pn1, op1, n1, lz1, k1z, g1, g2, g3, g4⟩ := j5 z hzp
    obtain ⟨hs2, ts2, pn2, op2, n2, lz2, k2z, f1, f2, f3, f4⟩ := j5 y hyp
    refine hGx ?_
    refine hideQ fun Q4 hQ4 => ?_
    iterate 10 walk1
    refine ⟨X.keeps (‹Fr g L _ _›).keep, ?_⟩
    have hsub : ∀ q p, p ∈ U' q → p ∈ ps := fun q p hp => j6.closed q p hp
    refine Ct.use (delpair_ct (hxy := hzney) (hsx := by have := j8 z; have := hU z; omega) (hsy := by have := j8 y; have := hU y; omega) (hdd := fun e => hzney (inj z hzp y hyp e))) (by decide) (by decide) B (by assumption) X (by assumption) T rfl
      ⟨g1, g2, g3, j5.pls (hsub z), f1, f2, f3, j5.pls (hsub y)⟩ fun r nw3 h15 tk15 F15 N15 hp => ?_
    refine hide fun Gx hGx => ?_
    obtain ⟨dd1, dd2, kk1, kk2, rfl, p1, p2, p3, p4, p5, p6, K15⟩ := hp
    have hflT : fl ∉ [D z, D y] := by
      simp only [List.mem_cons, not_or, List.not_mem_nil, not_false_eq_true, and_true]
      exact ⟨nneO N13 j4 g2 listNeDict, nneO N13 j4 f2 listNeDict⟩
    have a15 := K15 _ j4 hflT
    have PW15 : PW nw3 (some fl) ps D nmv (del U' z y) (fun q => if q = y then some x else M q) := j5.strike N13 inj hzp hyp hzney K15
      ⟨_, _, _, _, _, dd1, _, p1, p2, fun b hb => by cases hb; exact fun e => Nat.lt_irrefl _ (by have := p5 _ j4; rw [← e] at this; exact this)⟩
      ⟨_, _, _, _, _, dd2, _, p3, p4, fun b hb => by cases hb; exact fun e => Nat.lt_irrefl _ (by have := p6 _ j4; rw [← e] at this; exact this)⟩
    have K15' : Kp (fl :: ps.map D) nw₂ nw3 := K15.mono fun t ht => by
      simp only [List.mem_cons, List.not_mem_nil, or_false] at ht
      rcases ht with rfl | rfl
      · exact List.mem_cons_of_mem _ (List.mem_map.mpr ⟨z, hzp, rfl⟩)
      · exact List.mem_cons_of_mem _ (List.mem_map.mpr ⟨y, hyp, rfl⟩)
    have I15 := j6.step haft
    have hlen : ∀ q, (del U' z y q).length ≤ (U q).length := fun q => Nat.le_trans (del_sub U' z y q).length_le (j8 q)
    have hrow : del U' z y y = l1 ++ x :: zs.drop (i + 1) := by
      have hnd' := j6.ok.nd y
      rw [j7, hzd] at hnd'
      unfold del
      rw [if_neg (Ne.symm hzney), if_pos rfl, j7, hzd]
      exact row_less hnd'
    clear g1 g2 g3 g4 f1 f2 f3 f4
    obtain ⟨hs1, ts1, pn1, op1, n1, lz1, k1z, g1, g2, g3, g4⟩ := PW15 z hzp
    refine hGx ?_
    iterate 7 walk1
    refine getPrefs_V (by assumption) X (by assumption) g1 g2 rfl ?_
    refine wpAny_truthy_list (items := ((del U' z y z).map Value.ref).toArray) ⟨_, (N15 _ g3).1, rfl, _, rfl⟩ (by simp; have := hlen z; have := hU z; omega) ?_
    by_cases hemp : del U' z y z = []
    · rw [if_pos (by rw [hemp]; rfl)]
      iterate 4 walk1
      refine in_V (isRef z) N15 a15 (refs_eqAt (by show 2804 < cLine; decide) F15 X N15 (PW15.pls j6.fsub) g1) ?_
      refine wpAny_truthy_bool ?_
      by_cases hzf : z ∈ free'
      · rw [if_pos (by simpa [isRef] using hzf)]
        refine hide fun Gx hGx => ?_
        obtain ⟨j, hj, hno⟩ := first_at hzf
        refine hGx ?_
        have hjl : j < free'.length := (List.getElem?_eq_some_iff.mp hj).1
        have hfl' : free'.length ≤ ps.length := nodup_len j6.fnd j6.fsub
        repeat walk1
        refine remove_V (isRef z) j F15 N15 a15 (refs_eqAt (by show 2804 < cLine; decide) F15 X N15 (PW15.pls j6.fsub) g1) (by simpa using hjl) ?_ ?_ (by rw [sizeLine_eq]; simp; omega) fun h16 nw16 n16 F16 N16 a16 K16 => ?_
        · refine hide fun Gx hGx => ?_
          obtain ⟨h, e⟩ := List.getElem?_eq_some_iff.mp hj
          refine hGx ?_
          simp [isRef, e]
        · intro q hq hqj
          have hq' : q < free'.length := by simpa using hq
          have := hno q hqj
          simp only [List.getElem?_eq_getElem hq'] at this
          simp only [List.getElem_toArray, List.getElem_map, isRef]
          simpa using this
        rw [erase_arr hj hno] at a16
        have e16 : takeFree (del U' z y) free' z = free'.erase z := if_pos ⟨hemp, hzf⟩
        rw [e16] at I15
        refine wpAny_execs_nil (wpAny_execs_nil (hQ4 _ _ ⟨_, _, _, nw16, rfl, F16, N16, K15'.trans (K16.mono (by simp)), rfl, rfl, rfl, _, _, _, a16, PW15.list N15 a15 K16, I15, hrow, hlen, Nat.le_trans (List.erase_sublist.length_le) j9⟩))
      · rw [if_neg (by simpa [isRef] using hzf), if_neg Bool.false_ne_true]
        have e16 : takeFree (del U' z y) free' z = free' := if_neg fun h => hzf h.2
        rw [e16] at I15
        exact wpAny_execs_nil (wpAny_execs_nil (hQ4 _ _ ⟨_, _, _, nw3, rfl, F15, N15, K15', rfl, rfl, rfl, _, _, _, a15, PW15, I15, hrow, hlen, j9⟩))
    · rw [if_neg (by simpa using hemp), if_neg Bool.false_ne_true]
      have e16 : takeFree (del U' z y) free' z = free' := if_neg fun h => hemp h.1
      rw [e16] at I15
      exact wpAny_execs_nil (wpAny_execs_nil (hQ4 _ _ ⟨_, _, _, nw3, rfl, F15, N15, K15', rfl, rfl, rfl, _, _, _, a15, PW15, I15, hrow, hlen, j9⟩))
  · intro m₂ nw₂ h13 tk13 hJ K13 F13 N13
    refine hide fun Gx hGx => ?_
    obtain ⟨j1, j2, j3, U', free', k', j4, j5, j6, j7, j8, j9⟩ := hJ
    refine hGx ?_
    have hUe : U' y = l1 ++ [x] := by rw [j7]; simp
    have I16 := j6.done (by rw [hUe]; simp)
    refine wpAny_execs_nil (hQ2 _ _ ⟨_, _, _, nw₂, weigh ps U' free', ?_, rfl, F13, N13, j1, j2, U', _, free', k', j4, j5, I16, rfl, fun q => Nat.le_trans (j8 q) (hU q), ?_⟩)
    · unfold weigh
      cases hMy : M y with
      | none =>
        rw [hMy] at hfree
        have := sum_le (ps := ps) (f := fun q => (U' q).length) (g := fun q => (U q).length) (fun q _ => j8 q)
        simp only [hfree, List.length_append, List.length_cons, List.length_nil] at *
        omega
      | some c =>
        rw [hMy] at hfree
        have hlt : (U' y).length < (U y).length := by
          rw [hUe, hUy]
          cases zs with
          | nil =>
            exfalso
            refine hide fun Gx hGx => ?_
            obtain ⟨_, _, h3, h4⟩ := I1.held y c hMy
            refine hGx ?_
            rw [hUy] at h3
            simp at h3
            exact h4 (by simp [h3])
          | cons _ _ => simp
        have := sum_lt (ps := ps) (f := fun q => (U' q).length) (g := fun q => (U q).length) (fun q _ => j8 q) hyp hlt
        simp only [hfree, List.length_append, List.length_cons, List.length_nil] at *
        omega
    · refine K1.trans ((K4.mono (by simp)).trans ((K6.mono (fun _ h => nomatch h)).trans (K9.trans ((K10.mono fun t ht => ?_).trans ((K12.mono (fun _ h => nomatch h)).trans K13)))))
      rw [List.mem_singleton.mp ht]
      exact List.mem_cons_of_mem _ (List.mem_map.mpr ⟨y, hyp, rfl⟩)
end Mine
namespace Mine
theorem fill7 (w : World) : (Challenge.rw_au0003_01.Holds ∧ (hd.heap_39 w.params).In default) → True := by
  k_fill; intro _; trivial
section
variable {prog : Program} {w : World} {A : Around} {E : Value → Shared → Prop} {s : Shared} {K : Frag} {x C dx L : Addr} {h₀ : Heap} {m : Str → Option Value} {nw : Ldg} {name : Str} {v : Value}
/-- an attribute that is new -/
theorem setAttrN {es : List DictEntry} {n : Nat} {Q : Unit → Shared → Prop} (F : Fr h₀ L s.heap m) (X₀ : K.In h₀) (N : News h₀ L s.heap nw) (h1 : (x, instObj C dx) ∈ nw) (h2 : (dx, dictOf es n) ∈ nw)
    (hs : findIn K (.ref C) "__setattr__" = some (some (.builtin "object.__setattr__"))) (hp : plainOver K C = true) (ht : takerIn K C name = some none) (hh : hasDictIn K C = true) (hl : (getL name es).isSome = true)
    (f : Int → Tok → List DictEntry) (e : ∀ hsh tok, putL name hsh (.str name tok) v es = f hsh tok) (hz : ∀ hsh tok, (f hsh tok).length ≤ 1000)
    (h : ∀ hsh tok n' h' nw', Fr h₀ L h' m → News h₀ L h' nw' → (dx, dictOf (f hsh tok) n') ∈ nw' → Kp [dx] nw nw' → Q () { s with heap := h', toks := s.toks + 2 }) :
    wpAny (model prog w) A (setAttr (.ref x) name v) Q E s := by
  have hne : x ≠ dx := nneO N h1 h2 (fun e => by cases e)
  have N' : News h₀ L s.heap ((dx, dictOf es n) :: nw.filter fun q => q.1 != dx) := nsub N fun q hq => by
    rcases List.mem_cons.mp hq with rfl | hq
    · exact h2
    · exact (List.mem_filter.mp hq).1
  have U : ∀ es' n', Upd dx (dictOf es n) (dictOf es' n') ((dx, dictOf es n) :: nw.filter fun q => q.1 != dx) ((dx, dictOf es' n') :: nw.filter fun q => q.1 != dx) := fun _ _ => .head fun p hp => by simpa using (List.mem_filter.mp hp).2
  refine set_dict F X₀ N' (InstAt.of_news N h1 h2) rfl hs hp ht hh hl rfl (U _ _) (by rw [e]; exact hz _ _) fun h' F' N'' => ?_
  rw [e] at N''
  refine h _ _ _ h' _ F' N'' (.head _) (Kp.one fun q hq hne => .tail _ (List.mem_filter.mpr ⟨hq, by simpa using hne⟩))
end
variable {w : World}

theorem player_ct {n : Str} {t : Tok} : Ct w 184 [.str n t] 480 2800 (fun _ => True)
    (fun nw r nw' => ∃ y d l l2 hs ts k k', r = .ref y ∧ (y, instObj 184 d) ∈ nw' ∧ (d, dictOf (PD hs ts (.str n t) (.ref l) .none (.ref l2) .none) k) ∈ nw' ∧ (l, plist [] k') ∈ nw' ∧
      (∀ q ∈ nw, q.1 < y) ∧ (∀ q ∈ nw, q.1 < d) ∧ (∀ q ∈ nw, q.1 < l) ∧ Kp [] nw nw') := by
  intro p loose mean mg mb gd cn cs a ccd cl outer A₀ base h₀ L m nw s Q B F X N T hck _ hret
  refine' call_cls ?k1 ?k2 ?k3 ?k4 ?k5 ?k6 ?_
  case k1 => exact F
  case k2 => exact X
  case k3 => exact N
  case k4 => k_is
  case k5 => k_is
  case k6 => k_is
  intro y d h1 F1 N1 lty ltd
  refine' ks_code_super B F1 X N1 T ?kA ?kF ?kK ?k6 ?k7 ?k8 ?k9 ?kB ?_ ?c1 ?c2 ?c3 ?c4
  case kA => exact rfl
  case kF => exact rfl
  case kK => exact hck
  case k6 => k_is
  case k7 => k_is
  case k8 => k_room
  case k9 => exact BindsTo.of_eq rfl
  case kB => exact locs rfl
  case c1 => decide
  case c2 => exact rfl
  case c3 => exact rfl
  case c4 => exact rfl
  intro g' L' h' FG' F' N' B' X' T' l1
  dsimp only
  k_lift B'
  repeat walk1
  refine setAttrN (by assumption) (by assumption) (by assumption) (.tail _ (.tail _ (.head _))) (.tail _ (.tail _ (.tail _ (.head _)))) (by k_is) (by k_is) (by k_is) (by k_is) (by with_unfolding_all rfl) (fun a b => [⟨a, .str (Str.ofString "name") b, .str n t⟩]) (fun _ _ => by with_unfolding_all rfl) (fun _ _ => by simp) fun a0 b0 n0 h2 nw2 F2 N2 m2 K2 => ?_
  have hyd : y ∉ [d] := by simpa using Nat.ne_of_gt ltd
  have y2 : (y, instObj 184 d) ∈ nw2 := K2 _ (.tail _ (.tail _ (.head _))) hyd
  have l2 : ∀ q ∈ nw, q ∈ nw2 := fun q hq => K2 q (.tail _ (.tail _ (.tail _ (.tail _ hq)))) (by simpa using Nat.ne_of_lt (lty q hq))
  repeat walk1
  have lt3 := ‹∀ p ∈ nw2, p.1 < _›
  refine setAttrN (by assumption) (by assumption) (by assumption) (.tail _ y2) (.tail _ m2) (by k_is) (by k_is) (by k_is) (by k_is) (by with_unfolding_all rfl) (fun a b => [⟨a0, .str (Str.ofString "name") b0, .str n t⟩, ⟨a, .str (Str.ofString "prefs") b, _⟩]) (fun _ _ => by with_unfolding_all rfl) (fun _ _ => by simp) fun a1 b1 n1 h3 nw3 F3 N3 m3 K3 => ?_
  have y3 : (y, instObj 184 d) ∈ nw3 := K3 _ (.tail _ y2) hyd
  have e3 := K3 _ (.head _) (by simpa using Nat.ne_of_gt (lt3 _ m2))
  repeat walk1
  refine setAttrN (by assumption) (by assumption) (by assumption) y3 m3 (by k_is) (by k_is) (by k_is) (by k_is) (by with_unfolding_all rfl) (fun a b => [⟨a0, .str (Str.ofString "name") b0, .str n t⟩, ⟨a1, .str (Str.ofString "prefs") b1, _⟩, ⟨a, .str (Str.ofString "matching") b, _⟩]) (fun _ _ => by with_unfolding_all rfl) (fun _ _ => by simp) fun a2 b2 n2 h4 nw4 F4 N4 m4 K4 => ?_
  have y4 : (y, instObj 184 d) ∈ nw4 := K4 _ y3 hyd
  repeat walk1
  have lt5 := ‹∀ p ∈ nw4, p.1 < _›
  refine setAttrN (by assumption) (by assumption) (by assumption) (.tail _ y4) (.tail _ m4) (by k_is) (by k_is) (by k_is) (by k_is) (by with_unfolding_all rfl) (fun a b => [⟨a0, .str (Str.ofString "name") b0, .str n t⟩, ⟨a1, .str (Str.ofString "prefs") b1, _⟩, ⟨a2, .str (Str.ofString "matching") b2, _⟩, ⟨a, .str (Str.ofString "_pref_names") b, _⟩]) (fun _ _ => by with_unfolding_all rfl) (fun _ _ => by simp) fun a3 b3 n3 h5 nw5 F5 N5 m5 K5 => ?_
  have y5 : (y, instObj 184 d) ∈ nw5 := K5 _ (.tail _ y4) hyd
  repeat walk1
  refine setAttrN (by assumption) (by assumption) (by assumption) y5 m5 (by k_is) (by k_is) (by k_is) (by k_is) (by with_unfolding_all rfl) (fun a b => [⟨a0, .str (Str.ofString "name") b0, .str n t⟩, ⟨a1, .str (Str.ofString "prefs") b1, _⟩, ⟨a2, .str (Str.ofString "matching") b2, _⟩, ⟨a3, .str (Str.ofString "_pref_names") b3, _⟩, ⟨a, .str (Str.ofString "_original_prefs") b, _⟩]) (fun _ _ => by with_unfolding_all rfl) (fun _ _ => by simp) fun a4 b4 n4 h6 nw6 F6 N6 m6 K6 => ?_
  repeat walk1
  have hld := Nat.ne_of_gt (lt3 _ m2)
  refine hret _ nw6 h6 _ (by assumption) (by assumption) ⟨y, d, _, _, fun i => match i with | 0 => a0 | 1 => a1 | 2 => a2 | 3 => a3 | _ => a4, fun i => match i with | 0 => b0 | 1 => b1 | 2 => b2 | 3 => b3 | _ => b4, n4, 0, rfl, K6 _ y5 hyd, m6,
    K6 _ (K5 _ (.tail _ (K4 _ e3 (by simpa using hld))) (by simpa using hld)) (by simpa using hld), fun q hq => Nat.lt_trans (lty q hq) ltd, lty, fun q hq => lt3 _ (l2 q hq), fun q hq _ => ?_⟩
  have hq : q.1 ∉ [d] := by simpa using Nat.ne_of_lt (lty q hq)
  exact K6 _ (K5 _ (.tail _ (K4 _ (K3 _ (.tail _ (l2 q ‹_›)) hq) hq)) hq) hq
end Mine
namespace Mine
theorem fill8 (w : World) : (Challenge.rw_au0003_01.Holds ∧ (hd.heap_39 w.params).In default) → True := by
  k_fill; intro _; trivial
variable {w : World}

/-- a player of the ledger by its name -/
def Nmd (nw : Ldg) (q dq : Addr) (v : Value) : Prop := ∃ hs ts pf mt pn op n, (q, instObj 184 dq) ∈ nw ∧ (dq, dictOf (PD hs ts v pf mt pn op) n) ∈ nw

theorem setprefs_ct {p d l : Addr} {hs ts nm pf mt pn n k} {ps : List Addr} (hsz : ps.length ≤ 1000) :
    Ct w 80 [.ref p, .ref l] 480 2800 (fun nw => (p, instObj 184 d) ∈ nw ∧ (d, dictOf (PD hs ts nm pf mt pn .none) n) ∈ nw ∧ (l, plist ps k) ∈ nw ∧ ∀ q ∈ ps, ∃ dq v, Nmd nw q dq v ∧ dq ≠ d ∧ handedIn v = true)
    (fun nw r nw' => ∃ pn' op', r = .none ∧ (d, dictOf (PD hs ts nm (.ref l) mt pn' op') n) ∈ nw' ∧ Kp [d] nw nw') := by
  refine' Ct.intro (binds := [(Str.ofString "self", .ref p), (Str.ofString "players", .ref l)]) (by k_is) (by k_is) (by decide) (by exact rfl) (by exact locs rfl) (by exact rfl) (by exact rfl) (by exact rfl) (by decide) ?_
  intro pp loose mean mg mb gd outer A₀ base g L h₁ tk s nw B F X N T hP
  refine hide fun Gx hGx => ?_
  obtain ⟨h1, h2, h3, h4⟩ := hP
  refine hGx ?_
  iterate 4 walk1
  refine setPrefs_V F X N h1 h2 fun h' nw' F1 N1 a1 K1 => ?_
  have q1 : (p, instObj 184 d) ∈ nw' := K1 _ h1 (by simpa using nneO N h1 h2 instNeDict)
  have q3 : (l, plist ps k) ∈ nw' := K1 _ h3 (by simpa using nneO N h3 h2 listNeDict)
  have q4 : ∀ q ∈ ps, ∃ dq v, Nmd nw' q dq v ∧ handedIn v = true := fun q hq => by
    refine hide fun Gx hGx => ?_
    obtain ⟨dq, v, ⟨hs, ts, pf, mt, pn, op, n, b1, b2⟩, b3, b4⟩ := h4 q hq
    refine hGx ?_
    exact ⟨dq, v, ⟨hs, ts, pf, mt, pn, op, n, K1 _ b1 (by simpa using nneO N b1 h2 instNeDict), K1 _ b2 (by simpa using b3)⟩, b4⟩
  iterate 2 walk1
  refine ListComp_open (cl := []) (by with_unfolding_all rfl) (by rfl) (by decide) ?_ (by intro _; rfl)
  iterate 1 walk1
  dsimp only
  refine compE_list (nw₀ := nw') rfl (by decide) rfl rfl F1 N1 q3 (by rw [sizeLine_eq]; simp; omega) (fun i ys nj => nj = nw') rfl ?_ ?_
  · intro i v ys nj nw₁ C oC m₂ h tk hv hJ hs0 hsj hC hnC hm hF hN hLC
    subst hJ
    unfold CTurn tests
    refine wpAny_tests_nil ?_
    refine hide fun Gx hGx => ?_
    obtain ⟨q, hq, rfl⟩ : ∃ q, ps[i]? = some q ∧ Value.ref q = v := by simpa using hv
    have hqm := List.mem_of_getElem? hq
    obtain ⟨dq, v, ⟨hs', ts', pf', mt', pn', op', n', b1, b2⟩, b4⟩ := q4 q hqm
    refine hGx ?_
    rw [if_pos rfl]
    iterate 1 walk1
    refine nameL_C hN hC hnC hm ?_ (by rfl) (by rfl) (by decide)
    refine getName_V hF X hN (hsj _ b1) (hsj _ b2) b4 ?_
    exact ⟨_, _, nw₁, [], rfl, hF, hN, fun _ h => h, (fun _ h => nomatch h), rfl⟩
  · intro D2 h tk ys nj hJ hs0 F2 N2 ltD
    subst hJ
    iterate 1 walk1
    refine setPn_V F2 X N2 (.tail _ q1) (.tail _ a1) fun g3 nw3 F3 N3 a3 K3 => ?_
    have r1 : (p, instObj 184 d) ∈ nw3 := K3 _ (.tail _ q1) (by simpa using nneO N h1 h2 instNeDict)
    have r3 : (l, plist ps k) ∈ nw3 := K3 _ (.tail _ q3) (by simpa using nneO N h3 h2 listNeDict)
    iterate 5 walk1
    refine getOp_V F3 X N3 r1 a3 rfl ?_
    repeat walk1
    dsimp only
    refine sliceAll_V F3 N3 r3 (by rw [sizeLine_eq]; simp; omega) (fun l3 h4 F4 N4 lt4 => ?_) (by with_unfolding_all rfl) (by intro _; with_unfolding_all rfl)
    iterate 1 walk1
    refine setOp_V F4 X N4 (.tail _ r1) (.tail _ a3) fun g5 nw5 F5 N5 a5 K5 => ?_
    iterate 3 walk1
    exact ⟨_, _, _, F5, N5, rfl, rfl, rfl, _, _, rfl, a5, fun q hq hn => K5 q (.tail _ (K3 q (.tail _ (K1 q hq hn)) hn)) hn⟩
end Mine
namespace Mine
theorem fill9 (w : World) : (Challenge.rw_au0003_01.Holds ∧ (hd.heap_39 w.params).In default) → True := by
  k_fill; intro _; trivial
variable {w : World}

theorem perm_eraseIdx {α : Type} {l : List α} : ∀ {j : Nat} (h : j < l.length), l.Perm (l[j] :: l.eraseIdx j) := by
  induction l with
  | nil => intro j h; cases h
  | cons a t ih =>
    intro j h
    cases j with
    | zero => exact .refl _
    | succ j => exact ((ih (Nat.lt_of_succ_lt_succ h)).cons a).trans (.swap _ _ _)
theorem isL {h₀ h : Heap} {L a : Addr} {nw : Ldg} {its : Array Value} {n : Nat} (N : News h₀ L h nw) (ha : (a, listOf its n) ∈ nw) : h.IsList a its := ⟨_, (N _ ha).1, rfl, n, rfl⟩

theorem wpAny_neNil {A : Around} {E : Value → Shared → Prop} {s : Shared} {h₀ : Heap} {L a b : Addr} {nw : Ldg} {vs : List Value} {n k : Nat} {Q : Value → Shared → Prop} (N : News h₀ L s.heap nw) (ha : (a, listOf vs.toArray n) ∈ nw) (hb : (b, listOf #[] k) ∈ nw) (hu : A.units < cLine)
    (h : Q (.bool (!vs.isEmpty)) s) : wpAny (model Challenge.rw_au0003_01.row.prog w) A (compareOp .NotEq (.ref a) (.ref b)) Q E s := by
  refine cmp_ofNotEq ?_
  cases vs with
  | nil => exact SeqAt.RcNeAt.lists (e := fun _ => true) ⟨_, (N _ ha).1, rfl, n, rfl⟩ ⟨_, (N _ hb).1, rfl, k, rfl⟩ rfl hu (fun j h1 => absurd h1 (Nat.not_lt_zero _)) _ _ _ _ h
  | cons x r => exact SeqAt.RcNeAt.lists_lengths ⟨_, (N _ ha).1, rfl, n, rfl⟩ ⟨_, (N _ hb).1, rfl, k, rfl⟩ (by simp) hu _ _ _ _ h

inductive orJ (vs : List Value) (D0 : Addr) (nw : Ldg) (n : Nat) (m₁ : Str → Option Value) (nw₁ : Ldg) : Prop
  | mk (zz : _) (tt : _) (ws : _) (us : _) (k1 : _) (k2 : _) (D1 : _) (f1 : m₁ (Str.ofString "number") = some (.int zz tt)) (f2 : m₁ (Str.ofString "left") = some (.ref D0)) (f3 : m₁ (Str.ofString "found") = some (.ref D1)) (f4 : (D0, listOf (List.toArray ws) k1) ∈ nw₁) (f5 : (D1, listOf (List.toArray us) k2) ∈ nw₁) (f6 : (us ++ ws).Perm vs) (f7 : n = ws.length) (f8 : (∀ q ∈ nw, q ∈ nw₁)) (f9 : D0 ≠ D1) (f10 : (∀ q ∈ nw, q.1 < D1))
inductive orPost (vs : List Value) (nw : Ldg) (r : Value) (nw' : Ldg) : Prop
  | mk (D : Addr) (us : List Value) (k' : Nat) (f1 : r = .ref D) (f2 : (D, listOf us.toArray k') ∈ nw') (f3 : us.Perm vs) (f4 : (∀ q ∈ nw, q.1 < D)) (f5 : Kp [] nw nw')
theorem order_ct {l k : Nat} {vs : List Value} {z : Int} {t : Tok} (hsz : vs.length ≤ 900) :
    Ct w 193 [.ref l, .int z t] 480 2800 (fun nw => (l, listOf vs.toArray k) ∈ nw)
    (orPost vs) := by
  refine' Ct.intro (binds := [(Str.ofString "items", .ref l), (Str.ofString "number", .int z t)]) (by k_is) (by k_is) (by decide) (by exact rfl) (by exact locs rfl) (by exact rfl) (by exact rfl) (by exact rfl) (by decide) ?_
  intro pp loose mean mg mb gd outer A₀ base g L h₁ tk s nw B F X N T hP
  refine hideQ fun Q0 hQ0 => ?_
  iterate 10 walk1
  refine list_copyK F N ⟨_, (N _ hP).1, rfl, k, rfl⟩ (fun D0 c0 h1 F1 N1 lt1 => ?_) (by rw [sizeLine_eq]; simp; omega)
  iterate 14 walk1
  have F2 := ‹Fr g L _ _›
  have N2 := ‹News g L _ _›
  have lt2 := ‹_ ∧ _ ∧ AllLt _ nw›
  refine wpAny_execs_cons ?_
  refine While_V F2 N2 (orJ vs D0 nw) vs.length ⟨z, t, vs, [], c0, 0, _, rfl, rfl, rfl, .tail _ (.tail _ (.head _)), .tail _ (.head _), .refl _, rfl, fun q hq => .tail _ (.tail _ (.tail _ hq)), Nat.ne_of_lt (‹D0 < _ ∧ AllLt _ nw›).1, fun q hq => tb_ltOf (‹D0 < _ ∧ AllLt _ nw›).2 q hq⟩ ?_
  intro n m₁ nw₁ h3 tk3 hJ F3 N3
  refine hide fun G1 hG1 => ?_
  obtain ⟨zz, tt, ws, us, k1, k2, D1, j1, j2, j3, j4, j5, j6, rfl, j7, j8, j9⟩ := hJ
  refine hG1 ?_
  change Fr g L h3 _ at F3
  change News g L h3 _ at N3
  replace F3 := fr_in (fr_in (fr_in F3 j1) (a := Str.ofString "left") ((if_neg (by decide)).trans j2)) (a := Str.ofString "found") ((if_neg (by decide)).trans ((if_neg (by decide)).trans j3))
  refine hideQ fun Q1 hQ1 => ?_
  iterate 5 walk1
  have F3' := ‹Fr g L _ _›
  have N3' := ‹News g L _ _›
  refine wpAny_neNil (‹News g L _ _›) (.tail _ j4) (.head _) (by show 2803 < cLine; decide) ?_
  refine wpAny_truthy_bool ?_
  refine hQ1 _ _ ?_
  clear hQ1
  have hwl : ws.length ≤ 900 := by have := j6.length_eq; simp at this; omega
  cases ws with
  | nil =>
    rw [if_neg (by simp)]
    refine wpAny_execs_cons ?_
    iterate 2 walk1
    exact hQ0 _ _ ⟨_, _, _, F3', N3', rfl, rfl, rfl, D1, us, k2, rfl, .tail _ j5, by simpa using j6, j9, fun q hq _ => .tail _ (j7 q hq)⟩
  | cons w0 wr =>
  rw [if_pos (by simp)]
  generalize hws : w0 :: wr = ws at *
  have hpos : 0 < ws.length := by rw [← hws]; simp
  refine hideQ fun Q2 hQ2 => ?_
  iterate 15 walk1
  refine len_list (items := ws.toArray) (isL N3' (.tail _ j4)) (by simp; omega) ?_
  iterate 1 walk1
  refine divmod_N F3' N3' (by show ((ws.length : Nat) : Int) ≠ 0; omega) (fun h5 F5 N5 => ?_) (.inl (PyProof.noPylong_small (by show (((ws.length : Nat) : Int)).natAbs < _; omega)))
  have hb0 := Int.fmod_nonneg_of_pos zz (show (0 : Int) < ((ws.length : Nat) : Int) by omega)
  have hb1 := Int.fmod_lt_of_pos zz (show (0 : Int) < ((ws.length : Nat) : Int) by omega)
  refine hide fun G2 hG2 => ?_
  obtain ⟨j, hj⟩ := Int.eq_ofNat_of_zero_le hb0
  refine hG2 ?_
  have hjl : j < ws.length := by omega
  repeat walk1
  have N6 : News g L _ nw₁ := nsub ‹News g L _ _› fun q hq => .tail _ (.tail _ hq)
  repeat walk1
  have F6 := ‹Fr g L _ _›
  refine popAt_V (j := j) (y := ws[j]) F6 N6 j4 hj (by simp [hjl]) (by rw [sizeLine_eq]; simp; omega) fun h7 nw7 n7 F7 N7 a7 K7 => ?_
  have b5 := K7 _ j5 (by simpa using Ne.symm j8)
  have earr : ws.toArray.eraseIdxIfInBounds j = (ws.eraseIdx j).toArray := by simp [Array.eraseIdxIfInBounds, List.eraseIdx_toArray, hjl]
  rw [earr] at a7
  have hper : (us ++ ws).Perm ((us ++ [ws[j]]) ++ ws.eraseIdx j) := by
    rw [List.append_assoc]
    exact List.Perm.append_left us (perm_eraseIdx hjl)
  have hul : us.length ≤ 900 := by have := j6.length_eq; simp at this; omega
  iterate 1 walk1
  refine append_V F7 N7 b5 (fun h8 nw8 F8 N8 a8 K8 => ?_) (by rw [sizeLine_eq]; simp; omega)
  refine wpAny_execs_nil (hQ2 _ _ ?_)
  refine ⟨_, _, _, nw8, (ws.eraseIdx j).length, ?_, rfl, F8, N8, _, _, ws.eraseIdx j, us ++ [ws[j]], _, _, D1, rfl, rfl, rfl, K8 _ a7 (by simpa using j8), by simpa using a8, hper.symm.trans j6, rfl, fun q hq => ?_, j8, j9⟩
  · rw [List.length_eraseIdx_of_lt hjl]; omega
  · exact K8 q (K7 q (j7 q hq) (by simpa using Nat.ne_of_lt (lt1 q hq))) (by simpa using Nat.ne_of_lt (j9 q hq))
end Mine
namespace Mine
section
variable {w : World} {A : Around} {s : Shared} {env : Env} {h₀ : Heap} {m : Str → Option Value}

def ForT (prog : Program) (w : World) (A : Around) (env : Env) (tg : Expr) (body : List Stmt) (Q : Flow → Shared → Prop) (xv : Value) (s : Shared) : Prop :=
  wpAny (model prog w) A (pyIter xv) (fun it s₂ => codeAny (model prog w) A (.forLoop tg it body [] env) (fun r s' => match r with | .ok f => Q f s' | .error _ => False) s₂) NE s

theorem ForT_open {prog : Program} {tg : Expr} {pos : Pos} {iter : Expr} {body : List Stmt} {Q : Flow → Shared → Prop} {E : Value → Shared → Prop}
    (h : wpAny (model prog w) A (eval iter env) (ForT prog w A env tg body Q) NE s) (hs : ∀ x, foldedSetIterable iter env x = pure x) :
    wpAny (model prog w) A (exec (.For tg iter body [] pos) env) Q E s := by
  refine wpAny_mono (E := NE) (Q := Q) ?_ (fun _ _ x => x) (fun _ _ x => x.elim)
  refine wpAny_For (wpAny_mono h (fun xv s₁ h₁ => wpAny_mono h₁ (fun it s₂ h₂ => codeAny_mono h₂ fun r s' hr => ?_) fun _ _ e => e) fun _ _ e => e) hs
  cases r with
  | ok f => exact hr
  | error e => exact hr.elim

noncomputable abbrev enumObj (it : Addr) (i : Int) (old : Value) : Obj := { cls := .type "enumerate", dict := none, data := .fields #[.none, .bool false, .ref it, rawInt i, .none, old], slots := #[] }
end
end Mine
namespace Mine
section
variable {w : World} {A : Around} {s : Shared} {env : Env} {h₀ : Heap} {m : Str → Option Value}

/-- the loop over enumerate: its own invariant -/
inductive ELi (h₀ : Heap) (L c e it l : Addr) (T : List Addr) (nw₀ : Ldg) (J : Nat → (Str → Option Value) → Ldg → Prop) (n : Nat) (s : Shared) (k : Nat) (s' : Shared) : Prop
  | mk (h' : Heap) (tk : Nat) (m' : Str → Option Value) (nw' : Ldg) (i : Nat) (old : Value) (f1 : s' = { s with heap := h', toks := tk }) (f2 : IsEnum h' e it ((i : Nat) : Int) old) (fi : h'.IsListIter it l i) (f3 : Fr h₀ L h' m') (f4 : News h₀ L h' nw') (f5 : Kp (c :: T) nw₀ nw') (fc : ∃ oc vc, (c, oc) ∈ nw' ∧ oc.data = .cell vc) (f7 : J i m' nw')
      (fa : ∀ p ∈ nw', p.1 ≠ e ∧ p.1 ≠ it) (f8 : i ≤ n) (f9 : k = n + 1 - i)
theorem enumLoopC {c : Addr} {oc₀ : Obj} {v₀ : Option Value} {xi xv : Str} {pi pv pt : Pos} {x1} {body : List Stmt} {e it l : Addr} {items : Array Value} {k : Nat} {old₀ : Value} {nw₀ : Ldg} {T : List Addr} {Q : Flow → Shared → Prop}
    (hh : A.handled = none) (hxi : env.kindOf xi = some .local) (hxv : env.kindOf xv = some .cell) (hke : env.scope.kind = .function) (hcl : env.cells.lookup xv = some c) (hc0 : (c, oc₀) ∈ nw₀) (hd0 : oc₀.data = .cell v₀) (hcT : c ∉ T) (hlc : l ≠ c)
    (hp : (env.scope.kind == .class || (env.scope.kind == .module && env.locals != env.globals)) = false)
    (F : Fr h₀ env.locals s.heap m) (N : News h₀ env.locals s.heap nw₀) (hl : (l, listOf items k) ∈ nw₀) (hlt : ∀ p ∈ nw₀, p.1 < it) (hie : it < e)
    (he : IsEnum s.heap e it 0 old₀) (hit : s.heap.IsListIter it l 0) (heh : h₀.get? e = none) (hih : h₀.get? it = none) (heL : e ≠ env.locals) (hiL : it ≠ env.locals)
    (hT : ∀ a ∈ T, ∃ o, (a, o) ∈ nw₀) (hlT : l ∉ T)
    (J : Nat → (Str → Option Value) → Ldg → Prop) (stab : ∀ i m nw nw', J i m nw → (∀ q ∈ nw, isIt q.2 = false → q.1 ≠ c → q ∈ nw') → J i m nw') (h0 : J 0 m nw₀)
    (turn : ∀ i v t m₁ nw₁ h tk, items[i]? = some v → J i m₁ nw₁ → Kp (c :: T) nw₀ nw₁ → (∃ oc, (c, oc) ∈ nw₁ ∧ oc.data = .cell (some v)) → Fr h₀ env.locals h (fun y => if y = xi then some (.int i t) else m₁ y) → News h₀ env.locals h nw₁ →
      wpAny (model Challenge.rw_au0003_01.row.prog w) A (execs body env) (TurnEnd h₀ env.locals T nw₁ (J (i + 1)) { s with heap := h, toks := tk } Q) NE { s with heap := h, toks := tk })
    (done : ∀ m₁ nw₁ h tk, J items.size m₁ nw₁ → Kp (c :: T) nw₀ nw₁ → Fr h₀ env.locals h m₁ → News h₀ env.locals h nw₁ → Q .next { s with heap := h, toks := tk }) :
    codeAny (model Challenge.rw_au0003_01.row.prog w) A (.forLoop (.Tuple [.Name xi pi, .Name xv pv] x1 pt) (.ref e) body [] env) (fun r s' => match r with | .ok f => Q f s' | .error _ => False) s := by
  have hei : e ≠ it := Nat.ne_of_gt hie
  have hle : l ≠ e := Nat.ne_of_lt (Nat.lt_trans (hlt _ hl) hie)
  have hli : l ≠ it := Nat.ne_of_lt (hlt _ hl)
  have heT : e ∉ T := fun h => by obtain ⟨o, ho⟩ := hT e h; exact Nat.lt_irrefl _ (Nat.lt_trans (hlt _ ho) hie)
  have hiT : it ∉ T := fun h => by obtain ⟨o, ho⟩ := hT it h; exact Nat.lt_irrefl _ (hlt _ ho)
  have hlL := (N _ hl).2.1
  refine codeAny_forLoop_any
    (ELi h₀ env.locals c e it l T nw₀ J items.size s) ?_ (items.size + 1)
    ⟨s.heap, s.toks, m, nw₀, 0, old₀, rfl, he, hit, F, N, Kp.refl, ⟨oc₀, v₀, hc0, hd0⟩, h0, fun p hp => ⟨Nat.ne_of_lt (Nat.lt_trans (hlt p hp) hie), Nat.ne_of_lt (hlt p hp)⟩, Nat.zero_le _, rfl⟩
  rintro k' s' ⟨H, tk, m', nw', i, old, rfl, he', hit', F', N', K', ⟨oc, vc, hcm, hcd⟩, hJ, hap, hi, rfl⟩
  have hl' := K' _ hl (by simp only [List.mem_cons, not_or]; exact ⟨hlc, hlT⟩)
  have hl'' : H.IsList l items := isL N' hl'
  cases hv : items[i]? with
  | none =>
    have hsz : i = items.size := Nat.le_antisymm hi (by simpa using hv)
    subst hsz
    refine wpAny_pyNext_enum_end hh he' hit' hl'' hv fun h₁ he₁ => wpAny_execs_nil ?_
    refine done m' nw' h₁ tk hJ K' ?_ fun p hp => ⟨he₁ _ _ (hap p hp).2 (N' p hp).1, (N' p hp).2⟩
    exact ⟨F'.ns.at fun o x => he₁ _ o (Ne.symm hiL) x, fun b o x => he₁ b o (fun hb => by rw [hb, hih] at x; cases x) (F'.keep b o x), F'.above⟩
  | some v =>
    have hlt' : i < items.size := (Array.getElem?_eq_some_iff.mp hv).1
    have heH : e < H.objs.size := Heap.lt_size he'
    have hLH : env.locals < H.objs.size := F'.ns.lt
    refine wpAny_pyNext_enum_item he' hit' hl'' hv hei fun h₁ heo hit₁ ht₁ hz₁ hk₁ => ?_
    refine wpAny_letOwnedTupleGo_enum heo fun h₂ he₂ hs₂ => ?_
    replace hs₂ : Heap.SameBut e h₁ h₂ := hs₂
    have ht₂ : h₂.IsTuple H.objs.size #[.int i tk, v] := ⟨_, (hs₂.2 _ (Nat.ne_of_gt heH)).trans ht₁, rfl, _, rfl⟩
    have hz₂ : h₂.objs.size = H.objs.size + 1 := hs₂.1.trans hz₁
    refine wpAny_assign_Tuple hh ht₂ rfl rfl fun h₃ hx₃ => ?_
    replace hx₃ : Heap.ExtBut h₂.objs.size h₂ h₃ := hx₃
    have up : ∀ b o, b ≠ e → b ≠ it → H.get? b = some o → h₃.get? b = some o := fun b o hbe hbi x => by
      have := Heap.lt_size x
      exact hx₃ b o (by rw [hz₂]; exact Nat.ne_of_lt (Nat.lt_succ_of_lt this)) ((hs₂.2 b hbe).trans (hk₁ b o hbe hbi x))
    have F₃ : Fr h₀ env.locals h₃ m' := ⟨F'.ns.at fun o x => up _ o (Ne.symm heL) (Ne.symm hiL) x, fun b o x => up b o (fun hb => by rw [hb, heh] at x; cases x) (fun hb => by rw [hb, hih] at x; cases x) (F'.keep b o x), F'.above⟩
    have N₃ : News h₀ env.locals h₃ nw' := fun p hp => ⟨up _ _ (hap p hp).1 (hap p hp).2 (N' p hp).1, (N' p hp).2⟩
    show wpAny _ A (do holding [v] (assign (.Name xi pi) env (.int i tk)); do holding [] (assign (.Name xv pv) env v); pure ()) _ _ _
    refine wpAny_bind (wpAny_holding (wpAny_assign_Name (wpAny_storeName_local hxi F₃.ns (fun h₄ hn₄ hs₄ => ?_) hp)))
    replace hs₄ : Heap.SameBut env.locals h₃ h₄ := hs₄
    have F₄ := F₃.set hn₄ hs₄
    have N₄ : News h₀ env.locals h₄ nw' := fun p hp => ⟨(hs₄.2 _ (N₃ p hp).2.1).trans (N₃ p hp).1, (N₃ p hp).2⟩
    have hce : c ≠ e := (hap _ hcm).1
    have hci0 : c ≠ it := (hap _ hcm).2
    have hcL : c ≠ env.locals := (N' _ hcm).2.1
    have hch : h₀.get? c = none := (N' _ hcm).2.2
    refine wpAny_bind (wpAny_holding (wpAny_assign_Name (wpAny_storeName_cell hke hxv hcl ⟨oc, (N₄ _ hcm).1, hcd⟩ (fun h₅ hcell hs₅ => wpAny_pure ?_))))
    refine hide fun Gx hGx => ?_
    obtain ⟨oc₅, hoc₅, hcd₅⟩ := hcell
    have F₅ := F₄.change hs₅ hcL hch
    have he₅ : h₅.get? e = some (enumObj it ((i : Int) + 1) v) := (hs₅.2 e (Ne.symm hce)).trans ((hs₄.2 e heL).trans (hx₃ e _ (by rw [hz₂]; exact Nat.ne_of_lt (Nat.lt_succ_of_lt heH)) he₂))
    obtain ⟨oi, hoi, hci, hdi⟩ := hit₁
    refine hGx ?_
    have hiH : it < H.objs.size := by obtain ⟨o, ho, _⟩ := hit'; exact Heap.lt_size ho
    have hi₅ : h₅.get? it = some oi := (hs₅.2 it (Ne.symm hci0)).trans ((hs₄.2 it hiL).trans (hx₃ it _ (by rw [hz₂]; exact Nat.ne_of_lt (Nat.lt_succ_of_lt hiH)) ((hs₂.2 it (Ne.symm hei)).trans hoi)))
    have N₅ : News h₀ env.locals h₅ ((e, enumObj it ((i : Int) + 1) v) :: (it, oi) :: (c, oc₅) :: nw'.filter fun q => q.1 != c) := fun p hp => by
      rcases List.mem_cons.mp hp with rfl | hp
      · exact ⟨he₅, heL, heh⟩
      · rcases List.mem_cons.mp hp with rfl | hp
        · exact ⟨hi₅, hiL, hih⟩
        · rcases List.mem_cons.mp hp with rfl | hp
          · exact ⟨hoc₅, hcL, hch⟩
          · obtain ⟨hp, hpc⟩ := List.mem_filter.mp hp
            exact ⟨(hs₅.2 _ (by simpa using hpc)).trans (N₄ p hp).1, (N₄ p hp).2⟩
    have K₅ : Kp (c :: T) nw₀ ((e, enumObj it ((i : Int) + 1) v) :: (it, oi) :: (c, oc₅) :: nw'.filter fun q => q.1 != c) := fun q hq hn => .tail _ (.tail _ (.tail _ (List.mem_filter.mpr ⟨K' q hq hn, by simp only [List.mem_cons, not_or] at hn; simpa using hn.1⟩)))
    have J₅ := stab i m' nw' ((e, enumObj it ((i : Int) + 1) v) :: (it, oi) :: (c, oc₅) :: nw'.filter fun q => q.1 != c) hJ fun q hq _ hqc => .tail _ (.tail _ (.tail _ (List.mem_filter.mpr ⟨hq, by simpa using hqc⟩)))
    refine wpAny_mono (turn i v tk m' _ h₅ _ hv J₅ K₅ ⟨oc₅, .tail _ (.tail _ (.head _)), hcd₅⟩ F₅ N₅) (fun f s₆ h₆ => ?_) fun _ _ x => x.elim
    have fin : ∀ tk9, TEnd h₀ env.locals T ((e, enumObj it ((i : Int) + 1) v) :: (it, oi) :: (c, oc₅) :: nw'.filter fun q => q.1 != c) (J (i + 1)) { s with heap := h₅, toks := tk9 } s₆ → ∃ k', k' < items.size + 1 - i ∧ ELi h₀ env.locals c e it l T nw₀ J items.size s k' s₆ := by
      rintro tk9 ⟨h₇, tk₇, m₇, nw₇, rfl, F₇, N₇, K₇, J₇⟩
      have e7 := K₇ _ (.head _) heT
      have i7 := K₇ _ (.tail _ (.head _)) hiT
      have hci' : ((i + 1 : Nat) : Int) = (i : Int) + 1 := by push_cast; rfl
      have hapart : ∀ q ∈ nw₇, isIt q.2 = false → q.1 ≠ e ∧ q.1 ≠ it := fun q hq hf => by
        refine hide fun Gx hGx => ?_
        obtain ⟨a, o⟩ := q
        refine hGx ?_
        constructor
        · rintro rfl; rw [nsame N₇ hq e7] at hf; cases hf
        · rintro rfl; rw [nsame N₇ hq i7] at hf
          have : isIt oi = true := by unfold isIt; rw [hci]; rfl
          rw [this] at hf; cases hf
      refine ⟨items.size + 1 - (i + 1), Nat.sub_lt_sub_left (Nat.lt_succ_of_lt hlt') (Nat.lt_succ_self i), h₇, tk₇, m₇, nw₇.filter (fun q => q.1 != e && q.1 != it), i + 1, v, rfl, by rw [hci']; exact (N₇ _ e7).1, ⟨oi, (N₇ _ i7).1, hci, hdi⟩, F₇, fun p hp => N₇ p (List.mem_filter.mp hp).1,
        fun q hq hn => List.mem_filter.mpr ⟨K₇ q (K₅ q hq hn) (fun h => hn (.tail _ h)), ?_⟩, ⟨oc₅, _, List.mem_filter.mpr ⟨K₇ _ (.tail _ (.tail _ (.head _))) hcT, by simp [hce, hci0]⟩, hcd₅⟩, stab (i + 1) m₇ _ _ J₇ fun q hq hf _ => List.mem_filter.mpr ⟨hq, ?_⟩, fun p hp => ?_, hlt', rfl⟩
      · have h1 : q.1 ≠ e := Nat.ne_of_lt (Nat.lt_trans (hlt q hq) hie)
        have h2 : q.1 ≠ it := Nat.ne_of_lt (hlt q hq)
        simp [h1, h2]
      · refine hide fun Gx hGx => ?_
        obtain ⟨h1, h2⟩ := hapart q hq hf
        refine hGx ?_
        simp [h1, h2]
      · have := (List.mem_filter.mp hp).2
        simpa using this
    cases f with
    | ret v => exact h₆
    | brk => exact h₆
    | cont => exact fin _ h₆
    | next => exact fin _ h₆

theorem forT_enumC {c : Addr} {oc₀ : Obj} {v₀ : Option Value} {xi xv : Str} {pi pv pt : Pos} {x1} {body : List Stmt} {l : Addr} {items : Array Value} {k : Nat} {nw₀ : Ldg} {T : List Addr} {Q : Flow → Shared → Prop}
    (hh : A.handled = none) (hxi : env.kindOf xi = some .local) (hxv : env.kindOf xv = some .cell) (hke : env.scope.kind = .function) (hcl : env.cells.lookup xv = some c) (hc0 : (c, oc₀) ∈ nw₀) (hd0 : oc₀.data = .cell v₀) (hcT : c ∉ T) (hlc : l ≠ c)
    (hp : (env.scope.kind == .class || (env.scope.kind == .module && env.locals != env.globals)) = false)
    (F : Fr h₀ env.locals s.heap m) (N : News h₀ env.locals s.heap nw₀) (hl : (l, listOf items k) ∈ nw₀)
    (hT : ∀ a ∈ T, ∃ o, (a, o) ∈ nw₀) (hlT : l ∉ T)
    (J : Nat → (Str → Option Value) → Ldg → Prop) (stab : ∀ i m nw nw', J i m nw → (∀ q ∈ nw, isIt q.2 = false → q.1 ≠ c → q ∈ nw') → J i m nw') (h0 : J 0 m nw₀)
    (turn : ∀ i v t m₁ nw₁ h tk, items[i]? = some v → J i m₁ nw₁ → Kp (c :: T) nw₀ nw₁ → (∃ oc, (c, oc) ∈ nw₁ ∧ oc.data = .cell (some v)) → Fr h₀ env.locals h (fun y => if y = xi then some (.int i t) else m₁ y) → News h₀ env.locals h nw₁ →
      wpAny (model Challenge.rw_au0003_01.row.prog w) A (execs body env) (TurnEnd h₀ env.locals T nw₁ (J (i + 1)) { s with heap := h, toks := tk } Q) NE { s with heap := h, toks := tk })
    (done : ∀ m₁ nw₁ h tk, J items.size m₁ nw₁ → Kp (c :: T) nw₀ nw₁ → Fr h₀ env.locals h m₁ → News h₀ env.locals h nw₁ → Q .next { s with heap := h, toks := tk }) :
    wpAny (model Challenge.rw_au0003_01.row.prog w) A (call (.type "enumerate") [.ref l]) (ForT Challenge.rw_au0003_01.row.prog w A env (.Tuple [.Name xi pi, .Name xv pv] x1 pt) body Q) NE s := by
  refine call_enumerate_list (isL N hl) fun h' he hit hz hk => ?_
  refine wpAny_pyIter_enum he ?_
  have lt : ∀ p ∈ nw₀, p.1 < s.heap.objs.size := fun p hp => Heap.lt_size (N p hp).1
  have big : ∀ a, s.heap.objs.size ≤ a → h₀.get? a = none := fun a ha => by
    cases z : h₀.get? a with
    | none => rfl
    | some o => exact absurd (Heap.lt_size (F.keep _ _ z)) (Nat.not_lt.mpr ha)
  refine enumLoopC (s := { s with heap := h' }) hh hxi hxv hke hcl hc0 hd0 hcT hlc hp (F.keeps hk) (fun p hp => ⟨hk _ _ (N p hp).1, (N p hp).2⟩) hl lt (Nat.lt_succ_self _) he hit (big _ (Nat.le_succ _)) (big _ (Nat.le_refl _))
    (Nat.ne_of_gt (Nat.lt_succ_of_lt F.ns.lt)) (Nat.ne_of_gt F.ns.lt) hT hlT J stab h0 turn done
end
end Mine
namespace Mine
theorem fill10 (w : World) : (Challenge.rw_au0003_01.Holds ∧ (hd.heap_39 w.params).In default) → True := by
  k_fill; intro _; trivial
variable {w : World}

noncomputable def sOf : Value → Option Str
  | .str x _ => some x
  | _ => none
def Sts (vs : List Value) (xs : List Str) : Prop := vs.map sOf = xs.map some

theorem Sts.get {vs : List Value} {xs : List Str} (h : Sts vs xs) {i : Nat} {v : Value} (hv : vs[i]? = some v) : ∃ x t, v = .str x t ∧ xs[i]? = some x := by
  have := congrArg (·[i]?) h
  simp only [List.getElem?_map, hv, Option.map_some] at this
  cases hx : xs[i]? with
  | none => rw [hx] at this; cases this
  | some x =>
    rw [hx] at this
    have h' : sOf v = some x := Option.some.inj this
    cases v <;> simp only [sOf, reduceCtorEq, Option.some.injEq] at h'
    subst h'
    exact ⟨_, _, rfl, rfl⟩
theorem Sts.len {vs : List Value} {xs : List Str} (h : Sts vs xs) : vs.length = xs.length := by simpa using congrArg List.length h
/-- rows of a ledger -/
structure LR (nw : Ldg) (A : Str → Addr) (U : Str → List Str) (xs ns : List Str) : Prop where
  rows : ∀ x ∈ xs, (∃ us k, (A x, listOf (List.toArray us) k) ∈ nw ∧ Sts us (U x)) ∧ (U x).Perm (ns.filter (· != x))
  inj : ∀ x ∈ xs, ∀ y ∈ xs, A x = A y → x = y

theorem DictIn.notItC {w : World} {nw : Ldg} {d c : Addr} {kvs : List (Str × Value)} (x : DictIn w nw d kvs) {nw' : Ldg} (k : ∀ q ∈ nw, isIt q.2 = false → q.1 ≠ c → q ∈ nw') (hc : d ≠ c) : DictIn w nw' d kvs := by
  refine hide fun Gx hGx => ?_
  obtain ⟨o, h, ⟨es, ep, ⟨hc', h2, h3⟩, r⟩, r'⟩ := x
  refine hGx ?_
  refine ⟨o, k _ h ?_ hc, ⟨es, ep, ⟨hc', h2, h3⟩, r⟩, r'⟩
  show isIt o = false
  unfold isIt; rw [hc']; rfl
theorem ints_get {vs : List Value} {zs : List Int} (h : IntsAre vs zs) : ∀ {i : Nat} (hi : i < vs.length), ∃ z t, vs[i] = .int z t := by
  induction h with
  | nil => intro i hi; cases hi
  | cons n t _ ih =>
    intro i hi
    cases i with
    | zero => exact ⟨n, t, rfl⟩
    | succ i => exact ih (Nat.lt_of_succ_lt_succ hi)
theorem sts_filterMap {vs : List Value} {xs : List Str} (h : Sts vs xs) : vs.filterMap sOf = xs := by
  have e : vs.filterMap sOf = (vs.map sOf).filterMap id := by rw [List.filterMap_map]; rfl
  rw [e, h, List.filterMap_map]
  exact List.filterMap_some
theorem sts_self {us : List Value} (h : ∀ v ∈ us, ∃ y t, v = .str y t) : Sts us (us.filterMap sOf) := by
  unfold Sts
  induction us with
  | nil => rfl
  | cons v r ih =>
    refine hide fun Gx hGx => ?_
    obtain ⟨y, t, rfl⟩ := h v (.head _)
    refine hGx ?_
    have := ih fun v hv => h v (.tail _ hv)
    simp only [List.map_cons, List.filterMap_cons, sOf] at this ⊢
    rw [this]
theorem sts_filter : ∀ {vs : List Value} {xs : List Str} {x : Str}, Sts vs xs → (vs.filter (fun v => !decide (sOf v = some x))).filterMap sOf = xs.filter (· != x)
  | [], [], _, _ => rfl
  | [], _ :: _, _, h => nomatch h
  | _ :: _, [], _, h => nomatch h
  | v :: r, y :: ys, x, h => by
    have h1 : sOf v = some y := (List.cons.inj h).1
    have h2 : Sts r ys := (List.cons.inj h).2
    by_cases e : y = x
    · rw [List.filter_cons_of_neg (by simp [h1, e]), List.filter_cons_of_neg (by simp [e]), sts_filter h2]
    · rw [List.filter_cons_of_pos (by simp [h1, e]), List.filter_cons_of_pos (by simpa using e), List.filterMap_cons, h1, sts_filter h2]
theorem stored_new {xs : List Str} {f : Str → Value} {x : Str} {v : Value} (h : x ∉ xs) : stored (xs.map fun y => (y, f y)) x v = xs.map (fun y => (y, f y)) ++ [(x, v)] := by
  unfold stored
  rw [if_neg]
  simp only [List.any_map, List.any_eq_true, Function.comp, decide_eq_true_eq, not_exists, not_and]
  intro y hy e
  exact h (e ▸ hy)
theorem listStr_V {A : Around} {E : Value → Shared → Prop} {s : Shared} {h₀ : Heap} {L : Addr} {m : Str → Option Value} {nw : Ldg} {x : Str} {t : Tok} {Q : Value → Shared → Prop} (hh : A.handled = none) (F : Fr h₀ L s.heap m) (N : News h₀ L s.heap nw) (hsz : x.cps.size ≤ sizeLine)
    (h : ∀ D ys k h' tk', Fr h₀ L h' m → News h₀ L h' ((D, listOf (List.toArray ys) k) :: nw) → (∀ p ∈ nw, p.1 < D) → Sts ys (signs x) → Q (.ref D) { s with heap := h', toks := tk' }) :
    wpAny (model Challenge.rw_au0003_01.row.prog w) A (call (.type "list") [.str x t]) Q E s := by
  refine call_list_str hh x t (hn := hsz) fun h' tk acc' c' hk hS' hacc => ?_
  refine h _ acc'.toList c' h' tk (F.keeps hk) (news_pushed F N hk (by simpa using hS') rfl) (fun p hp => Heap.lt_size (N p hp).1) ?_
  refine List.ext_getElem? fun j => ?_
  simp only [List.getElem?_map, signs]
  cases hv : acc'.toList[j]? with
  | none =>
    have h1 : acc'.size ≤ j := by simpa using hv
    have h2 : x.cps.toList[j]? = none := by simp; have := hacc.1; omega
    rw [h2]; rfl
  | some v =>
    refine hide fun Gx hGx => ?_
    obtain ⟨c, u, hc, rfl⟩ := hacc.2 j v (by simpa using hv)
    refine hGx ?_
    have : x.cps.toList[j]? = some c := by simpa using hc
    rw [this]; rfl

theorem names_nice : ∀ n : Nat, 2 ≤ n → n ≤ 6 → (signs (Txt.slice (Str.ofString "abcdef") none (some (n : Int)))).Nodup ∧ (signs (Txt.slice (Str.ofString "abcdef") none (some (n : Int)))).length = n ∧ (Txt.slice (Str.ofString "abcdef") none (some (n : Int))).cps.size = n := by
  intro n h1 h2
  rcases n with _ | _ | _ | _ | _ | _ | _ | n
  · exact absurd h1 (by decide)
  · exact absurd h1 (by decide)
  · decide +kernel
  · decide +kernel
  · decide +kernel
  · decide +kernel
  · decide +kernel
  · exact absurd (Nat.le_trans (Nat.le_add_left 7 n) h2) (by decide)

inductive lsPost (w : World) (nw : Ldg) (r : Value) (nw' : Ldg) : Prop
  | mk (d : _) (ns : _) (A : _) (U : _) (f1 : r = .ref d) (f2 : DictIn w nw' d (ns.map fun x => (x, .ref (A x)))) (f3 : LR nw' A U ns ns) (f4 : ns.Nodup) (f5 : 2 ≤ ns.length) (f6 : ns.length ≤ 6) (f7 : (∀ q ∈ nw, q.1 < d)) (f8 : (∀ x ∈ ns, (∀ q ∈ nw, q.1 < A x) ∧ A x ≠ d)) (f9 : Kp [] nw nw')

inductive lsJ (w : World) (l5 d5 sl L : Addr) (mm : Int) (t : Tok) (ns5 : List Str) (nw : Ldg) (i : Nat) (m : Str → Option Value) (nwi : Ldg) : Prop
  | mk (f1 : m (Str.ofString "names") = some (.ref l5)) (f2 : m (Str.ofString "found") = some (.ref d5)) (f3 : m (Str.ofString "many") = some (.int mm t)) (f4 : m (Str.ofString "script") = some (.ref sl)) (A : _) (U : _) (f5 : DictIn w nwi d5 ((ns5.take i).map fun x => (x, .ref (A x)))) (f6 : LR nwi A U (ns5.take i) ns5) (f7 : (∀ x ∈ ns5.take i, (∀ q ∈ nw, q.1 < A x) ∧ A x ≠ d5 ∧ A x ≠ L + 1))

theorem lists_ct {sl k : Nat} {vs : List Value} {zs : List Int} (hi : IntsAre vs zs) (hsz : vs.length ≤ 63) :
    Ct w 198 [.ref sl] 470 2700 (fun nw => (sl, listOf vs.toArray k) ∈ nw)
    (lsPost w) := by
  refine' Ct.introC (binds := [(Str.ofString "script", .ref sl)]) (by k_is) (by k_is) (by decide) (by exact rfl) (by exact rfl) (by decide +kernel) (by exact rfl) (by exact rfl) (by exact rfl) ?_
  intro pp loose mean mg mb gd outer A₀ base g L h₁ tk s nw cells B F X N Y lt hT hP
  refine hide fun Gx hGx => ?_
  obtain ⟨oc, rfl, hc0⟩ := CellsAre.one (n := Str.ofString "name") (c := L + 1) Y
  have hc : oc.data = .cell none := hc0
  simp only [List.cons_append, List.nil_append] at N
  have hP' : (sl, listOf vs.toArray k) ∈ ((L + 1, oc) :: nw) := .tail _ hP
  obtain ⟨m0, F0, hscr⟩ : ∃ m0, Fr g L h₁ m0 ∧ m0 (Str.ofString "script") = some (.ref sl) := ⟨_, F, rfl⟩
  refine hGx ?_
  replace F := fr_in F0 hscr
  clear F0 Y hc0
  refine hideQ fun Q0 hQ0 => ?_
  iterate 2 walk1
  refine wpAny_mono (E := NE) (Q := fun v s' => ∃ mm t h' tk' nw', v = .int mm t ∧ 2 ≤ mm ∧ mm ≤ 6 ∧ s' = ⟨h', s.gens, s.drawn, tk', s.os⟩ ∧ Fr g L h' (fun y => if y = Str.ofString "script" then some (.ref sl) else m0 y) ∧ News g L h' nw' ∧ ∀ q ∈ (L + 1, oc) :: nw, q ∈ nw') ?_ ?_ (fun _ _ e => e)
  · refine hideQ fun Q1 hQ1 => ?_
    repeat walk1
    have F1 := ‹Fr g L _ _›
    have N1 := ‹News g L _ _›
    refine wpAny_neNil N1 (.tail _ hP') (.head _) (by show 2703 < cLine; decide) ?_
    refine wpAny_truthy_bool ?_
    cases vs with
    | nil =>
      rw [if_neg (by simp)]
      iterate 4 walk1
      exact hQ1 _ _ ⟨_, _, _, _, _, rfl, by decide, by decide, rfl, F1, N1, fun q hq => .tail _ hq⟩
    | cons v0 vr =>
      rw [if_pos (by simp)]
      iterate 3 walk1
      refine item_V (j := 0) (v := v0) N1 (.tail _ hP') rfl (by simp) (by rw [sizeLine_eq]; simp at hsz ⊢; omega) ?_ (by with_unfolding_all rfl)
      refine hide fun Gx hGx => ?_
      obtain ⟨z0, t0, rfl⟩ : ∃ z0 t0, v0 = .int z0 t0 := by
        cases hi
        exact ⟨_, _, rfl⟩
      refine hGx ?_
      iterate 3 walk1
      refine hQ1 _ _ ⟨_, _, _, _, _, rfl, ?_, ?_, rfl, F1, N1, fun q hq => .tail _ hq⟩
      · have := Int.fmod_nonneg_of_pos z0 (show (0 : Int) < 5 by decide); omega
      · have := Int.fmod_lt_of_pos z0 (show (0 : Int) < 5 by decide); omega
  · rintro v s' ⟨mm, t, h2, tk2, nw2, rfl, m1, m2, rfl, F2, N2, K2⟩
    iterate 1 walk1
    refine wpAny_execs_cons (wpAny_mono (E := NE) (Q := fun f s' => f = .next ∧ ∃ l5 d5 vs5 k5 ns5 h' tk' nw', s' = ⟨h', s.gens, s.drawn, tk', s.os⟩ ∧ Fr g L h' (fun y => if y = Str.ofString "names" then some (.ref l5) else if y = Str.ofString "found" then some (.ref d5) else if y = Str.ofString "many" then some (.int mm t) else if y = Str.ofString "script" then some (.ref sl) else m0 y) ∧
      News g L h' nw' ∧ (∀ q ∈ (L + 1, oc) :: nw, q ∈ nw') ∧ (l5, listOf (List.toArray vs5) k5) ∈ nw' ∧ DictIn w nw' d5 [] ∧ Sts vs5 ns5 ∧ ns5.Nodup ∧ 2 ≤ ns5.length ∧ ns5.length ≤ 6 ∧ (∀ q ∈ nw, q.1 < l5) ∧ (∀ q ∈ nw, q.1 < d5) ∧ l5 ≠ d5 ∧ L + 1 < l5 ∧ L + 1 < d5) ?_ ?_ (fun _ _ e => e))
    · refine hide fun Gx hGx => ?_
      obtain ⟨n5, rfl⟩ := Int.eq_ofNat_of_zero_le (show 0 ≤ mm by omega)
      refine hGx ?_
      refine hideQ fun Q2 hQ2 => ?_
      iterate 16 walk1
      refine listStr_V (by rfl) (‹Fr g L _ _›) (‹News g L _ _›) ?_ fun D5 ys5 k5 h5 tk5 F5 N5 lt5 hst => ?_
      · rw [sizeLine_eq, (names_nice n5 (by omega) (by omega)).2.2]; omega
      have lt6 : ∀ p ∈ ((L + 1, oc) :: nw), p.1 < D5 := fun p hp => lt5 p (K2 p hp)
      iterate 12 walk1
      refine hide fun Gx hGx => ?_
      obtain ⟨nn1, nn2, _⟩ := names_nice n5 (by omega) (by omega)
      refine hGx ?_
      have l7 := ‹D5 < _ ∧ AllLt _ nw2›
      have l8 := fun q hq => tb_ltOf l7.2 q (K2 q hq)
      refine hQ2 _ _ ?_
      refine ⟨by first | rfl | trivial, D5, _, ys5, k5, _, _, _, _, rfl, ‹Fr g L _ _›, ‹News g L _ _›, fun q hq => .tail _ (.tail _ (.tail _ (K2 q hq))), .tail _ (.tail _ (.head _)), ⟨_, .tail _ (.head _), ‹_›, ‹_›⟩, hst, nn1, by omega, by omega, fun q hq => lt6 q (.tail _ hq), fun q hq => l8 q (.tail _ hq), Nat.ne_of_lt l7.1, lt6 _ (.head _), l8 _ (.head _)⟩
    · rintro f s' ⟨rfl, l5, d5, vs5, k5, ns5, h5, tk5, nw5, rfl, F5, N5, K5, i1, i2, i3, i4, i5, i6, i7, i8, i9, i10, i11⟩
      iterate 1 walk1
      refine ForT_open ?_ (by intro _; rfl)
      iterate 6 walk1
      refine forT_enumC (c := L + 1) (oc₀ := oc) (v₀ := none) (by rfl) (by rfl) (by rfl) (by rfl) (by rfl) (K5 _ (.head _)) hc (T := [d5]) (by simpa using Nat.ne_of_lt i11) (Nat.ne_of_gt i10) (by rfl) F5 N5 i1 (fun a ha => ?_) (by simpa using i9)
        (lsJ w l5 d5 sl L mm t ns5 nw)
        (fun i m nwi nwi' hJ hk => ?_) ⟨rfl, rfl, rfl, rfl, fun _ => 0, fun _ => [], by simpa using i2, ⟨by simp, by simp⟩, by simp⟩ ?_ ?_
      · rw [List.mem_singleton.mp ha]; obtain ⟨o, ho, _⟩ := i2; exact ⟨o, ho⟩
      · refine hide fun Gx hGx => ?_
        obtain ⟨e1, e2, e3, e4, A, U, e5, e6, e7⟩ := hJ
        refine hGx ?_
        refine ⟨e1, e2, e3, e4, A, U, ?_, ?_, e7⟩
        · exact e5.notItC hk (Nat.ne_of_gt i11)
        · exact ⟨fun x hx => by
            refine hide fun Gx hGx => ?_
            obtain ⟨⟨us, k, f1, f2⟩, f3⟩ := e6.rows x hx
            refine hGx ?_
            exact ⟨⟨us, k, hk _ f1 rfl (e7 x hx).2.2, f2⟩, f3⟩, e6.inj⟩
      · intro i v t₁ m₁ nw₁ h₈ tk₈ hv hJ K8 hcc F8 N8
        refine hide fun Gx hGx => ?_
        obtain ⟨e1, e2, e3, e4, A, U, e5, e6, e7⟩ := hJ
        have e8 : ∀ q ∈ nw, q ∈ nw₁ := fun q hq => K8 q (K5 q (.tail _ hq)) (by simp only [List.mem_cons, List.not_mem_nil, or_false, not_or]; exact ⟨Nat.ne_of_lt (Nat.lt_succ_of_lt (lt q hq)), Nat.ne_of_lt (i8 q hq)⟩)
        obtain ⟨oc1, hc1, hcd⟩ := hcc
        obtain ⟨x, tx, rfl, hx⟩ := i3.get (i := i) (by simpa using hv)
        refine hGx ?_
        change Fr g L h₈ _ at F8
        change News g L h₈ _ at N8
        replace F8 := fr_in (fr_in (fr_in (fr_in (fr_in F8 (a := Str.ofString "names") (va := .ref l5) ((if_neg (by decide)).trans e1)) (a := Str.ofString "found") (va := .ref d5) ((if_neg (by decide)).trans ((if_neg (by decide)).trans e2)))
          (a := Str.ofString "many") (va := .int mm t) ((if_neg (by decide)).trans ((if_neg (by decide)).trans ((if_neg (by decide)).trans e3)))) (a := Str.ofString "script") (va := .ref sl) ((if_neg (by decide)).trans ((if_neg (by decide)).trans ((if_neg (by decide)).trans ((if_neg (by decide)).trans e4)))))
          (a := Str.ofString "at") (va := .int i t₁) (by with_unfolding_all rfl)
        refine hideQ fun Q3 hQ3 => ?_
        iterate 2 walk1
        refine wpAny_mono (E := NE) (Q := fun v s' => ∃ z tz tk', v = .int z tz ∧ s' = ⟨h₈, s.gens, s.drawn, tk', s.os⟩) ?_ ?_ (fun _ _ e => e)
        · refine hideQ fun Q4 hQ4 => ?_
          iterate 12 walk1
          refine len_list (items := vs.toArray) (isL N8 (e8 _ hP)) (by simp; omega) ?_
          iterate 2 walk1
          by_cases hlt : ((i : Int) + 1 < (vs.toArray.size : Int))
          · rw [if_pos (by simpa using hlt)]
            iterate 6 walk1
            have hil : i + 1 < vs.length := by simp at hlt; omega
            refine item_V (j := i + 1) (v := vs[i + 1]) N8 (e8 _ hP) (by push_cast; rfl) (by simp [hil]) (by rw [sizeLine_eq]; simp; omega) ?_ (by with_unfolding_all rfl)
            refine hide fun Gx hGx => ?_
            obtain ⟨z, tz, hz⟩ := ints_get hi hil
            refine hGx ?_
            exact hQ4 _ _ ⟨z, tz, _, hz, rfl⟩
          · rw [if_neg (by simpa using hlt)]
            have hi6 : i < 6 := by
              have h1 : i < vs5.length := (List.getElem?_eq_some_iff.mp (by simpa using hv)).1
              have := i3.len
              omega
            have hi6' : (0 : Int) ≤ (i : Int) ∧ (i : Int) < 6 := by omega
            iterate 13 walk1
            exact hQ4 _ _ ⟨_, _, _, rfl, rfl⟩
        · rintro v s' ⟨z, tz, tk9, rfl, rfl⟩
          have hv5 : vs5[i]? = some (.str x tx) := by simpa using hv
          have i1' : (l5, listOf vs5.toArray k5) ∈ nw₁ := K8 _ i1 (by simp only [List.mem_cons, List.not_mem_nil, or_false, not_or]; exact ⟨Nat.ne_of_gt i10, i9⟩)
          iterate 7 walk1
          have F9 := ‹Fr g L _ _›
          have N9 := ‹News g L _ _›
          refine ListComp_open (cl := [(Str.ofString "name", L + 1)]) (by with_unfolding_all rfl) (by rfl) (by decide) ?_ (by intro _; rfl)
          iterate 1 walk1
          dsimp only
          refine compE_list (nw₀ := nw₁) rfl (by decide) rfl rfl F9 N9 i1' (by rw [sizeLine_eq]; simp; have := i3.len; omega) (fun j ys nj => ys = (vs5.take j).filter (fun v => !decide (sOf v = some x)) ∧ nj = nw₁) ⟨rfl, rfl⟩ ?_ ?_
          · intro j v ys nj nw₂ C oC m₂ h₁₀ tk₁₀ hv' hJ hs0 hsj hC hnC hm hF hN hLC
            refine hide fun Gx hGx => ?_
            obtain ⟨rfl, rfl⟩ := hJ
            refine hGx ?_
            unfold CTurn tests
            refine hideQ fun Q5 hQ5 => ?_
            refine wpAny_tests_one ?_
            iterate 1 walk1
            refine nameL_C hN hC hnC hm ?_ (by rfl) (by rfl) (by decide)
            refine lcf_cell (c := L + 1) hN rfl (hsj _ hc1) hcd ?_ rfl rfl
            have hv5' : vs5[j]? = some v := by simpa using hv'
            refine hide fun Gy hGy => ?_
            obtain ⟨y, ty, rfl, hy⟩ := i3.get hv5'
            refine hGy ?_
            iterate 2 walk1
            have htk : vs5.take (j + 1) = vs5.take j ++ [.str y ty] := by rw [List.take_add_one, hv5']; rfl
            refine hQ5 _ _ ?_
            by_cases hyx : y = x
            · rw [if_neg (by simp [hyx])]
              refine ⟨_, _, nw₂, [], rfl, hF, hN, fun _ h => h, (fun _ h => nomatch h), ?_, rfl⟩
              rw [htk, List.filter_append, List.filter_cons_of_neg (by simp [hyx, sOf])]; simp
            · rw [if_pos (by simpa using hyx)]
              refine nameL_C hN hC hnC hm ?_ (by rfl) (by rfl) (by decide)
              refine ⟨_, _, nw₂, [], rfl, hF, hN, fun _ h => h, (fun _ h => nomatch h), ?_, rfl⟩
              rw [htk, List.filter_append, List.filter_cons_of_pos (by simp [hyx, sOf])]; simp
          · intro D h₁₀ tk₁₀ ys nj hJ hs0 F10 N10 ltD
            refine hide fun Gy hGy => ?_
            obtain ⟨rfl, rfl⟩ := hJ
            refine hGy ?_
            iterate 3 walk1
            rw [List.size_toArray, List.take_length] at N10
            refine ⟨X.keeps F10.keep, ?_⟩
            refine Ct.use (order_ct (vs := vs5.filter (fun v => !decide (sOf v = some x))) (by have := List.length_filter_le (fun v => !decide (sOf v = some x)) vs5; have := i3.len; omega)) (by decide) (by decide) B F10 X N10 hT rfl (.head _) fun r nw11 h11 tk11 F11 N11 hp => ?_
            refine hide fun Gx hGx => ?_
            obtain ⟨D1, us, k11, rfl, p1, p2, p3, K11⟩ := hp
            refine hGx ?_
            have hc11 : (L + 1, oc1) ∈ nw11 := Kp.nil K11 _ (.tail _ hc1)
            iterate 1 walk1
            refine wpAny_Name (wpAny_loadName_cell (by rfl) (by rfl) (by rfl) ⟨oc1, (N11 _ hc11).1, hcd⟩ ?_) (by decide)
            have e5' : DictIn w nw11 d5 ((ns5.take i).map fun x => (x, .ref (A x))) := e5.mono fun q hq _ => Kp.nil K11 q (.tail _ hq)
            have hil : i < ns5.length := (List.getElem?_eq_some_iff.mp hx).1
            have hxn : x ∉ ns5.take i := fun h => by
              refine hide fun Gx hGx => ?_
              obtain ⟨j, hj, e⟩ := List.mem_take_iff_getElem.mp h
              refine hGx ?_
              have e2 : ns5[i] = x := (List.getElem?_eq_some_iff.mp hx).2
              have := (List.getElem_inj (h₀ := by omega) (h₁ := hil) i4).mp (e.trans e2.symm)
              omega
            refine setItem_V (by assumption) N11 e5' (by rw [sizeLine_eq]; simp; omega) fun h12 nw12 F12 N12 e12 K12 => ?_
            rw [stored_new hxn] at e12
            have hd5 : ∀ q ∈ nj, q.1 < D1 := fun q hq => p3 q (.tail _ hq)
            refine hide fun Gx hGx => ?_
            obtain ⟨o5, ho5, _⟩ := id e5
            refine hGx ?_
            have hD1 : D1 ≠ d5 := Nat.ne_of_gt (hd5 _ ho5)
            have hf5 : ∀ v ∈ us, ∃ y t, v = .str y t := fun v hv => by
              have h1 := (List.mem_filter.mp (p2.mem_iff.mp hv)).1
              obtain ⟨j, hj, e⟩ := List.getElem_of_mem h1
              obtain ⟨y, t, h, _⟩ := i3.get (i := j) (v := v) (by rw [List.getElem?_eq_getElem hj, e])
              exact ⟨y, t, h⟩
            have hA : ∀ y ∈ ns5.take i, A y ≠ D1 := fun y hy => by
              obtain ⟨⟨us', k', f1, _⟩, _⟩ := e6.rows y hy
              exact Nat.ne_of_lt (hd5 _ f1)
            have htk : ns5.take (i + 1) = ns5.take i ++ [x] := by rw [List.take_add_one, hx]; rfl
            have hne : ∀ y ∈ ns5.take i, y ≠ x := fun y hy e => hxn (e ▸ hy)
            refine wpAny_execs_nil (hQ3 _ _ ?_)
            refine ⟨_, _, _, nw12, rfl, F12, N12, fun q hq hn => K12 q (Kp.nil K11 q (.tail _ hq)) hn, rfl, rfl, rfl, rfl, fun y => if y = x then D1 else A y, fun y => if y = x then us.filterMap sOf else U y, ?_, ⟨?_, ?_⟩, ?_⟩
            · rw [htk, List.map_append]
              have : (ns5.take i).map (fun y => (y, Value.ref (if y = x then D1 else A y))) = (ns5.take i).map (fun y => (y, Value.ref (A y))) := List.map_congr_left fun y hy => by rw [if_neg (hne y hy)]
              rw [this]
              simpa using e12
            · intro y hy
              rw [htk] at hy
              rcases List.mem_append.mp hy with hy | hy
              · rw [if_neg (hne y hy), if_neg (hne y hy)]
                refine hide fun Gx hGx => ?_
                obtain ⟨⟨us', k', f1, f2⟩, f3⟩ := e6.rows y hy
                refine hGx ?_
                exact ⟨⟨us', k', K12 _ (Kp.nil K11 _ (.tail _ f1)) (by simpa using (e7 y hy).2.1), f2⟩, f3⟩
              · have : y = x := by simpa using hy
                rw [if_pos this, if_pos this]
                refine ⟨⟨us, k11, K12 _ p1 (by simpa using hD1), sts_self hf5⟩, ?_⟩
                rw [this, ← sts_filter i3]
                exact p2.filterMap _
            · intro y hy z hz e
              rw [htk] at hy hz
              rcases List.mem_append.mp hy with hy | hy <;> rcases List.mem_append.mp hz with hz | hz
              · rw [if_neg (hne y hy), if_neg (hne z hz)] at e; exact e6.inj y hy z hz e
              · have hz : z = x := by simpa using hz
                rw [if_neg (hne y hy), if_pos hz] at e
                exact absurd e (hA y hy)
              · have hy : y = x := by simpa using hy
                rw [if_neg (hne z hz), if_pos hy] at e
                exact absurd e.symm (hA z hz)
              · have hy : y = x := by simpa using hy
                have hz : z = x := by simpa using hz
                rw [hy, hz]
            · intro y hy
              rw [htk] at hy
              try dsimp only
              rcases List.mem_append.mp hy with hy | hy
              · rw [if_neg (hne y hy)]; exact e7 y hy
              · have : y = x := by simpa using hy
                rw [if_pos this]
                exact ⟨fun q hq => hd5 q (e8 q hq), hD1, Nat.ne_of_gt (hd5 _ hc1)⟩
      · intro m₁ nw₁ h₈ tk₈ hJ K8 F8 N8
        refine hide fun Gx hGx => ?_
        obtain ⟨e1, e2, e3, e4, A, U, e5, e6, e7⟩ := hJ
        refine hGx ?_
        have e8 : ∀ q ∈ nw, q ∈ nw₁ := fun q hq => K8 q (K5 q (.tail _ hq)) (by simp only [List.mem_cons, List.not_mem_nil, or_false, not_or]; exact ⟨Nat.ne_of_lt (Nat.lt_succ_of_lt (lt q hq)), Nat.ne_of_lt (i8 q hq)⟩)
        change Fr g L h₈ _ at F8
        change News g L h₈ _ at N8
        have hsz' : vs5.toArray.size = ns5.length := by simpa using i3.len
        rw [hsz', List.take_length] at e5 e6 e7
        replace F8 := fr_in F8 e2
        iterate 3 walk1
        exact hQ0 _ _ ⟨_, _, _, F8, N8, rfl, rfl, rfl, d5, ns5, A, U, rfl, e5, e6, i4, i5, i6, i8, fun x hx => ⟨(e7 x hx).1, (e7 x hx).2.1⟩, fun q hq _ => e8 q hq⟩
end Mine
namespace Mine
section
variable {prog : Program} {w : World} {A : Around} {E : Value → Shared → Prop} {s : Shared}

theorem keys_miss : typeLookup (.type "list") "keys" = pure none := by rw [typeLookup_type, builtinLookup_eq_fast]; kernel_rfl
theorem entry_ul : entryFor table "dict.update.loop" = some Builtin.«dict.update.loop» := entryFor_of_tree (by kernel_rfl)
theorem plain_ul : plainId "dict.update.loop" = true := by decide +kernel

theorem getAttrQ_keys {a : Addr} {o : Obj} {xs : Array Value} {k : Nat} {Q : Option Value → Shared → Prop}
    (hx : s.heap.get? a = some o) (hc : o.cls = .type "list") (hdat : o.data = .seq xs k) (hd : o.dict = none) (hA : A.handled = none)
    (h : ∀ h' tk, (∀ b o, s.heap.get? b = some o → h'.get? b = some o) → Q none { s with heap := h', toks := tk }) :
    wpAny (model prog w) A (getAttr? (.ref a) "keys") Q E s := by
  refine hide fun Gx hGx => ?_
  obtain ⟨c, dct, dat, sl⟩ := o
  simp only at hc hdat hd
  subst hc hdat hd
  obtain ⟨hp, g, d, tk, os⟩ := s
  refine hGx ?_
  have hT : ∀ tk', (⟨hp, g, d, tk', os⟩ : Shared).TypeIs (.ref a) "list" := fun _ => ⟨_, hx, rfl⟩
  have f1 := sub_AttributeError
  have f3 := F.slot_list_getattribute.lookup
  have f4 := F.slot_list_getattribute.bind (.ref a)
  have f5 := am_list_getattr_none
  unfold getAttr? getAttrBy? getAttrBy
  repeat (any_goals (first | assumption | exact hT _ | ((with_reducible show wpAny _ _ (call (Value.builtin "list.__getattribute__") _ _) _ _ _); refine call_meets F.slot_list_getattribute (hT _) am_entry_list_getattribute (F.args_list_getattribute_2 _ _) (meets_getattribute_miss_list a xs k sl "keys" _ keys_miss (by decide +kernel) (by rw [sizeLine_eq]; decide +kernel)) ⟨hx, hA, fun h' tk' e hx' => ?_⟩) | wp_step))
  refine hide fun Gx hGx => ?_
  obtain ⟨t', u', he⟩ := hx'.there
  refine hGx ?_
  show wpAny _ _ (getattributeRaised _ _ _ _ _ _ _) _ _ _
  unfold getattributeRaised
  repeat (any_goals (first | assumption | wp_step))
  exact h _ _ hx'.of.keeps

theorem loop_step {d it l : Addr} {items : Array Value} {kvs : List (Str × Value)} {r : Value} {R : Result → Shared → Prop} (hnd : (kvs.map (·.1)).Nodup) (hsz : kvs.length ≤ sizeLine) (hit : items.size = kvs.length) (hdi : d ≠ it) (hld : l ≠ d) (hli : l ≠ it) (hA : A.in1.handled = none) :
    ∀ (n i : Nat) (s : Shared), i + n = kvs.length → s.heap.DictOf (strKind prog w) d (kvs.take i) → s.heap.IsListIter it l i → s.heap.IsList l items →
      (∀ (j : Nat) (k : Str) (v : Value), kvs[j]? = some (k, v) → ∃ (a : Addr) (u : Tok) (m : Nat), items[j]? = some (.ref a) ∧ a ≠ d ∧ a ≠ it ∧ s.heap.get? a = some (tupOf #[.str k u, v] m)) →
      (∀ h' tk', h'.DictOf (strKind prog w) d kvs → (∀ b o, b ≠ d → b ≠ it → s.heap.get? b = some o → h'.get? b = some o) → R (.ok (.ret r)) { s with heap := h', toks := tk' }) →
      wpAny (model prog w) A.in1 (Builtin.«dict.update.loop» ⟨[.ref d, .ref it, rawInt i, r], []⟩)
        (fun fin s' => match fin with | .done f => R (.ok f) s' | .again c' => c'.quiet = true ∧ codeAny (model prog w) A c' R s') (fun e s' => R (.error e) s') s := by
  intro n
  induction n with
  | zero =>
    intro i s hi hd hIt hL ht hR
    have : i = kvs.length := hi
    subst this
    show wpAny _ _ (pyNext (.ref it) >>= _) _ _ _
    refine wpAny_bind ((Walks.list hA it l hli items).done s _ _ ⟨by rw [hit]; exact hIt, hL⟩ fun h' tk' hk => ?_)
    rw [List.take_length] at hd
    refine wpAny_bind (wpAny_pure (wpAny_pure ?_))
    refine hR h' tk' ?_ (fun b o hb hb' e => hk b o (by simpa using hb') e)
    refine hide fun Gx hGx => ?_
    obtain ⟨o, es, ep, ho, r⟩ := hd
    refine hGx ?_
    exact ⟨o, es, ep, hk d o (by simpa using hdi) ho, r⟩
  | succ n ih =>
    intro i s hi hd hIt hL ht hR
    have hil : i < kvs.length := by rw [← hi]; exact Nat.lt_add_of_pos_right (Nat.succ_pos n)
    show wpAny _ _ (pyNext (.ref it) >>= _) _ _ _
    refine wpAny_bind ((Walks.list hA it l hli items).item i s _ _ (by rw [hit]; exact hil) ⟨hIt, hL⟩ fun v h' tk' hv hst hk => ?_)
    refine hide fun Gx hGx => ?_
    obtain ⟨⟨k, x⟩, hkx⟩ : ∃ p, kvs[i]? = some p := ⟨_, List.getElem?_eq_getElem hil⟩
    obtain ⟨a, u, m, h1, h2, h3, h4⟩ := ht i k x hkx
    obtain rfl : v = .ref a := Option.some.inj (hv.symm.trans h1)
    refine hGx ?_
    have h4' := hk a _ (by simpa using h3) h4
    refine wpAny_bind (wpAny_holding (wpAny_bind (wpAny_tryCatch ?_)))
    unfold Builtin.Dict.pairItems
    refine wpAny_bind (wpAny_typeOf (T := "tuple") ⟨_, h4', rfl⟩ ?_)
    refine wpAny_bind (wpAny_seqItems h4' rfl ?_)
    refine wpAny_pure ?_
    have hd' : h'.DictOf (strKind prog w) d (kvs.take i) := by
      refine hide fun Gx hGx => ?_
      obtain ⟨o, es, ep, ho, r⟩ := hd
      refine hGx ?_
      exact ⟨o, es, ep, hk d o (by simpa using hdi) ho, r⟩
    show wpAny _ _ (holding [Value.str k u, x] (dictSet d (.str k u) x)) _ _ _
    refine wpAny_holding (wpAny_dictSet_pairs (s := { s with heap := h', toks := tk' }) (strKind_is _ _ k u) hd' (fun h₂ hd₂ hs₂ => ?_) (by rw [List.length_take]; exact Nat.le_trans (Nat.min_le_right _ _) hsz))
    have hfresh : ∀ p ∈ kvs.take i, p.1 ≠ k := fun p hp e => by
      refine hide fun Gx hGx => ?_
      obtain ⟨j, hj, e2⟩ := List.mem_take_iff_getElem.mp hp
      refine hGx ?_
      have e3 : kvs[i] = (k, x) := (List.getElem?_eq_some_iff.mp hkx).2
      have := (List.getElem_inj (xs := kvs.map (·.1)) (h₀ := by rw [List.length_map]; exact Nat.lt_of_lt_of_le hj (Nat.min_le_right _ _)) (h₁ := by simpa using hil) hnd (i := j) (j := i)).mp (by simp [e2, e3, e])
      exact Nat.lt_irrefl i (by rw [this] at hj; exact Nat.lt_of_lt_of_le hj (Nat.min_le_left _ _))
    have hst2 : stored (kvs.take i) k x = kvs.take (i + 1) := by
      unfold stored
      rw [if_neg, List.take_add_one, hkx]
      · rfl
      · simp only [List.any_eq_true, decide_eq_true_eq, not_exists, not_and]
        exact hfresh
    rw [hst2] at hd₂
    refine wpAny_pure ⟨plainId_quiet plain_ul _, codeAny_builtin entry_ul ?_⟩
    rw [Around.under_plainId plain_ul _]
    have hci : ((i + 1 : Nat) : Int) = (i : Int) + 1 := by push_cast; rfl
    rw [← hci]
    have up : ∀ b o, b ≠ d → b ≠ it → s.heap.get? b = some o → h₂.get? b = some o := fun b o hb hb' e => (hs₂.2 b hb).trans (hk b o (by simpa using hb') e)
    refine ih (i + 1) { s with heap := h₂, toks := tk' + 1 } (by omega) hd₂ ?_ ?_ (fun j k v hj => ?_) fun h₃ tk₃ hd₃ hk₃ => hR h₃ tk₃ hd₃ fun b o hb hb' e => hk₃ b o hb hb' (up b o hb hb' e)
    · obtain ⟨o, ho, r⟩ := hst.1; exact ⟨o, (hs₂.2 it (Ne.symm hdi)).trans ho, r⟩
    · obtain ⟨o, ho, r⟩ := hst.2; exact ⟨o, (hs₂.2 l hld).trans ho, r⟩
    · refine hide fun Gx hGx => ?_
      obtain ⟨a, u, m, q1, q2, q3, q4⟩ := ht j k v hj
      refine hGx ?_
      exact ⟨a, u, m, q1, q2, q3, up a _ q2 q3 q4⟩

theorem dictOf_V {h₀ : Heap} {L : Addr} {mm : Str → Option Value} {nw : Ldg} {l : Addr} {items : Array Value} {k : Nat} {kvs : List (Str × Value)} {Q : Value → Shared → Prop} (hA : A.handled = none) (hbig : h₀.NoLimit) (Fh : Fr h₀ L s.heap mm) (N : News h₀ L s.heap nw) (hl : (l, listOf items k) ∈ nw)
    (hnd : (kvs.map (·.1)).Nodup) (hsz : kvs.length ≤ sizeLine) (hit : items.size = kvs.length)
    (ht : ∀ (j : Nat) (k : Str) (v : Value), kvs[j]? = some (k, v) → ∃ (a : Addr) (u : Tok) (m : Nat), items[j]? = some (.ref a) ∧ (a, tupOf #[.str k u, v] m) ∈ nw)
    (h : ∀ d o h' tk', Fr h₀ L h' mm → News h₀ L h' ((d, o) :: nw) → o.IsDictOf (strKind prog w) kvs → (d == sysModules) = false → (∀ p ∈ nw, p.1 < d) → Q (.ref d) { s with heap := h', toks := tk' }) :
    wpAny (model prog w) A (call (.type "dict") [.ref l]) Q E s := by
  have hlt : ∀ p ∈ nw, p.1 < s.heap.objs.size := fun p hp => Heap.lt_size (N p hp).1
  refine callType_codes (Q₁ := fun obj s₁ => obj = .ref s.heap.objs.size ∧ s₁ = { s with heap := s.heap.push { cls := .type "dict", data := .dict #[] } }) F.kt_called_dict (F.kt_typeCall_dict_1 _) F.entry_dict_init (kt_code_dict_new _ ⟨rfl, rfl⟩) ?_
  rintro obj s₁ ⟨rfl, rfl⟩
  have hnew : (s.heap.push { cls := .type "dict", data := .dict #[] }).DictOf (strKind prog w) s.heap.objs.size [] := Heap.DictOf.new s.heap
  have ho := (N _ hl).1
  have ho' := Heap.get?_push_of_some (h := s.heap) { cls := .type "dict", data := .dict #[] } ho
  refine ⟨hnew.typeIs, F.args_dict_init_2 _ _, ?_⟩
  unfold Builtin.«dict.__init__»
  refine wpAny_bind ?_
  unfold Builtin.Dict.selfAndRest
  refine wpAny_bind (wpAny_notOrdered_dict hnew.typeIs ?_)
  show wpAny _ _ (pure (s.heap.objs.size, [Value.ref l])) _ _ _
  refine wpAny_pure ?_
  show wpAny _ _ (Builtin.Dict.updateFrom "dict.__init__" s.heap.objs.size (.ref l) [] .none) _ _ _
  unfold Builtin.Dict.updateFrom
  refine wpAny_bind (wpAny_typeOf (T := "list") ⟨_, ho', rfl⟩ ?_)
  rw [if_pos (by decide)]
  refine wpAny_bind (getAttrQ_keys ho' rfl rfl rfl hA fun h₁ tk₁ hk₁ => ?_)
  refine wpAny_bind (wpAny_rule ?_)
  have hkk : ∀ b o, s.heap.get? b = some o → h₁.get? b = some o := fun b o e => hk₁ b o (Heap.get?_push_of_some _ e)
  have hL1 : h₁.IsList l items := ⟨_, hkk _ _ ho, rfl, k, rfl⟩
  have hd1 : h₁.DictOf (strKind prog w) s.heap.objs.size [] := by
    refine hide fun Gx hGx => ?_
    obtain ⟨o, es, ep, ho, r⟩ := hnew
    refine hGx ?_
    exact ⟨o, es, ep, hk₁ _ _ ho, r⟩
  have hlt1 : s.heap.objs.size < h₁.objs.size := by
    refine hide fun Gx hGx => ?_
    obtain ⟨o, es, ep, ho, r⟩ := hd1
    refine hGx ?_
    exact Heap.lt_size ho
  refine wpAny_bind (wpAny_pyIter_list hL1 ?_)
  refine wpAny_pure ⟨plainId_quiet plain_ul _, codeAny_builtin entry_ul ?_⟩
  rw [Around.under_plainId plain_ul _]
  have hll := hlt _ hl
  refine loop_step (A := A.in1) (r := .none) (it := h₁.objs.size) (items := items) (kvs := kvs) hnd hsz hit (Nat.ne_of_lt hlt1) (Nat.ne_of_lt hll) (Nat.ne_of_lt (Nat.lt_trans hll hlt1)) hA kvs.length 0 _ (by omega) (hd1.push _) ⟨_, Heap.get?_push_size _ rfl, rfl, rfl⟩ (hL1.push _) (fun j k v hj => ?_) fun h₃ tk₃ hd₃ hk₃ => ?_
  · refine hide fun Gx hGx => ?_
    obtain ⟨a, u, m, q1, q2⟩ := ht j k v hj
    refine hGx ?_
    have := hlt _ q2
    exact ⟨a, u, m, q1, Nat.ne_of_lt this, Nat.ne_of_lt (Nat.lt_trans this hlt1), Heap.get?_push_of_some _ (hkk _ _ (N _ q2).1)⟩
  · have up : ∀ b o, s.heap.get? b = some o → h₃.get? b = some o := fun b o e => hk₃ b o (Nat.ne_of_lt (Heap.lt_size e)) (Nat.ne_of_lt (Nat.lt_trans (Heap.lt_size e) hlt1)) (Heap.get?_push_of_some _ (hkk b o e))
    refine hide fun Gx hGx => ?_
    obtain ⟨o, ho3, hdo⟩ := Heap.dictOf_iff.mp hd₃
    refine hGx ?_
    have F₃ := Fh.keeps up
    have hnone : h₀.get? s.heap.objs.size = none := none_at_size Fh
    refine ⟨rfl, h s.heap.objs.size o h₃ tk₃ F₃ (fun p hp => ?_) hdo ?_ hlt⟩
    · rcases List.mem_cons.mp hp with rfl | hp
      · exact ⟨ho3, Nat.ne_of_gt Fh.ns.lt, hnone⟩
      · exact ⟨up _ _ (N p hp).1, (N p hp).2⟩
    · have := modules_low hbig
      have h2 : h₀.objs.size ≤ L := Fh.above
      have h3 : L < s.heap.objs.size := Fh.ns.lt
      simp only [beq_eq_false_iff_ne, ne_eq]
      intro e
      have h1 : sysModules < h₀.objs.size := this
      rw [e] at h3
      exact Nat.lt_irrefl _ (Nat.lt_of_lt_of_le (Nat.lt_trans h3 h1) h2)
end
end Mine
namespace Mine
theorem fill11 (w : World) : (Challenge.rw_au0003_01.Holds ∧ (hd.heap_39 w.params).In default) → True := by
  k_fill; intro _; trivial
variable {w : World}

theorem dictItem_V {A : Around} {E : Value → Shared → Prop} {s : Shared} {h₀ : Heap} {L : Addr} {nw : Ldg} {d : Addr} {kvs : List (Str × Value)} {k : Str} {t : Tok} {v : Value} {value slice : Expr} {Q : Value → Shared → Prop} (N : News h₀ L s.heap nw) (hd : DictIn w nw d kvs) (hv : valueAt kvs k = some v) (h : Q v { s with toks := s.toks + 1 })
    (hs : subscripted slice false (.ref d) (.str k t) = operate [.ref d, .str k t] (getItem (.ref d) (.str k t))) :
    wpAny (model Challenge.rw_au0003_01.row.prog w) A (subscriptTail value slice (.ref d) (.str k t)) Q E s := by
  refine hide fun G1 hG1 => ?_
  obtain ⟨o, hm, hdo, _⟩ := hd
  refine hG1 ?_
  exact kdt_tail N hm hdo (kdt_getItem N hm hdo (strKind_is _ _ _ _) hv h) hs

theorem valueAt_map {xs : List Str} {f : Str → Value} {x : Str} (hx : x ∈ xs) : valueAt (xs.map fun y => (y, f y)) x = some (f x) := by
  unfold valueAt
  induction xs with
  | nil => cases hx
  | cons y ys ih =>
    by_cases e : y = x
    · subst e; simp
    · rw [List.map_cons, List.find?_cons_of_neg (by simpa using e)]
      exact ih (by rcases List.mem_cons.mp hx with h | h; exact absurd h.symm e; exact h)

/-- a fresh player of the ledger -/
inductive Fp (nw : Ldg) (p d : Addr) (x : Str) : Prop
  | mk (l : _) (l2 : _) (hs : _) (ts : _) (k : _) (k' : _) (t : _) (f1 : (p, instObj 184 d) ∈ nw) (f2 : (d, dictOf (PD hs ts (.str x t) (.ref l) .none (.ref l2) .none) k) ∈ nw) (f3 : (l, plist [] k') ∈ nw)

theorem Fp.up {nw nw' : Ldg} {p d : Addr} {x : Str} (h : Fp nw p d x) (k : ∀ q ∈ nw, q ∈ nw') : Fp nw' p d x := by
  refine hide fun G2 hG2 => ?_
  obtain ⟨l, l2, hs, ts, k1, k2, t, a, b, c⟩ := h
  refine hG2 ?_
  exact ⟨l, l2, hs, ts, k1, k2, t, k _ a, k _ b, k _ c⟩
theorem not_take {α : Type} {ns : List α} {i : Nat} {k : α} (hnd : ns.Nodup) (hx : ns[i]? = some k) : k ∉ ns.take i := fun h => by
  refine hide fun G3 hG3 => ?_
  obtain ⟨hi, e2⟩ := List.getElem?_eq_some_iff.mp hx
  obtain ⟨j, hj, e⟩ := List.mem_take_iff_getElem.mp h
  refine hG3 ?_
  have := (List.getElem_inj (h₀ := Nat.lt_of_lt_of_le hj (Nat.min_le_right _ _)) (h₁ := hi) hnd).mp (e.trans e2.symm)
  exact Nat.lt_irrefl i (by rw [this] at hj; exact Nat.lt_of_lt_of_le hj (Nat.min_le_left _ _))

theorem cellStore_V {A : Around} {E : Value → Shared → Prop} {s : Shared} {env : Env} {h₀ : Heap} {m : Str → Option Value} {nw : Ldg} {c : Addr} {oc : Obj} {v₀ : Option Value} {v : Value} {name : Str} {Q : Unit → Shared → Prop} (F : Fr h₀ env.locals s.heap m) (N : News h₀ env.locals s.heap nw) (hc : (c, oc) ∈ nw) (hd : oc.data = .cell v₀)
    (hk : env.scope.kind = .function) (hl : env.kindOf name = some .cell) (hcl : env.cells.lookup name = some c)
    (h : ∀ h' nw' oc', Fr h₀ env.locals h' m → News h₀ env.locals h' nw' → (c, oc') ∈ nw' → oc'.data = .cell (some v) → Kp [c] nw nw' → Q () { s with heap := h' }) :
    wpAny (model Challenge.rw_au0003_01.row.prog w) A (storeName env name v) Q E s := by
  refine wpAny_storeName_cell hk hl hcl ⟨oc, (N _ hc).1, hd⟩ fun h' hcell hs => ?_
  refine hide fun G4 hG4 => ?_
  obtain ⟨oc', ho', hd'⟩ := hcell
  refine hG4 ?_
  exact mutV F N hc hs ho' fun nw' F' N' hm K => h h' nw' oc' F' N' hm hd' K

/-- a player whose row is told -/
inductive Sp (nw : Ldg) (p d : Addr) (x : Str) (row : List Addr) : Prop
  | mk (l : _) (k : _) (hs : _) (ts : _) (pn : _) (op : _) (n : _) (t : _) (f1 : (p, instObj 184 d) ∈ nw) (f2 : (d, dictOf (PD hs ts (.str x t) (.ref l) .none pn op) n) ∈ nw) (f3 : (l, plist row k) ∈ nw)
theorem valueAt_at {xs : List Str} {f : Str → Value} {i : Nat} {k : Str} {v : Value} (h : (xs.map fun y => (y, f y))[i]? = some (k, v)) : xs[i]? = some k ∧ v = f k := by
  rw [List.getElem?_map] at h
  cases e : xs[i]? with
  | none => rw [e] at h; cases h
  | some y => rw [e] at h; cases h; exact ⟨rfl, rfl⟩

inductive plPost (ns on : List Str) (U : Str → List Str) (nw : Ldg) (r : Value) (nw' : Ldg) : Prop
  | mk (pl : Nat) (k : Nat) (P : Str → Addr) (D : Str → Addr) (f1 : r = .ref pl) (f2 : (pl, plist (on.map P) k) ∈ nw') (f3 : (∀ x ∈ ns, Sp nw' (P x) (D x) x ((U x).map P))) (f4 : (∀ x ∈ ns, ∀ y ∈ ns, P x = P y → x = y)) (f5 : (∀ x ∈ ns, ∀ y ∈ ns, D x = D y → x = y)) (f6 : (∀ q ∈ nw, q.1 < pl ∧ ∀ x ∈ ns, q.1 < P x ∧ q.1 < D x)) (f7 : Kp [] nw nw')

inductive plJ1 (ns : List Str) (L : Addr) (oc : Obj) (nw : Ldg) (i : Nat) (ys : List Value) (nj : Ldg) : Prop
  | mk (P : Str → Addr) (D : Str → Addr) (Tu : Str → Addr) (f1 : ys = (ns.take i).map (fun x => Value.ref (Tu x))) (f2 : (∀ q ∈ (L + 1, oc) :: nw, q ∈ nj)) (f3 : (∀ x ∈ ns.take i, Fp nj (P x) (D x) x ∧ (∃ u, (Tu x, tupOf #[.str x u, .ref (P x)] 0) ∈ nj) ∧ (∀ q ∈ (L + 1, oc) :: nw, q.1 < P x ∧ q.1 < D x))) (f4 : (∀ x ∈ ns.take i, ∀ y ∈ ns.take i, P x = P y → x = y)) (f5 : (∀ x ∈ ns.take i, ∀ y ∈ ns.take i, D x = D y → x = y))

inductive plJ2 (dl ol : Addr) (ns : List Str) (P D : Str → Addr) (U : Str → List Str) (i : Nat) (m : Str → Option Value) (nwi : Ldg) : Prop
  | mk (f1 : m (Str.ofString "lists") = some (.ref dl)) (f2 : m (Str.ofString "order") = some (.ref ol)) (f3 : ∀ x ∈ ns, if x ∈ ns.take i then Sp nwi (P x) (D x) x ((U x).map P) else Fp nwi (P x) (D x) x)

theorem players_ct {dl ol ko : Addr} {ns on : List Str} {os : List Value} {A : Str → Addr} {U : Str → List Str} (hnd : ns.Nodup) (hlen : ns.length ≤ 6) (hos : Sts os on) (hon : on.Perm ns) (hU : ∀ x ∈ ns, ∀ y ∈ U x, y ∈ ns ∧ y ≠ x) (hUl : ∀ x ∈ ns, (U x).length ≤ 6) :
    Ct w 220 [.ref dl, .ref ol] 470 2700 (fun nw => DictIn w nw dl (ns.map fun x => (x, .ref (A x))) ∧ (∀ x ∈ ns, ∃ us k, (A x, listOf (List.toArray us) k) ∈ nw ∧ Sts us (U x)) ∧ (ol, listOf os.toArray ko) ∈ nw)
    (plPost ns on U) := by
  refine' Ct.introC (binds := [(Str.ofString "lists", .ref dl), (Str.ofString "order", .ref ol)]) (by k_is) (by k_is) (by decide) (by exact rfl) (by exact rfl) (by decide +kernel) (by exact rfl) (by exact rfl) (by exact rfl) ?_
  intro pp loose mean mg mb gd outer A₀ base g L h₁ tk s nw cells B F X N Y lt hT hP
  refine hide fun G5 hG5 => ?_
  obtain ⟨hP1, hP2, hP3⟩ := hP
  obtain ⟨oc, rfl, hc0⟩ := CellsAre.one (n := Str.ofString "made") (c := L + 1) Y
  have hc : oc.data = .cell none := hc0
  simp only [List.cons_append, List.nil_append] at N
  obtain ⟨m0, F0, hm1, hm2⟩ : ∃ m0, Fr g L h₁ m0 ∧ m0 (Str.ofString "lists") = some (.ref dl) ∧ m0 (Str.ofString "order") = some (.ref ol) := ⟨_, F, rfl, rfl⟩
  refine hG5 ?_
  replace F := fr_in (fr_in F0 hm1) (a := Str.ofString "order") ((if_neg (by decide)).trans hm2)
  clear F0 Y hc0
  refine hideQ fun Q0 hQ0 => ?_
  iterate 6 walk1
  refine ListComp_open (cl := []) (by with_unfolding_all rfl) (by rfl) (by decide) ?_ (by intro _; rfl)
  iterate 1 walk1
  dsimp only
  have hP1c : DictIn w ((L + 1, oc) :: nw) dl (ns.map fun x => (x, .ref (A x))) := hP1.mono fun q hq _ => .tail _ hq
  refine compE_dict (nw₀ := (L + 1, oc) :: nw) rfl (by decide) rfl rfl F N hP1c (by rw [sizeLine_eq]; simp; omega)
    (plJ1 ns L oc nw) ⟨fun _ => 0, fun _ => 0, fun _ => 0, rfl, fun q hq => hq, by simp, by simp, by simp⟩ ?_ ?_
  · intro i k t x' ys nj nw₁ C oC m₂ h tk hv hJ hs0 hsj hC hnC hm hF hN hLC
    refine hide fun G6 hG6 => ?_
    obtain ⟨P, D, Tu, rfl, j1, j2, j3, j4⟩ := hJ
    refine hG6 ?_
    unfold CTurn tests
    refine wpAny_tests_nil ?_
    rw [if_pos rfl]
    have hx : ns[i]? = some k := by
      rw [List.getElem?_map] at hv
      cases e : ns[i]? with
      | none => rw [e] at hv; cases hv
      | some y => rw [e] at hv; cases hv; rfl
    refine hideQ fun Q1 hQ1 => ?_
    iterate 3 walk1
    refine nameL_C hN hC hnC hm ?_ (by rfl) (by rfl) (by decide)
    iterate 5 walk1
    refine nameL_C hN hC hnC hm ?_ (by rfl) (by rfl) (by decide)
    iterate 1 walk1
    refine ⟨X.keeps hF.keep, ?_⟩
    refine Ct.use player_ct (by decide) (by decide) B hF X hN hT rfl trivial fun r nw2 h2 tk2 F2 N2 hp => ?_
    refine hide fun G7 hG7 => ?_
    obtain ⟨y, d, l, l2, hs, ts, k1, k2, rfl, p1, p2, p3, p4, p5, p6, K2⟩ := hp
    refine hG7 ?_
    iterate 1 walk1
    refine kup_newTuple F2 N2 ?_ (by rw [sizeLine_eq]; exact (by decide : 2 ≤ 16777216))
    intro D2 h3 F3 N3 lt3
    have hkn : k ∉ ns.take i := not_take hnd hx
    have htk : ns.take (i + 1) = ns.take i ++ [k] := by rw [List.take_add_one, hx]; rfl
    have hne : ∀ z ∈ ns.take i, z ≠ k := fun z hz e => hkn (e ▸ hz)
    have up : ∀ q ∈ nj, q ∈ nw2 := fun q hq => Kp.nil K2 q (hsj q hq)
    have ltD2 : ∀ p ∈ nw₁, p.1 < D2 := fun p hp => lt3 p (Kp.nil K2 p hp)
    refine hQ1 _ _ ?_
    refine ⟨h3, _, (D2, tupOf #[.str k t, .ref y] 0) :: nw2, [(D2, tupOf #[.str k t, .ref y] 0), (y, instObj 184 d), (d, dictOf (PD hs ts (.str k t) (.ref l) .none (.ref l2) .none) k1), (l, plist [] k2)], rfl, F3, N3, fun q hq => .tail _ (Kp.nil K2 q hq), fun q hq => ?_,
      fun x => if x = k then y else P x, fun x => if x = k then d else D x, fun x => if x = k then D2 else Tu x, ?_, fun q hq => List.mem_append_right _ (j1 q hq), fun x hx' => ?_, fun x hx1 z hz e => ?_, fun x hx1 z hz e => ?_⟩
    · simp only [List.mem_cons, List.not_mem_nil, or_false] at hq
      rcases hq with rfl | rfl | rfl | rfl
      · exact ⟨.head _, ltD2⟩
      · exact ⟨.tail _ p1, p4⟩
      · exact ⟨.tail _ p2, p5⟩
      · exact ⟨.tail _ p3, p6⟩
    · rw [htk, List.map_append]
      have : (ns.take i).map (fun x => Value.ref (if x = k then D2 else Tu x)) = (ns.take i).map (fun x => Value.ref (Tu x)) := List.map_congr_left fun z hz => by rw [if_neg (hne z hz)]
      rw [this]; simp
    · try dsimp only
      rw [htk] at hx'
      rcases List.mem_append.mp hx' with hx' | hx'
      · rw [if_neg (hne x hx'), if_neg (hne x hx'), if_neg (hne x hx')]
        refine hide fun G8 hG8 => ?_
        obtain ⟨q1, ⟨u, q2⟩, q3⟩ := j2 x hx'
        refine hG8 ?_
        exact ⟨q1.up fun q hq => List.mem_append_right _ hq, ⟨u, List.mem_append_right _ q2⟩, q3⟩
      · have : x = k := by simpa using hx'
        rw [if_pos this, if_pos this, if_pos this, this]
        exact ⟨⟨l, l2, hs, ts, k1, k2, t, by simp, by simp, by simp⟩, ⟨t, by simp⟩, fun q hq => ⟨p4 q (hsj q (j1 q hq)), p5 q (hsj q (j1 q hq))⟩⟩
    · rw [htk] at hx1 hz
      try dsimp only at e
      have hP : ∀ z ∈ ns.take i, P z ≠ y := fun z hz => by
        refine hide fun G9 hG9 => ?_
        obtain ⟨⟨_, _, _, _, _, _, _, q1, _⟩, _⟩ := j2 z hz
        refine hG9 ?_
        exact Nat.ne_of_lt (p4 _ (hsj _ q1))
      rcases List.mem_append.mp hx1 with hx1 | hx1 <;> rcases List.mem_append.mp hz with hz | hz
      · rw [if_neg (hne x hx1), if_neg (hne z hz)] at e; exact j3 x hx1 z hz e
      · have hz : z = k := by simpa using hz
        rw [if_neg (hne x hx1), if_pos hz] at e; exact absurd e (hP x hx1)
      · have hx1 : x = k := by simpa using hx1
        rw [if_neg (hne z hz), if_pos hx1] at e; exact absurd e.symm (hP z hz)
      · have hx1 : x = k := by simpa using hx1
        have hz : z = k := by simpa using hz
        rw [hx1, hz]
    · rw [htk] at hx1 hz
      try dsimp only at e
      have hP : ∀ z ∈ ns.take i, D z ≠ d := fun z hz => by
        refine hide fun G10 hG10 => ?_
        obtain ⟨⟨_, _, _, _, _, _, _, _, q1, _⟩, _⟩ := j2 z hz
        refine hG10 ?_
        exact Nat.ne_of_lt (p5 _ (hsj _ q1))
      rcases List.mem_append.mp hx1 with hx1 | hx1 <;> rcases List.mem_append.mp hz with hz | hz
      · rw [if_neg (hne x hx1), if_neg (hne z hz)] at e; exact j4 x hx1 z hz e
      · have hz : z = k := by simpa using hz
        rw [if_neg (hne x hx1), if_pos hz] at e; exact absurd e (hP x hx1)
      · have hx1 : x = k := by simpa using hx1
        rw [if_neg (hne z hz), if_pos hx1] at e; exact absurd e.symm (hP z hz)
      · have hx1 : x = k := by simpa using hx1
        have hz : z = k := by simpa using hz
        rw [hx1, hz]
  · intro D1 h tk ys nj hJ hs0 F1 N1 ltD
    refine hide fun G11 hG11 => ?_
    obtain ⟨P, D, Tu, rfl, j1, j2, j3, j4⟩ := hJ
    refine hG11 ?_
    rw [List.length_map, List.take_length] at j2 j3 j4 N1
    iterate 1 walk1
    refine dictOf_V (kvs := ns.map fun x => (x, .ref (P x))) (by rfl) hT.nolimit F1 N1 (.head _) (by rw [List.map_map]; simpa [Function.comp_def] using hnd) (by rw [sizeLine_eq]; simp; omega) (by simp) (fun j k v hj => ?_) fun d o h2 tk2 F2 N2 hdo hds lt2 => ?_
    · rw [List.getElem?_map] at hj
      cases e : ns[j]? with
      | none => rw [e] at hj; cases hj
      | some y =>
        rw [e] at hj; cases hj
        refine hide fun G12 hG12 => ?_
        obtain ⟨_, ⟨u, q2⟩, _⟩ := j2 _ (List.mem_of_getElem? e)
        refine hG12 ?_
        exact ⟨Tu _, u, 0, by simp [e], .tail _ q2⟩
    refine cellStore_V F2 N2 (.tail _ (.tail _ (j1 _ (.head _)))) hc (by rfl) (by rfl) (by rfl) fun h3 nw3 oc3 F3 N3 hc3 hcd3 K3 => ?_
    have up3 : ∀ q ∈ nj, q.1 ≠ L + 1 → q ∈ nw3 := fun q hq hn => K3 q (.tail _ (.tail _ hq)) (by simpa using hn)
    have hbig : ∀ x ∈ ns, L + 1 < P x ∧ L + 1 < D x := fun x hx => (j2 x hx).2.2 _ (.head _)
    have hnc : ∀ q ∈ nw, q.1 ≠ L + 1 := fun q hq => Nat.ne_of_lt (Nat.lt_succ_of_lt (lt q hq))
    have hdn : d ≠ L + 1 := Nat.ne_of_gt (lt2 _ (.tail _ (j1 _ (.head _))))
    have hmade : DictIn w nw3 d (ns.map fun x => (x, .ref (P x))) := ⟨o, K3 _ (.head _) (by simpa using hdn), hdo, hds⟩
    have hlists : DictIn w nw3 dl (ns.map fun x => (x, .ref (A x))) := hP1.mono fun q hq _ => up3 q (j1 q (.tail _ hq)) (hnc q hq)
    have hFp : ∀ x ∈ ns, Fp nw3 (P x) (D x) x := fun x hx => by
      refine hide fun G13 hG13 => ?_
      obtain ⟨⟨l, l2, hs, ts, k1, k2, t, q1, q2, q3⟩, _, _⟩ := j2 x hx
      refine hG13 ?_
      have hl : l ≠ L + 1 := fun e => by
        have h1 := N2 _ (.tail _ (.tail _ q3))
        have h2 := N2 _ (.tail _ (.tail _ (j1 _ (.head _))))
        rw [show (l, plist [] k2).1 = (L + 1, oc).1 from e, h2.1] at h1
        have h3 := Option.some.inj h1.1
        have h4 : oc.data = (plist [] k2).data := congrArg Obj.data h3
        rw [hc] at h4; cases h4
      exact ⟨l, l2, hs, ts, k1, k2, t, up3 _ q1 (Nat.ne_of_gt (hbig x hx).1), up3 _ q2 (Nat.ne_of_gt (hbig x hx).2), up3 _ q3 hl⟩
    have hDnT : ∀ q ∈ nw, q.1 ∉ ns.map D := fun q hq hm => by
      refine hide fun G14 hG14 => ?_
      obtain ⟨x, hx, e⟩ := List.mem_map.mp hm
      refine hG14 ?_
      have := ((j2 x hx).2.2 q (.tail _ hq)).2
      rw [e] at this; exact Nat.lt_irrefl _ this
    iterate 1 walk1
    refine For_open ?_ (by intro _; rfl)
    iterate 1 walk1
    refine forK_dict (kvs := ns.map fun x => (x, .ref (A x))) rfl rfl rfl F3 N3 hlists (ns.map D) (fun a ha => ?_) (fun hm => ?_)
      (plJ2 dl ol ns P D U)
      (fun i m nwi nwi' hJ hk => ?_) ⟨rfl, rfl, fun x hx => by simpa using hFp x hx⟩ ?_ ?_
    · refine hide fun G15 hG15 => ?_
      obtain ⟨x, hx, rfl⟩ := List.mem_map.mp ha
      obtain ⟨_, _, _, _, _, _, _, _, q2, _⟩ := hFp x hx
      refine hG15 ?_
      exact ⟨_, q2⟩
    · refine hide fun G16 hG16 => ?_
      obtain ⟨o', ho', _⟩ := hP1
      refine hG16 ?_
      exact hDnT _ ho' hm
    · obtain ⟨q1, q2, q3⟩ := hJ
      refine ⟨q1, q2, fun x hx => ?_⟩
      have := q3 x hx
      by_cases hxi : x ∈ ns.take i
      · rw [if_pos hxi] at this ⊢
        refine hide fun G17 hG17 => ?_
        obtain ⟨l, k, hs, ts, pn, op, n, t, q1, q2, q3⟩ := this
        refine hG17 ?_
        exact ⟨l, k, hs, ts, pn, op, n, t, hk _ q1 rfl, hk _ q2 rfl, hk _ q3 rfl⟩
      · rw [if_neg hxi] at this ⊢
        refine hide fun G18 hG18 => ?_
        obtain ⟨l, l2, hs, ts, k1, k2, t, q1, q2, q3⟩ := this
        refine hG18 ?_
        exact ⟨l, l2, hs, ts, k1, k2, t, hk _ q1 rfl, hk _ q2 rfl, hk _ q3 rfl⟩
    · intro i k t x' m₁ nw₁ h4 tk4 hv hJ K4 F4 N4
      refine hide fun G19 hG19 => ?_
      obtain ⟨hx', rfl⟩ := valueAt_at hv
      have hx := hx'
      have hxn : k ∈ ns := List.mem_of_getElem? hx
      obtain ⟨e1, e2, e3⟩ := hJ
      have hkn : k ∉ ns.take i := not_take hnd hx
      have hFk := e3 k hxn
      rw [if_neg hkn] at hFk
      obtain ⟨l, l2, hs, ts, k1, k2, t1, q1, q2, q3⟩ := hFk
      refine hG19 ?_
      change Fr g L h4 _ at F4
      change News g L h4 _ at N4
      replace F4 := fr_in (fr_in (fr_in F4 (a := Str.ofString "lists") (va := .ref dl) ((if_neg (by decide)).trans e1)) (a := Str.ofString "order") (va := .ref ol) ((if_neg (by decide)).trans ((if_neg (by decide)).trans e2))) (a := Str.ofString "name") (va := .str k t) (by with_unfolding_all rfl)
      have hc4 : (L + 1, oc3) ∈ nw₁ := K4 _ hc3 (fun hm => by
        obtain ⟨x, hx, e⟩ := List.mem_map.mp hm
        exact absurd e (Nat.ne_of_gt (hbig x hx).2))
      refine hideQ fun Q2 hQ2 => ?_
      iterate 4 walk1
      have mk4 : ∀ q ∈ nw3, (∀ x ∈ ns, q.1 ≠ D x) → q ∈ nw₁ := fun q hq hn => K4 q hq fun hm => by
        refine hide fun G20 hG20 => ?_
        obtain ⟨x, hx, e⟩ := List.mem_map.mp hm
        refine hG20 ?_
        exact hn x hx e.symm
      have hdD : ∀ x ∈ ns, d ≠ D x := fun x hx => by
        refine hide fun G21 hG21 => ?_
        obtain ⟨_, _, _, _, _, _, _, _, q2, _⟩ := (j2 x hx).1
        refine hG21 ?_
        exact Nat.ne_of_gt (lt2 _ (.tail _ q2))
      have hdlD : ∀ x ∈ ns, dl ≠ D x := fun x hx e => by
        refine hide fun G22 hG22 => ?_
        obtain ⟨o', ho', _⟩ := hP1
        refine hG22 ?_
        have := ((j2 x hx).2.2 _ (.tail _ ho')).2
        rw [← e] at this; exact Nat.lt_irrefl _ this
      have hAD : ∀ y ∈ ns, ∀ x ∈ ns, A y ≠ D x := fun y hy x hx e => by
        refine hide fun G23 hG23 => ?_
        obtain ⟨us, k, f1, _⟩ := hP2 y hy
        refine hG23 ?_
        have := ((j2 x hx).2.2 _ (.tail _ f1)).2
        rw [← e] at this; exact Nat.lt_irrefl _ this
      have hmade4 : DictIn w nw₁ d (ns.map fun x => (x, .ref (P x))) := hmade.mono fun q hq e => mk4 q hq fun x hx => by rw [e]; exact hdD x hx
      have hlists4 : DictIn w nw₁ dl (ns.map fun x => (x, .ref (A x))) := hlists.mono fun q hq e => mk4 q hq fun x hx => by rw [e]; exact hdlD x hx
      refine wpAny_Name (wpAny_loadName_cell (by rfl) (by rfl) (by rfl) ⟨oc3, (N4 _ hc4).1, hcd3⟩ ?_) (by decide)
      iterate 1 walk1
      refine dictItem_V N4 hmade4 (valueAt_map hxn) ?_ (by with_unfolding_all rfl)
      iterate 3 walk1
      refine ListComp_open (cl := [(Str.ofString "made", L + 1)]) (by with_unfolding_all rfl) (by rfl) (by decide) ?_ (by intro _; rfl)
      iterate 3 walk1
      refine dictItem_V N4 hlists4 (valueAt_map hxn) ?_ (by with_unfolding_all rfl)
      refine hide fun G24 hG24 => ?_
      obtain ⟨us, kk, f1, f2⟩ := hP2 k hxn
      refine hG24 ?_
      have f1' : (A k, listOf us.toArray kk) ∈ nw₁ := mk4 _ (up3 _ (j1 _ (.tail _ f1)) (hnc _ f1)) (fun x hx => hAD k hxn x hx)
      have hus := f2.len
      have hUk := hUl k hxn
      refine compE_list (nw₀ := nw₁) rfl (by decide) rfl rfl F4 N4 f1' (by rw [sizeLine_eq]; simp; omega) (fun j ys nj => ys = ((U k).take j).map (fun y => Value.ref (P y)) ∧ nw₁ = nj) ⟨rfl, rfl⟩ ?_ ?_
      · intro j v ys nj' nw₂ C oC m₂ h5 tk5 hv' hJ' hs0' hsj hC hnC hm hF hN hLC
        refine hide fun G25 hG25 => ?_
        obtain ⟨rfl, rfl⟩ := hJ'
        refine hG25 ?_
        unfold CTurn tests
        refine wpAny_tests_nil ?_
        rw [if_pos rfl]
        refine hide fun G26 hG26 => ?_
        obtain ⟨y, ty, rfl, hy⟩ := f2.get (i := j) (by simpa using hv')
        refine hG26 ?_
        iterate 1 walk1
        refine lcf_cell (c := L + 1) hN rfl (hsj _ hc4) hcd3 ?_ rfl rfl
        refine nameL_C hN hC hnC hm ?_ (by rfl) (by rfl) (by decide)
        refine dictItem_V hN (hmade4.mono fun q hq _ => hsj q hq) (valueAt_map (hU k hxn y (List.mem_of_getElem? hy)).1) ?_ (by with_unfolding_all rfl)
        refine ⟨_, _, nw₂, [], rfl, hF, hN, fun _ h => h, (fun _ h => nomatch h), ?_, rfl⟩
        rw [List.take_add_one, hy]; simp
      · intro D2 h5 tk5 ys nj' hJ' hs0' F5 N5 lt5
        refine hide fun G27 hG27 => ?_
        obtain ⟨rfl, rfl⟩ := hJ'
        refine hG27 ?_
        rw [List.size_toArray, hus, List.take_length] at N5
        iterate 1 walk1
        refine ⟨X.keeps F5.keep, ?_⟩
        refine Ct.use (setprefs_ct (p := P k) (d := D k) (ps := (U k).map P) (l := D2) (k := ((U k).map fun y => Value.ref (P y)).length) (by simp; omega)) (by decide) (by decide) B F5 X N5 hT rfl ⟨.tail _ q1, .tail _ q2, by rw [show plist ((U k).map P) ((U k).map fun y => Value.ref (P y)).length = _ from rfl]; simp [plist, List.map_map, Function.comp_def], fun q hq => ?_⟩ fun r nw6 h6 tk6 F6 N6 hp => ?_
        · refine hide fun G28 hG28 => ?_
          obtain ⟨y, hy, rfl⟩ := List.mem_map.mp hq
          obtain ⟨hyn, hyk⟩ := hU k hxn y hy
          refine hG28 ?_
          have hne : D y ≠ D k := fun e => hyk (j4 y hyn k hxn e)
          have := e3 y hyn
          by_cases hyi : y ∈ ns.take i
          · rw [if_pos hyi] at this
            refine hide fun G29 hG29 => ?_
            obtain ⟨l, k, hs, ts, pn, op, n, t, r1, r2, r3⟩ := this
            refine hG29 ?_
            exact ⟨D y, .str y t, ⟨_, _, _, _, _, _, _, .tail _ r1, .tail _ r2⟩, hne, rfl⟩
          · rw [if_neg hyi] at this
            refine hide fun G30 hG30 => ?_
            obtain ⟨l, l2, hs, ts, k1, k2, t, r1, r2, r3⟩ := this
            refine hG30 ?_
            exact ⟨D y, .str y t, ⟨_, _, _, _, _, _, _, .tail _ r1, .tail _ r2⟩, hne, rfl⟩
        refine hide fun G31 hG31 => ?_
        obtain ⟨pn', op', rfl, p1, K6⟩ := hp
        refine hG31 ?_
        have K6' : Kp [D k] nw₁ nw6 := fun q hq hn => K6 q (.tail _ hq) hn
        refine wpAny_execs_nil (hQ2 _ _ ?_)
        refine ⟨_, _, _, nw6, rfl, F6, N6, K6'.mono (fun t ht => by rw [List.mem_singleton.mp ht]; exact List.mem_map.mpr ⟨k, hxn, rfl⟩), rfl, rfl, fun x hx => ?_⟩
        have htk : ns.take (i + 1) = ns.take i ++ [k] := by rw [List.take_add_one, hx']; rfl
        by_cases hxk : x = k
        · subst hxk
          rw [if_pos (by rw [htk]; simp)]
          refine ⟨D2, ((U x).map fun y => Value.ref (P y)).length, hs, ts, pn', op', k1, t1, K6' _ q1 (by simpa using nneO N4 q1 q2 instNeDict), p1, K6 _ (by simp [plist, List.map_map, Function.comp_def]) (by simpa using Nat.ne_of_gt (lt5 _ q2))⟩
        · have hne : D x ≠ D k := fun e => hxk (j4 x hx k hxn e)
          have := e3 x hx
          by_cases hxi : x ∈ ns.take i
          · rw [if_pos hxi] at this
            rw [if_pos (by rw [htk]; simp [hxi])]
            refine hide fun G32 hG32 => ?_
            obtain ⟨l, k, hs, ts, pn, op, n, t, r1, r2, r3⟩ := this
            refine hG32 ?_
            exact ⟨l, k, hs, ts, pn, op, n, t, K6' _ r1 (by simpa using nneO N4 r1 q2 instNeDict), K6' _ r2 (by simpa using hne), K6' _ r3 (by simpa using nneO N4 r3 q2 listNeDict)⟩
          · rw [if_neg hxi] at this
            rw [if_neg (by rw [htk]; simp [hxi, hxk])]
            refine hide fun G33 hG33 => ?_
            obtain ⟨l, l2, hs, ts, k1, k2, t, r1, r2, r3⟩ := this
            refine hG33 ?_
            exact ⟨l, l2, hs, ts, k1, k2, t, K6' _ r1 (by simpa using nneO N4 r1 q2 instNeDict), K6' _ r2 (by simpa using hne), K6' _ r3 (by simpa using nneO N4 r3 q2 listNeDict)⟩
    · intro m₁ nw₁ h4 tk4 hJ K4 F4 N4
      refine hide fun G34 hG34 => ?_
      obtain ⟨e1, e2, e3⟩ := hJ
      refine hG34 ?_
      rw [List.length_map, List.take_length] at e3
      change Fr g L h4 _ at F4
      change News g L h4 _ at N4
      replace F4 := fr_in F4 e2
      have hc4 : (L + 1, oc3) ∈ nw₁ := K4 _ hc3 (fun hm => by
        obtain ⟨x, hx, e⟩ := List.mem_map.mp hm
        exact absurd e (Nat.ne_of_gt (hbig x hx).2))
      have mk4 : ∀ q ∈ nw3, (∀ x ∈ ns, q.1 ≠ D x) → q ∈ nw₁ := fun q hq hn => K4 q hq fun hm => by
        obtain ⟨x, hx, e⟩ := List.mem_map.mp hm
        exact hn x hx e.symm
      have hdD : ∀ x ∈ ns, d ≠ D x := fun x hx => by
        obtain ⟨_, _, _, _, _, _, _, _, q2, _⟩ := (j2 x hx).1
        exact Nat.ne_of_gt (lt2 _ (.tail _ q2))
      have hmade4 : DictIn w nw₁ d (ns.map fun x => (x, .ref (P x))) := hmade.mono fun q hq e => mk4 q hq fun x hx => by rw [e]; exact hdD x hx
      have kn : ∀ q ∈ nw, q ∈ nw₁ := fun q hq => K4 q (up3 q (j1 q (.tail _ hq)) (hnc q hq)) (hDnT q hq)
      have hosl := hos.len
      have honl := hon.length_eq
      iterate 2 walk1
      refine ListComp_open (cl := [(Str.ofString "made", L + 1)]) (by with_unfolding_all rfl) (by rfl) (by decide) ?_ (by intro _; rfl)
      iterate 1 walk1
      refine compE_list (nw₀ := nw₁) rfl (by decide) rfl rfl F4 N4 (kn _ hP3) (by rw [sizeLine_eq]; simp; omega) (fun j ys nj => ys = (on.take j).map (fun y => Value.ref (P y)) ∧ nw₁ = nj) ⟨rfl, rfl⟩ ?_ ?_
      · intro j v ys nj' nw₂ C oC m₂ h5 tk5 hv' hJ' hs0' hsj hC hnC hm hF hN hLC
        refine hide fun G35 hG35 => ?_
        obtain ⟨rfl, rfl⟩ := hJ'
        refine hG35 ?_
        unfold CTurn tests
        refine wpAny_tests_nil ?_
        rw [if_pos rfl]
        refine hide fun G36 hG36 => ?_
        obtain ⟨y, ty, rfl, hy⟩ := hos.get (i := j) (by simpa using hv')
        refine hG36 ?_
        iterate 1 walk1
        refine lcf_cell (c := L + 1) hN rfl (hsj _ hc4) hcd3 ?_ rfl rfl
        refine nameL_C hN hC hnC hm ?_ (by rfl) (by rfl) (by decide)
        refine dictItem_V hN (hmade4.mono fun q hq _ => hsj q hq) (valueAt_map (hon.mem_iff.mp (List.mem_of_getElem? hy))) ?_ (by with_unfolding_all rfl)
        refine ⟨_, _, nw₂, [], rfl, hF, hN, fun _ h => h, (fun _ h => nomatch h), ?_, rfl⟩
        rw [List.take_add_one, hy]; simp
      · intro D2 h5 tk5 ys nj' hJ' hs0' F5 N5 lt5
        refine hide fun G37 hG37 => ?_
        obtain ⟨rfl, rfl⟩ := hJ'
        refine hG37 ?_
        rw [List.size_toArray, hosl, List.take_length] at N5
        refine hQ0 _ _ ?_
        refine ⟨_, _, _, F5, N5, rfl, rfl, rfl, D2, (on.map fun y => Value.ref (P y)).length, P, D, rfl, ?_, fun x hx => ?_, j3, j4, fun q hq => ⟨lt5 q (kn q hq), fun x hx => (j2 x hx).2.2 q (.tail _ hq)⟩, fun q hq _ => .tail _ (kn q hq)⟩
        · simp [plist, List.map_map, Function.comp_def]
        · have := e3 x hx
          rw [if_pos hx] at this
          refine hide fun G38 hG38 => ?_
          obtain ⟨l, k, hs, ts, pn, op, n, t, r1, r2, r3⟩ := this
          refine hG38 ?_
          exact ⟨l, k, hs, ts, pn, op, n, t, .tail _ r1, .tail _ r2, .tail _ r3⟩
end Mine
namespace Mine
theorem fill12 (w : World) : (Challenge.rw_au0003_01.Holds ∧ (hd.heap_39 w.params).In default) → True := by
  k_fill; intro _; trivial
variable {w : World}

/-- a player, whomever it holds -/
inductive Gp (nw : Ldg) (p d : Addr) (x : Str) (row : List Addr) : Prop
  | mk (l : _) (k : _) (hs : _) (ts : _) (mt : _) (pn : _) (op : _) (n : _) (t : _) (f1 : (p, instObj 184 d) ∈ nw) (f2 : (d, dictOf (PD hs ts (.str x t) (.ref l) mt pn op) n) ∈ nw) (f3 : (l, plist row k) ∈ nw)
inductive lfPost (w : World) (on : List Str) (V : Str → List Str) (nw : Ldg) (r : Value) (nw' : Ldg) : Prop
  | mk (d : Addr) (B : Str → Addr) (f1 : r = .ref d) (f2 : DictIn w nw' d (on.map fun x => (x, .ref (B x)))) (f3 : (∀ x ∈ on, ∃ us k, (B x, listOf (List.toArray us) k) ∈ nw' ∧ Sts us (V x))) (f4 : Kp [] nw nw')

inductive lfJ (on : List Str) (V : Str → List Str) (nw : Ldg) (i : Nat) (ys : List Value) (nj : Ldg) : Prop
  | mk (B : Str → Addr) (Tu : Str → Addr) (f1 : ys = (on.take i).map (fun x => Value.ref (Tu x))) (f2 : (∀ q ∈ nw, q ∈ nj)) (f3 : (∀ x ∈ on.take i, (∃ us k, (B x, listOf (List.toArray us) k) ∈ nj ∧ Sts us (V x)) ∧ (∃ u, (Tu x, tupOf #[.str x u, .ref (B x)] 0) ∈ nj)))

theorem left_ct {pl ko : Addr} {ns on : List Str} {P D : Str → Addr} {V : Str → List Str} (hnd : on.Nodup) (hlen : on.length ≤ 6) (hon : ∀ x ∈ on, x ∈ ns) (hV : ∀ x ∈ ns, ∀ y ∈ V x, y ∈ ns) (hVl : ∀ x ∈ ns, (V x).length ≤ 6) :
    Ct w 225 [.ref pl] 470 2700 (fun nw => (pl, plist (on.map P) ko) ∈ nw ∧ ∀ x ∈ ns, Gp nw (P x) (D x) x ((V x).map P))
    (lfPost w on V) := by
  refine' Ct.intro (binds := [(Str.ofString "players", .ref pl)]) (by k_is) (by k_is) (by decide) (by exact rfl) (by exact locs rfl) (by exact rfl) (by exact rfl) (by exact rfl) (by decide) ?_
  intro pp loose mean mg mb gd outer A₀ base g L h₁ tk s nw B F X N T hP
  refine hide fun G2 hG2 => ?_
  obtain ⟨hP1, hP2⟩ := hP
  refine hG2 ?_
  refine hideQ fun Q0 hQ0 => ?_
  iterate 6 walk1
  refine ListComp_open (cl := []) (by with_unfolding_all rfl) (by rfl) (by decide) ?_ (by intro _; rfl)
  iterate 1 walk1
  dsimp only
  refine compE_list (nw₀ := nw) rfl (by decide) rfl rfl F N hP1 (by rw [sizeLine_eq]; simp; omega)
    (lfJ on V nw) ⟨fun _ => 0, fun _ => 0, rfl, fun q hq => hq, by simp⟩ ?_ ?_
  · intro i v ys nj nw₁ C oC m₂ h tk hv hJ hs0 hsj hC hnC hm hF hN hLC
    refine hide fun G3 hG3 => ?_
    obtain ⟨B', Tu, rfl, j1, j2⟩ := hJ
    refine hG3 ?_
    unfold CTurn tests
    refine wpAny_tests_nil ?_
    rw [if_pos rfl]
    refine hide fun G4 hG4 => ?_
    obtain ⟨x, hx, rfl⟩ : ∃ x, on[i]? = some x ∧ Value.ref (P x) = v := by
      have : ((on.map P).map Value.ref)[i]? = some v := by simpa using hv
      rw [List.getElem?_map, List.getElem?_map] at this
      cases e : on[i]? with
      | none => rw [e] at this; cases this
      | some y => rw [e] at this; exact ⟨y, rfl, Option.some.inj this⟩
    have hxo := List.mem_of_getElem? hx
    have hxn := hon x hxo
    obtain ⟨l, k, hs, ts, mt, pn, op, n, t, q1, q2, q3⟩ := hP2 x hxn
    refine hG4 ?_
    have q1' := hsj _ (j1 _ q1)
    have q2' := hsj _ (j1 _ q2)
    have q3' := hsj _ (j1 _ q3)
    iterate 3 walk1
    refine nameL_C hN hC hnC hm ?_ (by rfl) (by rfl) (by decide)
    refine getName_V hF X hN q1' q2' rfl ?_
    iterate 1 walk1
    refine ListComp_open (cl := []) (by with_unfolding_all rfl) (by rfl) (by decide) ?_ (by intro _; rfl)
    iterate 1 walk1
    refine nameL_C hN hC hnC hm ?_ (by rfl) (by rfl) (by decide)
    refine getPrefs_V hF X hN q1' q2' rfl ?_
    have hVx := hVl x hxn
    refine compE_list (L := L) (nw₀ := nw₁) rfl (by decide) rfl rfl hF hN q3' (by rw [sizeLine_eq]; simp; omega) (fun j ys nj' => Sts ys ((V x).take j) ∧ nw₁ = nj') ⟨rfl, rfl⟩ ?_ ?_
    · intro j v ys nj' nw₂ C2 oC2 m₃ h2 tk2 hv' hJ' hs0' hsj' hC' hnC' hm' hF' hN' hLC'
      refine hide fun G5 hG5 => ?_
      obtain ⟨hst, rfl⟩ := hJ'
      refine hG5 ?_
      unfold CTurn tests
      refine wpAny_tests_nil ?_
      rw [if_pos rfl]
      refine hide fun G6 hG6 => ?_
      obtain ⟨y, hy, rfl⟩ : ∃ y, (V x)[j]? = some y ∧ Value.ref (P y) = v := by
        have : (((V x).map P).map Value.ref)[j]? = some v := by simpa using hv'
        rw [List.getElem?_map, List.getElem?_map] at this
        cases e : (V x)[j]? with
        | none => rw [e] at this; cases this
        | some y => rw [e] at this; exact ⟨y, rfl, Option.some.inj this⟩
      obtain ⟨l, k, hs, ts, mt, pn, op, n, t, r1, r2, r3⟩ := hP2 y (hV x hxn y (List.mem_of_getElem? hy))
      refine hG6 ?_
      iterate 1 walk1
      refine nameL_C hN' hC' hnC' hm' ?_ (by rfl) (by rfl) (by decide)
      refine getName_V hF' X hN' (hsj' _ (hsj _ (j1 _ r1))) (hsj' _ (hsj _ (j1 _ r2))) rfl ?_
      refine ⟨_, _, nw₂, [], rfl, hF', hN', fun _ h => h, (fun _ h => nomatch h), ?_, rfl⟩
      unfold Sts at hst ⊢
      rw [List.take_add_one, hy, List.map_append, List.map_append, hst]; rfl
    · intro D2 h2 tk2 ys nj' hJ' hs0' F2 N2 lt2
      refine hide fun G7 hG7 => ?_
      obtain ⟨hst, rfl⟩ := hJ'
      refine hG7 ?_
      iterate 1 walk1
      refine kup_newTuple F2 N2 ?_ (by rw [sizeLine_eq]; exact (by decide : 2 ≤ 16777216))
      intro D3 h3 F3 N3 lt3
      have hkn : x ∉ on.take i := not_take hnd hx
      have htk : on.take (i + 1) = on.take i ++ [x] := by rw [List.take_add_one, hx]; rfl
      have hne : ∀ z ∈ on.take i, z ≠ x := fun z hz e => hkn (e ▸ hz)
      have hst' : Sts ys (V x) := by
        rw [List.take_of_length_le (by simp)] at hst; exact hst
      refine ⟨h3, _, (D3, tupOf #[.str x t, .ref D2] 0) :: (D2, listOf ys.toArray ys.length) :: nw₁, [(D3, tupOf #[.str x t, .ref D2] 0), (D2, listOf ys.toArray ys.length)], rfl, F3, N3, fun q hq => .tail _ (.tail _ hq), fun q hq => ?_,
        fun z => if z = x then D2 else B' z, fun z => if z = x then D3 else Tu z, ?_, fun q hq => List.mem_append_right _ (j1 q hq), fun z hz => ?_⟩
      · simp only [List.mem_cons, List.not_mem_nil, or_false] at hq
        rcases hq with rfl | rfl
        · exact ⟨.head _, fun p hp => lt3 p (.tail _ hp)⟩
        · exact ⟨.tail _ (.head _), fun p hp => lt2 p hp⟩
      · rw [htk, List.map_append]
        have : (on.take i).map (fun z => Value.ref (if z = x then D3 else Tu z)) = (on.take i).map (fun z => Value.ref (Tu z)) := List.map_congr_left fun z hz => by rw [if_neg (hne z hz)]
        rw [this]; simp
      · try dsimp only
        rw [htk] at hz
        rcases List.mem_append.mp hz with hz | hz
        · rw [if_neg (hne z hz), if_neg (hne z hz)]
          refine hide fun G8 hG8 => ?_
          obtain ⟨⟨us, k, p1, p2⟩, ⟨u, p3⟩⟩ := j2 z hz
          refine hG8 ?_
          exact ⟨⟨us, k, List.mem_append_right _ p1, p2⟩, ⟨u, List.mem_append_right _ p3⟩⟩
        · have : z = x := by simpa using hz
          rw [if_pos this, if_pos this, this]
          exact ⟨⟨ys, ys.length, by simp, hst'⟩, ⟨t, by simp⟩⟩
  · intro D1 h tk ys nj hJ hs0 F1 N1 ltD
    refine hide fun G9 hG9 => ?_
    obtain ⟨B', Tu, rfl, j1, j2⟩ := hJ
    refine hG9 ?_
    have hsz : ((on.map P).map Value.ref).toArray.size = on.length := by simp
    rw [hsz, List.take_length] at j2 N1
    iterate 1 walk1
    refine dictOf_V (kvs := on.map fun x => (x, .ref (B' x))) (by rfl) T.nolimit F1 N1 (.head _) (by rw [List.map_map]; simpa [Function.comp_def] using hnd) (by rw [sizeLine_eq]; simp; omega) (by simp) (fun j k v hj => ?_) fun d o h2 tk2 F2 N2 hdo hds lt2 => ?_
    · refine hide fun G10 hG10 => ?_
      obtain ⟨hx, rfl⟩ := valueAt_at hj
      obtain ⟨_, ⟨u, q2⟩⟩ := j2 _ (List.mem_of_getElem? hx)
      refine hG10 ?_
      exact ⟨Tu k, u, 0, by simp [hx], .tail _ q2⟩
    refine hQ0 _ _ ?_
    refine ⟨_, _, _, F2, N2, rfl, rfl, rfl, d, B', rfl, ⟨o, .head _, hdo, hds⟩, fun x hx => ?_, fun q hq _ => .tail _ (.tail _ (j1 q hq))⟩
    refine hide fun G11 hG11 => ?_
    obtain ⟨⟨us, k, p1, p2⟩, _⟩ := j2 x hx
    refine hG11 ?_
    exact ⟨us, k, .tail _ (.tail _ p1), p2⟩
end Mine
namespace Mine
theorem fill13 (w : World) : (Challenge.rw_au0003_01.Holds ∧ (hd.heap_39 w.params).In default) → True := by
  k_fill; intro _; trivial
variable {w : World}

/-- the rows of a table in the ledger -/
def TR (nw : Ldg) (ns : List Str) (B : Str → Addr) (V : Str → List Str) : Prop := ∀ x ∈ ns, ∃ us k, (B x, listOf (List.toArray us) k) ∈ nw ∧ Sts us (V x)
theorem TR.up {nw nw' : Ldg} {ns : List Str} {B : Str → Addr} {V : Str → List Str} (h : TR nw ns B V) (k : ∀ q ∈ nw, isIt q.2 = false → q ∈ nw') : TR nw' ns B V := fun x hx => by
  refine hide fun Gx hGx => ?_
  obtain ⟨us, k', a, b⟩ := h x hx
  refine hGx ?_
  exact ⟨us, k', k _ a rfl, b⟩
theorem TR.set {nw nw' : Ldg} {ns : List Str} {B : Str → Addr} {V : Str → List Str} (h : TR nw ns B V) (inj : ∀ x ∈ ns, ∀ y ∈ ns, B x = B y → x = y) {f : Str} (hf : f ∈ ns) (K : Kp [B f] nw nw') {us : List Value} {k : Nat} {row : List Str} (hm : (B f, listOf us.toArray k) ∈ nw') (hs : Sts us row) :
    TR nw' ns B (fun q => if q = f then row else V q) := fun x hx => by
  by_cases e : x = f
  · subst e
    exact ⟨us, k, hm, by dsimp only; rw [if_pos rfl]; exact hs⟩
  · refine hide fun Gx hGx => ?_
    obtain ⟨us', k', a, b⟩ := h x hx
    refine hGx ?_
    exact ⟨us', k', K _ a (by simpa using fun e2 => e (inj x hx f hf e2)), by dsimp only; rw [if_neg e]; exact b⟩
theorem del_two {V : Str → List Str} {f z : Str} (h : f ≠ z) : (fun q => if q = z then (V z).filter (· != f) else if q = f then (V f).filter (· != z) else V q) = del V f z := by
  funext q
  unfold del
  by_cases e1 : q = f
  · subst e1; rw [if_neg h, if_pos rfl, if_pos rfl]
  · by_cases e2 : q = z
    · subst e2; rw [if_pos rfl, if_neg e1, if_pos rfl]
    · rw [if_neg e2, if_neg e1, if_neg e1, if_neg e2]

noncomputable def isS (x : Str) (v : Value) : Bool := decide (sOf v = some x)
theorem strs_eqAt {A : Around} {s : Shared} {us : List Value} {xs : List Str} {x : Str} {t : Tok} (h : Sts us xs) : ∀ y, y ∈ us.toArray → SeqAt.EqAt A s y (.str x t) (isS x y) := by
  intro y hy
  refine hide fun Gx hGx => ?_
  obtain ⟨i, hi, e⟩ := List.getElem_of_mem (by simpa using hy : y ∈ us)
  obtain ⟨z, tz, rfl, hz⟩ := h.get (i := i) (v := y) (by rw [List.getElem?_eq_getElem hi, e])
  refine hGx ?_
  have : isS x (.str z tz) = (z == x) := by
    by_cases h : z = x
    · simp [isS, sOf, h]
    · have : (z == x) = false := by simpa using h
      simp [isS, sOf, h, this]
  rw [this]
  exact SeqAt.EqAt.str_str z tz x t
/-- the place of a name -/
theorem sts_at {us : List Value} {xs : List Str} (h : Sts us xs) (nd : xs.Nodup) {i : Nat} {x : Str} (hx : xs[i]? = some x) : ∃ hi : i < us.toArray.size, isS x us.toArray[i] = true ∧ ∀ m (hm : m < us.toArray.size), m < i → isS x us.toArray[m] = false := by
  have hl := h.len
  refine hide fun Gx hGx => ?_
  obtain ⟨hi, e⟩ := List.getElem?_eq_some_iff.mp hx
  refine hGx ?_
  have key : ∀ m (hm : m < us.length), sOf us[m] = some (xs[m]'(by omega)) := fun m hm => by
    obtain ⟨y, t, e1, e2⟩ := h.get (i := m) (v := us[m]) (List.getElem?_eq_getElem hm)
    rw [e1]
    have := (List.getElem?_eq_some_iff.mp e2).2
    rw [this]; rfl
  refine ⟨by simp; omega, ?_, fun m hm hmi => ?_⟩
  · simp only [List.getElem_toArray, isS, key i (by omega), e, decide_true]
  · simp only [List.size_toArray] at hm
    simp only [List.getElem_toArray, isS, key m hm, Option.some.injEq, decide_eq_false_iff_not]
    intro e2
    have := (List.getElem_inj (h₀ := by omega) (h₁ := hi) nd).mp (e2.trans e.symm)
    omega
theorem sts_erase {us : List Value} {xs : List Str} (h : Sts us xs) (nd : xs.Nodup) {i : Nat} {x : Str} (hx : xs[i]? = some x) : Sts (us.eraseIdx i) (xs.filter (· != x)) := by
  have e : xs.filter (· != x) = xs.eraseIdx i := by
    clear h us
    induction xs generalizing i with
    | nil => cases hx
    | cons a r ih =>
      cases i with
      | zero =>
        cases hx
        rw [List.filter_cons_of_neg (by simp)]
        exact List.filter_eq_self.mpr fun b hb => bne_iff_ne.mpr fun e => (List.nodup_cons.mp nd).1 (by rw [← e]; exact hb)
      | succ i =>
        have hm : x ∈ r := List.mem_of_getElem? (by simpa using hx)
        have hne : a ≠ x := fun e => (List.nodup_cons.mp nd).1 (by rw [e]; exact hm)
        rw [List.filter_cons_of_pos (by simpa using hne), List.eraseIdx_cons_succ, ih (List.nodup_cons.mp nd).2 (by simpa using hx)]
  unfold Sts at h ⊢
  rw [e, ← map_eraseIdx, h, map_eraseIdx]
theorem sts_drop {us : List Value} {xs : List Str} (h : Sts us xs) (n : Nat) : Sts (us.drop n) (xs.drop n) := by
  unfold Sts at h ⊢
  rw [List.map_drop, h, List.map_drop]

noncomputable def total (ns : List Str) (V : Str → List Str) : Nat := (ns.map fun x => (V x).length).sum

theorem total_le {ns : List Str} {V W : Str → List Str} (h : ∀ x, (V x).length ≤ (W x).length) : total ns V ≤ total ns W := by
  unfold total
  induction ns with
  | nil => exact Nat.le_refl _
  | cons a r ih =>
    simp only [List.map_cons, List.sum_cons]
    exact Nat.add_le_add (h a) ih
theorem total_lt {ns : List Str} {V W : Str → List Str} (h : ∀ x, (V x).length ≤ (W x).length) {a : Str} (ha : a ∈ ns) (hlt : (V a).length < (W a).length) : total ns V < total ns W := by
  induction ns with
  | nil => cases ha
  | cons b r ih =>
    show (V b).length + total r V < (W b).length + total r W
    rcases List.mem_cons.mp ha with rfl | ha
    · exact Nat.add_lt_add_of_lt_of_le hlt (total_le h)
    · exact Nat.add_lt_add_of_le_of_lt (h b) (ih ha)
theorem row_lessG {α : Type} [DecidableEq α] {l1 r : List α} {x z : α} (h : (l1 ++ x :: z :: r).Nodup) : (l1 ++ x :: z :: r).filter (· != z) = l1 ++ x :: r := by
  have q1 : ∀ a ∈ l1, (a != z) = true := fun a ha => bne_iff_ne.mpr ((List.nodup_append.mp h).2.2 a ha z (by simp))
  have q2 := (List.nodup_append.mp h).2.1
  have q3 : x ≠ z := fun e => (List.nodup_cons.mp q2).1 (by simp [e])
  have q4 : ∀ a ∈ r, (a != z) = true := fun a ha => bne_iff_ne.mpr fun e => (List.nodup_cons.mp (List.nodup_cons.mp q2).2).1 (by rw [← e]; exact ha)
  rw [List.filter_append, List.filter_cons_of_pos (by simpa using q3), List.filter_cons_of_neg (by simp), List.filter_eq_self.mpr q1, List.filter_eq_self.mpr q4]

inductive tbPost (w : World) (ns : List Str) (U : Str → List Str) (nw : Ldg) (r : Value) (nw' : Ldg) : Prop
  | mk (d : Addr) (B : Str → Addr) (V : Str → List Str) (f1 : r = .ref d) (f2 : DictIn w nw' d (ns.map fun x => (x, .ref (B x)))) (f3 : TR nw' ns B V) (f4 : Steps U V) (f5 : Normal V) (f6 : Kp [] nw nw')

inductive tbJ1 (ns : List Str) (U : Str → List Str) (L : Addr) (oc : Obj) (nw : Ldg) (i : Nat) (ys : List Value) (nj : Ldg) : Prop
  | mk (B : Str → Addr) (Tu : Str → Addr) (f1 : ys = (ns.take i).map (fun x => Value.ref (Tu x))) (f2 : (∀ q ∈ (L + 1, oc) :: nw, q ∈ nj)) (f3 : (∀ x ∈ ns.take i, (∃ us k, (B x, listOf (List.toArray us) k) ∈ nj ∧ Sts us (U x)) ∧ (∃ u, (Tu x, tupOf #[.str x u, .ref (B x)] 0) ∈ nj) ∧ (∀ q ∈ nw, q.1 < B x))) (f4 : (∀ x ∈ ns.take i, ∀ y ∈ ns.take i, B x = B y → x = y))

inductive tbJ2 (d : Addr) (ns : List Str) (B : Str → Addr) (U : Str → List Str) (o : Obj) (nj : Ldg) (n : Nat) (m : Str → Option Value) (nw1 : Ldg) : Prop
  | mk (f1 : m (Str.ofString "found") = some (.ref d)) (b : _) (V : _) (f2 : m (Str.ofString "is_done") = some (.bool b)) (f3 : TR nw1 ns B V) (f4 : Steps U V) (f5 : (b = true → Normal V)) (f6 : n = total ns V + (if b then 0 else 1)) (f7 : Kp (ns.map B) ((d, o) :: nj) nw1)

inductive tbJ3 (d : Addr) (ns : List Str) (B : Str → Addr) (U V : Str → List Str) (i : Nat) (m : Str → Option Value) (nwi : Ldg) : Prop
  | mk (f1 : m (Str.ofString "found") = some (.ref d)) (b' : _) (V' : _) (f2 : m (Str.ofString "is_done") = some (.bool b')) (f3 : TR nwi ns B V') (f4 : Steps U V') (f5 : (b' = true → V' = V ∧ ∀ x ∈ ns.take i, ∀ y, (V x).head? = some y → ∀ z, ¬ After (V y) x z)) (f6 : (b' = false → total ns V' < total ns V)) (f7 : total ns V' ≤ total ns V)

inductive tbJ4 (d : Addr) (f : Str) (tf : Tok) (ns : List Str) (B : Str → Addr) (U V' : Str → List Str) (x : Str) (l1 zs : List Str) (b' : Bool) (i : Nat) (m : Str → Option Value) (nwi : Ldg) : Prop
  | mk (f1 : m (Str.ofString "found") = some (.ref d)) (f2 : m (Str.ofString "first") = some (.str f tf)) (b'' : _) (V'' : _) (f3 : m (Str.ofString "is_done") = some (.bool b'')) (f4 : TR nwi ns B V'') (f5 : Steps U V'') (f6 : (V'' x).head? = some f) (f7 : V'' f = l1 ++ x :: zs.drop i) (f8 : (i = 0 → V'' = V' ∧ b'' = b')) (f9 : (0 < i → b'' = false ∧ total ns V'' < total ns V'))

theorem table_ct {dl : Addr} {ns : List Str} {A : Str → Addr} {U : Str → List Str} (hnd : ns.Nodup) (hlen : ns.length ≤ 6) (hok : Ok U) (hcl : Cl ns U) (hUl : ∀ x, (U x).length ≤ 6) :
    Ct w 215 [.ref dl] 470 2700 (fun nw => DictIn w nw dl (ns.map fun x => (x, .ref (A x))) ∧ TR nw ns A U)
    (tbPost w ns U) := by
  refine' Ct.introC (binds := [(Str.ofString "lists", .ref dl)]) (by k_is) (by k_is) (by decide) (by exact rfl) (by exact rfl) (by decide +kernel) (by exact rfl) (by exact rfl) (by exact rfl) ?_
  intro pp loose mean mg mb gd outer A₀ base g L h₁ tk s nw cells B₀ F X N Y lt hT hP
  refine hide fun Gx hGx => ?_
  obtain ⟨hP1, hP2⟩ := hP
  obtain ⟨oc, rfl, hc0⟩ := CellsAre.one (n := Str.ofString "lists") (c := L + 1) Y
  have hc : oc.data = .cell (some (.ref dl)) := hc0
  simp only [List.cons_append, List.nil_append] at N
  obtain ⟨m0, F0⟩ : ∃ m0, Fr g L h₁ m0 := ⟨_, F⟩
  refine hGx ?_
  clear F Y hc0
  refine hideQ fun Q0 hQ0 => ?_
  iterate 8 walk1
  refine ListComp_open (cl := [(Str.ofString "lists", L + 1)]) (by with_unfolding_all rfl) (by rfl) (by decide) ?_ (by intro _; rfl)
  refine wpAny_Name (wpAny_loadName_cell (by rfl) (by rfl) (by rfl) ⟨oc, (N _ (.head _)).1, hc⟩ ?_) (by decide)
  dsimp only
  have hP1c : DictIn w ((L + 1, oc) :: nw) dl (ns.map fun x => (x, .ref (A x))) := hP1.mono fun q hq _ => .tail _ hq
  refine compE_dict (nw₀ := (L + 1, oc) :: nw) rfl (by decide) rfl rfl F0 N hP1c (by rw [sizeLine_eq]; simp; omega)
    (tbJ1 ns U L oc nw) ⟨fun _ => 0, fun _ => 0, rfl, fun q hq => hq, by simp, by simp⟩ ?_ ?_
  · intro i x t x' ys nj nw₁ C oC m₂ h tk hv hJ hs0 hsj hC hnC hm hF hN hLC
    refine hide fun Gx hGx => ?_
    obtain ⟨B, Tu, rfl, j1, j2, j3⟩ := hJ
    refine hGx ?_
    unfold CTurn tests
    refine wpAny_tests_nil ?_
    rw [if_pos rfl]
    refine hide fun Gx hGx => ?_
    obtain ⟨hx, rfl⟩ := valueAt_at hv
    refine hGx ?_
    have hxn := List.mem_of_getElem? hx
    iterate 3 walk1
    refine nameL_C hN hC hnC hm ?_ (by rfl) (by rfl) (by decide)
    iterate 6 walk1
    refine lcf_cell (c := L + 1) hN rfl (hsj _ (hs0 _ (.head _))) hc ?_ rfl rfl
    refine nameL_C hN hC hnC hm ?_ (by rfl) (by rfl) (by decide)
    refine dictItem_V hN (hP1c.mono fun q hq _ => hsj q (hs0 q hq)) (valueAt_map hxn) ?_ (by with_unfolding_all rfl)
    refine hide fun Gx hGx => ?_
    obtain ⟨us, k, f1, f2⟩ := hP2 x hxn
    refine hGx ?_
    have hul := f2.len
    have hUx := hUl x
    iterate 1 walk1
    refine list_copyK (items := us.toArray) hF hN (isL hN (hsj _ (hs0 _ (.tail _ f1)))) (fun D2 c2 h2 F2 N2 lt2 => ?_) (by rw [sizeLine_eq]; simp; omega)
    iterate 1 walk1
    refine kup_newTuple F2 N2 ?_ (by rw [sizeLine_eq]; exact (by decide : 2 ≤ 16777216))
    intro D3 h3 F3 N3 lt3
    have hkn : x ∉ ns.take i := not_take hnd hx
    have htk : ns.take (i + 1) = ns.take i ++ [x] := by rw [List.take_add_one, hx]; rfl
    have hne : ∀ z ∈ ns.take i, z ≠ x := fun z hz e => hkn (e ▸ hz)
    refine ⟨h3, _, (D3, tupOf #[.str x t, .ref D2] 0) :: (D2, listOf us.toArray c2) :: nw₁, [(D3, tupOf #[.str x t, .ref D2] 0), (D2, listOf us.toArray c2)], rfl, F3, N3, fun q hq => .tail _ (.tail _ hq), fun q hq => ?_,
      fun z => if z = x then D2 else B z, fun z => if z = x then D3 else Tu z, ?_, fun q hq => List.mem_append_right _ (j1 q hq), fun z hz => ?_, fun y hy z hz e => ?_⟩
    · simp only [List.mem_cons, List.not_mem_nil, or_false] at hq
      rcases hq with rfl | rfl
      · exact ⟨.head _, fun p hp => lt3 p (.tail _ hp)⟩
      · exact ⟨.tail _ (.head _), fun p hp => lt2 p hp⟩
    · rw [htk, List.map_append]
      have : (ns.take i).map (fun z => Value.ref (if z = x then D3 else Tu z)) = (ns.take i).map (fun z => Value.ref (Tu z)) := List.map_congr_left fun z hz => by rw [if_neg (hne z hz)]
      rw [this]; simp
    · try dsimp only
      rw [htk] at hz
      rcases List.mem_append.mp hz with hz | hz
      · rw [if_neg (hne z hz), if_neg (hne z hz)]
        refine hide fun Gx hGx => ?_
        obtain ⟨⟨us, k, p1, p2⟩, ⟨u, p3⟩, p4⟩ := j2 z hz
        refine hGx ?_
        exact ⟨⟨us, k, List.mem_append_right _ p1, p2⟩, ⟨u, List.mem_append_right _ p3⟩, p4⟩
      · have : z = x := by simpa using hz
        rw [if_pos this, if_pos this, this]
        exact ⟨⟨us, c2, by simp, f2⟩, ⟨t, by simp⟩, fun q hq => lt2 q (hsj q (hs0 q (.tail _ hq)))⟩
    · rw [htk] at hy hz
      try dsimp only at e
      have hB : ∀ z ∈ ns.take i, B z ≠ D2 := fun z hz => by
        refine hide fun Gx hGx => ?_
        obtain ⟨⟨_, _, q1, _⟩, _⟩ := j2 z hz
        refine hGx ?_
        exact Nat.ne_of_lt (lt2 _ (hsj _ q1))
      rcases List.mem_append.mp hy with hy | hy <;> rcases List.mem_append.mp hz with hz | hz
      · rw [if_neg (hne y hy), if_neg (hne z hz)] at e; exact j3 y hy z hz e
      · have hz : z = x := by simpa using hz
        rw [if_neg (hne y hy), if_pos hz] at e; exact absurd e (hB y hy)
      · have hy : y = x := by simpa using hy
        rw [if_neg (hne z hz), if_pos hy] at e; exact absurd e.symm (hB z hz)
      · have hy : y = x := by simpa using hy
        have hz : z = x := by simpa using hz
        rw [hy, hz]
  · intro D1 h tk ys nj hJ hs0 F1 N1 ltD
    refine hide fun Gx hGx => ?_
    obtain ⟨B, Tu, rfl, j1, j2, j3⟩ := hJ
    refine hGx ?_
    rw [List.length_map, List.take_length] at j2 j3 N1
    iterate 1 walk1
    refine dictOf_V (kvs := ns.map fun x => (x, .ref (B x))) (by rfl) hT.nolimit F1 N1 (.head _) (by rw [List.map_map]; simpa [Function.comp_def] using hnd) (by rw [sizeLine_eq]; simp; omega) (by simp) (fun j k v hj => ?_) fun d o h2 tk2 F2 N2 hdo hds lt2 => ?_
    · refine hide fun Gx hGx => ?_
      obtain ⟨hx, rfl⟩ := valueAt_at hj
      obtain ⟨_, ⟨u, q2⟩, _⟩ := j2 _ (List.mem_of_getElem? hx)
      refine hGx ?_
      exact ⟨Tu k, u, 0, by simp [hx], .tail _ q2⟩
    iterate 12 walk1
    have F3 := ‹Fr g L _ _›
    have N3 := ‹News g L _ _›
    have N4 : News g L _ ((d, o) :: nj) := nsub N3 fun q hq => by
      rcases List.mem_cons.mp hq with rfl | hq
      · exact .tail _ (.head _)
      · exact .tail _ (.tail _ (.tail _ hq))
    have hfd : DictIn w ((d, o) :: nj) d (ns.map fun x => (x, .ref (B x))) := ⟨o, .head _, hdo, hds⟩
    have hTR : TR ((d, o) :: nj) ns B U := fun x hx => by
      refine hide fun Gx hGx => ?_
      obtain ⟨⟨us, k, p1, p2⟩, _⟩ := j2 x hx
      refine hGx ?_
      exact ⟨us, k, .tail _ p1, p2⟩
    have hdB : d ∉ ns.map B := fun hm => by
      refine hide fun Gx hGx => ?_
      obtain ⟨x, hx, e⟩ := List.mem_map.mp hm
      obtain ⟨⟨us, k, p1, _⟩, _⟩ := j2 x hx
      refine hGx ?_
      have := lt2 _ (.tail _ p1)
      exact Nat.lt_irrefl d (by rw [← e] at this ⊢; exact this)
    have hT0 : ∀ a ∈ ns.map B, ∀ {nw'' : Ldg} {V : Str → List Str}, TR nw'' ns B V → ∃ o, (a, o) ∈ nw'' := fun a ha nw'' V hTR => by
      refine hide fun Gx hGx => ?_
      obtain ⟨x, hx, rfl⟩ := List.mem_map.mp ha
      obtain ⟨us, k, p1, _⟩ := hTR x hx
      refine hGx ?_
      exact ⟨_, p1⟩
    refine wpAny_execs_cons ?_
    refine While_V F3 N4 (tbJ2 d ns B U o nj)
      (total ns U + 1) ⟨rfl, false, U, rfl, hTR, .refl, (fun e => nomatch e), rfl, Kp.refl⟩ ?_
    intro n m₁ nw₁ h5 tk5 hJ F5 N5
    refine hide fun Gx hGx => ?_
    obtain ⟨e1, b, V, e2, e3, e4, e5, rfl, e6⟩ := hJ
    refine hGx ?_
    change Fr g L h5 _ at F5
    change News g L h5 _ at N5
    replace F5 := fr_in (fr_in F5 e1) (a := Str.ofString "is_done") ((if_neg (by decide)).trans e2)
    refine hideQ fun Q1 hQ1 => ?_
    iterate 3 walk1
    cases b with
    | true =>
      refine wpAny_truthy_bool ?_
      refine hQ1 _ _ ?_
      rw [if_neg (by decide)]
      iterate 3 walk1
      refine hQ0 _ _ ?_
      refine ⟨_, _, _, F5, N5, rfl, rfl, rfl, d, B, V, rfl, hfd.mono fun q hq e => e6 q hq (by rw [e]; exact hdB), e3, e4, e5 rfl, fun q hq _ => e6 q (.tail _ (j1 q (.tail _ hq))) fun hm => ?_⟩
      refine hide fun Gx hGx => ?_
      obtain ⟨x, hx, e⟩ := List.mem_map.mp hm
      refine hGx ?_
      have := (j2 x hx).2.2 q hq
      rw [e] at this; exact Nat.lt_irrefl _ this
    | false =>
    refine wpAny_truthy_bool ?_
    refine hQ1 _ _ ?_
    rw [if_pos (by decide)]
    clear hQ1
    refine hideQ fun Q2 hQ2 => ?_
    iterate 5 walk1
    have F6 := ‹Fr g L _ _›
    have N6 := ‹News g L _ nw₁›
    have hclV : Cl ns V := (lift_steps (P := id) (fun _ _ _ _ e => e) e4 hcl).1
    have hokV : Ok V := e4.ok hok
    refine For_open ?_ (by intro _; rfl)
    iterate 1 walk1
    have hfd5 : DictIn w nw₁ d (ns.map fun x => (x, .ref (B x))) := hfd.mono fun q hq e => e6 q hq (by rw [e]; exact hdB)
    refine forK_dict (kvs := ns.map fun x => (x, .ref (B x))) rfl rfl rfl F6 N6 hfd5 (ns.map B) (fun a ha => hT0 a ha e3) hdB
      (tbJ3 d ns B U V)
      (fun i m nwi nwi' hJ hk => ?_) ⟨rfl, true, V, rfl, e3, e4, fun _ => ⟨rfl, by simp⟩, (fun e => nomatch e), Nat.le_refl _⟩ ?_ ?_
    · refine hide fun Gx hGx => ?_
      obtain ⟨q1, b', V', q2, q3, q4, q5, q6, q7⟩ := hJ
      refine hGx ?_
      exact ⟨q1, b', V', q2, q3.up hk, q4, q5, q6, q7⟩
    · intro i x t x' m₂ nw₂ h7 tk7 hv hJ K7 F7 N7
      refine hide fun Gx hGx => ?_
      obtain ⟨hx, rfl⟩ := valueAt_at hv
      have hxn := List.mem_of_getElem? hx
      obtain ⟨q1, b', V', q2, q3, q4, q5, q6, q7⟩ := hJ
      refine hGx ?_
      have htk : ns.take (i + 1) = ns.take i ++ [x] := by rw [List.take_add_one, hx]; rfl
      have hcl' : Cl ns V' := (lift_steps (P := id) (fun _ _ _ _ e => e) q4 hcl).1
      have hok' : Ok V' := q4.ok hok
      have hfd7 : DictIn w nw₂ d (ns.map fun x => (x, .ref (B x))) := hfd5.mono fun q hq e => K7 q hq (by rw [e]; exact hdB)
      have hVl : ∀ q, (V' q).length ≤ 6 := fun q => Nat.le_trans (q4.sub q).length_le (hUl q)
      change Fr g L h7 _ at F7
      change News g L h7 _ at N7
      replace F7 := fr_in (fr_in (fr_in F7 (a := Str.ofString "found") (va := .ref d) ((if_neg (by decide)).trans q1)) (a := Str.ofString "is_done") (va := .bool b') ((if_neg (by decide)).trans ((if_neg (by decide)).trans q2))) (a := Str.ofString "name") (va := .str x t) (by with_unfolding_all rfl)
      refine hideQ fun Q3 hQ3 => ?_
      iterate 6 walk1
      refine dictItem_V N7 hfd7 (valueAt_map hxn) ?_ (by with_unfolding_all rfl)
      refine hide fun Gx hGx => ?_
      obtain ⟨us, k, p1, p2⟩ := q3 x hxn
      refine hGx ?_
      have hul := p2.len
      iterate 3 walk1
      have N8 : News g L _ nw₂ := nsub ‹News g L _ _› fun q hq => .tail _ hq
      have F8 := ‹Fr g L _ _›
      refine wpAny_neNil (‹News g L _ _›) (.tail _ p1) (.head _) (by show 2703 < cLine; decide) ?_
      refine wpAny_truthy_bool ?_
      cases hVx : V' x with
      | nil =>
        have : us = [] := by rw [hVx] at hul; exact List.length_eq_zero_iff.mp hul
        subst this
        rw [if_neg (by decide)]
        refine wpAny_execs_nil (wpAny_execs_nil (hQ3 _ _ ⟨_, _, _, nw₂, rfl, F8, N8, Kp.refl, rfl, b', V', rfl, q3, q4, fun e => ?_, q6, q7⟩))
        refine hide fun Gx hGx => ?_
        obtain ⟨rfl, h⟩ := q5 e
        refine hGx ?_
        refine ⟨rfl, fun z hz => ?_⟩
        rw [htk] at hz
        rcases List.mem_append.mp hz with hz | hz
        · exact h z hz
        · have : z = x := by simpa using hz
          rw [this, hVx]
          exact fun _ e => nomatch e
      | cons f r =>
      refine hide fun Gx hGx => ?_
      obtain ⟨v0, us', rfl⟩ : ∃ v0 us', us = v0 :: us' := by
        cases us with
        | nil => rw [hVx] at hul; cases hul
        | cons a b => exact ⟨a, b, rfl⟩
      obtain ⟨f', tf, hv0, hf'⟩ := p2.get (i := 0) (v := v0) rfl
      have ef : f' = f := by rw [hVx] at hf'; exact (Option.some.inj hf').symm
      rw [ef] at hv0
      subst hv0
      have hfx : f ∈ V' x := by rw [hVx]; exact .head _
      have hfn : f ∈ ns := hcl'.sub x f hfx
      have hxf : x ∈ V' f := hok'.sym x f hfx
      have hnefx : f ≠ x := fun e => hok'.irr x (e ▸ hfx)
      obtain ⟨l1, zs, hrow⟩ := List.append_of_mem hxf
      have hrnd := hok'.nd f
      have hx1 : x ∉ l1 := fun h => by rw [hrow] at hrnd; exact (List.nodup_append.mp hrnd).2.2 x h x (by simp) rfl
      obtain ⟨uf, kf, pf1, pf2⟩ := q3 f hfn
      have hufl := pf2.len
      have hVf := hVl f
      have hVxl := hVl x
      obtain ⟨ih1, ih2, ih3⟩ := sts_at pf2 hrnd (i := l1.length) (x := x) (by rw [hrow]; simp)
      refine hGx ?_
      rw [if_pos (by rfl)]
      iterate 7 walk1
      refine dictItem_V N8 hfd7 (valueAt_map hxn) ?_ (by with_unfolding_all rfl)
      iterate 1 walk1
      refine item_V (j := 0) (v := .str f tf) N8 p1 rfl (by simp) (by rw [sizeLine_eq]; simp at hul ⊢; omega) ?_ (by with_unfolding_all rfl)
      iterate 2 walk1
      refine For_open ?_ (by intro _; rfl)
      have N9 := ‹News g L _ nw₂›
      have F9 := ‹Fr g L _ _›
      iterate 4 walk1
      refine dictItem_V N9 hfd7 (valueAt_map hfn) ?_ (by with_unfolding_all rfl)
      iterate 7 walk1
      refine dictItem_V N9 hfd7 (valueAt_map hfn) ?_ (by with_unfolding_all rfl)
      iterate 5 walk1
      refine index_V (isS x) l1.length N9 pf1 (strs_eqAt pf2) ih1 ih2 ih3 (by rw [sizeLine_eq]; simp; omega) ?_
      iterate 4 walk1
      dsimp only
      refine kba_turn (value' := .Name (Str.ofString "_") ⟨0, 0, 0, 0⟩) (fun _ => rfl) ?_
      refine sliceFrom_V (j := l1.length + 1) F9 N9 pf1 (by rw [sizeLine_eq]; omega) (by push_cast; rfl) (fun D9 h9 F10 N10 lt10 => ?_) (by with_unfolding_all rfl) (by intro _; with_unfolding_all rfl)
      have hzs : Sts (uf.drop (l1.length + 1)) zs := by
        have := sts_drop pf2 (l1.length + 1)
        rw [hrow] at this
        simpa using this
      have hzl := hzs.len
      have hTR9 : TR ((D9, listOf (uf.drop (l1.length + 1)).toArray 0) :: nw₂) ns B V' := q3.up fun q hq _ => .tail _ hq
      have hD9 : D9 ∉ ns.map B := fun hm => by
        refine hide fun Gx hGx => ?_
        obtain ⟨z, hz, e⟩ := List.mem_map.mp hm
        obtain ⟨_, _, q, _⟩ := q3 z hz
        refine hGx ?_
        have := lt10 _ q
        exact Nat.lt_irrefl D9 (by rw [← e] at this ⊢; exact this)
      have hfd9 : DictIn w ((D9, listOf (uf.drop (l1.length + 1)).toArray 0) :: nw₂) d (ns.map fun x => (x, .ref (B x))) := hfd7.mono fun q hq _ => .tail _ hq
      refine forK_list (items := (uf.drop (l1.length + 1)).toArray) rfl rfl rfl F10 N10 (.head _) (ns.map B) (fun a ha => hT0 a ha hTR9) hD9
        (tbJ4 d f tf ns B U V' x l1 zs b')
        (fun i m nwi nwi' hJ hk => ?_) ⟨rfl, rfl, b', V', rfl, hTR9, q4, by rw [hVx]; rfl, by simpa using hrow, fun _ => ⟨rfl, rfl⟩, fun e => absurd e (Nat.lt_irrefl _)⟩ ?_ ?_
      · refine hide fun Gx hGx => ?_
        obtain ⟨y1, y2, b'', V'', y3, y4, y5, y6, y7, y8, y9⟩ := hJ
        refine hGx ?_
        exact ⟨y1, y2, b'', V'', y3, y4.up hk, y5, y6, y7, y8, y9⟩
      · intro j v m₃ nw₃ h11 tk11 hv' hJ K11 F11 N11
        refine hide fun Gx hGx => ?_
        obtain ⟨y1, y2, b'', V'', y3, y4, y5, y6, y7, y8, y9⟩ := hJ
        obtain ⟨z, tz, rfl, hz⟩ := hzs.get (i := j) (by simpa using hv')
        have hjl : j < zs.length := (List.getElem?_eq_some_iff.mp hz).1
        have hzd : zs.drop j = z :: zs.drop (j + 1) := by rw [List.drop_eq_getElem_cons hjl]; congr 1; exact (List.getElem?_eq_some_iff.mp hz).2
        have haft : After (V'' f) x z := ⟨l1, zs.drop j, y7, by rw [hzd]; simp⟩
        have hok'' : Ok V'' := y5.ok hok
        have hcl'' : Cl ns V'' := (lift_steps (P := id) (fun _ _ _ _ e => e) y5 hcl).1
        have hzf : z ∈ V'' f := haft.mem.2
        have hzn : z ∈ ns := hcl''.sub f z hzf
        have hfz : f ≠ z := fun e => hok''.irr f (by rw [← e] at hzf; exact hzf)
        have hxz : x ≠ z := haft.ne (hok''.nd f)
        have hfz' : f ∈ V'' z := hok''.sym f z hzf
        have hl'' : ∀ q, (V'' q).length ≤ 6 := fun q => Nat.le_trans (y5.sub q).length_le (hUl q)
        have hfd11 : DictIn w nw₃ d (ns.map fun x => (x, .ref (B x))) := hfd9.mono fun q hq e => K11 q hq (by rw [e]; exact hdB)
        have hBinj := j3
        change Fr g L h11 _ at F11
        change News g L h11 _ at N11
        replace F11 := fr_in (fr_in (fr_in (fr_in F11 (a := Str.ofString "found") (va := .ref d) ((if_neg (by decide)).trans y1)) (a := Str.ofString "first") (va := .str f tf) ((if_neg (by decide)).trans ((if_neg (by decide)).trans y2))) (a := Str.ofString "is_done") (va := .bool b'') ((if_neg (by decide)).trans ((if_neg (by decide)).trans ((if_neg (by decide)).trans y3)))) (a := Str.ofString "other") (va := .str z tz) (by with_unfolding_all rfl)
        obtain ⟨u1, k1, r1, r2⟩ := y4 f hfn
        obtain ⟨jz, hjz⟩ := List.getElem?_of_mem hzf
        obtain ⟨a1, a2, a3⟩ := sts_at r2 (hok''.nd f) hjz
        refine hGx ?_
        have hu1 := r2.len
        have := hl'' f
        refine hideQ fun Q4 hQ4 => ?_
        iterate 6 walk1
        refine dictItem_V N11 hfd11 (valueAt_map hfn) ?_ (by with_unfolding_all rfl)
        iterate 5 walk1
        refine remove_V (isS z) jz F11 N11 r1 (strs_eqAt r2) a1 a2 a3 (by rw [sizeLine_eq]; simp; omega) fun h12 nw12 n12 F12 N12 a12 K12 => ?_
        have earr : u1.toArray.eraseIdxIfInBounds jz = (u1.eraseIdx jz).toArray := by
          have : jz < u1.length := by simpa using a1
          simp [Array.eraseIdxIfInBounds, List.eraseIdx_toArray, this]
        rw [earr] at a12
        have T12 := y4.set hBinj hfn K12 a12 (sts_erase r2 (hok''.nd f) hjz)
        have hfd12 : DictIn w nw12 d (ns.map fun x => (x, .ref (B x))) := hfd11.mono fun q hq e => K12 q hq (by rw [e]; simpa using fun e2 => hdB (List.mem_map.mpr ⟨f, hfn, e2.symm⟩))
        refine hide fun Gx hGx => ?_
        obtain ⟨u2, k2, s1, s2⟩ := T12 z hzn
        refine hGx ?_
        dsimp only at s2
        rw [if_neg (Ne.symm hfz)] at s2
        refine hide fun Gx hGx => ?_
        obtain ⟨jf, hjf⟩ := List.getElem?_of_mem hfz'
        obtain ⟨c1, c2, c3⟩ := sts_at s2 (hok''.nd z) hjf
        refine hGx ?_
        have hu2 := s2.len
        have := hl'' z
        iterate 6 walk1
        refine dictItem_V N12 hfd12 (valueAt_map hzn) ?_ (by with_unfolding_all rfl)
        iterate 5 walk1
        refine remove_V (isS f) jf F12 N12 s1 (strs_eqAt s2) c1 c2 c3 (by rw [sizeLine_eq]; simp; omega) fun h13 nw13 n13 F13 N13 a13 K13 => ?_
        have earr2 : u2.toArray.eraseIdxIfInBounds jf = (u2.eraseIdx jf).toArray := by
          have : jf < u2.length := by simpa using c1
          simp [Array.eraseIdxIfInBounds, List.eraseIdx_toArray, this]
        rw [earr2] at a13
        have T13 := T12.set hBinj hzn K13 a13 (sts_erase s2 (hok''.nd z) hjf)
        have T13' : TR nw13 ns B (del V'' f z) := by rw [← del_two hfz]; exact T13
        iterate 4 walk1
        have F14 := ‹Fr g L _ _›
        have N14 := ‹News g L _ nw13›
        have hdom : Dom V'' f z := ⟨x, y6, haft⟩
        have htot : total ns (del V'' f z) < total ns V'' := total_lt (fun q => (del_sub V'' f z q).length_le) hfn (by
          unfold del
          rw [if_pos rfl]
          have h1 := List.length_filter_lt_length_iff_exists (p := (· != z)) (l := V'' f)
          exact h1.mpr ⟨z, hzf, by simp⟩)
        refine wpAny_execs_nil (hQ4 _ _ ⟨_, _, _, nw13, rfl, F14, N14, (K12.mono ?_).trans (K13.mono ?_), rfl, rfl, false, del V'' f z, rfl, T13', y5.snoc (.mk hdom), head_del y6 (fun e => hnefx e.1.symm) (fun e => hxz e.1), ?_, (fun e => nomatch e), fun _ => ⟨rfl, ?_⟩⟩)
        · intro t ht; rw [List.mem_singleton.mp ht]; exact List.mem_map.mpr ⟨f, hfn, rfl⟩
        · intro t ht; rw [List.mem_singleton.mp ht]; exact List.mem_map.mpr ⟨z, hzn, rfl⟩
        · have hnd' := hok''.nd f
          rw [y7, hzd] at hnd'
          unfold del
          rw [if_pos rfl, y7, hzd]
          exact row_lessG hnd'
        · cases j with
          | zero => obtain ⟨rfl, _⟩ := y8 rfl; exact htot
          | succ j => exact Nat.lt_trans htot (y9 (Nat.succ_pos _)).2
      · intro m₃ nw₃ h11 tk11 hJ K11 F11 N11
        refine hide fun Gx hGx => ?_
        obtain ⟨y1, y2, b'', V'', y3, y4, y5, y6, y7, y8, y9⟩ := hJ
        refine hGx ?_
        have hsz : (uf.drop (l1.length + 1)).toArray.size = zs.length := by simpa using hzl
        rw [hsz] at y7 y8 y9
        rw [List.drop_length] at y7
        have K7' : Kp (ns.map B) nw₂ nw₃ := fun q hq hn => K11 q (.tail _ hq) hn
        refine wpAny_execs_nil (wpAny_execs_nil (hQ3 _ _ ⟨_, _, _, nw₃, rfl, F11, N11, K7', y1, b'', V'', y3, y4, y5, fun e => ?_, fun e => ?_, ?_⟩))
        · rcases Nat.eq_zero_or_pos zs.length with h0 | h0
          · refine hide fun Gx hGx => ?_
            obtain ⟨rfl, rfl⟩ := y8 h0
            obtain ⟨rfl, h⟩ := q5 e
            refine hGx ?_
            refine ⟨rfl, fun z hz => ?_⟩
            rw [htk] at hz
            rcases List.mem_append.mp hz with hz | hz
            · exact h z hz
            · have : z = x := by simpa using hz
              rw [this]
              intro y hy z' ha
              rw [y6] at hy
              cases hy
              refine hide fun Gx hGx => ?_
              obtain ⟨a, b, ee, hb⟩ := ha
              refine hGx ?_
              have hl : (V'' f).getLast? = some x := by rw [y7]; simp
              have nd := hok'.nd f
              rw [ee] at nd hl
              rcases List.eq_nil_or_concat b with rfl | ⟨b', t', rfl⟩
              · cases hb
              rw [List.concat_eq_append] at nd hl
              have h4 : (a ++ x :: (b' ++ [t'])).getLast? = some t' := by
                rw [show a ++ x :: (b' ++ [t']) = (a ++ x :: b') ++ [t'] by simp, List.getLast?_append]; rfl
              refine hide fun Gx hGx => ?_
              obtain rfl : x = t' := Option.some.inj (hl.symm.trans h4)
              refine hGx ?_
              exact (List.nodup_cons.mp (List.nodup_append.mp nd).2.1).1 (by simp)
          · have := (y9 h0).1; rw [e] at this; cases this
        · rcases Nat.eq_zero_or_pos zs.length with h0 | h0
          · refine hide fun Gx hGx => ?_
            obtain ⟨rfl, rfl⟩ := y8 h0
            refine hGx ?_
            exact q6 e
          · exact Nat.lt_of_lt_of_le (y9 h0).2 q7
        · rcases Nat.eq_zero_or_pos zs.length with h0 | h0
          · refine hide fun Gx hGx => ?_
            obtain ⟨rfl, rfl⟩ := y8 h0
            refine hGx ?_
            exact q7
          · exact Nat.le_trans (Nat.le_of_lt (y9 h0).2) q7
    · intro m₂ nw₂ h7 tk7 hJ K7 F7 N7
      refine hide fun Gx hGx => ?_
      obtain ⟨q1, b', V', q2, q3, q4, q5, q6, q7⟩ := hJ
      refine hGx ?_
      rw [List.length_map, List.take_length] at q5
      refine wpAny_execs_nil (hQ2 _ _ ⟨_, _, _, nw₂, _, ?_, rfl, F7, N7, q1, b', V', q2, q3, q4, fun e => ?_, rfl, e6.trans K7⟩)
      · cases b' with
        | true => obtain ⟨rfl, _⟩ := q5 rfl; show total ns V' + 0 < total ns V' + 1; omega
        | false => have := q6 rfl; show total ns V' + 1 < total ns V + 1; omega
      · obtain ⟨rfl, h⟩ := q5 e
        rintro y z ⟨x, hx, ha⟩
        exact h x (hclV.mem (head_mem hx)) y hx z ha
end Mine
namespace Mine
theorem fill14 (w : World) : (Challenge.rw_au0003_01.Holds ∧ (hd.heap_39 w.params).In default) → True := by
  k_fill; intro _; trivial
variable {w : World}

theorem after_idx {α : Type} {l : List α} {a b : α} (h : After l a b) (nd : l.Nodup) {i j : Nat} (hi : l[i]? = some a) (hj : l[j]? = some b) : i < j := by
  refine hide fun G1 hG1 => ?_
  obtain ⟨p, q, rfl, hb⟩ := h
  obtain ⟨n, hn⟩ := List.getElem?_of_mem hb
  have h1 : (p ++ a :: q)[p.length]? = some a := by simp
  have h2 : (p ++ a :: q)[p.length + 1 + n]? = some b := by
    rw [List.getElem?_append_right (by omega)]
    rw [show p.length + 1 + n - p.length = n + 1 by omega]
    simpa using hn
  obtain ⟨a1, a2⟩ := List.getElem?_eq_some_iff.mp hi
  obtain ⟨b1, b2⟩ := List.getElem?_eq_some_iff.mp h1
  obtain ⟨c1, c2⟩ := List.getElem?_eq_some_iff.mp hj
  obtain ⟨d1, d2⟩ := List.getElem?_eq_some_iff.mp h2
  refine hG1 ?_
  have e1 := (List.getElem_inj (h₀ := a1) (h₁ := b1) nd).mp (a2.trans b2.symm)
  have e2 := (List.getElem_inj (h₀ := c1) (h₁ := d1) nd).mp (c2.trans d2.symm)
  omega
/-- mates told by a dict of the ledger -/
def MT (w : World) (nw : Ldg) (dm : Addr) (ns : List Str) (mate : Str → Str) : Prop := ∃ kvs, DictIn w nw dm kvs ∧ ∀ x ∈ ns, ∃ t, valueAt kvs x = some (.str (mate x) t)

def Good (U : Str → List Str) (mate : Str → Str) (x : Str) : Prop := ∀ y, After (U x) y (mate x) → ¬ After (U y) x (mate y)

abbrev stPost (ns : List Str) (U : Str → List Str) (mate : Str → Str) : Ldg → Value → Ldg → Prop := fun nw r nw' => ∃ b, r = .bool b ∧ (b = true → ∀ x ∈ ns, Good U mate x) ∧ Kp [] nw nw'

theorem stable_ct {dl dm : Addr} {ns : List Str} {A : Str → Addr} {U : Str → List Str} {mate : Str → Str} (hnd : ns.Nodup) (hlen : ns.length ≤ 6) (hok : Ok U) (hcl : Cl ns U) (hUl : ∀ x, (U x).length ≤ 6) (hm : ∀ x ∈ ns, mate x ∈ U x) :
    Ct w 210 [.ref dl, .ref dm] 470 2700 (fun nw => DictIn w nw dl (ns.map fun x => (x, .ref (A x))) ∧ TR nw ns A U ∧ MT w nw dm ns mate)
    (stPost ns U mate) := by
  refine' Ct.intro (binds := [(Str.ofString "lists", .ref dl), (Str.ofString "mates", .ref dm)]) (by k_is) (by k_is) (by decide) (by exact rfl) (by exact locs rfl) (by exact rfl) (by exact rfl) (by exact rfl) (by decide) ?_
  intro pp loose mean mg mb gd outer A₀ base g L h₁ tk s nw B F X N hT hP
  refine hide fun G3 hG3 => ?_
  obtain ⟨hP1, hP2, kvs, hP3, hP4⟩ := hP
  refine hG3 ?_
  refine hideQ fun Q0 hQ0 => ?_
  iterate 1 walk1
  refine For_open ?_ (by intro _; rfl)
  iterate 1 walk1
  have F1 := ‹Fr g L _ _›
  refine forK_dict (kvs := ns.map fun x => (x, .ref (A x))) rfl rfl rfl F1 N hP1 [] (fun a ha => nomatch ha) (fun h => nomatch h)
    (fun i m nwi => m (Str.ofString "lists") = some (.ref dl) ∧ m (Str.ofString "mates") = some (.ref dm) ∧ ∀ x ∈ ns.take i, Good U mate x) (fun i m nwi nwi' hJ hk => hJ) ⟨rfl, rfl, by simp⟩ ?_ ?_
  · intro i x t x' m₂ nw₂ h7 tk7 hv hJ K7 F7 N7
    refine hide fun G4 hG4 => ?_
    obtain ⟨hx, rfl⟩ := valueAt_at hv
    have hxn := List.mem_of_getElem? hx
    obtain ⟨q1, q2, q3⟩ := hJ
    have htk : ns.take (i + 1) = ns.take i ++ [x] := by rw [List.take_add_one, hx]; rfl
    change Fr g L h7 _ at F7
    change News g L h7 _ at N7
    replace F7 := fr_in (fr_in (fr_in F7 (a := Str.ofString "lists") (va := .ref dl) ((if_neg (by decide)).trans q1)) (a := Str.ofString "mates") (va := .ref dm) ((if_neg (by decide)).trans ((if_neg (by decide)).trans q2))) (a := Str.ofString "name") (va := .str x t) (by with_unfolding_all rfl)
    have up := Kp.nil K7
    have dl7 : DictIn w nw₂ dl (ns.map fun x => (x, .ref (A x))) := hP1.mono fun q hq _ => up q hq
    have dm7 : DictIn w nw₂ dm kvs := hP3.mono fun q hq _ => up q hq
    obtain ⟨us, k, p1, p2⟩ := hP2 x hxn
    obtain ⟨tm, hmx⟩ := hP4 x hxn
    have p1' := up _ p1
    have hul := p2.len
    have hUx := hUl x
    have hUnd := hok.nd x
    obtain ⟨jm, hjm⟩ := List.getElem?_of_mem (hm x hxn)
    obtain ⟨a1, a2, a3⟩ := sts_at p2 hUnd hjm
    refine hG4 ?_
    refine hideQ fun Q1 hQ1 => ?_
    iterate 1 walk1
    refine For_open ?_ (by intro _; rfl)
    iterate 4 walk1
    refine dictItem_V N7 dl7 (valueAt_map hxn) ?_ (by with_unfolding_all rfl)
    iterate 7 walk1
    refine dictItem_V N7 dl7 (valueAt_map hxn) ?_ (by with_unfolding_all rfl)
    iterate 6 walk1
    refine dictItem_V N7 dm7 hmx ?_ (by with_unfolding_all rfl)
    iterate 1 walk1
    refine index_V (isS (mate x)) jm N7 (up _ p1) (strs_eqAt p2) a1 a2 a3 (by rw [sizeLine_eq]; simp; omega) ?_
    iterate 1 walk1
    dsimp only
    refine kba_turn (value' := .Name (Str.ofString "_") ⟨0, 0, 0, 0⟩) (fun _ => rfl) ?_
    refine sliceTo_V (j := jm) F7 N7 (up _ p1) (by rw [sizeLine_eq]; omega) rfl (fun D9 h9 F10 N10 lt10 => ?_) (by with_unfolding_all rfl) (by intro _; with_unfolding_all rfl)
    have hys : Sts (us.take jm) ((U x).take jm) := by
      unfold Sts at p2 ⊢
      rw [List.map_take, p2, List.map_take]
    have hyl := hys.len
    refine forK_list (items := (us.take jm).toArray) rfl rfl rfl F10 N10 (.head _) [] (fun a ha => nomatch ha) (fun h => nomatch h)
      (fun i m nwi => m (Str.ofString "lists") = some (.ref dl) ∧ m (Str.ofString "mates") = some (.ref dm) ∧ m (Str.ofString "name") = some (.str x t) ∧ ∀ y ∈ ((U x).take jm).take i, ¬ After (U y) x (mate y)) (fun i m nwi nwi' hJ hk => hJ) ⟨rfl, rfl, rfl, by simp⟩ ?_ ?_
    · intro j v m₃ nw₃ h11 tk11 hv' hJ K11 F11 N11
      refine hide fun G5 hG5 => ?_
      obtain ⟨y1, y2, y3, y4⟩ := hJ
      obtain ⟨y, ty, rfl, hy⟩ := hys.get (i := j) (by simpa using hv')
      have hyU : y ∈ U x := List.mem_of_mem_take (List.mem_of_getElem? hy)
      have hyn := hcl.sub x y hyU
      have hxy : x ∈ U y := hok.sym x y hyU
      change Fr g L h11 _ at F11
      change News g L h11 _ at N11
      replace F11 := fr_in (fr_in (fr_in (fr_in F11 (a := Str.ofString "lists") (va := .ref dl) ((if_neg (by decide)).trans y1)) (a := Str.ofString "mates") (va := .ref dm) ((if_neg (by decide)).trans ((if_neg (by decide)).trans y2))) (a := Str.ofString "name") (va := .str x t) ((if_neg (by decide)).trans ((if_neg (by decide)).trans ((if_neg (by decide)).trans y3)))) (a := Str.ofString "other") (va := .str y ty) (by with_unfolding_all rfl)
      have up11 : ∀ q ∈ nw, q ∈ nw₃ := fun q hq => Kp.nil K11 q (.tail _ (up q hq))
      have dl11 : DictIn w nw₃ dl (ns.map fun x => (x, .ref (A x))) := hP1.mono fun q hq _ => up11 q hq
      have dm11 : DictIn w nw₃ dm kvs := hP3.mono fun q hq _ => up11 q hq
      obtain ⟨uy, ky, r1, r2⟩ := hP2 y hyn
      obtain ⟨tmy, hmy⟩ := hP4 y hyn
      have r1' := up11 _ r1
      have huy := r2.len
      have hUy := hUl y
      have hyd := hok.nd y
      obtain ⟨ix, hix⟩ := List.getElem?_of_mem hxy
      obtain ⟨im, him⟩ := List.getElem?_of_mem (hm y hyn)
      obtain ⟨b1, b2, b3⟩ := sts_at r2 hyd hix
      obtain ⟨c1, c2, c3⟩ := sts_at r2 hyd him
      refine hG5 ?_
      have htk2 : ((U x).take jm).take (j + 1) = ((U x).take jm).take j ++ [y] := by rw [List.take_add_one, hy]; rfl
      refine hideQ fun Q2 hQ2 => ?_
      iterate 7 walk1
      refine dictItem_V N11 dl11 (valueAt_map hyn) ?_ (by with_unfolding_all rfl)
      iterate 5 walk1
      refine index_V (isS x) ix N11 (up11 _ r1) (strs_eqAt r2) b1 b2 b3 (by rw [sizeLine_eq]; simp; omega) ?_
      iterate 4 walk1
      refine dictItem_V N11 dl11 (valueAt_map hyn) ?_ (by with_unfolding_all rfl)
      iterate 6 walk1
      refine dictItem_V N11 dm11 hmy ?_ (by with_unfolding_all rfl)
      iterate 1 walk1
      refine index_V (isS (mate y)) im N11 (up11 _ r1) (strs_eqAt r2) c1 c2 c3 (by rw [sizeLine_eq]; simp; omega) ?_
      iterate 2 walk1
      by_cases hlt : ix < im
      · rw [if_pos (by simpa using hlt)]
        iterate 4 walk1
        exact hQ2 _ _ (hQ1 _ _ (hQ0 _ _ ⟨_, _, _, F11, N11, rfl, rfl, rfl, false, rfl, (fun e => nomatch e), fun q hq _ => up11 q hq⟩))
      · rw [if_neg (by simpa using hlt)]
        refine wpAny_execs_nil (wpAny_execs_nil (hQ2 _ _ ⟨_, _, _, nw₃, rfl, F11, N11, Kp.refl, rfl, rfl, rfl, fun z hz => ?_⟩))
        rw [htk2] at hz
        rcases List.mem_append.mp hz with hz | hz
        · exact y4 z hz
        · have : z = y := by simpa using hz
          rw [this]
          exact fun ha => hlt (after_idx ha hyd hix him)
    · intro m₃ nw₃ h11 tk11 hJ K11 F11 N11
      refine hide fun G6 hG6 => ?_
      obtain ⟨y1, y2, y3, y4⟩ := hJ
      refine hG6 ?_
      have hsz : (us.take jm).toArray.size = ((U x).take jm).length := by simpa using hyl
      rw [hsz, List.take_length] at y4
      refine wpAny_execs_nil (hQ1 _ _ ⟨_, _, _, nw₃, rfl, F11, N11, fun q hq _ => Kp.nil K11 q (.tail _ hq), y1, y2, fun z hz => ?_⟩)
      rw [htk] at hz
      rcases List.mem_append.mp hz with hz | hz
      · exact q3 z hz
      · have : z = x := by simpa using hz
        rw [this]
        intro y ha
        refine y4 y ?_
        refine hide fun G7 hG7 => ?_
        obtain ⟨iy, hiy⟩ := List.getElem?_of_mem ha.mem.1
        refine hG7 ?_
        have := after_idx ha hUnd hiy hjm
        exact List.mem_of_getElem? (i := iy) (by rw [List.getElem?_take_of_lt this]; exact hiy)
  · intro m₂ nw₂ h7 tk7 hJ K7 F7 N7
    refine hide fun G8 hG8 => ?_
    obtain ⟨q1, q2, q3⟩ := hJ
    refine hG8 ?_
    rw [List.length_map, List.take_length] at q3
    iterate 3 walk1
    exact hQ0 _ _ ⟨_, _, _, F7, N7, rfl, rfl, rfl, true, rfl, fun _ => q3, fun q hq _ => Kp.nil K7 q hq⟩
end Mine
namespace Mine
section
variable {prog : Program} {w : World} {A : Around} {s : Shared} {env : Env} {h₀ : Heap} {m : Str → Option Value}

/-- the for loop's own invariant, the name a cell -/
inductive FCi (h₀ : Heap) (L c : Addr) (T : List Addr) (nw₀ : Ldg) (I : Addr) (St : Nat → Heap → Prop) (J : Nat → (Str → Option Value) → Ldg → Prop) (n : Nat) (s : Shared) (k : Nat) (s' : Shared) : Prop
  | mk (h' : Heap) (tk : Nat) (m' : Str → Option Value) (nw' : Ldg) (i : Nat) (f1 : s' = { s with heap := h', toks := tk }) (f2 : St i h') (f3 : Fr h₀ L h' m') (f4 : News h₀ L h' nw') (f5 : Kp (c :: T) nw₀ nw') (f6 : ∃ o, (I, o) ∈ nw' ∧ isIt o = true) (fc : ∃ oc vc, (c, oc) ∈ nw' ∧ oc.data = .cell vc) (f7 : J i m' nw') (f8 : i ≤ n) (f9 : k = n + 1 - i)
theorem forLoop_WC {c : Addr} {oc₀ : Obj} {v₀ : Option Value} {x : Str} {px : Pos} {body : List Stmt} {I : Addr} {fp : List Addr} {n : Nat} {P : Nat → Value → Prop} {St : Nat → Heap → Prop} {nw₀ : Ldg} {oI : Obj} {T : List Addr} {Q : Flow → Shared → Prop}
    (W : Walks prog w A I fp [I] n P St) (hIo : ∀ i h, St i h → ∃ o, h.get? I = some o ∧ isIt o = true) (hx : env.kindOf x = some .cell) (hke : env.scope.kind = .function) (hcl : env.cells.lookup x = some c) (hc0 : (c, oc₀) ∈ nw₀) (hd0 : oc₀.data = .cell v₀) (hcT : c ∉ T)
    (hp : (env.scope.kind == .class || (env.scope.kind == .module && env.locals != env.globals)) = false)
    (hst : St 0 s.heap) (F : Fr h₀ env.locals s.heap m) (N : News h₀ env.locals s.heap ((I, oI) :: nw₀)) (hoI : isIt oI = true) (hlt : ∀ p ∈ nw₀, p.1 < I)
    (hT : ∀ a ∈ T, ∃ o, (a, o) ∈ nw₀) (hfp : ∀ b ∈ fp, b ≠ I → b ≠ c ∧ b ∉ T ∧ ∃ o, (b, o) ∈ nw₀)
    (J : Nat → (Str → Option Value) → Ldg → Prop) (stab : ∀ i m nw nw', J i m nw → (∀ q ∈ nw, isIt q.2 = false → q.1 ≠ c → q ∈ nw') → J i m nw') (h0 : J 0 m nw₀)
    (turn : ∀ i v m₁ nw₁ h tk, i < n → P i v → J i m₁ nw₁ → Kp (c :: T) nw₀ nw₁ → (∃ oc, (c, oc) ∈ nw₁ ∧ oc.data = .cell (some v)) → Fr h₀ env.locals h m₁ → News h₀ env.locals h nw₁ →
      wpAny (model prog w) A (execs body env) (TurnEnd h₀ env.locals T nw₁ (J (i + 1)) { s with heap := h, toks := tk } Q) NE { s with heap := h, toks := tk })
    (done : ∀ m₁ nw₁ h tk, J n m₁ nw₁ → Kp (c :: T) nw₀ nw₁ → Fr h₀ env.locals h m₁ → News h₀ env.locals h nw₁ → Q .next { s with heap := h, toks := tk }) :
    codeAny (model prog w) A (.forLoop (.Name x px) (.ref I) body [] env) (fun r s' => match r with | .ok f => Q f s' | .error _ => False) s := by
  have hIT : I ∉ T := fun h => by obtain ⟨o, ho⟩ := hT I h; exact Nat.lt_irrefl _ (hlt _ ho)
  have hI := N (I, oI) (.head _)
  have hLI : env.locals ≠ I := Ne.symm hI.2.1
  have hI0 : h₀.get? I = none := hI.2.2
  refine codeAny_forLoop
    (FCi h₀ env.locals c T nw₀ I St J n s) ?_ (n + 1)
    ⟨s.heap, s.toks, m, _, 0, rfl, hst, F, N, fun q hq _ => .tail _ hq, ⟨oI, .head _, hoI⟩, ⟨oc₀, v₀, .tail _ hc0, hd0⟩, stab 0 m _ _ h0 (fun q hq _ _ => .tail _ hq), Nat.zero_le _, rfl⟩
  rintro k s' ⟨h', tk, m', nw', i, rfl, hst', F', N', K', ⟨oi, hoi, hoit⟩, ⟨oc, vc, hcm, hcd⟩, hJ, hi, rfl⟩
  have next : ∀ h₁ : Heap, (∀ b o, b ∉ [I] → h'.get? b = some o → h₁.get? b = some o) → Fr h₀ env.locals h₁ m' := fun h₁ hk₁ =>
    ⟨F'.ns.at' fun o e => hk₁ _ o (by simpa using hLI) e, fun b o e => hk₁ b o (fun hb => by rw [List.mem_singleton.mp hb, hI0] at e; cases e) (F'.keep b o e), F'.above⟩
  by_cases hlt' : i < n
  · refine W.item i _ _ _ hlt' hst' fun v h₁ tk₁ hP hst₁ hk₁ => ?_
    have F₁ := next h₁ hk₁
    refine hide fun Gx hGx => ?_
    obtain ⟨oi₁, hoi₁, hit₁⟩ := hIo _ _ hst₁
    refine hGx ?_
    have hcI : c ≠ I := Nat.ne_of_lt (hlt _ hc0)
    have hcL : c ≠ env.locals := (N' _ hcm).2.1
    have hch : h₀.get? c = none := (N' _ hcm).2.2
    refine wpAny_assign_Name (wpAny_storeName_cell hke hx hcl ⟨oc, hk₁ _ _ (by simpa using hcI) (N' _ hcm).1, hcd⟩ (fun h₂ hcell hs₂ => ?_))
    refine hide fun Gx hGx => ?_
    obtain ⟨oc₂, hoc₂, hcd₂⟩ := hcell
    refine hGx ?_
    have F₂ := F₁.change hs₂ hcL hch
    have N₁ : News h₀ env.locals h₂ ((I, oi₁) :: (c, oc₂) :: (nw'.filter fun q => q.1 != I && q.1 != c)) := fun p hp => by
      rcases List.mem_cons.mp hp with rfl | hp
      · exact ⟨(hs₂.2 _ (Ne.symm hcI)).trans hoi₁, Ne.symm hLI, hI0⟩
      · rcases List.mem_cons.mp hp with rfl | hp
        · exact ⟨hoc₂, hcL, hch⟩
        · obtain ⟨hp, hne⟩ := List.mem_filter.mp hp
          obtain ⟨hne', hnc⟩ : p.1 ≠ I ∧ p.1 ≠ c := by simpa using hne
          have z := N' p hp
          exact ⟨(hs₂.2 _ hnc).trans (hk₁ _ _ (by simpa using hne') z.1), z.2⟩
    have J₁ : J i m' ((I, oi₁) :: (c, oc₂) :: (nw'.filter fun q => q.1 != I && q.1 != c)) := stab i m' _ _ hJ fun q hq hf hqc => by
      refine .tail _ (.tail _ (List.mem_filter.mpr ⟨hq, ?_⟩))
      have : q.1 ≠ I := fun e => by
        obtain ⟨a, o⟩ := q
        cases (show a = I from e)
        rw [nsame N' hq hoi, hoit] at hf; cases hf
      simp [this, hqc]
    have K₁ : Kp (c :: T) nw₀ ((I, oi₁) :: (c, oc₂) :: (nw'.filter fun q => q.1 != I && q.1 != c)) := fun q hq hn => by
      refine .tail _ (.tail _ (List.mem_filter.mpr ⟨K' q hq hn, ?_⟩))
      have h1 : q.1 ≠ I := Nat.ne_of_lt (hlt q hq)
      have h2 : q.1 ≠ c := fun e => hn (e ▸ .head _)
      simp [h1, h2]
    refine wpAny_mono (turn i v m' _ h₂ _ hlt' hP J₁ K₁ ⟨oc₂, .tail _ (.head _), hcd₂⟩ F₂ N₁) (fun f s₃ h₃ => ?_) fun _ _ e => e.elim
    have fin : ∀ tk9, TEnd h₀ env.locals T ((I, oi₁) :: (c, oc₂) :: (nw'.filter fun q => q.1 != I && q.1 != c)) (J (i + 1)) { s with heap := h₂, toks := tk9 } s₃ → ∃ k', k' < n + 1 - i ∧ FCi h₀ env.locals c T nw₀ I St J n s k' s₃ := by
      rintro tk9 ⟨h₄, tk₄, m₄, nw₄, rfl, F₄, N₄, K₄, J₄⟩
      refine ⟨n + 1 - (i + 1), Nat.sub_lt_sub_left (Nat.lt_succ_of_lt hlt') (Nat.lt_succ_self i), h₄, tk₄, m₄, nw₄, i + 1, rfl, ?_, F₄, N₄, K₁.trans (K₄.mono fun _ h => .tail _ h), ⟨oi₁, K₄ _ (.head _) hIT, hit₁⟩, ⟨oc₂, _, K₄ _ (.tail _ (.head _)) hcT, hcd₂⟩, J₄, hlt', rfl⟩
      have hst₂ : St (i + 1) h₂ := W.frame _ _ _ hst₁ fun b hb o e => by
        refine (hs₂.2 b fun q => ?_).trans e
        by_cases hbI : b = I
        · exact hcI (q.symm.trans hbI)
        · exact (hfp b hb hbI).1 q
      refine W.frame _ _ _ hst₂ fun b hb o e => ?_
      by_cases hbI : b = I
      · have z := N₁ (I, oi₁) (.head _)
        have : oi₁ = o := Option.some.inj (z.1.symm.trans (hbI ▸ e))
        rw [hbI, ← this]; exact (N₄ _ (K₄ _ (.head _) hIT)).1
      · refine hide fun Gx hGx => ?_
        obtain ⟨hbc, hbT, o', ho'⟩ := hfp b hb hbI
        refine hGx ?_
        have hbcT : b ∉ c :: T := by simp only [List.mem_cons, not_or]; exact ⟨hbc, hbT⟩
        have : (b, o') ∈ ((I, oi₁) :: (c, oc₂) :: (nw'.filter fun q => q.1 != I && q.1 != c)) := K₁ _ ho' hbcT
        have z := (N₁ _ this).1
        have : o' = o := Option.some.inj (z.symm.trans e)
        rw [← this]; exact (N₄ _ (K₄ _ (K₁ _ ho' hbcT) hbT)).1
    cases f with
    | ret v => exact h₃
    | brk => exact h₃
    | cont => exact fin _ h₃
    | next => exact fin _ h₃
  · have hin : i = n := by omega
    subst hin
    refine W.done _ _ _ hst' fun h₁ tk₁ hk₁ => wpAny_execs_nil ?_
    have F₁ := next h₁ hk₁
    refine done m' (nw'.filter fun q => q.1 != I) h₁ tk₁ (stab i m' _ _ hJ fun q hq hf _ => ?_) (fun q hq hn => ?_) F₁ fun p hp => ?_
    · refine List.mem_filter.mpr ⟨hq, ?_⟩
      have : q.1 ≠ I := fun e => by
        refine hide fun Gx hGx => ?_
        obtain ⟨a, o⟩ := q
        refine hGx ?_
        cases (show a = I from e)
        rw [nsame N' hq hoi, hoit] at hf; cases hf
      simpa using this
    · refine List.mem_filter.mpr ⟨K' q hq hn, ?_⟩
      simpa using Nat.ne_of_lt (hlt q hq)
    · refine hide fun Gx hGx => ?_
      obtain ⟨hp, hne⟩ := List.mem_filter.mp hp
      refine hGx ?_
      have hne' : p.1 ≠ I := by simpa using hne
      have z := N' p hp
      exact ⟨hk₁ _ _ (by simpa using hne') z.1, z.2⟩
theorem forK_listC {c : Addr} {oc₀ : Obj} {v₀ : Option Value} {x : Str} {px : Pos} {body : List Stmt} {Q : Flow → Shared → Prop} {l : Addr} {items : Array Value} {k : Nat} {nw₀ : Ldg} (hh : A.handled = none) (hx : env.kindOf x = some .cell) (hke : env.scope.kind = .function) (hcl : env.cells.lookup x = some c) (hc0 : (c, oc₀) ∈ nw₀) (hd0 : oc₀.data = .cell v₀)
    (hp : (env.scope.kind == .class || (env.scope.kind == .module && env.locals != env.globals)) = false)
    (F : Fr h₀ env.locals s.heap m) (N : News h₀ env.locals s.heap nw₀) (hl : (l, listOf items k) ∈ nw₀) (T : List Addr) (hT : ∀ a ∈ T, ∃ o, (a, o) ∈ nw₀) (hlT : l ∉ T) (hcT : c ∉ T) (hlc : l ≠ c)
    (J : Nat → (Str → Option Value) → Ldg → Prop) (stab : ∀ i m nw nw', J i m nw → (∀ q ∈ nw, isIt q.2 = false → q.1 ≠ c → q ∈ nw') → J i m nw') (h0 : J 0 m nw₀)
    (turn : ∀ i v m₁ nw₁ h tk, items[i]? = some v → J i m₁ nw₁ → Kp (c :: T) nw₀ nw₁ → (∃ oc, (c, oc) ∈ nw₁ ∧ oc.data = .cell (some v)) → Fr h₀ env.locals h m₁ → News h₀ env.locals h nw₁ →
      wpAny (model Challenge.rw_au0003_01.row.prog w) A (execs body env) (TurnEnd h₀ env.locals T nw₁ (J (i + 1)) { s with heap := h, toks := tk } Q) NE { s with heap := h, toks := tk })
    (done : ∀ m₁ nw₁ h tk, J items.size m₁ nw₁ → Kp (c :: T) nw₀ nw₁ → Fr h₀ env.locals h m₁ → News h₀ env.locals h nw₁ → Q .next { s with heap := h, toks := tk }) :
    ForK Challenge.rw_au0003_01.row.prog w A env x px body Q (.ref l) s := by
  have hL : s.heap.IsList l items := ⟨_, (N _ hl).1, rfl, k, rfl⟩
  have hlt : l < s.heap.objs.size := Heap.lt_size (N _ hl).1
  refine wpAny_pyIter_list hL ?_
  have up : ∀ b o, s.heap.get? b = some o → (s.heap.push { cls := .type "list_iterator", data := .fields #[.ref l, .int 0 0] }).get? b = some o := fun b o e => Heap.get?_push_of_some _ e
  refine forLoop_WC (nw₀ := nw₀) (oI := { cls := .type "list_iterator", data := .fields #[.ref l, .int 0 0] }) (Walks.list hh s.heap.objs.size l (Nat.ne_of_lt hlt) items) (fun i h st => ?_) hx hke hcl hc0 hd0 hcT hp
    ⟨⟨_, Heap.get?_push_size _ rfl, rfl, rfl⟩, hL.push _⟩ (F.push _) (N.push F _) rfl (fun p hp => Heap.lt_size (N p hp).1) hT (fun b hb hne => ?_) J stab h0 (fun i v m₁ nw₁ h tk _ hP => turn i v m₁ nw₁ h tk hP) done
  · refine hide fun Gx hGx => ?_
    obtain ⟨o, ho, hc, _⟩ := st.1
    refine hGx ?_
    exact ⟨o, ho, by unfold isIt; rw [hc]; rfl⟩
  · have : b = l := by simpa [hne] using hb
    subst this
    exact ⟨hlc, hlT, _, hl⟩

end
end Mine
namespace Mine
theorem fill15 (w : World) : (Challenge.rw_au0003_01.Holds ∧ (hd.heap_39 w.params).In default) → True := by
  k_fill; intro _; trivial
variable {w : World}

/-- a pairing of xs, told by pairs -/
structure Pairing (xs : List Str) (kvs : List (Str × Value)) : Prop where
  nd : (kvs.map (·.1)).Nodup
  sub : ∀ p ∈ kvs, p.1 ∈ xs
  len : kvs.length ≤ xs.length
  ok : ∃ mate : Str → Str, ∀ x ∈ xs, (∃ t, valueAt kvs x = some (.str (mate x) t)) ∧ mate x ∈ xs ∧ mate x ≠ x ∧ mate (mate x) = x

theorem pairing_nil : Pairing [] [] := ⟨List.nodup_nil, (fun _ h => nomatch h), Nat.le_refl _, id, (fun _ h => nomatch h)⟩

theorem Pairing.cons {x y : Str} {t : List Str} {kvs : List (Str × Value)} {tx ty : Tok} (nd : (x :: t).Nodup) (hy : y ∈ t) (h : Pairing (t.filter (· != y)) kvs) :
    Pairing (x :: t) ((x, .str y ty) :: (y, .str x tx) :: kvs) := by
  have hxt := (List.nodup_cons.mp nd).1
  have hxy : x ≠ y := fun e => hxt (e ▸ hy)
  have hsub : ∀ p ∈ kvs, p.1 ∈ t ∧ p.1 ≠ y := fun p hp => by simpa [List.mem_filter] using h.sub p hp
  refine ⟨?_, ?_, ?_, ?_⟩
  · simp only [List.map_cons, List.nodup_cons, List.mem_cons, not_or, List.mem_map, not_exists, not_and]
    exact ⟨⟨hxy, fun p hp e => hxt (e ▸ (hsub p hp).1)⟩, fun p hp e => (hsub p hp).2 e, h.nd⟩
  · intro p hp
    simp only [List.mem_cons] at hp
    rcases hp with rfl | rfl | hp
    · exact .head _
    · exact .tail _ hy
    · exact .tail _ (hsub p hp).1
  · have h1 := h.len
    have h2 : (t.filter (· != y)).length < t.length := List.length_filter_lt_length_iff_exists.mpr ⟨y, hy, by simp⟩
    simp only [List.length_cons]; omega
  · refine hide fun G1 hG1 => ?_
    obtain ⟨mate, hm⟩ := h.ok
    refine hG1 ?_
    refine ⟨fun z => if z = x then y else if z = y then x else mate z, fun z hz => ?_⟩
    have va : ∀ (k : Str) (v : Value) (r : List (Str × Value)) (z : Str), valueAt ((k, v) :: r) z = if k = z then some v else valueAt r z := fun k v r z => by
      unfold valueAt
      by_cases e : k = z
      · subst e; simp
      · rw [List.find?_cons_of_neg (by simpa using e), if_neg e]
    by_cases h1 : z = x
    · subst h1
      simp only [if_true]
      rw [va, if_pos rfl, if_neg (Ne.symm hxy)]
      exact ⟨⟨ty, rfl⟩, .tail _ hy, Ne.symm hxy, rfl⟩
    · by_cases h2 : z = y
      · subst h2
        simp only [if_neg h1, if_true]
        rw [va, if_neg hxy, va, if_pos rfl]
        exact ⟨⟨tx, rfl⟩, .head _, hxy, trivial⟩
      · have hzt : z ∈ t.filter (· != y) := List.mem_filter.mpr ⟨by rcases List.mem_cons.mp hz with h | h; exact absurd h h1; exact h, by simpa using h2⟩
        refine hide fun G2 hG2 => ?_
        obtain ⟨a, b, c, d⟩ := hm z hzt
        obtain ⟨b1, b2⟩ := List.mem_filter.mp b
        refine hG2 ?_
        have b3 : mate z ≠ y := by simpa using b2
        have b4 : mate z ≠ x := fun e => hxt (e ▸ b1)
        simp only [if_neg h1, if_neg h2, if_neg b3, if_neg b4]
        rw [va, if_neg (Ne.symm h1), va, if_neg (Ne.symm h2)]
        exact ⟨a, .tail _ b1, c, d⟩

/-- list(d.items()) -/
theorem itemsList_V {A : Around} {E : Value → Shared → Prop} {s : Shared} {h₀ : Heap} {L : Addr} {m : Str → Option Value} {nw : Ldg} {v d : Addr} {kvs : List (Str × Value)} {Q : Value → Shared → Prop} (hh : A.handled = none) (F : Fr h₀ L s.heap m) (N : News h₀ L s.heap nw)
    (hv : (v, ({ cls := .type "dict_items", data := .fields #[.ref d] } : Obj)) ∈ nw) (hd : DictIn w nw d kvs) (hn : kvs.length ≤ sizeLine)
    (h : ∀ (B : Addr) (as : List Addr) (c : Nat) h' tk' nw', Fr h₀ L h' m → News h₀ L h' nw' → (∀ q ∈ nw, q ∈ nw') → (B, listOf (List.toArray (as.map Value.ref)) c) ∈ nw' → as.length = kvs.length →
      (∀ (j : Nat) (k : Str) (x : Value), kvs[j]? = some (k, x) → ∃ a u, as[j]? = some a ∧ (a, tupOf #[.str k u, x] 0) ∈ nw') → (∀ q ∈ nw, q.1 < B) → Q (.ref B) { s with heap := h', toks := tk' }) :
    wpAny (model Challenge.rw_au0003_01.row.prog w) A (call (.type "list") [.ref v]) Q E s := by
  refine hide fun G3 hG3 => ?_
  obtain ⟨o, hm, hdo, _⟩ := hd
  obtain ⟨ep, hat⟩ := (Heap.dictOf_iff.mpr ⟨o, (N _ hm).1, hdo⟩ : s.heap.DictOf (strKind Challenge.rw_au0003_01.row.prog w) d kvs).dictAt
  refine hG3 ?_
  refine kdx_call (knd := strKind Challenge.rw_au0003_01.row.prog w) (kvs := kvs) (ep := ep) hh ⟨_, (N _ hv).1, rfl, rfl⟩ hat hn fun h' tk acc c as hk hS hl hG hacc => ?_
  have ea : acc = (as.map Value.ref).toArray := by rw [← hacc, Array.toArray_toList]
  have hpair : ∀ (j : Nat) (a : Addr), as[j]? = some a → ∃ k u x, kvs[j]? = some (k, x) ∧ h'.get? a = some (tupOf #[.str k u, x] 0) := fun j a hj => by
    refine hide fun G4 hG4 => ?_
    obtain ⟨key, k, x, h1, h2, h3⟩ := hG.pairs j a hj
    obtain ⟨t, rfl⟩ := Value.isStrOf_shape h2
    refine hG4 ?_
    exact ⟨k, t, x, h1, h3⟩
  let tup : Addr → Obj := fun a => (h'.get? a).getD default
  have htup : ∀ a ∈ as, h'.get? a = some (tup a) := fun a ha => by
    refine hide fun G5 hG5 => ?_
    obtain ⟨j, hj⟩ := List.getElem?_of_mem ha
    obtain ⟨k, u, x, _, h2⟩ := hpair j a hj
    refine hG5 ?_
    show h'.get? a = some ((h'.get? a).getD default)
    rw [h2]; rfl
  refine h s.heap.objs.size as c h' tk (as.map (fun a => (a, tup a)) ++ (s.heap.objs.size, listOf (as.map Value.ref).toArray c) :: nw) (F.keeps hk) (fun q hq => ?_) (fun q hq => List.mem_append_right _ (.tail _ hq)) (List.mem_append_right _ (.head _)) hl (fun j k x hj => ?_) (fun q hq => Heap.lt_size (N q hq).1)
  · rcases List.mem_append.mp hq with hq | hq
    · refine hide fun G6 hG6 => ?_
      obtain ⟨a, ha, rfl⟩ := List.mem_map.mp hq
      refine hG6 ?_
      exact ⟨htup a ha, kdx_fresh F (Nat.le_of_lt (hG.above a ha))⟩
    · rcases List.mem_cons.mp hq with rfl | hq
      · exact ⟨by rw [← ea]; exact hS, kdx_fresh F (Nat.le_refl _)⟩
      · exact ⟨hk _ _ (N q hq).1, (N q hq).2⟩
  · have hjl : j < as.length := by rw [hl]; exact (List.getElem?_eq_some_iff.mp hj).1
    refine hide fun G7 hG7 => ?_
    obtain ⟨k', u, x', h1, h2⟩ := hpair j as[j] (List.getElem?_eq_getElem hjl)
    refine hG7 ?_
    rw [hj] at h1
    cases h1
    refine ⟨as[j], u, List.getElem?_eq_getElem hjl, List.mem_append_left _ (List.mem_map.mpr ⟨as[j], List.getElem_mem hjl, ?_⟩)⟩
    show (as[j], (h'.get? as[j]).getD default) = _
    rw [h2]; rfl

def Ds (w : World) (nw : Ldg) (xs : List Str) (ds : List Addr) : Prop := ∀ d ∈ ds, ∃ kvs, DictIn w nw d kvs ∧ Pairing xs kvs
theorem Ds.up {nw nw' : Ldg} {xs : List Str} {ds : List Addr} (h : Ds w nw xs ds) (k : ∀ q ∈ nw, q.1 ∈ ds → q ∈ nw') : Ds w nw' xs ds := fun d hd => by
  refine hide fun G8 hG8 => ?_
  obtain ⟨kvs, a, b⟩ := h d hd
  refine hG8 ?_
  exact ⟨kvs, a.mono fun q hq e => k q hq (by rw [e]; exact hd), b⟩

theorem wpAny_eqNil {A : Around} {E : Value → Shared → Prop} {s : Shared} {h₀ : Heap} {L a b : Addr} {nw : Ldg} {vs : List Value} {n k : Nat} {Q : Value → Shared → Prop} (N : News h₀ L s.heap nw) (ha : (a, listOf vs.toArray n) ∈ nw) (hb : (b, listOf #[] k) ∈ nw) (hu : A.units < cLine)
    (h : Q (.bool vs.isEmpty) s) : wpAny (model Challenge.rw_au0003_01.row.prog w) A (compareOp .Eq (.ref a) (.ref b)) Q E s := by
  refine cmp_ofEq ?_
  cases vs with
  | nil => exact SeqAt.RcAt.lists (e := fun _ => true) (isL N ha) (isL N hb) rfl hu (fun j h1 => absurd h1 (Nat.not_lt_zero _)) _ _ _ _ h
  | cons x r => exact SeqAt.RcAt.lists_lengths (isL N ha) (isL N hb) (by simp) hu _ _ _ _ h
theorem dictNeList {w : World} {nw : Ldg} {h₀ h : Heap} {L : Addr} (N : News h₀ L h nw) {d D : Addr} {kvs : List (Str × Value)} {its : Array Value} {k : Nat} (hd : DictIn w nw d kvs) (hD : (D, listOf its k) ∈ nw) : d ≠ D := by
  refine hide fun G9 hG9 => ?_
  obtain ⟨o, hm, ⟨es, ep, ⟨hc, _, _⟩, _⟩, _⟩ := hd
  refine hG9 ?_
  exact nneC N hm hD (by rw [hc]; show ¬ (Value.type "dict" = Value.type "list"); decide)

theorem sts_filter2 : ∀ {vs : List Value} {xs : List Str} {x : Str}, Sts vs xs → Sts (vs.filter (fun v => !decide (sOf v = some x))) (xs.filter (· != x))
  | [], [], _, _ => rfl
  | [], _ :: _, _, h => nomatch h
  | _ :: _, [], _, h => nomatch h
  | v :: r, y :: ys, x, h => by
    have h1 : sOf v = some y := (List.cons.inj h).1
    have h2 : Sts r ys := (List.cons.inj h).2
    by_cases e : y = x
    · rw [List.filter_cons_of_neg (by simp [h1, e]), List.filter_cons_of_neg (by simp [e])]; exact sts_filter2 h2
    · rw [List.filter_cons_of_pos (by simp [h1, e]), List.filter_cons_of_pos (by simpa using e)]
      have := sts_filter2 (x := x) h2
      unfold Sts at this ⊢
      rw [List.map_cons, List.map_cons, this, h1]

theorem n6 {n : Nat} (h : n ≤ 6) (h1 : 1 ≤ n) : 2600 - 3 * n + 3 ≤ 2600 - 3 * (n - 1) ∧ 450 - n + 1 ≤ 450 - (n - 1) ∧ n - 1 ≤ 5 ∧ n - 1 ≤ 6 ∧ n - 1 < n ∧ (n - 1).succ = n := by
  have : ∀ m, m < 7 → 1 ≤ m → 2600 - 3 * m + 3 ≤ 2600 - 3 * (m - 1) ∧ 450 - m + 1 ≤ 450 - (m - 1) ∧ m - 1 ≤ 5 ∧ m - 1 ≤ 6 ∧ m - 1 < m ∧ (m - 1).succ = m := by decide
  exact this n (Nat.lt_succ_of_le h) h1
theorem n6b {n : Nat} (h : n ≤ 6) : 440 ≤ 450 - n ∧ 2500 ≤ 2600 - 3 * n := by
  have : ∀ m, m < 7 → 440 ≤ 450 - m ∧ 2500 ≤ 2600 - 3 * m := by decide
  exact this n (Nat.lt_succ_of_le h)
inductive paPost (w : World) (n : Nat) (xs : List Str) (nw : Ldg) (r : Value) (nw' : Ldg) : Prop
  | mk (D : Nat) (k' : Nat) (ds : List Addr) (f1 : r = .ref D) (f2 : (D, listOf (List.toArray (ds.map Value.ref)) k') ∈ nw') (f3 : Ds w nw' xs ds) (f4 : ds.length ≤ 6 ^ n) (f5 : (∀ q ∈ nw, q.1 < D ∧ ∀ d ∈ ds, q.1 < d)) (f6 : Kp [] nw nw')

inductive paJ1 (w : World) (l D0 L : Addr) (n : Nat) (x0 : Str) (xr : List Str) (nw : Ldg) (i : Nat) (m : Str → Option Value) (nwi : Ldg) : Prop
  | mk (f1 : m (Str.ofString "names") = some (.ref l)) (f2 : m (Str.ofString "found") = some (.ref D0)) (ds : _) (k' : _) (f3 : (D0, listOf (List.toArray (ds.map Value.ref)) k') ∈ nwi) (f4 : Ds w nwi (x0 :: xr) ds) (f5 : ds.length ≤ i * 6 ^ (n - 1)) (f6 : ∀ d ∈ ds, d ≠ D0 ∧ d ≠ L + 1 ∧ ∀ q ∈ nw, q.1 < d)

inductive paJ2 (w : World) (l D0 L : Addr) (n i : Nat) (x0 : Str) (xr : List Str) (nw : Ldg) (j : Nat) (m : Str → Option Value) (nwi : Ldg) : Prop
  | mk (f1 : m (Str.ofString "names") = some (.ref l)) (f2 : m (Str.ofString "found") = some (.ref D0)) (ds : _) (k' : _) (f3 : (D0, listOf (List.toArray (ds.map Value.ref)) k') ∈ nwi) (f4 : Ds w nwi (x0 :: xr) ds) (f5 : ds.length ≤ i * 6 ^ (n - 1) + j) (f6 : ∀ d ∈ ds, d ≠ D0 ∧ d ≠ L + 1 ∧ ∀ q ∈ nw, q.1 < d)

theorem pairings_ct (n : Nat) : ∀ {l k : Nat} {vs : List Value} {xs : List Str}, xs.length ≤ n → n ≤ 6 → Sts vs xs → xs.Nodup →
    Ct w 203 [.ref l] (450 - n) (2600 - 3 * n) (fun nw => (l, listOf vs.toArray k) ∈ nw)
      (paPost w n xs) := by
  induction n using Nat.strongRecOn with
  | _ n ih =>
    intro l k vs xs hn h6 hs hnd
    refine' Ct.introC (binds := [(Str.ofString "names", .ref l)]) (by k_is) (by k_is) (by exact Nat.lt_of_le_of_lt (Nat.sub_le _ _) (by decide)) (by exact rfl) (by exact rfl) (by decide +kernel) (by exact rfl) (by exact rfl) (by exact rfl) ?_
    intro pp loose mean mg mb gd outer A₀ base g L h₁ tk s nw cells B F X N Y lt hT hP
    have hcl0 : 2600 - 3 * n + 3 < cLine := Nat.lt_of_le_of_lt (show 2600 - 3 * n + 3 ≤ 2603 by omega) (by decide)
    refine hide fun G10 hG10 => ?_
    obtain ⟨oc, rfl, hc0⟩ := CellsAre.one (n := Str.ofString "other") (c := L + 1) Y
    have hc : oc.data = .cell none := hc0
    simp only [List.cons_append, List.nil_append] at N
    obtain ⟨m0, F0, hm0⟩ : ∃ m0, Fr g L h₁ m0 ∧ m0 (Str.ofString "names") = some (.ref l) := ⟨_, F, rfl⟩
    refine hG10 ?_
    replace F := fr_in F0 hm0
    clear F0 Y hc0
    have hlen := hs.len
    refine hideQ fun Q0 hQ0 => ?_
    iterate 7 walk1
    have N1 := ‹News g L _ _›
    have F1 := ‹Fr g L _ _›
    refine wpAny_eqNil N1 (.tail _ (.tail _ hP)) (.head _) (by exact hcl0) ?_
    refine wpAny_truthy_bool ?_
    cases vs with
    | nil =>
      have : xs = [] := by have := hs.len; exact List.length_eq_zero_iff.mp this.symm
      subst this
      rw [if_pos (by rfl)]
      iterate 8 walk1
      have z1 := ‹_ < _ ∧ L + 1 < _ ∧ AllLt _ nw›
      have z2 := ‹_ < _ ∧ _ < _ ∧ L + 1 < _ ∧ AllLt _ nw›
      refine hQ0 _ _ ?_
      refine ⟨_, _, _, ‹Fr g L _ _›, ‹News g L _ _›, rfl, rfl, rfl, _, 0, [_], rfl, .head _, fun d hd => ?_, Nat.pos_of_ne_zero (by simp), fun q hq => ⟨tb_ltOf z2.2.2.2 q hq, fun d hd => ?_⟩, fun q hq _ => .tail _ (.tail _ (.tail _ (.tail _ hq)))⟩
      · rw [List.mem_singleton.mp hd]
        exact ⟨[], ⟨_, .tail _ (.head _), ‹_›, ‹_›⟩, pairing_nil⟩
      · rw [List.mem_singleton.mp hd]
        exact tb_ltOf z1.2.2 q hq
    | cons v0 vr =>
    refine hide fun G11 hG11 => ?_
    obtain ⟨x0, xr, rfl⟩ : ∃ x0 xr, xs = x0 :: xr := by
      cases xs with
      | nil => cases hlen
      | cons a b => exact ⟨a, b, rfl⟩
    obtain ⟨x', t0, hv0, hx'⟩ := hs.get (i := 0) (v := v0) rfl
    refine hG11 ?_
    have ex : x' = x0 := (Option.some.inj hx').symm
    rw [ex] at hv0
    subst hv0
    have hs' : Sts vr xr := (List.cons.inj hs).2
    have hl' := hs'.len
    have hnd' := (List.nodup_cons.mp hnd).2
    rw [if_neg (by simp)]
    have N2 : News g L _ ((L + 1, oc) :: nw) := nsub N1 fun q hq => .tail _ hq
    iterate 7 walk1
    refine wpAny_execs_cons ?_
    have F3 := ‹Fr g L _ _›
    have N3 := ‹News g L _ _›
    have l3 := ‹L + 1 < _ ∧ AllLt _ nw›
    refine For_open ?_ (by intro _; rfl)
    iterate 7 walk1
    dsimp only
    have hvl : (Value.str x0 t0 :: vr).length ≤ 6 := by rw [hs.len]; exact Nat.le_trans hn h6
    refine sliceFrom_V (j := 1) F3 N3 (.tail _ (.tail _ hP)) (szN (Nat.le_trans hvl (by decide))) rfl (fun D9 h9 F10' N10' lt10' => ?_) (by with_unfolding_all rfl) (by intro _; with_unfolding_all rfl)
    rw [show (Value.str x0 t0 :: vr).drop 1 = vr from rfl] at N10'
    refine hide fun G12 hG12 => ?_
    obtain ⟨D0, F10, N10, l3', hD9⟩ : ∃ D0, Fr g L h9 (fun y => if y = Str.ofString "found" then some (.ref D0) else if y = Str.ofString "names" then some (.ref l) else m0 y) ∧ News g L h9 ((D9, listOf vr.toArray 0) :: (D0, listOf #[] 0) :: (L + 1, oc) :: nw) ∧ (L + 1 < D0 ∧ AllLt D0 nw) ∧ D0 < D9 := ⟨_, F10', N10', l3, lt10' _ (.head _)⟩
    refine hG12 ?_
    clear F10' N10' lt10' F3 N3 l3
    have hn1 : 1 ≤ n := Nat.le_trans (Nat.succ_le_succ (Nat.zero_le _)) hn
    have hD0 : ∀ q ∈ nw, q.1 ≠ D0 := fun q hq => Nat.ne_of_lt (tb_ltOf l3'.2 q hq)
    have hnc : ∀ q ∈ nw, q.1 ≠ L + 1 := fun q hq => Nat.ne_of_lt (Nat.lt_succ_of_lt (lt q hq))
    have hD9L : D9 ≠ L + 1 := Nat.ne_of_gt (Nat.lt_trans l3'.1 hD9)
    refine forK_listC (c := L + 1) (oc₀ := oc) (v₀ := none) (items := vr.toArray) (by rfl) (by rfl) (by rfl) (by rfl) (.tail _ (.tail _ (.head _))) hc (by rfl) F10 N10 (.head _) [D0] (fun a ha => by rw [List.mem_singleton.mp ha]; exact ⟨_, .tail _ (.head _)⟩) (by simpa using Nat.ne_of_gt hD9) (by simpa using Nat.ne_of_lt l3'.1) hD9L
      (paJ1 w l D0 L n x0 xr nw)
      (fun i m nwi nwi' hJ hk => ?_) ⟨rfl, rfl, [], 0, .tail _ (.head _), (fun _ h => nomatch h), Nat.zero_le _, (fun _ h => nomatch h)⟩ ?_ ?_
    · refine hide fun G13 hG13 => ?_
      obtain ⟨e1, e2, ds, k', e3, e4, e5, e6⟩ := hJ
      refine hG13 ?_
      refine ⟨e1, e2, ds, k', hk _ e3 rfl (Nat.ne_of_gt l3'.1), fun d hd => ?_, e5, e6⟩
      refine hide fun G14 hG14 => ?_
      obtain ⟨kvs, a, b⟩ := e4 d hd
      refine hG14 ?_
      exact ⟨kvs, a.notItC hk (e6 d hd).2.1, b⟩
    · intro i v m₁ nw₁ h11 tk11 hv hJ K11 hcc F11 N11
      refine hide fun G15 hG15 => ?_
      obtain ⟨e1, e2, ds, k', e3, e4, e5, e6⟩ := hJ
      obtain ⟨oc1, hc1, hcd⟩ := hcc
      obtain ⟨y, ty, rfl, hy⟩ := hs'.get (i := i) (by simpa using hv)
      refine hG15 ?_
      have hyx := List.mem_of_getElem? hy
      change Fr g L h11 _ at F11
      change News g L h11 _ at N11
      replace F11 := fr_in (fr_in F11 e1) (a := Str.ofString "found") ((if_neg (by decide)).trans e2)
      have up11 : ∀ q ∈ nw, q ∈ nw₁ := fun q hq => K11 q (.tail _ (.tail _ (.tail _ hq))) (by simp only [List.mem_cons, List.not_mem_nil, or_false, not_or]; exact ⟨hnc q hq, hD0 q hq⟩)
      have hP11 := up11 _ hP
      refine hideQ fun Q1 hQ1 => ?_
      iterate 1 walk1
      refine Assign_ListComp_open (cl := [(Str.ofString "other", L + 1)]) (by with_unfolding_all rfl) (by with_unfolding_all rfl) (by rfl) (by decide) ?_ (by intro _; rfl)
      iterate 7 walk1
      dsimp only
      refine sliceFrom_V (j := 1) F11 N11 hP11 (szN (Nat.le_trans hvl (by decide))) rfl (fun D12 h12 F12 N12 lt12 => ?_) (by with_unfolding_all rfl) (by intro _; with_unfolding_all rfl)
      rw [show (Value.str x0 t0 :: vr).drop 1 = vr from rfl] at N12
      refine compA_list (by rfl) (by rfl) (by rfl) (by decide) rfl rfl F12 N12 (.head _) (by rw [List.size_toArray]; exact szN (Nat.le_trans (Nat.le_of_succ_le hvl) (by decide))) (fun j ys nj => ys = (vr.take j).filter (fun v => !decide (sOf v = some y)) ∧ ((D12, listOf vr.toArray 0) :: nw₁) = nj) ⟨rfl, rfl⟩ ?_ ?_
      · intro j v ys nj nw₂ C oC m₂ h₁₀ tk₁₀ hv' hJ hs0 hsj hC hnC hm hF hN hLC
        refine hide fun G16 hG16 => ?_
        obtain ⟨rfl, rfl⟩ := hJ
        refine hG16 ?_
        unfold CTurn tests
        refine hideQ fun Q3 hQ3 => ?_
        refine wpAny_tests_one ?_
        iterate 1 walk1
        refine nameL_C hN hC hnC hm ?_ (by rfl) (by rfl) (by decide)
        refine lcf_cell (c := L + 1) hN rfl (hsj _ (.tail _ hc1)) hcd ?_ rfl rfl
        have hv5' : vr[j]? = some v := by simpa using hv'
        refine hide fun Gy hGy => ?_
        obtain ⟨z, tz, rfl, hz⟩ := hs'.get hv5'
        refine hGy ?_
        iterate 2 walk1
        have htk : vr.take (j + 1) = vr.take j ++ [.str z tz] := by rw [List.take_add_one, hv5']; rfl
        refine hQ3 _ _ ?_
        by_cases hzy : z = y
        · rw [if_neg (by simp [hzy])]
          refine ⟨_, _, nw₂, [], rfl, hF, hN, fun _ h => h, (fun _ h => nomatch h), ?_, rfl⟩
          rw [htk, List.filter_append, List.filter_cons_of_neg (by simp [hzy, sOf])]; simp
        · rw [if_pos (by simpa using hzy)]
          refine nameL_C hN hC hnC hm ?_ (by rfl) (by rfl) (by decide)
          refine ⟨_, _, nw₂, [], rfl, hF, hN, fun _ h => h, (fun _ h => nomatch h), ?_, rfl⟩
          rw [htk, List.filter_append, List.filter_cons_of_pos (by simp [hzy, sOf])]; simp
      intro R h13 tk13 ys nj hJ' hs0 F13 N13 lt13
      refine hide fun G17 hG17 => ?_
      obtain ⟨rfl, rfl⟩ := hJ'
      refine hG17 ?_
      rw [List.size_toArray, List.take_length] at N13
      have hrs := sts_filter2 (x := y) hs'
      have hrn : (xr.filter (· != y)).Nodup := hnd'.sublist List.filter_sublist
      have hrl : (xr.filter (· != y)).length ≤ n - 1 := Nat.le_trans (List.length_filter_le _ xr) (Nat.le_sub_of_add_le hn)
      iterate 1 walk1
      refine For_open ?_ (by intro _; rfl)
      iterate 6 walk1
      refine ⟨X.keeps F13.keep, ?_⟩
      refine Ct.use (ih (n - 1) (n6 h6 hn1).2.2.2.2.1 hrl (n6 h6 hn1).2.2.2.1 hrs hrn) (n6 h6 hn1).2.1 (n6 h6 hn1).1 B F13 X N13 hT rfl (.head _) fun r nw5 h5 tk5 F5 N5 hp => ?_
      refine hide fun G18 hG18 => ?_
      obtain ⟨Dp, kp, ds2, rfl, g1, g2, g3, g4, K5⟩ := hp
      refine hG18 ?_
      have up5 : ∀ q ∈ nw₁, q ∈ nw5 := fun q hq => Kp.nil K5 q (.tail _ (.tail _ hq))
      have hDp : Dp ∉ [D0] := by
        have := (g4 _ (.tail _ (.tail _ e3))).1
        simpa using Nat.ne_of_gt this
      refine forK_list (items := (ds2.map Value.ref).toArray) (by rfl) (by rfl) (by rfl) F5 N5 g1 [D0] (fun a ha => by rw [List.mem_singleton.mp ha]; exact ⟨_, up5 _ e3⟩) hDp
        (paJ2 w l D0 L n i x0 xr nw)
        (fun j m nwi nwi' hJ hk => ?_) ⟨rfl, rfl, ds, k', up5 _ e3, e4.up fun q hq _ => up5 q hq, e5, e6⟩ ?_ ?_
      · refine hide fun G19 hG19 => ?_
        obtain ⟨y1, y2, ds, k', y3, y4, y5, y6⟩ := hJ
        refine hG19 ?_
        refine ⟨y1, y2, ds, k', hk _ y3 rfl, fun d hd => ?_, y5, y6⟩
        refine hide fun G20 hG20 => ?_
        obtain ⟨kvs, a, b⟩ := y4 d hd
        refine hG20 ?_
        exact ⟨kvs, a.notIt hk, b⟩
      · intro j v m₃ nw₃ h14 tk14 hv' hJ K14 F14 N14
        refine hide fun G21 hG21 => ?_
        obtain ⟨y1, y2, ds', k'', y3, y4, y5, y6⟩ := hJ
        obtain ⟨dp, hdp, rfl⟩ : ∃ dp, ds2[j]? = some dp ∧ Value.ref dp = v := by simpa using hv'
        obtain ⟨kvs, z1, z2⟩ := g2 dp (List.mem_of_getElem? hdp)
        refine hG21 ?_
        have hdpD := dictNeList N5 z1 (up5 _ e3)
        have up14 : ∀ q ∈ nw5, q.1 ≠ D0 → q ∈ nw₃ := fun q hq hn => K14 q hq (by simpa using hn)
        have z14 : DictIn w nw₃ dp kvs := z1.mono fun q hq e => up14 q hq (by rw [e]; exact hdpD)
        have hP14 := up14 _ (up5 _ hP11) (hD0 _ hP)
        have hc14 := up14 _ (up5 _ hc1) (Nat.ne_of_lt l3'.1)
        have hkl := z2.len
        have hxrl : xr.length ≤ 5 := Nat.le_of_succ_le_succ (Nat.le_trans hn h6)
        have hfl := List.length_filter_le (· != y) xr
        change Fr g L h14 _ at F14
        change News g L h14 _ at N14
        replace F14 := fr_in (fr_in (fr_in F14 (a := Str.ofString "names") (va := .ref l) ((if_neg (by decide)).trans y1)) (a := Str.ofString "found") (va := .ref D0) ((if_neg (by decide)).trans ((if_neg (by decide)).trans y2))) (a := Str.ofString "pairs") (va := .ref dp) (by with_unfolding_all rfl)
        refine hideQ fun Q2 hQ2 => ?_
        iterate 19 walk1
        refine item_V (j := 0) (v := .str x0 t0) N14 hP14 rfl (by simp) (by rw [List.size_toArray]; exact szN (Nat.le_trans hvl (by decide))) ?_ (by with_unfolding_all rfl)
        iterate 1 walk1
        refine wpAny_Name (wpAny_loadName_cell (by rfl) (by rfl) (by rfl) ⟨oc1, (N14 _ hc14).1, hcd⟩ ?_) (by decide)
        iterate 1 walk1
        refine kup_newTuple F14 N14 ?_ (by rw [sizeLine_eq]; exact (by decide : 2 ≤ 16777216))
        intro T1 h15 F15 N15 lt15
        iterate 3 walk1
        refine wpAny_Name (wpAny_loadName_cell (by rfl) (by rfl) (by rfl) ⟨oc1, (N15 _ (.tail _ hc14)).1, hcd⟩ ?_) (by decide)
        iterate 4 walk1
        refine item_V (j := 0) (v := .str x0 t0) N15 (.tail _ hP14) rfl (by simp) (by rw [List.size_toArray]; exact szN (Nat.le_trans hvl (by decide))) ?_ (by with_unfolding_all rfl)
        iterate 1 walk1
        refine kup_newTuple F15 N15 ?_ (by rw [sizeLine_eq]; exact (by decide : 2 ≤ 16777216))
        intro T2 h16 F16 N16 lt16
        iterate 2 walk1
        have F17 := ‹Fr g L _ _›
        have N17 := ‹News g L _ _›
        refine hide fun G22 hG22 => ?_
        obtain ⟨odp, hodp, hodo, hods⟩ := id z14
        refine hG22 ?_
        have hodp1 := List.Mem.tail (T2, tupOf #[.str y ty, .str x0 t0] 0) (List.Mem.tail (T1, tupOf #[.str x0 t0, .str y ty] 0) hodp)
        iterate 6 walk1
        refine kdl_method (knd := strKind Challenge.rw_au0003_01.row.prog w) PySem.F.slot_dict_items PySem.F.type_dict_items N17 (.tail _ hodp1) hodo ?_
        iterate 1 walk1
        refine kdx_view (knd := strKind Challenge.rw_au0003_01.row.prog w) F17 N17 (.tail _ hodp1) hodo hods fun Vw h18 F18 N18 lt18 => ?_
        iterate 1 walk1
        refine itemsList_V (by rfl) F18 N18 (.head _) ⟨odp, .tail _ (.tail _ hodp1), hodo, hods⟩ (by rw [sizeLine_eq]; omega) fun IB as c19 h19 tk19 nw19 F19 N19 up19 hIB hasl hpairs lt19 => ?_
        have up3 : ∀ q ∈ nw₃, q ∈ nw19 := fun q hq => up19 q (.tail _ (.tail _ (.tail _ (.tail _ hq))))
        refine add_lists (vs := [.ref T1, .ref T2]) (ws := as.map Value.ref) F19 N19 (isL N19 (up19 _ (.tail _ (.head _)))) (isL N19 hIB) (fun h20 F20 N20 => ?_) (by rw [sizeLine_eq]; simp; omega)
        iterate 1 walk1
        refine dictOf_V (kvs := (x0, .str y ty) :: (y, .str x0 t0) :: kvs) (by rfl) hT.nolimit F20 N20 (.head _) (Pairing.cons hnd hyx z2).nd (by rw [sizeLine_eq]; simp; omega) (by simp [hasl]) (fun q kk vv hq => ?_) fun dn on h21 tk21 F21 N21 hdon hdsn lt21 => ?_
        · cases q with
          | zero => cases hq; exact ⟨T1, t0, 0, by simp, .tail _ (up19 _ (.tail _ (.tail _ (.tail _ (.head _)))))⟩
          | succ q =>
            cases q with
            | zero => cases hq; exact ⟨T2, ty, 0, by simp, .tail _ (up19 _ (.tail _ (.tail _ (.head _))))⟩
            | succ q =>
              refine hide fun G23 hG23 => ?_
              obtain ⟨a, u, p1, p2⟩ := hpairs q kk vv (by simpa using hq)
              refine hG23 ?_
              exact ⟨a, u, 0, by simp [p1], .tail _ p2⟩
        iterate 1 walk1
        have hp5 : 6 ^ (n - 1) ≤ 6 ^ 5 := Nat.pow_le_pow_right (by decide) (n6 h6 hn1).2.2.1
        have hi5 : i ≤ 5 := Nat.le_trans (Nat.le_of_lt (List.getElem?_eq_some_iff.mp hy).1) hxrl
        have hip : i * 6 ^ (n - 1) ≤ 5 * 7776 := Nat.mul_le_mul hi5 (by simpa using hp5)
        have hj5 : j ≤ 7776 := Nat.le_trans (Nat.le_of_lt (List.getElem?_eq_some_iff.mp hdp).1) (Nat.le_trans g3 hp5)
        refine append_V F21 N21 (.tail _ (.tail _ (up3 _ y3))) (fun h22 nw22 F22 N22 a22 K22 => ?_) (by rw [sizeLine_eq]; simp only [List.size_toArray, List.length_map]; omega)
        have hdn : dn ≠ D0 := Nat.ne_of_gt (lt21 _ (.tail _ (up3 _ y3)))
        refine wpAny_execs_nil (hQ2 _ _ ⟨_, _, _, nw22, rfl, F22, N22, fun q hq hn => K22 q (.tail _ (.tail _ (up3 q hq))) hn, rfl, rfl, ds' ++ [dn], _, by simpa using a22, fun d hd => ?_, by simp; omega, fun d hd => ?_⟩)
        · rcases List.mem_append.mp hd with hd | hd
          · refine hide fun G24 hG24 => ?_
            obtain ⟨kv, a, b⟩ := y4 d hd
            refine hG24 ?_
            exact ⟨kv, a.mono fun q hq e => K22 q (.tail _ (.tail _ (up3 q hq))) (by rw [e]; simpa using (y6 d hd).1), b⟩
          · rw [List.mem_singleton.mp hd]
            exact ⟨_, ⟨on, K22 _ (.head _) (by simpa using hdn), hdon, hdsn⟩, Pairing.cons hnd hyx z2⟩
        · rcases List.mem_append.mp hd with hd | hd
          · exact y6 d hd
          · rw [List.mem_singleton.mp hd]
            exact ⟨hdn, Nat.ne_of_gt (lt21 _ (.tail _ (up3 _ hc14))), fun q hq => lt21 _ (.tail _ (up3 _ (up14 _ (up5 _ (up11 q hq)) (hD0 q hq))))⟩
      · intro m₃ nw₃ h14 tk14 hJ K14 F14 N14
        refine hide fun G25 hG25 => ?_
        obtain ⟨y1, y2, ds', k'', y3, y4, y5, y6⟩ := hJ
        refine hG25 ?_
        refine wpAny_execs_nil (hQ1 _ _ ⟨_, _, _, nw₃, rfl, F14, N14, fun q hq hn => K14 q (up5 q hq) hn, y1, y2, ds', k'', y3, y4, ?_, y6⟩)
        have : ds2.length ≤ 6 ^ (n - 1) := g3
        simp only [List.size_toArray, List.length_map] at y5
        rw [Nat.add_mul]
        exact Nat.le_trans y5 (Nat.add_le_add_left (by rw [Nat.one_mul]; exact this) _)
    · intro m₁ nw₁ h11 tk11 hJ K11 F11 N11
      refine hide fun G26 hG26 => ?_
      obtain ⟨e1, e2, ds, k', e3, e4, e5, e6⟩ := hJ
      refine hG26 ?_
      change Fr g L h11 _ at F11
      change News g L h11 _ at N11
      replace F11 := fr_in F11 e2
      iterate 3 walk1
      refine hQ0 _ _ ?_
      refine ⟨_, _, _, F11, N11, rfl, rfl, rfl, D0, k', ds, rfl, e3, e4, ?_, fun q hq => ⟨tb_ltOf l3'.2 q hq, fun d hd => (e6 d hd).2.2 q hq⟩, fun q hq _ => K11 q (.tail _ (.tail _ (.tail _ hq))) (by simp only [List.mem_cons, List.not_mem_nil, or_false, not_or]; exact ⟨hnc q hq, hD0 q hq⟩)⟩
      simp only [List.size_toArray] at e5
      have h1 : vr.length ≤ 6 := Nat.le_of_succ_le hvl
      have h2 : vr.length * 6 ^ (n - 1) ≤ 6 * 6 ^ (n - 1) := Nat.mul_le_mul_right _ h1
      have h3 : 6 * 6 ^ (n - 1) = 6 ^ n := by rw [← Nat.pow_succ']; congr 1; exact (n6 h6 hn1).2.2.2.2.2
      exact Nat.le_trans e5 (Nat.le_trans h2 (Nat.le_of_eq h3))
end Mine
namespace Mine
theorem fill16 (w : World) : (Challenge.rw_au0003_01.Holds ∧ (hd.heap_39 w.params).In default) → True := by
  k_fill; intro _; trivial
variable {w : World}

theorem isList_keep {g h : Heap} {L : Addr} {m : Str → Option Value} {l : Addr} {its : Array Value} (F : Fr g L h m) (hl : g.IsList l its) : h.IsList l its := let ⟨o, ho, r⟩ := hl; ⟨o, F.keep _ _ ho, r⟩

theorem sliceToI {A : Around} {E : Value → Shared → Prop} {h₀ : Heap} {L : Addr} {m : Str → Option Value} {nw : Ldg} {value slice : Expr} {l : Addr} {vs : List Value} {j : Nat} {u : Tok} {k : Int} {hp : Heap} {gg : Array GenState} {dd : Drawn} {tt : Nat} {oo : OsState} {Q : Value → Shared → Prop} (F : Fr h₀ L hp m) (N : News h₀ L hp nw) (hl : hp.IsList l vs.toArray) (hsz : vs.length ≤ sizeLine) (hk : k = (j : Int))
    (h : ∀ D h', Fr h₀ L h' m → News h₀ L h' ((D, listOf (vs.take j).toArray 0) :: nw) → (∀ p ∈ nw, p.1 < D) → Q (.ref D) ⟨h', gg, dd, tt, oo⟩)
    (hs : subscripted slice false (.ref l) (.ref hp.objs.size) = operate [.ref hp.objs.size, .ref l] (getItem (.ref l) (.ref hp.objs.size))) (ht : ∀ r, letTemporaryGo value (.ref l) r = pure ()) :
    wpAny (model Challenge.rw_au0003_01.row.prog w) A (subscriptTail value slice (.ref l) (.ref hp.objs.size)) Q E ⟨hp.push { cls := .type "slice", data := .fields #[.none, .int k u, .none] }, gg, dd, tt, oo⟩ := by
  subst hk
  have e : slicePick vs.toArray none (some (j : Int)) none = (vs.take j).toArray := by
    rw [kmk_pick_nat vs.toArray (a := 0) (b := min j vs.length) (by simp only [sliceBounds, Option.getD_none, show (1 : Int) > 0 by decide, if_true, if_neg (show ¬ ((j : Int) < 0) by omega), List.size_toArray]; congr 1; congr 1; omega)]
    show ((vs.drop 0).take (min j vs.length - 0)).toArray = _
    rw [List.drop_zero, Nat.sub_zero, kmk_take_min]
  refine kmk_slice (s := ⟨hp, gg, dd, tt, oo⟩) F N hl .none (.int _ _) (fun D h' F' N' l1 => h D h' F' (by rw [e] at N'; exact N') l1) hs ht (by simpa using hsz)

theorem ints_take {vs : List Value} {zs : List Int} (h : IntsAre vs zs) : ∀ n, IntsAre (vs.take n) (zs.take n) := by
  induction h with
  | nil => intro n; simp; exact .nil
  | cons z t _ ih =>
    intro n
    cases n with
    | zero => exact .nil
    | succ n => exact .cons z t (ih n)

/-- the rows of the law are tables that hold both ways -/
theorem rows_ok {ns : List Str} {U' : Str → List Str} (hnd : ns.Nodup) (h : ∀ x ∈ ns, (U' x).Perm (ns.filter (· != x))) : Ok (fun x => if x ∈ ns then U' x else []) ∧ Cl ns (fun x => if x ∈ ns then U' x else []) := by
  have key : ∀ x y, y ∈ (if x ∈ ns then U' x else []) ↔ x ∈ ns ∧ y ∈ ns ∧ y ≠ x := fun x y => by
    by_cases hx : x ∈ ns
    · rw [if_pos hx, (h x hx).mem_iff]
      simp [List.mem_filter, hx]
    · rw [if_neg hx]; simp [hx]
  refine ⟨⟨fun x y hy => ?_, fun x => ?_, fun x hx => ?_⟩, ⟨fun x hx => ?_, fun x y hy => ?_⟩⟩
  · refine hide fun G1 hG1 => ?_
    obtain ⟨a, b, c⟩ := (key x y).mp hy
    refine hG1 ?_
    exact (key y x).mpr ⟨b, a, Ne.symm c⟩
  · by_cases hx : x ∈ ns
    · rw [if_pos hx]
      exact (h x hx).nodup_iff.mpr (hnd.sublist List.filter_sublist)
    · rw [if_neg hx]; exact List.nodup_nil
  · exact ((key x x).mp hx).2.2 rfl
  · cases e : (if x ∈ ns then U' x else []) with
    | nil => exact absurd e hx
    | cons y r => exact ((key x y).mp (by rw [e]; exact .head _)).1
  · exact ((key x y).mp hy).2.1

theorem neCell {h₀ h : Heap} {L a c : Addr} {o oc : Obj} {v : Option Value} {nw : Ldg} (N : News h₀ L h nw) (ha : (a, o) ∈ nw) (hc : (c, oc) ∈ nw) (hd : oc.data = .cell v) (ho : ∀ v, o.data ≠ .cell v) : a ≠ c := fun e => by
  subst e
  exact ho v (by rw [nsame N ha hc]; exact hd)
theorem dictNeCell {w : World} {h₀ h : Heap} {L a c : Addr} {oc : Obj} {v : Option Value} {nw : Ldg} {kvs : List (Str × Value)} (N : News h₀ L h nw) (ha : DictIn w nw a kvs) (hc : (c, oc) ∈ nw) (hd : oc.data = .cell v) : a ≠ c := by
  refine hide fun G2 hG2 => ?_
  obtain ⟨o, hm, ⟨es, ep, ⟨_, _, _⟩, h2, _⟩, _⟩ := ha
  refine hG2 ?_
  exact neCell N hm hc hd fun v e => by rw [h2] at e; cases e
theorem TR.off {h₀ h : Heap} {L c : Addr} {oc : Obj} {v : Option Value} {nw nw' : Ldg} {ns : List Str} {B : Str → Addr} {V : Str → List Str} (t : TR nw ns B V) (N : News h₀ L h nw) (hc : (c, oc) ∈ nw) (hd : oc.data = .cell v) (K : Kp [c] nw nw') : TR nw' ns B V := fun x hx => by
  refine hide fun G3 hG3 => ?_
  obtain ⟨us, k, a, b⟩ := t x hx
  refine hG3 ?_
  exact ⟨us, k, K _ a (by simpa using neCell N a hc hd (fun v e => nomatch e)), b⟩
theorem DictIn.off {w : World} {h₀ h : Heap} {L a c : Addr} {oc : Obj} {v : Option Value} {nw nw' : Ldg} {kvs : List (Str × Value)} (t : DictIn w nw a kvs) (N : News h₀ L h nw) (hc : (c, oc) ∈ nw) (hd : oc.data = .cell v) (K : Kp [c] nw nw') : DictIn w nw' a kvs :=
  t.mono fun q hq e => K q hq (by rw [e]; simpa using dictNeCell N t hc hd)

theorem keysList_V {w : World} {A : Around} {E : Value → Shared → Prop} {s : Shared} {h₀ : Heap} {L : Addr} {m : Str → Option Value} {nw : Ldg} {d : Addr} {ns : List Str} {f : Str → Value} {Q : Value → Shared → Prop} (hh : A.handled = none) (F : Fr h₀ L s.heap m) (N : News h₀ L s.heap nw) (hd : DictIn w nw d (ns.map fun x => (x, f x))) (hn : ns.length ≤ sizeLine)
    (h : ∀ (D : Addr) c h' tk (us : List Value), Fr h₀ L h' m → News h₀ L h' ((D, listOf us.toArray c) :: nw) → (∀ q ∈ nw, q.1 < D) → Sts us ns → Q (.ref D) { s with heap := h', toks := tk }) :
    wpAny (model Challenge.rw_au0003_01.row.prog w) A (call (.type "list") [.ref d]) Q E s := by
  refine hide fun G4 hG4 => ?_
  obtain ⟨ep, hat⟩ := (hd.dictOf N).dictAt
  obtain ⟨o, hm, hdo, hds⟩ := hd
  refine hG4 ?_
  refine kdl_N (kdl_dict (knd := strKind Challenge.rw_au0003_01.row.prog w) hds) hh F N hat (by simpa using hn) fun D c h' tk us F' N' lt hl hp => h D c h' tk us F' N' lt ?_
  refine List.ext_getElem? fun j => ?_
  simp only [List.getElem?_map]
  cases e : us[j]? with
  | none =>
    have h1 : us.length ≤ j := by simpa using e
    have h2 : ns[j]? = none := by simp at hl ⊢; omega
    rw [h2]; rfl
  | some v =>
    refine hide fun G5 hG5 => ?_
    obtain ⟨k, x, h1, h2⟩ := hp j v e
    obtain ⟨hx, _⟩ := valueAt_at h1
    obtain ⟨t, rfl⟩ := Value.isStrOf_shape h2
    refine hG5 ?_
    rw [hx]; rfl

noncomputable def liftF {γ : Type} (ns : List Str) (P : Str → Addr) (d : γ) (f : Str → γ) : Addr → γ := fun a => match ns.find? (fun x => P x = a) with
  | some x => f x
  | none => d
theorem liftF_at {γ : Type} {ns : List Str} {P : Str → Addr} {d : γ} {f : Str → γ} (inj : ∀ x ∈ ns, ∀ y ∈ ns, P x = P y → x = y) {x : Str} (hx : x ∈ ns) : liftF ns P d f (P x) = f x := by
  unfold liftF
  cases e : ns.find? (fun z => P z = P x) with
  | none => exact absurd (List.find?_eq_none.mp e x hx) (by simp)
  | some z =>
    have h1 := List.find?_some e
    refine hide fun G6 hG6 => ?_
    obtain rfl := inj z (List.mem_of_find?_eq_some e) x hx (by simpa using h1)
    refine hG6 ?_
    rfl
theorem toks_of {nw : Ldg} {ns : List Str} {P D : Str → Addr} {row : Str → List Addr} (h : ∀ x ∈ ns, Sp nw (P x) (D x) x (row x)) : ∃ tt : Str → Tok, ∀ x ∈ ns, ∃ l k hs ts pn op n, (P x, instObj 184 (D x)) ∈ nw ∧ (D x, dictOf (PD hs ts (.str x (tt x)) (.ref l) .none pn op) n) ∈ nw ∧ (l, plist (row x) k) ∈ nw := by
  have key : ∀ x ∈ ns, ∃ t, ∃ l k hs ts pn op n, (P x, instObj 184 (D x)) ∈ nw ∧ (D x, dictOf (PD hs ts (.str x t) (.ref l) .none pn op) n) ∈ nw ∧ (l, plist (row x) k) ∈ nw := fun x hx => by
    refine hide fun G7 hG7 => ?_
    obtain ⟨l, k, hs, ts, pn, op, n, t, r1, r2, r3⟩ := h x hx
    refine hG7 ?_
    exact ⟨t, l, k, hs, ts, pn, op, n, r1, r2, r3⟩
  refine ⟨fun x => if hx : x ∈ ns then Classical.choose (key x hx) else 0, fun x hx => ?_⟩
  dsimp only
  rw [dif_pos hx]
  exact Classical.choose_spec (key x hx)

theorem eqAt_rows {A : Around} {s : Shared} {h₀ : Heap} {L : Addr} {nw : Ldg} {a b : Addr} {us ws : List Value} {xs : List Str} {k k' : Nat} (hu : A.units < cLine) (N : News h₀ L s.heap nw) (ha : (a, listOf us.toArray k) ∈ nw) (hb : (b, listOf ws.toArray k') ∈ nw) (h1 : Sts us xs) (h2 : Sts ws xs) : SeqAt.EqAt A s (.ref a) (.ref b) true := by
  by_cases hne : a = b
  · subst hne
    intro prog w E Q hq
    unfold eqBool
    refine wpAny_holding ?_
    rw [if_pos (by simp)]
    exact (wpAny_pure hq : wpAny (model prog w) A (pure true) Q E s)
  · have l1 := h1.len
    have l2 := h2.len
    have key := SeqAt.RcAt.lists (A := A) (s := s) (e := fun _ => true) (isL N ha) (isL N hb) (by simp; omega) hu (fun j h1' h2' => by
      refine hide fun G8 hG8 => ?_
      obtain ⟨y, t, e1, e2⟩ := h1.get (i := j) (v := us.toArray[j]) (by simp)
      obtain ⟨y', t', e1', e2'⟩ := h2.get (i := j) (v := ws.toArray[j]) (by simp)
      refine hG8 ?_
      rw [e2] at e2'
      cases e2'
      rw [e1, e1']
      have := SeqAt.EqAt.str_str (A := A.in1) (s := s) y t y t'
      rw [show (y == y) = true by simp] at this
      exact this)
    rw [show (List.range us.toArray.size).all (fun _ => true) = true from List.all_eq_true.mpr fun _ _ => rfl] at key
    exact SeqAt.EqAt.of_refs hne key
theorem hits_rows {A : Around} {s : Shared} {h₀ : Heap} {L : Addr} {nw : Ldg} {ns on : List Str} {B1 B2 : Str → Addr} {V : Str → List Str} (hu : A.units < cLine) (N : News h₀ L s.heap nw) (h1 : ∀ x ∈ on, ∃ us k, (B1 x, listOf (List.toArray us) k) ∈ nw ∧ Sts us (V x)) (h2 : TR nw ns B2 V) (hsub : ∀ x ∈ on, x ∈ ns) :
    KeqHits A s (ns.map fun x => (x, Value.ref (B2 x))) (on.map fun x => (x, Value.ref (B1 x))) true := by
  induction on with
  | nil => exact .nil
  | cons x r ih =>
    refine hide fun G9 hG9 => ?_
    obtain ⟨us, k, a, b⟩ := h1 x (.head _)
    obtain ⟨ws, k', a', b'⟩ := h2 x (hsub x (.head _))
    refine hG9 ?_
    exact .hit (e := true) (b := true) (valueAt_map (hsub x (.head _))) (eqAt_rows hu N a a' b b') (ih (fun y hy => h1 y (.tail _ hy)) fun y hy => hsub y (.tail _ hy))

theorem lit_use {K : Frag} {x : Addr} {o : Obj} {name qual : Str} {params : Arguments} {body : List Stmt} {scope : Scope} {dV kV doc pm cdv ct oc : Value} {an od : Option Addr} {osl : Array (Option Value)} {C : Prop}
    (h : K.lookup x = some o) (h' : K.lookup x = some ⟨oc, od, .func (fnOf name qual params body scope dV kV doc pm an cdv ct), osl⟩) (k : o = ⟨oc, od, .func (fnOf name qual params body scope dV kV doc pm an cdv ct), osl⟩ → C) : C := k (Option.some.inj (h.symm.trans h'))

theorem law_core {name qual : Str} {params : Arguments} {body : List Stmt} {scope : Scope} {dV kV doc pm cdv ct oc : Value} {an od : Option Addr} {osl : Array (Option Value)}
    (ho : (hd.heap_39 w.params).lookup 230 = some ⟨oc, od, .func (fnOf name qual params body scope dV kV doc pm an cdv ct), osl⟩)
    {dp un : Nat} (hdp : dp ≤ 440) (hun : un ≤ 2500) {f : Addr} {cd : Value} {p : Program} {loose : List Str} {mean : ExcName → Option Value} {mg mb : Str → Option Value} {gd : Option (List Code)} {outer : List Env} {A₀ : Around} {base g : Heap} {L : Addr} {h₁ : Heap} {tk : Nat} {s : Shared} {nw : Ldg} {m : Str → Option Value}
    {sl : Addr} {vs : List Value} {zs : List Int} {o1 o2 : Obj} (B : Below A₀ base outer g) (F : Fr g L h₁ m) (hm : m (Str.ofString "script") = some (.ref sl)) (X : (hd.heap_39 w.params).In g) (N : News g L h₁ nw) (T : Top p loose mean mg mb g)
    (hsl : g.IsList sl vs.toArray) (hi : IntsAre vs zs) (hlen : vs.length ≤ 63) (c1 : (L + 1, o1) ∈ nw) (d1 : o1.data = .cell none) (c2 : (L + 1 + 1, o2) ∈ nw) (d2 : o2.data = .cell none) :
    wpAny (model Challenge.rw_au0003_01.row.prog w) (ktrTop dp un gd qual scope L f cd (cellsFrom (L + 1) scope.names []) outer) (execs body (envX qual scope L f cd (cellsFrom (L + 1) scope.names [])))
      (fun fl s' => fl = .ret (.bool true) ∧ ∃ h' tk' m', s' = { s with heap := h', toks := tk' } ∧ Fr g L h' m') NE { s with heap := h₁, toks := tk } := by
  refine' lit_use ho (by k_is) fun e => ?_
  cases e
  clear ho
  replace F := fr_in F hm
  have hcl0 : un + 64 < cLine := Nat.lt_of_le_of_lt (show un + 64 ≤ 2564 by omega) (by decide)
  refine hideQ fun Q0 hQ0 => ?_
  iterate 13 walk1
  dsimp only
  refine sliceToI (j := 7) F N (isList_keep F hsl) (by rw [sizeLine_eq]; omega) rfl (fun Ds h2 F2 N2 lt2 => ?_) (by with_unfolding_all rfl) (by intro _; with_unfolding_all rfl)
  iterate 1 walk1
  refine ⟨X.keeps F2.keep, ?_⟩
  refine Ct.use (lists_ct (ints_take hi 7) (by rw [List.length_take]; omega)) (Nat.le_trans hdp (by decide)) (Nat.le_trans hun (by decide)) B F2 X N2 T rfl (.head _) fun r nw3 h3 tk3 F3 N3 hp => ?_
  refine hide fun G10 hG10 => ?_
  obtain ⟨dl, ns, A, U', rfl, p1, p2, hnd, hn2, hn6, p6, p7, K3⟩ := hp
  obtain ⟨hok, hcl⟩ := rows_ok hnd fun x hx => (p2.rows x hx).2
  refine hG10 ?_
  generalize hU : (fun x => if x ∈ ns then U' x else []) = U at hok hcl
  have hUx : ∀ x ∈ ns, U x = U' x := fun x hx => by rw [← hU]; exact if_pos hx
  have hTR : TR nw3 ns A U := fun x hx => by rw [hUx x hx]; exact (p2.rows x hx).1
  have hUl : ∀ x, (U x).length ≤ 6 := fun x => Nat.le_trans (nodup_len (hok.nd x) (hcl.sub x)) hn6
  have up3 : ∀ q ∈ nw, q ∈ nw3 := fun q hq => Kp.nil K3 q (.tail _ hq)
  have hUm : ∀ x ∈ ns, ∀ y ∈ ns, y ≠ x → y ∈ U x := fun x hx y hy hne => by
    rw [hUx x hx, (p2.rows x hx).2.mem_iff]; simp [List.mem_filter, hy, hne]
  iterate 10 walk1
  refine ⟨X.keeps (‹Fr g L _ _›).keep, ?_⟩
  refine Ct.use (table_ct hnd hn6 hok hcl hUl) (Nat.le_trans hdp (by decide)) (Nat.le_trans hun (by decide)) B (‹Fr g L _ _›) X (‹News g L _ _›) T rfl ⟨p1, hTR⟩ fun r nw4 h4 tk4 F4 N4 hp => ?_
  refine hide fun G11 hG11 => ?_
  obtain ⟨dt, Bt, V, rfl, q1, q2, hst, hnorm, K4⟩ := hp
  refine hG11 ?_
  have up4 : ∀ q ∈ nw3, q ∈ nw4 := fun q hq => Kp.nil K4 q hq
  refine cellStore_V F4 N4 (up4 _ (up3 _ c1)) d1 (by rfl) (by rfl) (by rfl) fun h5 nw5 o1' F5 N5 c1' d1' K5 => ?_
  have cA := up4 _ (up3 _ c1)
  have dl5 : DictIn w nw5 dl (ns.map fun x => (x, .ref (A x))) := (p1.mono fun q hq _ => up4 q hq).off N4 cA d1 K5
  have tr5 : TR nw5 ns A U := (hTR.up fun q hq _ => up4 q hq).off N4 cA d1 K5
  have dt5 : DictIn w nw5 dt (ns.map fun x => (x, .ref (Bt x))) := q1.off N4 cA d1 K5
  have tt5 : TR nw5 ns Bt V := q2.off N4 cA d1 K5
  have c25 : (L + 1 + 1, o2) ∈ nw5 := K5 _ (up4 _ (up3 _ c2)) (by simp)
  have hclV : Cl ns V := (lift_steps (P := id) (fun _ _ _ _ e => e) hst hcl).1
  have hokV : Ok V := hst.ok hok
  have hVl : ∀ x, (V x).length ≤ 6 := fun x => Nat.le_trans (hst.sub x).length_le (hUl x)
  iterate 1 walk1
  refine For_open ?_ (by intro _; rfl)
  iterate 6 walk1
  refine kup_newTuple (‹Fr g L _ _›) (‹News g L _ _›) ?_ (by rw [sizeLine_eq]; exact (by decide : 2 ≤ 16777216))
  intro Dt h6 F6 N6 lt6
  refine forK_tuple (items := #[.int 7 tk4, .int 8 (tk4 + 1)]) (by rfl) (by rfl) (by rfl) F6 N6 (.head _) [] (fun a ha => nomatch ha) (fun h => nomatch h)
    (fun i m nwi => m (Str.ofString "script") = some (.ref sl) ∧ m (Str.ofString "lists") = some (.ref dl)) (fun i m nwi nwi' hJ hk => hJ) ⟨rfl, rfl⟩ ?_ ?_
  · intro i v m₁ nw₁ h7 tk7 hv hJ K7 F7 N7
    refine hide fun G12 hG12 => ?_
    obtain ⟨e1, e2⟩ := hJ
    obtain ⟨z, tz, rfl, hz7⟩ : ∃ (z : Nat) (tz : Tok), v = .int z tz ∧ z ≤ 8 := by
      have hil : i < 2 := (Array.getElem?_eq_some_iff.mp hv).1
      have : i = 0 ∨ i = 1 := by omega
      rcases this with rfl | rfl
      · cases hv; exact ⟨7, tk4, rfl, by decide⟩
      · cases hv; exact ⟨8, tk4 + 1, rfl, by decide⟩
    refine hG12 ?_
    change Fr g L h7 _ at F7
    change News g L h7 _ at N7
    replace F7 := fr_in (fr_in (fr_in F7 (a := Str.ofString "script") (va := .ref sl) ((if_neg (by decide)).trans e1)) (a := Str.ofString "lists") (va := .ref dl) ((if_neg (by decide)).trans ((if_neg (by decide)).trans e2))) (a := Str.ofString "at") (va := .int z tz) (by with_unfolding_all rfl)
    have up7 : ∀ q ∈ nw5, q ∈ nw₁ := fun q hq => Kp.nil K7 q (.tail _ hq)
    have dl7 := dl5.mono fun q hq _ => up7 q hq
    have tr7 := tr5.up fun q hq _ => up7 q hq
    have dt7 := dt5.mono fun q hq _ => up7 q hq
    have tt7 := tt5.up fun q hq _ => up7 q hq
    have ct7 := up7 _ c1'
    refine hideQ fun Q1 hQ1 => ?_
    iterate 2 walk1
    refine wpAny_mono (E := NE) (Q := fun v s' => ∃ zz tzz tk', v = .int zz tzz ∧ s' = ⟨h7, s.gens, s.drawn, tk', s.os⟩) ?_ ?_ (fun _ _ e => e)
    · refine hideQ fun Q2 hQ2 => ?_
      iterate 9 walk1
      refine len_list (items := vs.toArray) (isList_keep F7 hsl) (by simp; omega) ?_
      iterate 2 walk1
      by_cases hlt : ((z : Int) < (vs.toArray.size : Int))
      · rw [if_pos (by simpa using hlt)]
        iterate 3 walk1
        have hil : z < vs.length := by simp at hlt; omega
        refine item_listR (isList_keep F7 hsl) (by omega) (by omega) (x := vs[z]) (by simp [hil]) ?_ (by with_unfolding_all rfl)
        refine hide fun G13 hG13 => ?_
        obtain ⟨z', tz', hz'⟩ := ints_get hi hil
        refine hG13 ?_
        exact hQ2 _ _ ⟨z', tz', _, hz', rfl⟩
      · rw [if_neg (by simpa using hlt)]
        have hz8 : (0 : Int) ≤ (z : Int) ∧ (z : Int) ≤ 8 := by omega
        iterate 4 walk1
        exact hQ2 _ _ ⟨_, _, _, rfl, rfl⟩
    · rintro v s' ⟨z', tz', tk9, rfl, rfl⟩
      have hLn : ∀ q ∈ nw₁, q ∈ nw₁ := fun q hq => hq
      iterate 19 walk1
      have F8 := ‹Fr g L _ _›
      have N8 := ‹News g L _ _›
      refine keysList_V (by rfl) F8 N8 dl7 (by rw [sizeLine_eq]; omega) fun Dk ck h8 tk8 us F9 N9 lt9 hus => ?_
      iterate 3 walk1
      refine ⟨X.keeps F9.keep, ?_⟩
      have husl := hus.len
      refine Ct.use (order_ct (vs := us) (by omega)) (Nat.le_trans hdp (by decide)) (Nat.le_trans hun (by decide)) B F9 X N9 T rfl (.head _) fun r nw10 h10 tk10 F10 N10 hp => ?_
      refine hide fun G14 hG14 => ?_
      obtain ⟨Do, os, ko, rfl, g1, g2, g3, K10⟩ := hp
      refine hG14 ?_
      have hall : ∀ v ∈ os, ∃ y t, v = .str y t := fun v hv => by
        obtain ⟨j, hj⟩ := List.getElem?_of_mem (g2.mem_iff.mp hv)
        obtain ⟨y, t, h, _⟩ := hus.get hj
        exact ⟨y, t, h⟩
      have hos := sts_self hall
      have hon : (os.filterMap sOf).Perm ns := by
        have := g2.filterMap sOf
        rw [sts_filterMap hus] at this
        exact this
      generalize os.filterMap sOf = on at hos hon
      have up10 : ∀ q ∈ nw₁, q ∈ nw10 := fun q hq => Kp.nil K10 q (.tail _ hq)
      have hond : on.Nodup := hon.nodup_iff.mpr hnd
      have honl := hon.length_eq
      iterate 1 walk1
      refine ⟨X.keeps F10.keep, ?_⟩
      refine Ct.use (players_ct (U := U) hnd hn6 hos hon (fun x hx y hy => ⟨hcl.sub x y hy, fun e => hok.irr x (by rw [e] at hy; exact hy)⟩) (fun x _ => hUl x)) (Nat.le_trans hdp (by decide)) (Nat.le_trans hun (by decide)) B F10 X N10 T rfl ⟨dl7.mono fun q hq _ => up10 q hq, tr7.up fun q hq _ => up10 q hq, g1⟩ fun r nw11 h11 tk11 F11 N11 hp => ?_
      refine hide fun G15 hG15 => ?_
      obtain ⟨pl, kp, P, D, rfl, a1, a2, a3, a4, a5, K11⟩ := hp
      obtain ⟨tt, a2'⟩ := toks_of a2
      refine hG15 ?_
      have up11 : ∀ q ∈ nw₁, q ∈ nw11 := fun q hq => Kp.nil K11 q (up10 q hq)
      iterate 1 walk1
      refine wpAny_execs_cons ?_
      iterate 7 walk1
      have F12 := ‹Fr g L _ _›
      have N12 := ‹News g L _ nw11›
      have hclL : Cl ns U := hcl
      have D'at : ∀ x ∈ ns, liftF ns P 0 D (P x) = D x := fun x hx => liftF_at a3 hx
      have nmat : ∀ x ∈ ns, liftF ns P Value.none (fun x => Value.str x (tt x)) (P x) = .str x (tt x) := fun x hx => liftF_at a3 hx
      have memps : ∀ a, a ∈ on.map P ↔ ∃ x ∈ ns, P x = a := fun a => by
        simp only [List.mem_map]
        exact ⟨fun ⟨x, hx, e⟩ => ⟨x, hon.mem_iff.mp hx, e⟩, fun ⟨x, hx, e⟩ => ⟨x, hon.mem_iff.mpr hx, e⟩⟩
      have hokA : Ok (liftU ns P U) := lift_ok a3 hcl hok
      have hpsnd : (on.map P).Nodup := List.pairwise_map.mpr (hond.imp_of_mem fun ha hb hne e => hne (a3 _ (hon.mem_iff.mp ha) _ (hon.mem_iff.mp hb) e))
      have hne2 : ∀ x ∈ ns, U x ≠ [] := fun x hx e => by
        have : ∃ y ∈ ns, y ≠ x := by
          cases hns : ns with
          | nil => rw [hns] at hn2; simp at hn2
          | cons p r =>
            cases hr : r with
            | nil => rw [hns, hr] at hn2; simp at hn2
            | cons q r' =>
              rw [hns, hr] at hnd
              have hpq : p ≠ q := fun e => (List.nodup_cons.mp hnd).1 (by rw [e]; exact .head _)
              by_cases hp : p = x
              · exact ⟨q, by simp, fun e => hpq (hp.trans e.symm)⟩
              · exact ⟨p, by simp, hp⟩
        refine hide fun G16 hG16 => ?_
        obtain ⟨y, hy, hyx⟩ := this
        refine hG16 ?_
        have := hUm x hx y hy hyx
        rw [e] at this; cases this
      have hPW : PW nw11 none (on.map P) (liftF ns P 0 D) (liftF ns P Value.none (fun x => Value.str x (tt x))) (liftU ns P U) (fun _ => none) := fun a ha => by
        refine hide fun G17 hG17 => ?_
        obtain ⟨x, hx, rfl⟩ := (memps a).mp ha
        obtain ⟨l, k, hs, ts, pn, op, n, b1, b2, b3⟩ := a2' x hx
        refine hG17 ?_
        refine ⟨hs, ts, pn, op, n, l, k, ?_, ?_, ?_, fun _ e => nomatch e⟩
        · rw [D'at x hx]; exact b1
        · rw [D'at x hx, nmat x hx]; exact b2
        · rw [lift_at a3 hx]; exact b3
      refine ⟨X.keeps F12.keep, ?_⟩
      refine Ct.use (phase_ct (ps := on.map P) (U0 := liftU ns P U) (D := liftF ns P 0 D) (nmv := liftF ns P Value.none (fun x => Value.str x (tt x))) (pl := pl) (k := kp) (fun a ha b hb e => ?_) (by simp; omega) hpsnd hokA (fun a b h => ?_) (fun a ha => ?_) (fun a => ?_)) (Nat.le_trans hdp (by decide)) (Nat.le_trans hun (by decide)) B F12 X N12 T rfl ⟨a1, hPW⟩ fun r nw13 h13 tk13 F13 N13 hp => ?_
      · refine hide fun G18 hG18 => ?_
        obtain ⟨x, hx, rfl⟩ := (memps a).mp ha
        obtain ⟨y, hy, rfl⟩ := (memps b).mp hb
        refine hG18 ?_
        rw [D'at x hx, D'at y hy] at e
        rw [a4 x hx y hy e]
      · refine hide fun G19 hG19 => ?_
        obtain ⟨x, y, hx, _, hy, rfl⟩ := lift_mem a3 h
        refine hG19 ?_
        exact (memps _).mpr ⟨y, hcl.sub x y hy, rfl⟩
      · refine hide fun G20 hG20 => ?_
        obtain ⟨x, hx, rfl⟩ := (memps a).mp ha
        refine hG20 ?_
        rw [lift_at a3 hx]
        simpa using hne2 x hx
      · by_cases h : ∃ x ∈ ns, P x = a
        · refine hide fun G21 hG21 => ?_
          obtain ⟨x, hx, rfl⟩ := h
          refine hG21 ?_
          rw [lift_at a3 hx, List.length_map]; have := hUl x; omega
        · rw [lift_out fun x hx e => h ⟨x, hx, e⟩]; exact Nat.zero_le _
      refine hide fun G22 hG22 => ?_
      obtain ⟨Ua, Ma, rfl, hPW13, hInv, K13⟩ := hp
      have hUaps : ∀ a, Ua a ≠ [] → a ∈ on.map P := fun a h => by
        by_cases hx : ∃ x ∈ ns, P x = a
        · exact (memps a).mpr hx
        · refine absurd ?_ h
          have := hInv.reach.sub a
          rw [lift_out fun x hx' e => hx ⟨x, hx', e⟩] at this
          exact List.sublist_nil.mp this
      have hUa : Ua = liftU ns P V := unique hokA hInv.reach (hInv.normal hUaps) (lift_steps a3 hst hcl).2 (lift_normal a3 hclV hnorm)
      subst hUa
      obtain ⟨end1, end2⟩ := hInv.ends hpsnd hUaps
      refine hG22 ?_
      have hnT : ∀ q ∈ nw₁, q.1 ∉ (on.map P).map (liftF ns P 0 D) := fun q hq hm => by
        obtain ⟨a, ha, e⟩ := List.mem_map.mp hm
        obtain ⟨x, hx, rfl⟩ := (memps a).mp ha
        rw [D'at x hx] at e
        have := ((a5 q (up10 q hq)).2 x hx).2
        rw [e] at this; exact Nat.lt_irrefl _ this
      have up13 : ∀ q ∈ nw₁, q ∈ nw13 := fun q hq => K13 q (up11 q hq) (hnT q hq)
      have hplm : (pl, plist (on.map P) kp) ∈ nw13 := K13 _ a1 fun hm => by
        obtain ⟨a, ha, e⟩ := List.mem_map.mp hm
        obtain ⟨hs, ts, pn, op, n, l, k, _, b2, _⟩ := hPW a ha
        rw [e] at b2
        exact absurd rfl (nneO N12 a1 b2 listNeDict)
      have hG : ∀ x ∈ ns, ∃ hs ts pn op n l k, (P x, instObj 184 (D x)) ∈ nw13 ∧ (D x, dictOf (PD hs ts (.str x (tt x)) (.ref l) (mvO (Ma (P x))) pn op) n) ∈ nw13 ∧ (l, plist ((V x).map P) k) ∈ nw13 := fun x hx => by
        obtain ⟨hs, ts, pn, op, n, l, k, b1, b2, b3, _⟩ := hPW13 (P x) ((memps _).mpr ⟨x, hx, rfl⟩)
        rw [D'at x hx] at b1 b2
        rw [nmat x hx] at b2
        rw [lift_at a3 hx] at b3
        exact ⟨hs, ts, pn, op, n, l, k, b1, b2, b3⟩
      iterate 1 walk1
      refine wpAny_execs_cons ?_
      iterate 5 walk1
      refine wpAny_isNot_ref_self ?_
      iterate 1 walk1
      rw [if_neg Bool.false_ne_true]
      iterate 8 walk1
      have F14 := ‹Fr g L _ _›
      have N14 := ‹News g L _ nw13›
      refine ⟨X.keeps F14.keep, ?_⟩
      refine Ct.use (left_ct (ns := ns) (on := on) (P := P) (D := D) (V := V) (pl := pl) (ko := kp) hond (by omega) (fun x hx => hon.mem_iff.mp hx) (fun x _ y hy => hclV.sub x y hy) (fun x _ => hVl x)) (Nat.le_trans hdp (by decide)) (Nat.le_trans hun (by decide)) B F14 X N14 T rfl ⟨hplm, fun x hx => ?_⟩ fun r nw15 h15 tk15 F15 N15 hp => ?_
      · refine hide fun G23 hG23 => ?_
        obtain ⟨hs, ts, pn, op, n, l, k, b1, b2, b3⟩ := hG x hx
        refine hG23 ?_
        exact ⟨l, k, hs, ts, _, pn, op, n, tt x, b1, b2, b3⟩
      refine hide fun G24 hG24 => ?_
      obtain ⟨d2, B2, rfl, b1, b2, K15⟩ := hp
      refine hG24 ?_
      have up15 : ∀ q ∈ nw13, q ∈ nw15 := fun q hq => Kp.nil K15 q hq
      have up1 : ∀ q ∈ nw₁, q ∈ nw15 := fun q hq => up15 q (up13 q hq)
      refine wpAny_Name (wpAny_loadName_cell (by rfl) (by rfl) (by rfl) ⟨o1', (N15 _ (up1 _ ct7)).1, d1'⟩ ?_) (by decide)
      have dt15 := dt7.mono fun q hq _ => up1 q hq
      have tt15 := tt7.up fun q hq _ => up1 q hq
      refine hide fun G25 hG25 => ?_
      obtain ⟨od2, hod2, hdo2, hds2⟩ := b1
      obtain ⟨odt, hodt, hdot, hdst⟩ := id dt15
      refine hG25 ?_
      refine kne_pairs (r := true) N15 hod2 hodt hdo2 hdot hds2 hdst (by simp [honl]) (by show un < cLine; omega) (hits_rows (by show un + 1 < cLine; omega) N15 b2 tt15 (fun x hx => hon.mem_iff.mp hx)) ?_
      refine wpAny_truthy_bool ?_
      rw [if_neg (by decide)]
      iterate 1 walk1
      rw [if_neg Bool.false_ne_true]
      refine wpAny_execs_nil ?_
      refine wpAny_execs_cons ?_
      refine For_open ?_ (by intro _; rfl)
      iterate 1 walk1
      have F16 := ‹Fr g L _ _›
      have N16 := ‹News g L _ nw15›
      have hG15 : ∀ x ∈ ns, ∃ hs ts pn op n l k, (P x, instObj 184 (D x)) ∈ nw15 ∧ (D x, dictOf (PD hs ts (.str x (tt x)) (.ref l) (mvO (Ma (P x))) pn op) n) ∈ nw15 ∧ (l, plist ((V x).map P) k) ∈ nw15 := fun x hx => by
        refine hide fun G26 hG26 => ?_
        obtain ⟨hs, ts, pn, op, n, l, k, b1, b2, b3⟩ := hG x hx
        refine hG26 ?_
        exact ⟨hs, ts, pn, op, n, l, k, up15 _ b1, up15 _ b2, up15 _ b3⟩
      refine forK_list (items := ((on.map P).map Value.ref).toArray) (by rfl) (by rfl) (by rfl) F16 N16 (up15 _ hplm) [] (fun a ha => nomatch ha) (fun h => nomatch h)
        (fun i m nwi => m (Str.ofString "script") = some (.ref sl) ∧ m (Str.ofString "lists") = some (.ref dl)) (fun i m nwi nwi' hJ hk => hJ) ⟨rfl, rfl⟩ ?_ ?_
      · intro j v m₂ nw₂ h17 tk17 hv' hJ' K17 F17 N17
        refine hide fun G27 hG27 => ?_
        obtain ⟨x, hx, rfl⟩ : ∃ x, x ∈ ns ∧ Value.ref (P x) = v := by
          have : ((on.map P).map Value.ref)[j]? = some v := by simpa using hv'
          obtain ⟨a, ha, e⟩ := List.mem_map.mp (List.mem_of_getElem? this)
          obtain ⟨x, hx, rfl⟩ := (memps a).mp ha
          exact ⟨x, hx, e⟩
        change Fr g L h17 _ at F17
        change News g L h17 _ at N17
        have up17 := Kp.nil K17
        replace F17 := fr_in F17 (a := Str.ofString "player") (va := .ref (P x)) (by with_unfolding_all rfl)
        obtain ⟨hs, ts, pn, op, n, l, k, b1, b2, b3⟩ := hG15 x hx
        refine hG27 ?_
        have hVx := hVl x
        refine hideQ fun Q3 hQ3 => ?_
        iterate 5 walk1
        refine getPrefs_V F17 X N17 (up17 _ b1) (up17 _ b2) rfl ?_
        iterate 3 walk1
        have N18 : News g L _ nw₂ := nsub ‹News g L _ _› fun q hq => .tail _ hq
        have F18 := ‹Fr g L _ _›
        refine wpAny_eqNil (vs := ((V x).map P).map Value.ref) (‹News g L _ (_ :: nw₂)›) (.tail _ (up17 _ b3)) (.head _) (by show un < cLine; omega) ?_
        refine wpAny_truthy_bool ?_
        have hxm : P x ∈ on.map P := (memps _).mpr ⟨x, hx, rfl⟩
        have hlx : liftU ns P V (P x) = (V x).map P := lift_at a3 hx
        by_cases hemp : V x = []
        · rw [if_pos (by rw [hemp]; rfl)]
          have hMx : Ma (P x) = none := end1 _ hxm (by rw [hlx, hemp]; rfl)
          rw [hMx] at b2
          have b2' := up17 _ b2
          have b1' := up17 _ b1
          iterate 5 walk1
          refine getMat_V F18 X N18 b1' b2' rfl ?_
          iterate 1 walk1
          refine isnot_none_none ?_
          iterate 1 walk1
          rw [if_neg Bool.false_ne_true]
          exact wpAny_execs_nil (wpAny_execs_nil (wpAny_execs_nil (hQ3 _ _ ⟨_, _, _, nw₂, rfl, F18, N18, Kp.refl, hJ'⟩)))
        · rw [if_neg (by simpa using hemp)]
          refine hide fun G28 hG28 => ?_
          obtain ⟨a, hMa, hap, hh1, hh2⟩ := end2 _ hxm (by rw [hlx]; simpa using hemp)
          obtain ⟨y, hy, rfl⟩ := (memps a).mp hap
          rw [hMa] at b2
          have b2' : (D x, dictOf (PD hs ts (.str x (tt x)) (.ref l) (.ref (P y)) pn op) n) ∈ nw₂ := up17 _ b2
          have b1' := up17 _ b1
          have b3' := up17 _ b3
          rw [hlx] at hh2
          rw [lift_at a3 hy] at hh1
          obtain ⟨hs2, ts2, pn2, op2, n2, l2, k2, d1, d2, d3⟩ := hG15 y hy
          refine hG28 ?_
          have hVy := hVl y
          have d1' := up17 _ d1
          have d2' := up17 _ d2
          have d3' := up17 _ d3
          iterate 6 walk1
          refine getMat_V F18 X N18 b1' b2' rfl ?_
          iterate 3 walk1
          refine getPrefs_V F18 X N18 b1' b2' rfl ?_
          iterate 3 walk1
          refine itemLast_V (v := .ref (P y)) N18 b3' (by
            have : (((V x).map P).map Value.ref).getLast? = some (.ref (P y)) := by rw [List.getLast?_map, hh2]; rfl
            rw [List.getLast?_eq_getElem?] at this
            simpa using this) ?_ (by with_unfolding_all rfl)
          refine wpAny_isNot_ref_self ?_
          iterate 1 walk1
          rw [if_neg Bool.false_ne_true]
          iterate 6 walk1
          refine getMat_V F18 X N18 b1' b2' rfl ?_
          refine getPrefs_V F18 X N18 d1' d2' rfl ?_
          iterate 1 walk1
          refine item_V (j := 0) (v := .ref (P x)) N18 d3' rfl (by
            rw [List.head?_eq_getElem?] at hh1
            simpa using hh1) (by rw [sizeLine_eq]; simp; omega) ?_ (by with_unfolding_all rfl)
          iterate 1 walk1
          refine wpAny_isNot_ref_self ?_
          iterate 1 walk1
          rw [if_neg Bool.false_ne_true]
          iterate 1 walk1
          rw [if_neg Bool.false_ne_true]
          exact wpAny_execs_nil (wpAny_execs_nil (wpAny_execs_nil (hQ3 _ _ ⟨_, _, _, nw₂, rfl, F18, N18, Kp.refl, hJ'⟩)))
      · intro m₂ nw₂ h17 tk17 hJ' K17 F17 N17
        refine wpAny_execs_nil (hQ1 _ _ ⟨_, _, _, nw₂, rfl, F17, N17, fun q hq _ => Kp.nil K17 q (up1 q hq), hJ'⟩)
  · intro m₁ nw₁ h7 tk7 hJ K7 F7 N7
    refine hide fun G29 hG29 => ?_
    obtain ⟨e1, e2⟩ := hJ
    refine hG29 ?_
    change Fr g L h7 _ at F7
    change News g L h7 _ at N7
    replace F7 := fr_in F7 e2
    have up7 : ∀ q ∈ nw5, q ∈ nw₁ := fun q hq => Kp.nil K7 q (.tail _ hq)
    have dl7 := dl5.mono fun q hq _ => up7 q hq
    have tr7 := tr5.up fun q hq _ => up7 q hq
    have dt7 := dt5.mono fun q hq _ => up7 q hq
    have tt7 := tt5.up fun q hq _ => up7 q hq
    refine wpAny_execs_cons ?_
    refine For_open ?_ (by intro _; rfl)
    iterate 10 walk1
    refine keysList_V (by rfl) F7 N7 dl7 (by rw [sizeLine_eq]; omega) fun Dk ck h8 tk8 us F8 N8 lt8 hus => ?_
    iterate 1 walk1
    refine ⟨X.keeps F8.keep, ?_⟩
    refine Ct.use (pairings_ct ns.length (Nat.le_refl _) hn6 hus hnd) (Nat.le_trans hdp (n6b hn6).1) (Nat.le_trans hun (n6b hn6).2) B F8 X N8 T rfl (.head _) fun r nw9 h9 tk9 F9 N9 hp => ?_
    refine hide fun G30 hG30 => ?_
    obtain ⟨Dp, kp, ds, rfl, g1, g2, g3, g4, K9⟩ := hp
    refine hG30 ?_
    have up9 : ∀ q ∈ nw₁, q ∈ nw9 := fun q hq => Kp.nil K9 q (.tail _ hq)
    have c29 := up9 _ (up7 _ c25)
    have dl9 := dl7.mono fun q hq _ => up9 q hq
    have tr9 := tr7.up fun q hq _ => up9 q hq
    have dt9 := dt7.mono fun q hq _ => up9 q hq
    have tt9 := tt7.up fun q hq _ => up9 q hq
    refine forK_listC (c := L + 1 + 1) (oc₀ := o2) (v₀ := none) (items := (ds.map Value.ref).toArray) (by rfl) (by rfl) (by rfl) (by rfl) c29 d2 (by rfl) F9 N9 g1 [] (fun a ha => nomatch ha) (fun h => nomatch h) (fun h => nomatch h) (neCell N9 g1 c29 d2 fun v e => nomatch e)
      (fun i m nwi => m (Str.ofString "lists") = some (.ref dl)) (fun i m nwi nwi' hJ hk => hJ) rfl ?_ ?_
    · intro i v m₂ nw₂ h10 tk10 hv hJ' K10 hcc F10 N10
      refine hide fun G31 hG31 => ?_
      obtain ⟨dm, hdm, rfl⟩ : ∃ dm, ds[i]? = some dm ∧ Value.ref dm = v := by simpa using hv
      obtain ⟨oc, hoc, hocd⟩ := hcc
      obtain ⟨kvs, z1, z2⟩ := g2 dm (List.mem_of_getElem? hdm)
      obtain ⟨mate, hmate⟩ := z2.ok
      refine hG31 ?_
      have dm10 := z1.off N9 c29 d2 K10
      have dl10 := dl9.off N9 c29 d2 K10
      have tr10 := tr9.off N9 c29 d2 K10
      have dt10 := dt9.off N9 c29 d2 K10
      have tt10 := tt9.off N9 c29 d2 K10
      have ct10 : (L + 1, o1') ∈ nw₂ := K10 _ (up9 _ (up7 _ c1')) (by simp)
      change Fr g L h10 _ at F10
      change News g L h10 _ at N10
      replace F10 := fr_in F10 hJ'
      refine hideQ fun Q4 hQ4 => ?_
      iterate 10 walk1
      refine wpAny_Name (wpAny_loadName_cell (by rfl) (by rfl) (by rfl) ⟨oc, (N10 _ hoc).1, hocd⟩ ?_) (by decide)
      iterate 1 walk1
      refine ⟨X.keeps F10.keep, ?_⟩
      refine Ct.use (stable_ct (A := A) (U := U) (mate := mate) hnd hn6 hok hcl hUl (fun x hx => hUm x hx _ (hmate x hx).2.1 (hmate x hx).2.2.1)) (Nat.le_trans hdp (by decide)) (Nat.le_trans hun (by decide)) B F10 X N10 T rfl ⟨dl10, tr10, kvs, dm10, fun x hx => (hmate x hx).1⟩ fun r nw11 h11 tk11 F11 N11 hp => ?_
      refine hide fun G32 hG32 => ?_
      obtain ⟨b, rfl, hgood, K11⟩ := hp
      refine hG32 ?_
      have up11 := Kp.nil K11
      have hK : Kp ([] : List Addr) nw₂ nw11 := K11
      refine wpAny_truthy_bool ?_
      cases b with
      | false =>
        rw [if_neg Bool.false_ne_true, if_neg Bool.false_ne_true]
        exact wpAny_execs_nil (wpAny_execs_nil (hQ4 _ _ ⟨_, _, _, nw11, rfl, F11, N11, hK, rfl⟩))
      | true =>
        rw [if_pos rfl]
        have hmV := stable_kept mate hok hcl (fun x hx => ⟨hUm x hx _ (hmate x hx).2.1 (hmate x hx).2.2.1, (hmate x hx).2.2.2⟩) (fun x hx => hgood rfl x hx) hst
        have dm11 := dm10.mono fun q hq _ => up11 q hq
        have dt11 := dt10.mono fun q hq _ => up11 q hq
        have tt11 := tt10.up fun q hq _ => up11 q hq
        have ct11 := up11 _ ct10
        have co11 := up11 _ hoc
        iterate 2 walk1
        refine ListComp_open (cl := [(Str.ofString "table", L + 1), (Str.ofString "mates", L + 1 + 1)]) (by with_unfolding_all rfl) (by rfl) (by decide) ?_ (by intro _; rfl)
        refine wpAny_Name (wpAny_loadName_cell (by rfl) (by rfl) (by rfl) ⟨o1', (N11 _ ct11).1, d1'⟩ ?_) (by decide)
        dsimp only
        refine compE_dict (nw₀ := nw11) rfl (by decide) rfl rfl F11 N11 dt11 (by rw [sizeLine_eq]; simp; omega) (fun j ys nj => ys = [] ∧ nw11 = nj) ⟨rfl, rfl⟩ ?_ ?_
        · intro j x tx x' ys nj nw12 C oC m₃ h12 tk12 hvx hJx hs0 hsj hC hnC hmC hF hN hLC
          refine hide fun G33 hG33 => ?_
          obtain ⟨rfl, rfl⟩ := hJx
          obtain ⟨hx, rfl⟩ := valueAt_at hvx
          refine hG33 ?_
          have hxn := List.mem_of_getElem? hx
          unfold CTurn tests
          refine hideQ fun Q5 hQ5 => ?_
          refine wpAny_tests_one ?_
          refine hide fun G34 hG34 => ?_
          obtain ⟨tmx, hmx⟩ := (hmate x hxn).1
          obtain ⟨ut, kt, r1, r2⟩ := tt11 x hxn
          refine hG34 ?_
          iterate 2 walk1
          refine lcf_cell (c := L + 1 + 1) hN rfl (hsj _ co11) hocd ?_ rfl rfl
          refine nameL_C hN hC hnC hmC ?_ (by rfl) (by rfl) (by decide)
          refine dictItem_V hN (dm11.mono fun q hq _ => hsj q hq) hmx ?_ (by with_unfolding_all rfl)
          iterate 1 walk1
          refine lcf_cell (c := L + 1) hN rfl (hsj _ ct11) d1' ?_ rfl rfl
          refine nameL_C hN hC hnC hmC ?_ (by rfl) (by rfl) (by decide)
          refine dictItem_V hN (dt11.mono fun q hq _ => hsj q hq) (valueAt_map hxn) ?_ (by with_unfolding_all rfl)
          refine notin_V (isS (mate x)) hN (hsj _ r1) (strs_eqAt r2) ?_
          refine wpAny_truthy_bool ?_
          have hany : ut.toArray.any (isS (mate x)) = true := by
            refine hide fun G35 hG35 => ?_
            obtain ⟨q, hq⟩ := List.getElem?_of_mem (hmV x hxn)
            obtain ⟨h1, h2, _⟩ := sts_at r2 (hokV.nd x) hq
            refine hG35 ?_
            exact Array.any_eq_true.mpr ⟨q, h1, h2⟩
          refine hQ5 _ _ ?_
          rw [hany, if_neg (by decide)]
          exact ⟨_, _, nw12, [], rfl, hF, hN, fun _ h => h, (fun _ h => nomatch h), rfl, rfl⟩
        · intro D13 h13 tk13 ys nj hJx hs0 F13 N13 lt13
          refine hide fun G36 hG36 => ?_
          obtain ⟨rfl, rfl⟩ := hJx
          refine hG36 ?_
          iterate 3 walk1
          refine wpAny_neNil (vs := []) (‹News g L _ _›) (.tail _ (.head _)) (.head _) (by show un < cLine; omega) ?_
          refine wpAny_truthy_bool ?_
          rw [if_neg (by decide), if_neg Bool.false_ne_true]
          exact wpAny_execs_nil (wpAny_execs_nil (hQ4 _ _ ⟨_, _, _, _, rfl, ‹Fr g L _ _›, ‹News g L _ _›, fun q hq _ => .tail _ (.tail _ (up11 q hq)), rfl⟩))
    · intro m₂ nw₂ h10 tk10 hJ' K10 F10 N10
      refine wpAny_execs_cons ?_
      iterate 2 walk1
      exact hQ0 _ _ ⟨rfl, _, _, _, rfl, F10⟩
end Mine
namespace Mine
theorem fill17 (w : World) : (Challenge.rw_au0003_01.Holds ∧ (hd.heap_39 w.params).In default) → True := by
  k_fill; intro _; trivial

theorem ints_len {vs : List Value} {zs : List Int} (h : IntsAre vs zs) : vs.length = zs.length := by
  induction h with
  | nil => rfl
  | cons _ _ _ ih => simp [ih]

theorem lawEnd {w : World} {name qual : Str} {params : Arguments} {body : List Stmt} {scope : Scope} {dV kV doc pm cdv ct oc : Value} {an od : Option Addr} {osl : Array (Option Value)}
    (ho : (hd.heap_39 w.params).lookup 230 = some ⟨oc, od, .func (fnOf name qual params body scope dV kV doc pm an cdv ct), osl⟩)
    {dp un : Nat} (hdp : dp ≤ 440) (hun : un ≤ 2500) {f : Addr} {cd : Value} {p : Program} {loose : List Str} {mean : ExcName → Option Value} {mg mb : Str → Option Value} {gd : Option (List Code)} {s₁ : Shared} {h₁ : Heap} {tk : Nat} {m : Str → Option Value}
    {sl : Addr} {vs : List Value} {zs : List Int} {o1 o2 : Obj} {c : ClaimW} {cl : Str → Option Addr} {mean' : ExcName → Option Value} {args : List WData} {E : Value → Shared → Prop}
    (X : (hd.heap_39 w.params).In s₁.heap) (F : Fr s₁.heap s₁.heap.objs.size h₁ m) (N : News s₁.heap s₁.heap.objs.size h₁ [(s₁.heap.objs.size + 1 + 1, o2), (s₁.heap.objs.size + 1, o1)]) (T : Top p loose mean mg mb s₁.heap)
    (hsl : s₁.heap.IsList sl vs.toArray) (hi : IntsAre vs zs) (hlen : ¬ (((63 : Nat) : Int) < (zs.length : Int))) (hg : s₁.gens = #[]) (hm : m (Str.ofString "script") = some (.ref sl)) (d1 : o1.data = .cell none) (d2 : o2.data = .cell none)
    (hr : ∀ cls, c.raises args cls = false) (hp : c.post args (.bool true) args = true) :
    wpAny (model Challenge.rw_au0003_01.row.prog w) (ktrTop dp un gd qual scope s₁.heap.objs.size f cd (cellsFrom (s₁.heap.objs.size + 1) scope.names []) []) (execs body (envX qual scope s₁.heap.objs.size f cd (cellsFrom (s₁.heap.objs.size + 1) scope.names [])))
      (fun fl s' => GoodW c cl mean' args s₁ (.ok (.ret (match fl with | .ret v => v | _ => .none))) s') E { heap := h₁, gens := s₁.gens, drawn := s₁.drawn, toks := tk, os := s₁.os } := by
  have hvl : vs.length ≤ 63 := by rw [ints_len hi]; omega
  refine wpAny_mono (law_core ho hdp hun (A₀ := callerA) (base := s₁.heap) (s := s₁) (below_caller s₁.heap) F hm X N T hsl hi hvl (.tail _ (.head _)) d1 (.head _) d2) (fun fl s' hs => ?_) (fun _ _ e => e.elim)
  refine hide fun Gx hGx => ?_
  obtain ⟨rfl, h', tk', m', rfl, F'⟩ := hs
  refine hGx ?_
  exact goodW_bool F' hg hr hp

theorem law_holds : PySem.Challenge.rw_au0003_01.Holds := Mine.hd (by
  w_strict (k_go0; refine lawEnd (by k_is) (by decide) (by decide) (by assumption) (by assumption) (by assumption) (by assumption) (by assumption) (by assumption) (by assumption) (by assumption) (by rfl) (by assumption) (by assumption) (fun _ => rfl) (by first | rfl | wrow_post | kc_post)))
end Mine

theorem PySem.Challenge.cw_au0003_01_holds : PySem.Challenge.rw_au0003_01.Holds :=
  Mine.law_holds
