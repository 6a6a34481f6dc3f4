import PyProof.Rows.All
import Wide.All
import OpenK.AllK
import Wide.FinOn
import PySem.Challenge.RW_oc0121_01
open PySem PySem.W PyProof.Rows
set_option Elab.async false
set_option maxRecDepth 100000
set_option maxHeartbeats 8000000
namespace Mine
open_top hd for PySem.Challenge.rw_oc0121_01
local macro_rules | `(tactic| walk_at $s:str) => `(tactic| k_extra $s)
-- B1
theorem fill : (PySem.Challenge.rw_oc0121_01 = PySem.Challenge.rw_oc0121_01) ∧ (hd.heap_39 = hd.heap_39) := by k_fill; exact ⟨rfl, rfl⟩
noncomputable abbrev ax (hh : Option Value) (dp un : Nat) (gd : Option (List Code)) (env : Env) (outer : List Env) : Around :=
  { handled := hh, depth := dp, frames := some (env :: outer), guards := gd, units := un }
inductive Nm (news : List (Addr × Obj)) : Value → Str → Prop where
  | str {t : Str} {k : Tok} : Nm news (.str t k) t
  | q {x dx : Addr} {hs : Int} {k1 k2 : Tok} {t : Str} {n : Nat} : (x, instObj 88 dx) ∈ news → (dx, dictOf [⟨hs, .str (Str.ofString "text") k1, .str t k2⟩] n) ∈ news → Nm news (.ref x) t
theorem Nm.mono {news news' : List (Addr × Obj)} {v : Value} {t : Str} (h : Nm news v t) (hs : ∀ p ∈ news, p ∈ news') : Nm news' v t := by
  cases h with
  | str => exact .str
  | q a b => exact .q (hs _ a) (hs _ b)
structure Cx (w : World) (mean : ExcName → Option Value) (mg mb : Str → Option Value) (A₀ : Around) (base : Heap) (outer : List Env) (h₀ : Heap) (L : Addr) (env : Env) : Prop where
  B : Below A₀ base outer h₀
  X : (hd.heap_39 w.params).In h₀
  T : Top hd.view_39 (looseW hd.view_39 []) mean mg mb h₀
  hf : env.frame = some L
  hk : env.scope.kind = .function
theorem wpAny_le {α : Type} {M : Model} {hh : Option Value} {dp un dp' un' : Nat} {gd : Option (List Code)} {env : Env} {outer : List Env} {t : Sem α} {Q : α → Shared → Prop} {E : Value → Shared → Prop} {s : Shared}
    (h : wpAny M (ax hh dp un gd env outer) t Q E s) (hd : dp' ≤ dp) (hu : un' ≤ un) : wpAny M (ax hh dp' un' gd env outer) t Q E s :=
  fun Γ p hΓ => h Γ p ⟨hΓ.1, Nat.le_trans hΓ.2.1 hd, hΓ.2.2.1, hΓ.2.2.2.1, Nat.le_trans hΓ.2.2.2.2 hu⟩
theorem lay1 : True := by
  k_with "call ref" => (k_here; refine wpAny_call ?_; k_dflt (refine' code_def ?k1 ?k2 ?k3 ?k4 ?k5 ?kA ?kF ?kK ?k6 ?k7 ?k8 ?k9 ?kB ?_ ?c2 ?c3 ?c4 ?c5; (case kA => exact rfl); (case kF => first | assumption | exact rfl); (case kK => first | assumption | exact rfl); (case k1 => k_asm); (case k2 => k_asm); (case k3 => k_asm); (case k4 => k_asm); (case k5 => k_asm); (case k6 => k_is); (case k7 => k_is); (case k8 => k_room); (case k9 => exact BindsTo.of_eq rfl); (case c5 => decide); (case kB => exact locs rfl); (case c2 => exact rfl); (case c3 => exact rfl); (case c4 => exact rfl); k_whole; intro _ _ _ _ _ _ _ _ _; (try dsimp only); (try k_fold)))
  trivial
section
variable {w : World} {A : Around} {E : Value → Shared → Prop} {s : Shared} {K : Frag} {x C L f : Addr} {h₀ : Heap} {m : Str → Option Value} {ox : Obj} {od : Option Obj}
theorem strcmp_ref (nm : String) (g : List Nat → List Nat → Bool) (y : Str) (k : Tok) (a : Addr) :
    GivesAt (fun s => ∃ o, s.heap.get? a = some o ∧ o.data = .plain) (PySem.Builtin.Str.strCompare nm g ⟨[.str y k, .ref a], []⟩) (.val .notImplemented) := by
  intro prog w A R s ⟨o, ho, hd⟩ hq
  unfold PySem.Builtin.Str.strCompare
  refine wpAny_bind (wpAny_pure ?_)
  dsimp only [List.headD]
  refine wpAny_bind ?_
  show wpAny _ _ (asStr? (.ref a)) _ _ _
  unfold asStr?
  refine wpAny_bind (wpAny_load ho ?_)
  rw [hd]
  exact wpAny_pure (wpAny_bind (wpAny_rule (wpAny_pure hq)))
theorem cmp_refl_K {prog : Program} {op : CmpOp} {y : Str} {k : Tok} {idf : String} {g : List Nat → List Nat → Bool} {nm : String} {Q : Value → Shared → Prop} (hu : A.units < cLine) (F : Fr h₀ L s.heap m) (X₀ : K.In h₀) (I : InstAt s.heap x ox C od) (hox : ox.data = .plain)
    (hn : subIn K (.ref C) (.type "str") = some false) (h1 : Slot "str" (cmpInfo op).2.1 idf) (ent : entryFor table idf = some (PySem.Builtin.Str.strCompare nm g)) (args : argsOk idf ⟨[.str y k, .ref x], []⟩)
    (hs : findIn K (.ref C) (cmpInfo op).2.2 = some (some (.ref f))) (hf : isFn K (.ref f) = true)
    (h : wpAny (model prog w) A (call (.ref f) [.ref x, .str y k]) (W.CmpBack Q) E s) : wpAny (model prog w) A (richCompare op (.str y k) (.ref x)) Q E s := by
  have X := X₀.keeps F.keep
  have one : wpAny (model prog w) A (tryCompare (.ref x) (cmpInfo op).2.2 (.str y k)) (fun r s' => ∃ v, r = some v ∧ Q v s') E s := by
    unfold tryCompare
    refine wpAny_bind (ifBound_K X I hs hf (wpAny_mono h (fun v s' hv => ?_) fun _ _ e => e))
    cases v <;> first | exact hv.elim | exact wpAny_pure ⟨_, rfl, hv⟩
  have two : wpAny (model prog w) A (call (.builtin idf) [.str y k, .ref x]) (fun v s' => v = .notImplemented ∧ s' = s) E s :=
    call_givesAt (Q := fun v s' => v = .notImplemented ∧ s' = s) h1 (typeIs_str s y k) ent args (strcmp_ref nm g y k x) ⟨ox, I.at_, hox⟩ ⟨rfl, rfl⟩
  unfold richCompare
  have hot : oneThing? op (.str y k) (.ref x) = none := rfl
  simp only [hot]
  refine wpAny_holding (wpAny_bind (wpAny_cRoomFor hu ?_))
  refine wpAny_bind (wpAny_typeOf (typeIs_str s y k) (wpAny_bind (I.type.here ?_)))
  have hne : (Value.type "str" != Value.ref C) = true := rfl
  simp only [hne, if_true]
  refine wpAny_bind ((looks_subIn X hn).here ?_)
  simp only [Bool.false_eq_true, if_false, Bool.not_false, if_true]
  refine wpAny_bind (m := tryCompare (.str y k) _ (.ref x)) (wpAny_tryCompare_declines (typeIs_str s y k) h1 (wpAny_mono two (fun v s₁ h₁ => ⟨h₁.1, ?_⟩) fun _ _ x => x))
  obtain ⟨_, rfl⟩ := h₁
  refine wpAny_bind (wpAny_mono one (fun r s' z => ?_) fun _ _ e => e)
  obtain ⟨v, rfl, hq⟩ := z
  exact wpAny_pure hq
end
theorem lay2 : True := by
  k_with "compareOp Lt str ref" => (k_here; k_dflt (refine cmp_ofLt ?_; refine' cmp_refl_K ?u ?F ?X ?I ?o ?n PySem.F.slot_str_lt PySem.F.entry_str_lt (PySem.F.args_str_lt_2 _ _) ?s ?f ?_; (case u => k_units); (case F => k_asm); (case X => k_asm); (case I => k_inst); (case o => exact rfl); (case n => k_is); (case s => k_is); (case f => k_is); k_whole))
  trivial
theorem lay3 : True := by
  k_with "compareOp Gt str ref" => (k_here; k_dflt (refine cmp_ofGt ?_; refine' cmp_refl_K ?u ?F ?X ?I ?o ?n PySem.F.slot_str_gt PySem.F.entry_str_gt (PySem.F.args_str_gt_2 _ _) ?s ?f ?_; (case u => k_units); (case F => k_asm); (case X => k_asm); (case I => k_inst); (case o => exact rfl); (case n => k_is); (case s => k_is); (case f => k_is); k_whole))
  trivial
theorem lay4 : True := by
  k_with "compareOp Eq str ref" => (k_here; k_dflt (refine cmp_ofEq ?_; refine' cmp_refl_K ?u ?F ?X ?I ?o ?n PySem.F.slot_str_eq PySem.F.entry_str_eq (PySem.F.args_str_eq_2 _ _) ?s ?f ?_; (case u => k_units); (case F => k_asm); (case X => k_asm); (case I => k_inst); (case o => exact rfl); (case n => k_is); (case s => k_is); (case f => k_is); k_whole))
  trivial
section
variable {w : World} {hh : Option Value} {dp un : Nat} {gd : Option (List Code)} {env : Env} {outer : List Env} {A₀ : Around} {base h₀ : Heap} {L : Addr} {m mg mb : Str → Option Value} {mean : ExcName → Option Value}
   {news : List (Addr × Obj)} {s : Shared} {Q E : Value → Shared → Prop}
theorem name_lt {v v' : Value} {t t' : Str} (C : Cx w mean mg mb A₀ base outer h₀ L env) (F : Fr h₀ L s.heap m) (N : News h₀ L s.heap news) (h1 : Nm news v t) (h2 : Nm news v' t')
   (ret : ∀ h' tk', Fr h₀ L h' m → News h₀ L h' news → Q (.bool (decide (t.cps.toList < t'.cps.toList))) { s with heap := h', toks := tk' }) (hd : dp ≤ 900) (hu : un ≤ 5000) :
   wpAny (model PySem.Challenge.rw_oc0121_01.row.prog w) (ax hh dp un gd env outer) (compareOp .Lt v v') Q E s := by
  refine wpAny_le ?_ hd hu
  clear hd hu
  obtain ⟨B, X, T, hf, hk⟩ := C
  w_on
  cases h1 <;> cases h2
  all_goals (((try k_fold); w_strict (k_steps)))
  all_goals (try exact ret _ _ (by assumption) (by assumption))
theorem name_gt {v v' : Value} {t t' : Str} (C : Cx w mean mg mb A₀ base outer h₀ L env) (F : Fr h₀ L s.heap m) (N : News h₀ L s.heap news) (h1 : Nm news v t) (h2 : Nm news v' t')
   (ret : ∀ h' tk', Fr h₀ L h' m → News h₀ L h' news → Q (.bool (decide (t'.cps.toList < t.cps.toList))) { s with heap := h', toks := tk' }) (hd : dp ≤ 900) (hu : un ≤ 5000) :
   wpAny (model PySem.Challenge.rw_oc0121_01.row.prog w) (ax hh dp un gd env outer) (compareOp .Gt v v') Q E s := by
  refine wpAny_le ?_ hd hu
  clear hd hu
  obtain ⟨B, X, T, hf, hk⟩ := C
  w_on
  cases h1 <;> cases h2
  all_goals (((try k_fold); w_strict (k_steps)))
  all_goals (try exact ret _ _ (by assumption) (by assumption))
theorem name_eq {v v' : Value} {t t' : Str} (C : Cx w mean mg mb A₀ base outer h₀ L env) (F : Fr h₀ L s.heap m) (N : News h₀ L s.heap news) (h1 : Nm news v t) (h2 : Nm news v' t')
   (ret : ∀ h' tk', Fr h₀ L h' m → News h₀ L h' news → Q (.bool (t == t')) { s with heap := h', toks := tk' }) (hd : dp ≤ 900) (hu : un ≤ 5000) :
   wpAny (model PySem.Challenge.rw_oc0121_01.row.prog w) (ax hh dp un gd env outer) (compareOp .Eq v v') Q E s := by
  refine wpAny_le ?_ hd hu
  clear hd hu
  obtain ⟨B, X, T, hf, hk⟩ := C
  w_on
  cases h1 <;> cases h2
  all_goals (((try k_fold); w_strict (k_steps)))
  all_goals (try exact ret _ _ (by assumption) (by assumption))
  rw [show (t' == t) = (t == t') from BEq.comm]
  exact ret _ _ (by assumption) (by assumption)
end
theorem lay5 : True := by
  k_with_none
  trivial
-- Pure1
/-- the order of texts -/
noncomputable def tle (a b : Str) : Prop := ¬ b.cps.toList < a.cps.toList
theorem tle_refl (a : Str) : tle a a := List.lt_irrefl _
theorem tle_trans {a b c : Str} (h1 : tle a b) (h2 : tle b c) : tle a c := by
  unfold tle at *
  rw [List.not_lt] at *
  exact List.le_trans h1 h2
theorem tle_of_lt {a b : Str} (h : a.cps.toList < b.cps.toList) : tle a b := List.lt_asymm h
theorem tle_total (a b : Str) : tle a b ∨ tle b a := by
  by_cases h : b.cps.toList < a.cps.toList
  · exact .inr (tle_of_lt h)
  · exact .inl h
theorem tle_antisymm {a b : Str} (h1 : tle a b) (h2 : tle b a) : a = b := by
  unfold tle at *
  rw [List.not_lt] at *
  have : a.cps.toList = b.cps.toList := List.le_antisymm h1 h2
  obtain ⟨⟨a⟩⟩ := a
  obtain ⟨⟨b⟩⟩ := b
  simp at this
  rw [this]
-- Pure2
noncomputable abbrev PV := Value × Str
theorem swap_perm {α : Type} [DecidableEq α] {l : List α} {i j : Nat} {a b : α} (hij : i ≠ j) (ha : l[i]? = some a) (hb : l[j]? = some b) : ((l.set i b).set j a).Perm l := by
  have hi : i < l.length := (List.getElem?_eq_some_iff.mp ha).1
  have hj : j < l.length := (List.getElem?_eq_some_iff.mp hb).1
  have ea : l[i] = a := (List.getElem?_eq_some_iff.mp ha).2
  have eb : l[j] = b := (List.getElem?_eq_some_iff.mp hb).2
  rw [List.perm_iff_count]
  intro c
  have c1 := List.count_set (a := b) (b := c) hi
  have hj' : j < (l.set i b).length := by rw [List.length_set]; exact hj
  have c2 := List.count_set (a := a) (b := c) hj'
  have e2 : (l.set i b)[j] = b := by rw [List.getElem_set_ne hij]; exact eb
  rw [c2, c1, e2, ea]
  have p1 : (if a == c then 1 else 0) ≤ l.count c := by
    split
    · rename_i h
      have : a = c := by simpa using h
      subst this
      exact List.count_pos_iff.mpr (ea ▸ List.getElem_mem hi)
    · exact Nat.zero_le _
  omega
noncomputable def Hp (rs : List PV) : Prop := ∀ i x y, 0 < i → rs[(i - 1) / 2]? = some x → rs[i]? = some y → tle x.2 y.2
noncomputable def HpBut (rs : List PV) (pos : Nat) : Prop := (∀ i x y, 0 < i → i ≠ pos → rs[(i - 1) / 2]? = some x → rs[i]? = some y → tle x.2 y.2) ∧
  ∀ c x y, 0 < pos → 0 < c → (c - 1) / 2 = pos → rs[(pos - 1) / 2]? = some x → rs[c]? = some y → tle x.2 y.2
structure SD (ps : List PV) (p : PV) (qs : List PV) (pos : Nat) : Prop where
  len : qs.length = ps.length
  lt : pos < qs.length
  perm : (qs.set pos p).Perm ps
  sub : ∀ q ∈ qs, q ∈ ps
  hp : HpBut (qs.set pos p) pos
theorem sd_init {ps : List PV} {p : PV} {pos : Nat} (h : ps[pos]? = some p) (hb : HpBut ps pos) : SD ps p ps pos := by
  have hlt := (List.getElem?_eq_some_iff.mp h).1
  have e : ps.set pos p = ps := by
    have := (List.getElem?_eq_some_iff.mp h).2
    rw [← this]
    exact List.set_getElem_self hlt
  exact ⟨rfl, hlt, by rw [e], fun _ h => h, by rw [e]; exact hb⟩
theorem sd_step {ps : List PV} {p r : PV} {qs : List PV} {pos : Nat} (h : SD ps p qs pos) (h0 : 0 < pos) (hr : qs[(pos - 1) / 2]? = some r) (hl : p.2.cps.toList < r.2.cps.toList) : SD ps p (qs.set pos r) ((pos - 1) / 2) := by
  have hpp : (pos - 1) / 2 ≠ pos := by omega
  have hlt := h.lt
  have eP : (qs.set pos p)[pos]? = some p := by rw [List.getElem?_set_self hlt]
  have eR : (qs.set pos p)[(pos - 1) / 2]? = some r := by rw [List.getElem?_set_ne (Ne.symm hpp)]; exact hr
  have eS : ((qs.set pos r).set ((pos - 1) / 2) p) = (((qs.set pos p).set pos r).set ((pos - 1) / 2) p) := by rw [List.set_set]
  have at_ : ∀ i, ((qs.set pos r).set ((pos - 1) / 2) p)[i]? = if i = pos then some r else if i = (pos - 1) / 2 then some p else (qs.set pos p)[i]? := by
    intro i
    by_cases e1 : i = pos
    · subst e1
      rw [List.getElem?_set_ne hpp, List.getElem?_set_self hlt, if_pos rfl]
    · by_cases e2 : i = (pos - 1) / 2
      · subst e2
        rw [List.getElem?_set_self (by rw [List.length_set]; omega), if_neg e1, if_pos rfl]
      · rw [List.getElem?_set_ne (Ne.symm e2), List.getElem?_set_ne (Ne.symm e1), if_neg e1, if_neg e2, List.getElem?_set_ne (Ne.symm e1)]
  refine ⟨by rw [List.length_set]; exact h.len, by rw [List.length_set]; omega, ?_, ?_, ?_⟩
  · rw [eS]
    exact (swap_perm (Ne.symm hpp) eP eR).trans h.perm
  · intro q hq
    rcases List.mem_or_eq_of_mem_set hq with hq | rfl
    · exact h.sub q hq
    · exact h.sub _ (List.mem_of_getElem? hr)
  · constructor
    · intro i x y hi hne hx hy
      rw [at_] at hx hy
      by_cases e1 : i = pos
      · subst e1
        rw [if_pos rfl] at hy
        rw [if_neg hpp, if_pos rfl] at hx
        cases hx; cases hy
        exact tle_of_lt hl
      · rw [if_neg e1, if_neg hne] at hy
        by_cases e2 : (i - 1) / 2 = pos
        · rw [if_pos e2] at hx
          cases hx
          exact h.hp.2 i _ _ h0 hi e2 eR hy
        · rw [if_neg e2] at hx
          by_cases e3 : (i - 1) / 2 = (pos - 1) / 2
          · rw [if_pos e3] at hx
            cases hx
            exact tle_trans (tle_of_lt hl) (h.hp.1 i _ _ hi e1 (e3 ▸ eR) hy)
          · rw [if_neg e3] at hx
            exact h.hp.1 i _ _ hi e1 hx hy
    · intro c x y h1 hc e hx hy
      rw [at_, if_neg (by omega), if_neg (by omega)] at hx
      have hpar : tle x.2 r.2 := h.hp.1 ((pos - 1) / 2) _ _ h1 hpp hx eR
      rw [at_] at hy
      by_cases e1 : c = pos
      · rw [if_pos e1] at hy; cases hy; exact hpar
      · rw [if_neg e1, if_neg (by omega)] at hy
        exact tle_trans hpar (h.hp.1 c _ _ hc e1 (e ▸ eR) hy)
theorem sd_done {ps : List PV} {p : PV} {qs : List PV} {pos : Nat} (h : SD ps p qs pos) (hd : pos = 0 ∨ ∃ r, qs[(pos - 1) / 2]? = some r ∧ tle r.2 p.2) : Hp (qs.set pos p) := by
  intro i x y hi hx hy
  by_cases e : i = pos
  · subst e
    rcases hd with hd | ⟨r, hr, hle⟩
    · omega
    · rw [List.getElem?_set_ne (by omega), hr] at hx
      rw [List.getElem?_set_self h.lt] at hy
      cases hx; cases hy
      exact hle
  · exact h.hp.1 i _ _ hi e hx hy
-- Pure3
structure SU (ps : List PV) (p : PV) (qs : List PV) (pos : Nat) : Prop where
  len : qs.length = ps.length
  lt : pos < qs.length
  perm : (qs.set pos p).Perm ps
  sub : ∀ q ∈ qs, q ∈ ps
  h1 : ∀ i x y, 0 < i → i ≠ pos → (i - 1) / 2 ≠ pos → qs[(i - 1) / 2]? = some x → qs[i]? = some y → tle x.2 y.2
  h2 : ∀ c x y, 0 < pos → 0 < c → (c - 1) / 2 = pos → qs[(pos - 1) / 2]? = some x → qs[c]? = some y → tle x.2 y.2
theorem su_init {ps : List PV} {p : PV} (h : ps[0]? = some p) (hh : ∀ i x y, 0 < (i - 1) / 2 → ps[(i - 1) / 2]? = some x → ps[i]? = some y → tle x.2 y.2) : SU ps p ps 0 := by
  have hlt := (List.getElem?_eq_some_iff.mp h).1
  have e : ps.set 0 p = ps := by
    have := (List.getElem?_eq_some_iff.mp h).2
    rw [← this]
    exact List.set_getElem_self hlt
  exact ⟨rfl, hlt, by rw [e], fun _ h => h, fun i x y _ _ hp => hh i x y (by omega), fun c x y h => absurd h (Nat.lt_irrefl _)⟩
theorem su_step {ps : List PV} {p r : PV} {qs : List PV} {pos c : Nat} (h : SU ps p qs pos) (hc0 : 0 < c) (hc : (c - 1) / 2 = pos) (hr : qs[c]? = some r)
    (hmin : ∀ d y, 0 < d → (d - 1) / 2 = pos → qs[d]? = some y → tle r.2 y.2) : SU ps p (qs.set pos r) c := by
  have hpp : c ≠ pos := by omega
  have hlt := h.lt
  have hclt : c < qs.length := (List.getElem?_eq_some_iff.mp hr).1
  have eP : (qs.set pos p)[pos]? = some p := by rw [List.getElem?_set_self hlt]
  have eR : (qs.set pos p)[c]? = some r := by rw [List.getElem?_set_ne (Ne.symm hpp)]; exact hr
  have eS : ((qs.set pos r).set c p) = (((qs.set pos p).set pos r).set c p) := by rw [List.set_set]
  refine ⟨by rw [List.length_set]; exact h.len, by rw [List.length_set]; exact hclt, ?_, ?_, ?_, ?_⟩
  · rw [eS]
    exact (swap_perm (Ne.symm hpp) eP eR).trans h.perm
  · intro q hq
    rcases List.mem_or_eq_of_mem_set hq with hq | rfl
    · exact h.sub q hq
    · exact h.sub _ (List.mem_of_getElem? hr)
  · intro i x y hi hne hpar hx hy
    by_cases e1 : i = pos
    · subst e1
      rw [List.getElem?_set_ne (by omega)] at hx
      rw [List.getElem?_set_self hlt] at hy
      cases hy
      exact h.h2 c _ _ hi hc0 hc hx hr
    · rw [List.getElem?_set_ne (Ne.symm e1)] at hy
      by_cases e2 : (i - 1) / 2 = pos
      · rw [e2, List.getElem?_set_self hlt] at hx
        cases hx
        exact hmin i _ hi e2 hy
      · rw [List.getElem?_set_ne (Ne.symm e2)] at hx
        exact h.h1 i _ _ hi e1 e2 hx hy
  · intro d x y _ hd hdc hx hy
    rw [hc, List.getElem?_set_self hlt] at hx
    cases hx
    rw [List.getElem?_set_ne (by omega)] at hy
    exact h.h1 d _ _ hd (by omega) (by omega) (hdc ▸ hr) hy
theorem su_done {ps : List PV} {p : PV} {qs : List PV} {pos : Nat} (h : SU ps p qs pos) (hd : qs.length ≤ 2 * pos + 1) : HpBut (qs.set pos p) pos := by
  constructor
  · intro i x y hi hne hx hy
    have hi' : i < qs.length := by
      have := (List.getElem?_eq_some_iff.mp hy).1
      rwa [List.length_set] at this
    have hpar : (i - 1) / 2 ≠ pos := by omega
    rw [List.getElem?_set_ne (Ne.symm hpar)] at hx
    rw [List.getElem?_set_ne (Ne.symm hne)] at hy
    exact h.h1 i _ _ hi hne hpar hx hy
  · intro c x y h0 hc e hx hy
    have hc' : c < qs.length := by
      have := (List.getElem?_eq_some_iff.mp hy).1
      rwa [List.length_set] at this
    omega
theorem hp_root {rs : List PV} (h : Hp rs) {r : PV} (hr : rs[0]? = some r) : ∀ q ∈ rs, tle r.2 q.2 := by
  have key : ∀ (n i : Nat) (q : PV), i ≤ n → rs[i]? = some q → tle r.2 q.2 := by
    intro n
    induction n with
    | zero =>
      intro i q hi hq
      obtain rfl : i = 0 := by omega
      rw [hr] at hq; cases hq
      exact tle_refl _
    | succ n ih =>
      intro i q hi hq
      by_cases e : i = 0
      · subst e; rw [hr] at hq; cases hq; exact tle_refl _
      · have hlt := (List.getElem?_eq_some_iff.mp hq).1
        have hx : rs[(i - 1) / 2]? = some (rs[(i - 1) / 2]'(by omega)) := List.getElem?_eq_getElem (by omega)
        exact tle_trans (ih _ _ (by omega) hx) (h i _ _ (by omega) hx hq)
  intro q hq
  obtain ⟨i, hi⟩ := List.getElem?_of_mem hq
  exact key i i q (Nat.le_refl _) hi
theorem push_but {ps : List PV} {p : PV} (h : Hp ps) : HpBut (ps ++ [p]) ps.length := by
  constructor
  · intro i x y hi hne hx hy
    have hlt := (List.getElem?_eq_some_iff.mp hy).1
    rw [List.length_append, List.length_singleton] at hlt
    rw [List.getElem?_append_left (by omega)] at hx hy
    exact h i _ _ hi hx hy
  · intro c x y h0 hc e hx hy
    have hlt := (List.getElem?_eq_some_iff.mp hy).1
    rw [List.length_append, List.length_singleton] at hlt
    omega
theorem pop_pre {r last : PV} {t : List PV} (h : Hp (r :: t ++ [last])) : ∀ i x y, 0 < (i - 1) / 2 → (last :: t)[(i - 1) / 2]? = some x → (last :: t)[i]? = some y → tle x.2 y.2 := by
  intro i x y hi hx hy
  have hlt := (List.getElem?_eq_some_iff.mp hy).1
  have conv : ∀ j, 0 < j → j < (last :: t).length → (r :: t ++ [last])[j]? = (last :: t)[j]? := by
    intro j hj hl
    obtain ⟨j, rfl⟩ : ∃ k, j = k + 1 := ⟨j - 1, by omega⟩
    rw [List.cons_append, List.getElem?_cons_succ, List.getElem?_cons_succ, List.getElem?_append_left (by simpa using hl)]
  refine h i x y (by omega) ?_ ?_
  · rw [conv _ hi (by omega)]; exact hx
  · rw [conv _ (by omega) hlt]; exact hy
theorem su_left {ps : List PV} {p r : PV} {qs : List PV} {i : Nat} (h : SU ps p qs i) (hr : qs[2 * i + 1]? = some r) (hb : ∀ b, qs[2 * i + 2]? = some b → tle r.2 b.2) : SU ps p (qs.set i r) (2 * i + 1) := by
  refine su_step h (by omega) (by omega) hr ?_
  intro d y hd he hy
  rcases (by omega : d = 2 * i + 1 ∨ d = 2 * i + 2) with rfl | rfl
  · rw [hr] at hy; cases hy; exact tle_refl _
  · exact hb _ hy
theorem su_right {ps : List PV} {p r : PV} {qs : List PV} {i : Nat} (h : SU ps p qs i) (hr : qs[2 * i + 2]? = some r) (hb : ∀ b, qs[2 * i + 1]? = some b → tle r.2 b.2) : SU ps p (qs.set i r) (2 * i + 2) := by
  refine su_step h (by omega) (by omega) hr ?_
  intro d y hd he hy
  rcases (by omega : d = 2 * i + 1 ∨ d = 2 * i + 2) with rfl | rfl
  · exact hb _ hy
  · rw [hr] at hy; cases hy; exact tle_refl _
-- Lines
noncomputable abbrev lob (ps : List PV) (n : Nat) : Obj := listOf (ps.map (·.1)).toArray n
section
variable {w : World} {A : Around} {E : Value → Shared → Prop} {s : Shared} {h₀ : Heap} {L : Addr} {news news' : List (Addr × Obj)} {m : Str → Option Value}
theorem sub_read {value slice : Expr} {a : Addr} {ps : List PV} {n : Nat} {k : Int} {u : Tok} {Q : Value → Shared → Prop} (N : News h₀ L s.heap news) (hm : (a, lob ps n) ∈ news) (h0 : 0 ≤ k) (h1 : k < ps.length) (hfit : k < 2 ^ 63)
    (h : ∀ p, ps[k.toNat]? = some p → Q p.1 s)
    (hs : subscripted slice false (.ref a) (.int k u) = operate [.ref a, .int k u] (getItem (.ref a) (.int k u)) := by with_unfolding_all rfl) (hg : ∀ r, letTemporaryGo value (.ref a) r = pure () := by intro _; with_unfolding_all rfl) :
    wpAny (model PySem.Challenge.rw_oc0121_01.row.prog w) A (subscriptTail value slice (.ref a) (.int k u)) Q E s := by
  have hk : k.toNat < ps.length := by omega
  refine kim_list N hm rfl rfl h0 hfit (x := (ps[k.toNat]).1) ?_ (h _ (List.getElem?_eq_getElem hk)) hs hg
  rw [List.getElem?_map, List.getElem?_eq_getElem hk]; rfl
theorem sub_store {D : Addr} {ps : List PV} {n : Nat} {k : Int} {t : Tok} {p : PV} {v : Value} {Q : Unit → Shared → Prop} (F : Fr h₀ L s.heap m) (N : News h₀ L s.heap ((D, lob ps n) :: news)) (hD : ∀ q ∈ news, q.1 ≠ D) (hv : p.1 = v) (h0 : 0 ≤ k) (h1 : k < ps.length) (hfit : k < 2 ^ 63)
    (h : ∀ h', Fr h₀ L h' m → News h₀ L h' ((D, lob (ps.set k.toNat p) n) :: news) → Q () { s with heap := h' }) :
    wpAny (model PySem.Challenge.rw_oc0121_01.row.prog w) A (setItem (.ref D) (.int k t) v) Q E s := by
  subst hv
  have z := N _ (List.Mem.head _)
  refine ki_setAt z.1 h0 hfit (by simpa using h1) (h _ (F.change (Heap.SameBut.update ..) z.2.1 z.2.2) ?_)
  refine ki_turn (pre := []) _ N (fun _ h => (nomatch h)) hD ?_ ?_
  · apply Array.toList_inj.mp
    simp [List.map_set]
  · simp
noncomputable def WStep (I : Nat → Shared → Prop) (n : Nat) (Q : Flow → Shared → Prop) (f : Flow) (s : Shared) : Prop := match f with
  | .next => ∃ m, m < n ∧ I m s
  | .cont => ∃ m, m < n ∧ I m s
  | .brk => Q .next s
  | .ret v => Q (.ret v) s
theorem while_E {env : Env} {test : Expr} {body : List Stmt} {pos : Pos} {Q : Flow → Shared → Prop} (I : Nat → Shared → Prop) (n₀ : Nat) (h : I n₀ s)
    (turn : ∀ n s', I n s' → wpAny (model PySem.Challenge.rw_oc0121_01.row.prog w) A (isTrue test env (eval test env)) (fun b s₂ => if b = true then wpAny (model PySem.Challenge.rw_oc0121_01.row.prog w) A (execs body env) (WStep I n Q) E s₂ else Q .next s₂) E s')
    (hE : PassesOwn (model PySem.Challenge.rw_oc0121_01.row.prog w) A env E) :
    wpAny (model PySem.Challenge.rw_oc0121_01.row.prog w) A (exec (.While test body [] pos) env) Q E s := by
  refine wpAny_While (codeAny_whileLoop I (fun n s' hI => ?_) n₀ h)
  refine wpAny_mono (turn n s' hI) (fun b s₂ h₂ => ?_) hE
  cases b with
  | false =>
    simp only [Bool.false_eq_true, if_false] at h₂ ⊢
    exact wpAny_execs_nil h₂
  | true =>
    simp only [if_true] at h₂ ⊢
    refine wpAny_mono h₂ (fun f s₃ h₃ => ?_) hE
    cases f <;> exact h₃
theorem while_my {env : Env} {test : Expr} {body : List Stmt} {pos : Pos} {Q : Flow → Shared → Prop} (I : Nat → Shared → Prop) (n₀ : Nat) (h : I n₀ s)
    (turn : ∀ n s', I n s' → wpAny (model PySem.Challenge.rw_oc0121_01.row.prog w) A (isTrue test env (eval test env)) (fun b s₂ => if b = true then wpAny (model PySem.Challenge.rw_oc0121_01.row.prog w) A (execs body env) (WStep I n Q) (fun _ _ => False) s₂ else Q .next s₂) (fun _ _ => False) s') :
    wpAny (model PySem.Challenge.rw_oc0121_01.row.prog w) A (exec (.While test body [] pos) env) Q E s :=
  wpAny_noRaise (while_E I n₀ h turn PassesOwn.never)
end
/-- an index in bounds -/
theorem lay6 : True := by
  k_with "subscriptTail" => (k_here; (with_reducible show wpAny _ _ (subscriptTail _ _ (Value.ref _) (Value.int _ _)) _ _ _); k_dflt (refine' sub_read ?N ?m ?k0 ?k1 ?k2 ?_ ?h1 ?h2; (case N => k_asm); (case m => k_mem); (case k0 => (first | omega | ((simp only [List.length_set, List.length_append, List.length_cons, List.length_nil, List.length_map]); omega) | ((simp only [List.length_set, List.length_append, List.length_cons, List.length_nil, List.length_map] at *); omega))); (case k1 => (first | omega | ((simp only [List.length_set, List.length_append, List.length_cons, List.length_nil, List.length_map]); omega) | ((simp only [List.length_set, List.length_append, List.length_cons, List.length_nil, List.length_map] at *); omega))); (case k2 => (first | omega | ((simp only [List.length_set, List.length_append, List.length_cons, List.length_nil, List.length_map]); omega) | ((simp only [List.length_set, List.length_append, List.length_cons, List.length_nil, List.length_map] at *); omega))); (case h1 => with_unfolding_all rfl); (case h2 => (intro _; with_unfolding_all rfl)); k_whole; intro _ _))
  trivial
theorem lay7 : True := by
  k_with "go" => repeat' ((fail_if_success (with_reducible show wpAny _ _ (exec (Stmt.While _ _ _ _) _) _ _ _)); (fail_if_success (with_reducible show wpAny _ _ (exec (Stmt.For _ _ _ _ _) _) _ _ _)); (fail_if_success (with_reducible show wpAny _ _ (exec (Stmt.Assign _ (Expr.ListComp _ _ _ _) _) _) _ _ _)); (fail_if_success (with_reducible show wpAny _ _ (eval (Expr.ListComp _ _ _ _) _) _ _ _)); (fail_if_success (with_reducible show wpAny _ _ (call (Value.ref _) _ _) _ _ _)); first | (k_unfold; (try dsimp only)) | walk1 | (dsimp only; walk1) | (leave1; (try dsimp only)))
  trivial
theorem Nm.cons {p : Addr × Obj} {news : List (Addr × Obj)} {v : Value} {t : Str} (h : Nm news v t) : Nm (p :: news) v t := h.mono fun _ h => List.mem_cons_of_mem _ h
theorem nm_at {rest : List (Addr × Obj)} {qs : List PV} {p : PV} {i : Nat} (h : ∀ q ∈ qs, Nm rest q.1 q.2) (hp : qs[i]? = some p) : Nm rest p.1 p.2 := h _ (List.mem_of_getElem? hp)
/-- a name's text -/
theorem lay8 : True := by
  k_with "rel" => first | assumption | exact Nm.str | exact nm_at (by assumption) (by assumption) | (refine' Nm.cons ?h9; (case h9 => k_extra "rel"))
  trivial
/-- a local's value -/
theorem lay9 : True := by
  k_with "unf" => ((try dsimp only); first | assumption | exact rfl | exact if_pos rfl | (refine (if_neg (by decide)).trans ?_; k_extra "unf"))
  trivial
theorem lay10 : True := by
  k_with "eval Name" => (k_here; (with_reducible show wpAny _ _ (eval (Expr.Name _ _) (envOf _ _ _ _ _)) _ _ _); k_dflt (refine' ld ?k1 ?k2 ?_ ?k3 ?k4 ?k5; (case k1 => k_asm); (case k2 => k_extra "unf"); (case k3 => exact rfl); (case k4 => exact rfl); (case k5 => decide); k_whole))
  trivial
theorem lay11 : True := by
  k_with "eval Name" => (k_here; (fail_if_success (with_reducible show wpAny _ _ (eval (Expr.Name _ _) (envOf _ _ _ _ _)) _ _ _)); k_dflt (refine' nameX_L ?F ?v ?_ ?a ?b; (case F => k_asm); (case a => exact rfl); (case b => exact rfl); (case v => k_extra "unf"); k_whole))
  trivial
theorem lay12 : True := by
  k_with "setItem ref int" => (k_here; k_dflt (refine' sub_store ?F ?N ?hD ?hv ?k0 ?k1 ?k2 ?_; (case F => k_asm); (case N => k_asm); (case hD => assumption); (case hv => exact rfl); (case k0 => (first | omega | ((simp only [List.length_set, List.length_append, List.length_cons, List.length_nil, List.length_map]); omega) | ((simp only [List.length_set, List.length_append, List.length_cons, List.length_nil, List.length_map] at *); omega))); (case k1 => (first | omega | ((simp only [List.length_set, List.length_append, List.length_cons, List.length_nil, List.length_map]); omega) | ((simp only [List.length_set, List.length_append, List.length_cons, List.length_nil, List.length_map] at *); omega))); (case k2 => (first | omega | ((simp only [List.length_set, List.length_append, List.length_cons, List.length_nil, List.length_map]); omega) | ((simp only [List.length_set, List.length_append, List.length_cons, List.length_nil, List.length_map] at *); omega))); k_whole); intro _ _ _; (try k_sweep))
  trivial
theorem lay13 : True := by
  k_with "compareOp Lt" => (k_here; k_dflt (refine' name_lt ⟨?B, ?X, ?T, ?hf, ?hk⟩ ?F ?N ?h1 ?h2 ?_ ?d ?u; (case B => k_asm); (case X => k_asm); (case T => k_asm); (case hf => first | assumption | exact rfl); (case hk => first | assumption | exact rfl); (case F => k_asm); (case N => k_asm); (case h1 => k_extra "rel"); (case h2 => k_extra "rel"); (case d => exact Nat.le_of_ble_eq_true rfl); (case u => exact Nat.le_of_ble_eq_true rfl); k_whole); intro _ _ _ _; (try k_sweep))
  trivial
theorem rsh1 {w : World} {A : Around} {E : Value → Shared → Prop} {s : Shared} {a : Int} {t u : Tok} {Q : Value → Shared → Prop} (h : ∀ u' tk', Q (.int (a / 2) u') { s with toks := tk' }) :
    wpAny (model PySem.Challenge.rw_oc0121_01.row.prog w) A (binaryOp .RShift (.int a t) (.int 1 u)) Q E s := by
  refine rshift_int (by decide) ?_
  rw [show a.fdiv (2 ^ Int.toNat 1) = a / 2 from Int.fdiv_eq_ediv_of_nonneg a (by decide)]
  exact h _ _
theorem lay14 : True := by
  k_with "binaryOp RShift int int" => (k_here; refine rsh1 ?_; intro _ _; (try dsimp only))
  trivial
theorem WStep.brk {I : Nat → Shared → Prop} {n : Nat} {Q : Flow → Shared → Prop} {s : Shared} (h : Q .next s) : WStep I n Q .brk s := h
theorem WStep.ret {I : Nat → Shared → Prop} {n : Nat} {Q : Flow → Shared → Prop} {s : Shared} {v : Value} (h : Q (.ret v) s) : WStep I n Q (.ret v) s := h
theorem WStep.next {I : Nat → Shared → Prop} {n : Nat} {Q : Flow → Shared → Prop} {s : Shared} (m : Nat) (hm : m < n) (h : I m s) : WStep I n Q .next s := ⟨m, hm, h⟩
theorem WStep.cont {I : Nat → Shared → Prop} {n : Nat} {Q : Flow → Shared → Prop} {s : Shared} (m : Nat) (hm : m < n) (h : I m s) : WStep I n Q .cont s := ⟨m, hm, h⟩
theorem lay15 : True := by
  k_with "WStep brk" => (refine WStep.brk ?_; (try dsimp only))
  trivial
theorem lay16 : True := by
  k_with "WStep ret" => (refine WStep.ret ?_; (try dsimp only))
  trivial
section
variable {w : World} {A : Around} {E : Value → Shared → Prop} {s : Shared} {h₀ : Heap} {L D : Addr} {news : List (Addr × Obj)} {m : Str → Option Value} {ps : List PV} {n : Nat}
theorem lob_list {h : Heap} (N : News h₀ L h news) (hm : (D, lob ps n) ∈ news) : h.IsList D (ps.map (·.1)).toArray := ⟨_, (N _ hm).1, rfl, n, rfl⟩
theorem len_lob {Q : Value → Shared → Prop} (N : News h₀ L s.heap news) (hm : (D, lob ps n) ∈ news) (hl : ps.length < 1000) (h : ∀ u tk, Q (.int ps.length u) { s with toks := tk }) :
    wpAny (model PySem.Challenge.rw_oc0121_01.row.prog w) A (call (.builtin "len") [.ref D]) Q E s := by
  refine len_list (lob_list N hm) (by simp; omega) ?_
  simp only [List.size_toArray, List.length_map]
  exact h _ _
theorem truthy_lob {Q : Bool → Shared → Prop} (N : News h₀ L s.heap news) (hm : (D, lob ps n) ∈ news) (hl : ps.length < 1000) (h : ∀ tk, Q (decide (0 < ps.length)) { s with toks := tk }) :
    wpAny (model PySem.Challenge.rw_oc0121_01.row.prog w) A (truthy (.ref D)) Q E s := by
  refine wpAny_truthy_list (lob_list N hm) (by simp; omega) ?_
  have e : (!(ps.map (·.1)).toArray.isEmpty) = decide (0 < ps.length) := by cases ps <;> simp
  rw [e]
  exact h _
theorem append_lob {p : PV} {v : Value} {Q : Value → Shared → Prop} (F : Fr h₀ L s.heap m) (N : News h₀ L s.heap ((D, lob ps n) :: news)) (hD : ∀ q ∈ news, q.1 ≠ D) (hl : ps.length < 1000) (hv : p.1 = v)
    (h : ∀ h', Fr h₀ L h' m → News h₀ L h' ((D, lob (ps ++ [p]) (n + 1)) :: news) → Q .none { s with heap := h' }) :
    wpAny (model PySem.Challenge.rw_oc0121_01.row.prog w) A (call (.builtin "list.append") [.ref D, v]) Q E s := by
  subst hv
  refine append_K F N (.head hD) (fun h' F' N' => h h' F' ?_) (by rw [sizeLine_eq]; simp; omega)
  have e : (ps.map (·.1)).toArray.push p.1 = ((ps ++ [p]).map (·.1)).toArray := by simp
  rw [e] at N'
  exact N'
theorem pop_lob {p : PV} {Q : Value → Shared → Prop} (F : Fr h₀ L s.heap m) (N : News h₀ L s.heap ((D, lob (ps ++ [p]) n) :: news)) (hD : ∀ q ∈ news, q.1 ≠ D) (hl : ps.length < 1000)
    (h : ∀ h', Fr h₀ L h' m → News h₀ L h' ((D, lob ps (n + 1)) :: news) → Q p.1 { s with heap := h' }) :
    wpAny (model PySem.Challenge.rw_oc0121_01.row.prog w) A (call (.builtin "list.pop") [.ref D]) Q E s := by
  refine kl_pop F N (p := ps.map (·.1)) (y := p.1) ?_ (.head hD) (by rw [sizeLine_eq]; simp; omega) h
  have e := kpa_last p.1 (ps.map (·.1))
  simpa using e
end
theorem lay17 : True := by
  k_with "call builtin:len" => (k_here; (with_reducible show wpAny _ _ (call (Value.builtin _) [Value.ref _]) _ _ _); k_dflt (refine' len_lob ?N ?m ?l ?_; (case N => k_asm); (case m => k_mem); (case l => (first | omega | ((simp only [List.length_set, List.length_append, List.length_cons, List.length_nil, List.length_map]); omega) | ((simp only [List.length_set, List.length_append, List.length_cons, List.length_nil, List.length_map] at *); omega))); k_whole); intro _ _; (try dsimp only))
  trivial
theorem lay18 : True := by
  k_with "truthy ref" => (k_here; k_dflt (refine' truthy_lob ?N ?m ?l ?_; (case N => k_asm); (case m => k_mem); (case l => (first | omega | ((simp only [List.length_set, List.length_append, List.length_cons, List.length_nil, List.length_map]); omega) | ((simp only [List.length_set, List.length_append, List.length_cons, List.length_nil, List.length_map] at *); omega))); k_whole); intro _; (try dsimp only))
  trivial
theorem lay19 : True := by
  k_with "call builtin:list.append" => (k_here; k_dflt (refine' append_lob ?F ?N ?hD ?l ?hv ?_; (case F => k_asm); (case N => k_asm); (case hD => assumption); (case l => (first | omega | ((simp only [List.length_set, List.length_append, List.length_cons, List.length_nil, List.length_map]); omega) | ((simp only [List.length_set, List.length_append, List.length_cons, List.length_nil, List.length_map] at *); omega))); (case hv => exact rfl); k_whole); intro _ _ _; (try k_sweep); (try dsimp only))
  trivial
theorem lay20 : True := by
  k_with "call builtin:list.pop" => (k_here; k_dflt (refine' pop_lob ?F ?N ?hD ?l ?_; (case F => k_asm); (case N => k_asm); (case hD => assumption); (case l => (first | omega | ((simp only [List.length_set, List.length_append, List.length_cons, List.length_nil, List.length_map]); omega) | ((simp only [List.length_set, List.length_append, List.length_cons, List.length_nil, List.length_map] at *); omega))); k_whole); intro _ _ _; (try k_sweep); (try dsimp only))
  trivial
-- C1
inductive sdI (s : Shared) (g1 : Heap) (L1 hp : Addr) (n : Nat) (rest : List (Addr × Obj)) (ps : List PV) (p : PV) (k : Nat) (s' : Shared) : Prop
  | mk (h : Heap) (tk : Nat) (qs : List PV) (m' : Str → Option Value) (x1 : s' = { s with heap := h, toks := tk }) (x2 : Fr g1 L1 h m') (x3 : News g1 L1 h ((hp, lob qs n) :: rest)) (x4 : m' (Str.ofString "heap") = some (.ref hp)) (x5 : (∃ k, m' (Str.ofString "startpos") = some (.int 0 k))) (x6 : (∃ t, m' (Str.ofString "pos") = some (.int (k : Int) t))) (x7 : m' (Str.ofString "newitem") = some p.1) (x8 : SD ps p qs k) : sdI s g1 L1 hp n rest ps p k s'
section
variable {w : World} {hh : Option Value} {dp un : Nat} {gd : Option (List Code)} {env : Env} {outer : List Env} {A₀ : Around} {base h₀ : Heap} {L : Addr} {m mg mb : Str → Option Value} {mean : ExcName → Option Value}
   {rest : List (Addr × Obj)} {s : Shared} {Q E : Value → Shared → Prop}
theorem siftdown_c {hp : Addr} {ps : List PV} {n pos : Nat} {k1 k2 : Tok} {p : PV} (C : Cx w mean mg mb A₀ base outer h₀ L env) (F : Fr h₀ L s.heap m) (N : News h₀ L s.heap ((hp, lob ps n) :: rest)) (hhp : ∀ q ∈ rest, q.1 ≠ hp)
   (hps : ∀ q ∈ ps, Nm rest q.1 q.2) (hpos : ps[pos]? = some p) (hlen : ps.length < 1000) (hb : HpBut ps pos)
   (ret : ∀ h' tk' qs, Fr h₀ L h' m → News h₀ L h' ((hp, lob qs n) :: rest) → qs.Perm ps → Hp qs → Q .none { s with heap := h', toks := tk' }) (hd : dp ≤ 800) (hu : un ≤ 4000) :
   wpAny (model PySem.Challenge.rw_oc0121_01.row.prog w) (ax hh dp un gd env outer) (call (.ref 127) [.ref hp, .int 0 k1, .int pos k2]) Q E s := by
  refine wpAny_le ?_ hd hu
  clear hd hu
  obtain ⟨B, X, T, hf, hk⟩ := C
  have hlt : pos < ps.length := (List.getElem?_eq_some_iff.mp hpos).1
  w_on
  refine wpAny_call ?_
  refine' code_def (binds := [(Str.ofString "heap", .ref hp), (Str.ofString "startpos", .int 0 k1), (Str.ofString "pos", .int pos k2)]) B F X N T rfl hf hk ?k6 ?k7 ?k8 ?k9 ?kB ?_ ?c2 ?c3 ?c4 ?c5
  case k6 => k_is
  case k7 => k_is
  case k8 => k_room
  case k9 => exact BindsTo.of_eq rfl
  case kB => exact locs rfl
  case c2 => exact rfl
  case c3 => exact rfl
  case c4 => exact rfl
  case c5 => decide
  intro g1 L1 h1 FG1 F1 N1 B1 X1 T1
  (try dsimp only)
  k_fold
  ((try k_fold); w_strict (k_extra "go"))
  rename Fr _ _ _ _ => F2
  rename News _ _ _ _ => N2
  rename ps[_]? = some _ => hp1
  rw [Int.toNat_natCast, hpos] at hp1
  cases hp1
  have hnp : Nm rest p.1 p.2 := nm_at hps hpos
  refine while_my (sdI s g1 L1 hp n rest ps p) pos ?_ ?_
  · exact ⟨_, _, ps, _, rfl, F2, N2, by k_extra "unf", ⟨_, by k_extra "unf"⟩, ⟨_, by k_extra "unf"⟩, by k_extra "unf", sd_init hpos hb⟩
  · clear F2 N2
    rintro k _ ⟨h, tk, qs, m', rfl, F2, N2, e1, ⟨t2, e2⟩, ⟨t3, e3⟩, e4, hsd⟩
    have hl1 := hsd.len
    have hl2 := hsd.lt
    have hqs : ∀ q ∈ qs, Nm rest q.1 q.2 := fun q hq => hps q (hsd.sub q hq)
    ((try k_fold); w_strict (k_extra "go"))
    · rename Fr _ _ _ _ => F3
      rename News _ _ _ _ => N3
      rename (_ : List Nat) < _ => hlt1
      rename qs[_]? = some _ => hp1
      rename (0 : Int) < _ => hk0
      have e : ((k : Int) - 1) / 2 = (((k - 1) / 2 : Nat) : Int) := by omega
      simp only [e, Int.toNat_natCast] at F3 N3 hp1
      refine WStep.cont ((k - 1) / 2) (by omega) ⟨_, _, _, _, rfl, F3, N3, by k_extra "unf", ⟨_, by k_extra "unf"⟩, ⟨_, by k_extra "unf"⟩, by k_extra "unf", sd_step hsd (by omega) hp1 hlt1⟩
    · rename Fr _ _ _ _ => F3
      rename News _ _ _ _ => N3
      rename ¬ ((_ : List Nat) < _) => hlt1
      rename qs[_]? = some _ => hp1
      rename (0 : Int) < _ => hk0
      have e : ((k : Int) - 1) / 2 = (((k - 1) / 2 : Nat) : Int) := by omega
      simp only [e, Int.toNat_natCast] at N3 hp1
      exact ret _ _ _ (by assumption) N3 hsd.perm (sd_done hsd (.inr ⟨_, hp1, hlt1⟩))
    · rename Fr _ _ _ _ => F3
      rename News _ _ _ _ => N3
      rename ¬ ((0 : Int) < _) => hk0
      simp only [Int.toNat_natCast] at N3
      exact ret _ _ _ (by assumption) N3 hsd.perm (sd_done hsd (.inl (by omega)))
end
-- C2
inductive suI (s : Shared) (g1 : Heap) (L1 hp : Addr) (n : Nat) (rest : List (Addr × Obj)) (ps : List PV) (p : PV) (k : Nat) (s' : Shared) : Prop
  | mk (h : Heap) (tk : Nat) (qs : List PV) (m' : Str → Option Value) (i : Nat) (x1 : s' = { s with heap := h, toks := tk }) (x2 : Fr g1 L1 h m') (x3 : News g1 L1 h ((hp, lob qs n) :: rest)) (x4 : m' (Str.ofString "heap") = some (.ref hp)) (x5 : (∃ k, m' (Str.ofString "startpos") = some (.int 0 k))) (x6 : (∃ t, m' (Str.ofString "endpos") = some (.int (ps.length : Int) t))) (x7 : (∃ t, m' (Str.ofString "pos") = some (.int ((i : Nat) : Int) t))) (x8 : (∃ t, m' (Str.ofString "childpos") = some (.int (2 * ((i : Nat) : Int) + 1) t))) (x9 : m' (Str.ofString "newitem") = some p.1) (x10 : k = ps.length - i) (x11 : SU ps p qs i) : suI s g1 L1 hp n rest ps p k s'
section
variable {w : World} {hh : Option Value} {dp un : Nat} {gd : Option (List Code)} {env : Env} {outer : List Env} {A₀ : Around} {base h₀ : Heap} {L : Addr} {m mg mb : Str → Option Value} {mean : ExcName → Option Value}
   {rest : List (Addr × Obj)} {s : Shared} {Q E : Value → Shared → Prop}
theorem siftup_c {hp : Addr} {ps : List PV} {n : Nat} {k1 : Tok} {p : PV} (C : Cx w mean mg mb A₀ base outer h₀ L env) (F : Fr h₀ L s.heap m) (N : News h₀ L s.heap ((hp, lob ps n) :: rest)) (hhp : ∀ q ∈ rest, q.1 ≠ hp)
   (hps : ∀ q ∈ ps, Nm rest q.1 q.2) (hpos : ps[0]? = some p) (hlen : ps.length < 1000) (hb : ∀ i x y, 0 < (i - 1) / 2 → ps[(i - 1) / 2]? = some x → ps[i]? = some y → tle x.2 y.2)
   (ret : ∀ h' tk' qs, Fr h₀ L h' m → News h₀ L h' ((hp, lob qs n) :: rest) → qs.Perm ps → Hp qs → Q .none { s with heap := h', toks := tk' }) (hd : dp ≤ 790) (hu : un ≤ 3900) :
   wpAny (model PySem.Challenge.rw_oc0121_01.row.prog w) (ax hh dp un gd env outer) (call (.ref 134) [.ref hp, .int 0 k1]) Q E s := by
  refine wpAny_le ?_ hd hu
  clear hd hu
  obtain ⟨B, X, T, hf, hk⟩ := C
  have hlt : 0 < ps.length := (List.getElem?_eq_some_iff.mp hpos).1
  w_on
  refine wpAny_call ?_
  refine' code_def (binds := [(Str.ofString "heap", .ref hp), (Str.ofString "pos", .int 0 k1)]) B F X N T rfl hf hk ?k6 ?k7 ?k8 ?k9 ?kB ?_ ?c2 ?c3 ?c4 ?c5
  case k6 => k_is
  case k7 => k_is
  case k8 => k_room
  case k9 => exact BindsTo.of_eq rfl
  case kB => exact locs rfl
  case c2 => exact rfl
  case c3 => exact rfl
  case c4 => exact rfl
  case c5 => decide
  intro g1 L1 h1 FG1 F1 N1 B1 X1 T1
  (try dsimp only)
  k_fold
  ((try k_fold); w_strict (k_extra "go"))
  rename Fr _ _ _ _ => F2
  rename News _ _ _ _ => N2
  rename ps[_]? = some _ => hp1
  rw [show Int.toNat 0 = 0 from rfl, hpos] at hp1
  cases hp1
  have hnp : Nm rest p.1 p.2 := nm_at hps hpos
  refine while_my (suI s g1 L1 hp n rest ps p) ps.length ?_ ?_
  · exact ⟨_, _, ps, _, 0, rfl, F2, N2, by k_extra "unf", ⟨_, by k_extra "unf"⟩, ⟨_, by k_extra "unf"⟩, ⟨_, by k_extra "unf"⟩, ⟨_, by k_extra "unf"⟩, by k_extra "unf", by omega, su_init hpos hb⟩
  · clear F2 N2
    rintro k _ ⟨h, tk, qs, m', i, rfl, F2, N2, e1, ⟨t2, e2⟩, ⟨t3, e3⟩, ⟨t4, e4⟩, ⟨t5, e5⟩, e6, hki, hsu⟩
    have hl1 := hsu.len
    have hl2 := hsu.lt
    have hqs : ∀ q ∈ qs, Nm rest q.1 q.2 := fun q hq => hps q (hsu.sub q hq)
    ((try k_fold); w_strict (k_extra "go"))
    · rename_i a ha b hb h4 tk4 hab r hr h5 h6 h7 F3 N3
      have e : 2 * (i : Int) + 1 = ((2 * i + 1 : Nat) : Int) := by omega
      have e' : ((2 * i + 1 : Nat) : Int) + 1 = ((2 * i + 2 : Nat) : Int) := by omega
      simp only [e, e', Int.toNat_natCast] at ha hb hr F3 N3
      rw [ha] at hr
      cases hr
      exact WStep.next (ps.length - (2 * i + 1)) (by omega) ⟨_, _, _, _, 2 * i + 1, rfl, F3, N3, by k_extra "unf", ⟨_, by k_extra "unf"⟩, ⟨_, by k_extra "unf"⟩, ⟨_, by k_extra "unf"⟩, ⟨_, by k_extra "unf"⟩, by k_extra "unf", rfl, su_left hsu ha fun b' hb' => by rw [hb] at hb'; cases hb'; exact tle_of_lt hab⟩
    · rename_i a ha b hb h4 tk4 hab h5 r hr h6 h7 h8 F3 N3
      have e : 2 * (i : Int) + 1 = ((2 * i + 1 : Nat) : Int) := by omega
      have e' : ((2 * i + 1 : Nat) : Int) + 1 = ((2 * i + 2 : Nat) : Int) := by omega
      simp only [e, e', Int.toNat_natCast] at ha hb hr F3 N3
      rw [hb] at hr
      cases hr
      exact WStep.next (ps.length - (2 * i + 2)) (by omega) ⟨_, _, _, _, 2 * i + 2, rfl, F3, N3, by k_extra "unf", ⟨_, by k_extra "unf"⟩, ⟨_, by k_extra "unf"⟩, ⟨_, by k_extra "unf"⟩, ⟨_, by k_extra "unf"⟩, by k_extra "unf", rfl, su_right hsu hb fun b' hb' => by rw [ha] at hb'; cases hb'; exact hab⟩
    · rename_i hge tk3 r hr h6 h7 h8 F3 N3
      have e : 2 * (i : Int) + 1 = ((2 * i + 1 : Nat) : Int) := by omega
      have e' : ((2 * i + 1 : Nat) : Int) + 1 = ((2 * i + 2 : Nat) : Int) := by omega
      simp only [e, e', Int.toNat_natCast] at hr F3 N3 hge
      exact WStep.next (ps.length - (2 * i + 1)) (by omega) ⟨_, _, _, _, 2 * i + 1, rfl, F3, N3, by k_extra "unf", ⟨_, by k_extra "unf"⟩, ⟨_, by k_extra "unf"⟩, ⟨_, by k_extra "unf"⟩, ⟨_, by k_extra "unf"⟩, by k_extra "unf", rfl, su_left hsu hr fun b' hb' => by
        have := (List.getElem?_eq_some_iff.mp hb').1
        omega⟩
    · rename_i hge h5 F3 N3
      simp only [Int.toNat_natCast] at N3
      have hq : ∀ q ∈ qs.set i p, Nm rest q.1 q.2 := fun q hq => hps q (hsu.perm.mem_iff.mp hq)
      refine siftdown_c (ps := qs.set i p) (pos := i) (p := p) ⟨B1, X1, T1, rfl, rfl⟩ F3 N3 hhp hq (by rw [List.getElem?_set_self hl2]) (by rw [List.length_set]; omega) (su_done hsu (by omega)) ?_ (Nat.le_of_ble_eq_true rfl) (Nat.le_of_ble_eq_true rfl)
      intro h6 tk6 rs F4 N4 hperm hHp
      clear F3 N3
      ((try k_fold); w_strict (k_extra "go"))
      exact ret _ _ _ (by assumption) (by assumption) (hperm.trans hsu.perm) hHp
end
-- C3
section
variable {w : World} {hh : Option Value} {dp un : Nat} {gd : Option (List Code)} {env : Env} {outer : List Env} {A₀ : Around} {base h₀ : Heap} {L : Addr} {m mg mb : Str → Option Value} {mean : ExcName → Option Value}
   {rest : List (Addr × Obj)} {s : Shared} {Q E : Value → Shared → Prop}
theorem heappush_c {hp : Addr} {ps : List PV} {n : Nat} {p : PV} {v : Value} (C : Cx w mean mg mb A₀ base outer h₀ L env) (F : Fr h₀ L s.heap m) (N : News h₀ L s.heap ((hp, lob ps n) :: rest)) (hhp : ∀ q ∈ rest, q.1 ≠ hp)
   (hv : p.1 = v) (hps : ∀ q ∈ ps, Nm rest q.1 q.2) (hp1 : Nm rest p.1 p.2) (hlen : ps.length < 900) (hH : Hp ps)
   (ret : ∀ h' tk' qs n', Fr h₀ L h' m → News h₀ L h' ((hp, lob qs n') :: rest) → qs.Perm (p :: ps) → Hp qs → Q .none { s with heap := h', toks := tk' }) (hd : dp ≤ 780) (hu : un ≤ 3800) :
   wpAny (model PySem.Challenge.rw_oc0121_01.row.prog w) (ax hh dp un gd env outer) (call (.ref 113) [.ref hp, v]) Q E s := by
  refine wpAny_le ?_ hd hu
  clear hd hu
  subst hv
  obtain ⟨B, X, T, hf, hk⟩ := C
  w_on
  refine wpAny_call ?_
  refine' code_def (binds := [(Str.ofString "heap", .ref hp), (Str.ofString "item", p.1)]) B F X N T rfl hf hk ?k6 ?k7 ?k8 ?k9 ?kB ?_ ?c2 ?c3 ?c4 ?c5
  case k6 => k_is
  case k7 => k_is
  case k8 => k_room
  case k9 => exact BindsTo.of_eq rfl
  case kB => exact locs rfl
  case c2 => exact rfl
  case c3 => exact rfl
  case c4 => exact rfl
  case c5 => decide
  intro g1 L1 h1 FG1 F1 N1 B1 X1 T1
  (try dsimp only)
  k_fold
  ((try k_fold); w_strict (k_extra "go"))
  rename Fr _ _ _ _ => F3
  rename News _ _ _ _ => N3
  have e : ((ps ++ [p]).length : Int) - 1 = ((ps.length : Nat) : Int) := by rw [List.length_append, List.length_singleton]; omega
  rw [e]
  refine siftdown_c (ps := ps ++ [p]) (pos := ps.length) (p := p) ⟨B1, X1, T1, rfl, rfl⟩ F3 N3 hhp ?_ ?_ (by rw [List.length_append, List.length_singleton]; omega) (push_but hH) ?_ (Nat.le_of_ble_eq_true rfl) (Nat.le_of_ble_eq_true rfl)
  · intro q hq
    rcases List.mem_append.mp hq with hq | hq
    · exact hps q hq
    · rw [List.mem_singleton.mp hq]; exact hp1
  · rw [List.getElem?_append_right (Nat.le_refl _), Nat.sub_self]; rfl
  intro h6 tk6 rs F4 N4 hperm hHp
  clear F3 N3
  ((try k_fold); w_strict (k_extra "go"))
  exact ret _ _ _ _ (by assumption) (by assumption) (hperm.trans (List.perm_append_comm (l₁ := ps) (l₂ := [p]))) hHp
theorem heappop_c {hp : Addr} {ps : List PV} {n : Nat} {last : PV} (C : Cx w mean mg mb A₀ base outer h₀ L env) (F : Fr h₀ L s.heap m) (N : News h₀ L s.heap ((hp, lob (ps ++ [last]) n) :: rest)) (hhp : ∀ q ∈ rest, q.1 ≠ hp)
   (hps : ∀ q ∈ ps ++ [last], Nm rest q.1 q.2) (hlen : ps.length < 900) (hH : Hp (ps ++ [last]))
   (ret : ∀ h' tk' r qs n', Fr h₀ L h' m → News h₀ L h' ((hp, lob qs n') :: rest) → (r :: qs).Perm (ps ++ [last]) → Hp qs → (∀ q ∈ qs, tle r.2 q.2) → Q r.1 { s with heap := h', toks := tk' }) (hd : dp ≤ 780) (hu : un ≤ 3800) :
   wpAny (model PySem.Challenge.rw_oc0121_01.row.prog w) (ax hh dp un gd env outer) (call (.ref 120) [.ref hp]) Q E s := by
  refine wpAny_le ?_ hd hu
  clear hd hu
  obtain ⟨B, X, T, hf, hk⟩ := C
  w_on
  refine wpAny_call ?_
  refine' code_def (binds := [(Str.ofString "heap", .ref hp)]) B F X N T rfl hf hk ?k6 ?k7 ?k8 ?k9 ?kB ?_ ?c2 ?c3 ?c4 ?c5
  case k6 => k_is
  case k7 => k_is
  case k8 => k_room
  case k9 => exact BindsTo.of_eq rfl
  case kB => exact locs rfl
  case c2 => exact rfl
  case c3 => exact rfl
  case c4 => exact rfl
  case c5 => decide
  intro g1 L1 h1 FG1 F1 N1 B1 X1 T1
  (try dsimp only)
  k_fold
  ((try k_fold); w_strict (k_extra "go"))
  · rename_i hne r hr h5 h6 F3 N3
    obtain ⟨r', t, rfl⟩ : ∃ r' t, ps = r' :: t := by cases ps with | nil => exact absurd hne (Nat.lt_irrefl _) | cons a b => exact ⟨a, b, rfl⟩
    obtain rfl : r' = r := by simpa using hr
    replace N3 : News g1 L1 h6 ((hp, lob (last :: t) (n + 1)) :: rest) := N3
    refine siftup_c (ps := last :: t) (p := last) ⟨B1, X1, T1, rfl, rfl⟩ F3 N3 hhp ?_ rfl (by simp only [List.length_cons] at *; omega) (pop_pre hH) ?_ (Nat.le_of_ble_eq_true rfl) (Nat.le_of_ble_eq_true rfl)
    · intro q hq
      refine hps q ?_
      rcases List.mem_cons.mp hq with rfl | hq
      · exact List.mem_append_right _ List.mem_cons_self
      · exact List.mem_append_left _ (List.mem_cons_of_mem _ hq)
    intro h7 tk7 rs F4 N4 hperm hHp
    clear F3 N3
    ((try k_fold); w_strict (k_extra "go"))
    have hall : (r' :: rs).Perm (r' :: t ++ [last]) := by
      refine (List.Perm.cons r' hperm).trans ?_
      exact (List.Perm.cons r' (List.perm_append_comm (l₁ := [last]) (l₂ := t)))
    refine ret _ _ r' _ _ (by assumption) (by assumption) hall hHp ?_
    intro q hq
    exact hp_root hH (r := r') rfl q (hall.mem_iff.mp (List.mem_cons_of_mem _ hq))
  · rename_i tk3 hne kF kN Tc kX
    obtain rfl : ps = [] := by cases ps with | nil => rfl | cons a b => exact absurd (Nat.succ_pos _) hne
    exact ret _ _ last [] _ kF kN (List.Perm.refl _) (fun i x y _ h => by cases h) (fun q hq => nomatch hq)
end
-- D0
local macro_rules | `(tactic| k_all) => `(tactic| assumption)
section
variable {w : World} {hh : Option Value} {dp un : Nat} {gd : Option (List Code)} {env : Env} {outer : List Env} {A₀ : Around} {base h₀ : Heap} {L : Addr} {m mg mb : Str → Option Value} {mean : ExcName → Option Value}
   {rest : List (Addr × Obj)} {s : Shared} {Q E : Value → Shared → Prop}
theorem qname1_c {t : Str} {k : Tok} (C : Cx w mean mg mb A₀ base outer h₀ L env) (F : Fr h₀ L s.heap m) (N : News h₀ L s.heap rest) 
   (ret : ∀ h' tk' v tl, Fr h₀ L h' m → News h₀ L h' (tl ++ rest) → (∀ p ∈ tl, ∀ q ∈ rest, q.1 < p.1) → Nm tl v t → Q v { s with heap := h', toks := tk' }) (hd : dp ≤ 780) (hu : un ≤ 3800) :
   wpAny (model PySem.Challenge.rw_oc0121_01.row.prog w) (ax hh dp un gd env outer) (call (.ref 88) [.str t k]) Q E s := by
  refine wpAny_le ?_ hd hu
  clear hd hu
  obtain ⟨B, X, T, hf, hk⟩ := C
  w_on
  refine' call_cls F X N ?k4 ?k5 ?k6 ?_
  case k4 => k_is
  case k5 => k_is
  case k6 => k_is
  intro x1 d1 h0 F0 N0 l1 l2
  replace l2 : @LT.lt Nat _ d1 x1 := l2
  have l3 : ∀ p ∈ rest, p.1 ≠ d1 := fun p hp => Nat.ne_of_lt (l1 p hp)
  refine' code_def B F0 X N0 T rfl hf hk ?k6 ?k7 ?k8 ?k9 ?kB ?_ ?c2 ?c3 ?c4 ?c5
  case k6 => k_is
  case k7 => k_is
  case k8 => k_room
  case k9 => first | exact BindsTo.of_eq rfl | exact binds_K (by k_in) rfl (by k_is) rfl rfl rfl
  case kB => exact locs rfl
  case c2 => exact rfl
  case c3 => exact rfl
  case c4 => exact rfl
  case c5 => decide
  intro g1 L1 h1 FG1 F1 N1 B1 X1 T1
  (try dsimp only)
  k_fold
  ((try k_fold); w_strict (k_extra "go"))
  rename Fr _ _ _ _ => F3
  rename News _ _ _ _ => N3
  refine ret _ _ _ [_, _] F3 N3 ?_ (.q (.head _) (.tail _ (.head _)))
  intro p hp q hq
  have z := l1 q hq
  rcases List.mem_cons.mp hp with rfl | hp
  · exact Nat.lt_trans z l2
  · rw [List.mem_singleton.mp hp]; exact z
theorem qname2_c {u t : Str} {k k' : Tok} (C : Cx w mean mg mb A₀ base outer h₀ L env) (F : Fr h₀ L s.heap m) (N : News h₀ L s.heap rest) (hpos : 0 < t.length) (hl : t.length < 1000) (hul : u.length < 1000)
   (ret : ∀ h' tk' v tl, Fr h₀ L h' m → News h₀ L h' (tl ++ rest) → (∀ p ∈ tl, ∀ q ∈ rest, q.1 < p.1) → Nm tl v (Str.ofString "{" ++ u ++ Str.ofString "}" ++ t) → Q v { s with heap := h', toks := tk' }) (hd : dp ≤ 780) (hu : un ≤ 3800) :
   wpAny (model PySem.Challenge.rw_oc0121_01.row.prog w) (ax hh dp un gd env outer) (call (.ref 88) [.str u k, .str t k']) Q E s := by
  refine wpAny_le ?_ hd hu
  clear hd hu
  obtain ⟨B, X, T, hf, hk⟩ := C
  w_on
  refine' call_cls F X N ?k4 ?k5 ?k6 ?_
  case k4 => k_is
  case k5 => k_is
  case k6 => k_is
  intro x1 d1 h0 F0 N0 l1 l2
  replace l2 : @LT.lt Nat _ d1 x1 := l2
  have l3 : ∀ p ∈ rest, p.1 ≠ d1 := fun p hp => Nat.ne_of_lt (l1 p hp)
  refine' code_def B F0 X N0 T rfl hf hk ?k6 ?k7 ?k8 ?k9 ?kB ?_ ?c2 ?c3 ?c4 ?c5
  case k6 => k_is
  case k7 => k_is
  case k8 => k_room
  case k9 => first | exact BindsTo.of_eq rfl | exact binds_K (by k_in) rfl (by k_is) rfl rfl rfl
  case kB => exact locs rfl
  case c2 => exact rfl
  case c3 => exact rfl
  case c4 => exact rfl
  case c5 => decide
  intro g1 L1 h1 FG1 F1 N1 B1 X1 T1
  (try dsimp only)
  k_fold
  ((try k_fold); w_strict (k_extra "go"))
  · rename Fr _ _ _ _ => F3
    rename News _ _ _ _ => N3
    refine ret _ _ _ [_, _] F3 N3 ?_ (.q (.head _) (.tail _ (.head _)))
    intro p hp q hq
    have z := l1 q hq
    rcases List.mem_cons.mp hp with rfl | hp
    · exact Nat.lt_trans z l2
    · rw [List.mem_singleton.mp hp]; exact z
  · rename ((t.length : Nat) : Int) = 0 => h0
    omega
end
-- D1
noncomputable def sg : Str := Str.ofString "a&<>\"\r\n\t"
noncomputable def two (x : Int) : Str := Txt.item sg ((x.fdiv 9).fmod 8) ++ Txt.item sg ((x.fdiv 72).fmod 8)
noncomputable def txt (x : Int) : Str := if (x.fdiv 3).fmod 3 = 2 then Str.ofString "{u}" ++ two x else two x
theorem item_len (y : Str) (i : Int) : (Txt.item y i).length = 1 := rfl
theorem two_len (x : Int) : (two x).length = 2 := by unfold two; rw [Str.length_append, item_len, item_len]
theorem txt_len (x : Int) : (txt x).length ≤ 5 := by
  unfold txt
  split
  · rw [Str.length_append, two_len]; decide
  · rw [two_len]; decide
theorem slice5 (a b : Nat) : Txt.slice ((⟨#[123, 117, 125]⟩ : Str) ++ ((⟨#[a]⟩ : Str) ++ (⟨#[b]⟩ : Str))) (some 3) none = (⟨#[a]⟩ : Str) ++ (⟨#[b]⟩ : Str) := by
  have e : ((⟨#[123, 117, 125]⟩ : Str) ++ ((⟨#[a]⟩ : Str) ++ (⟨#[b]⟩ : Str))) = ⟨#[123, 117, 125, a, b]⟩ := rfl
  have e2 : ((⟨#[a]⟩ : Str) ++ (⟨#[b]⟩ : Str)) = ⟨#[a, b]⟩ := rfl
  rw [e, e2]
  unfold Txt.slice
  rw [show (⟨#[123, 117, 125, a, b]⟩ : Str).length = 5 from rfl, show Builtin.Str.strSliceIndices (some 3) none 1 5 = [3, 4] from by decide +kernel]
  rfl
theorem txt_two {x : Int} (h : (x.fdiv 3).fmod 3 = 2) : Txt.slice (txt x) (some 3) none = two x := by
  unfold txt
  rw [if_pos h]
  unfold two Txt.item
  rw [show Str.ofString "{u}" = ⟨#[123, 117, 125]⟩ from by decide +kernel]
  exact slice5 _ _
theorem txt_q {x : Int} (h : (x.fdiv 3).fmod 3 = 2) : Str.ofString "{" ++ Str.ofString "u" ++ Str.ofString "}" ++ two x = txt x := by
  unfold txt
  rw [if_pos h, show Str.ofString "{" ++ Str.ofString "u" ++ Str.ofString "}" = Str.ofString "{u}" from by decide +kernel]
section
variable {w : World} {hh : Option Value} {dp un : Nat} {gd : Option (List Code)} {env : Env} {outer : List Env} {A₀ : Around} {base h₀ : Heap} {L : Addr} {m mg mb : Str → Option Value} {mean : ExcName → Option Value}
   {rest : List (Addr × Obj)} {s : Shared} {Q E : Value → Shared → Prop}
theorem law_text_c {x : Int} {k : Tok} (C : Cx w mean mg mb A₀ base outer h₀ L env) (F : Fr h₀ L s.heap m) (N : News h₀ L s.heap rest) 
   (ret : ∀ h' tk' u, Fr h₀ L h' m → News h₀ L h' rest → Q (.str (txt x) u) { s with heap := h', toks := tk' }) (hd : dp ≤ 780) (hu : un ≤ 3800) :
   wpAny (model PySem.Challenge.rw_oc0121_01.row.prog w) (ax hh dp un gd env outer) (call (.ref 162) [.int x k]) Q E s := by
  refine wpAny_le ?_ hd hu
  clear hd hu
  obtain ⟨B, X, T, hf, hk⟩ := C
  w_on
  refine wpAny_call ?_
  refine' code_def (binds := [(Str.ofString "x", .int x k)]) B F X N T rfl hf hk ?k6 ?k7 ?k8 ?k9 ?kB ?_ ?c2 ?c3 ?c4 ?c5
  case k6 => k_is
  case k7 => k_is
  case k8 => k_room
  case k9 => exact BindsTo.of_eq rfl
  case kB => exact locs rfl
  case c2 => exact rfl
  case c3 => exact rfl
  case c4 => exact rfl
  case c5 => decide
  intro g1 L1 h1 FG1 F1 N1 B1 X1 T1
  (try dsimp only)
  k_fold
  ((try k_fold); w_strict (k_extra "go"))
  · rename (_ : Int) = 2 => he
    have := ret
    unfold txt at this
    simp only [if_pos he] at this
    exact this _ _ _ (by assumption) (by assumption)
  · rename ¬ (_ : Int) = 2 => he
    have := ret
    unfold txt at this
    simp only [if_neg he] at this
    exact this _ _ _ (by assumption) (by assumption)
theorem law_name_c {x : Int} {k : Tok} (C : Cx w mean mg mb A₀ base outer h₀ L env) (F : Fr h₀ L s.heap m) (N : News h₀ L s.heap rest) 
   (ret : ∀ h' tk' v tl, Fr h₀ L h' m → News h₀ L h' (tl ++ rest) → (∀ p ∈ tl, ∀ q ∈ rest, q.1 < p.1) → Nm tl v (txt x) → Q v { s with heap := h', toks := tk' }) (hd : dp ≤ 770) (hu : un ≤ 3700) :
   wpAny (model PySem.Challenge.rw_oc0121_01.row.prog w) (ax hh dp un gd env outer) (call (.ref 169) [.int x k]) Q E s := by
  refine wpAny_le ?_ hd hu
  clear hd hu
  obtain ⟨B, X, T, hf, hk⟩ := C
  w_on
  refine wpAny_call ?_
  refine' code_def (binds := [(Str.ofString "x", .int x k)]) B F X N T rfl hf hk ?k6 ?k7 ?k8 ?k9 ?kB ?_ ?c2 ?c3 ?c4 ?c5
  case k6 => k_is
  case k7 => k_is
  case k8 => k_room
  case k9 => exact BindsTo.of_eq rfl
  case kB => exact locs rfl
  case c2 => exact rfl
  case c3 => exact rfl
  case c4 => exact rfl
  case c5 => decide
  intro g1 L1 h1 FG1 F1 N1 B1 X1 T1
  (try dsimp only)
  k_fold
  ((try k_fold); w_strict (k_extra "go"))
  refine law_text_c ⟨B1, X1, T1, rfl, rfl⟩ F1 N1 ?_ (Nat.le_of_ble_eq_true rfl) (Nat.le_of_ble_eq_true rfl)
  intro h2 tk2 u2 F2 N2
  have hl5 := txt_len x
  ((try k_fold); w_strict (k_extra "go"))
  · rename (_ : Int) = 2 => he
    rename Fr _ _ _ _ => F3
    rename News _ _ _ _ => N3
    rw [txt_two he]
    refine qname2_c ⟨B1, X1, T1, rfl, rfl⟩ F3 N3 (by rw [two_len]; decide) (by rw [two_len]; decide) (by decide) ?_ (Nat.le_of_ble_eq_true rfl) (Nat.le_of_ble_eq_true rfl)
    intro h4 tk4 v tl F4 N4 htl hv
    rw [txt_q he] at hv
    clear F3 N3
    ((try k_fold); w_strict (k_extra "go"))
    exact ret _ _ _ _ (by assumption) (by assumption) htl hv
  · rename Fr _ _ _ _ => F3
    rename News _ _ _ _ => N3
    refine qname1_c ⟨B1, X1, T1, rfl, rfl⟩ F3 N3 ?_ (Nat.le_of_ble_eq_true rfl) (Nat.le_of_ble_eq_true rfl)
    intro h4 tk4 v tl F4 N4 htl hv
    clear F3 N3
    ((try k_fold); w_strict (k_extra "go"))
    exact ret _ _ _ _ (by assumption) (by assumption) htl hv
  · exact ret _ _ _ [] (by assumption) (by assumption) (fun p hp => nomatch hp) .str
end
-- Loops
section
variable {α : Type} {a b c d e f g : α} {t u l l' : List α}
theorem swap2 : ∀ p ∈ a :: b :: l, p ∈ b :: a :: l := by
  intro p hp
  simp only [List.mem_cons] at hp ⊢
  rcases hp with h | h | h <;> simp [h]
theorem mcons (h : ∀ p ∈ l, p ∈ l') : ∀ p ∈ a :: l, p ∈ a :: l' := fun p hp => (List.mem_cons.mp hp).elim (fun e => List.mem_cons.mpr (.inl e)) fun hp => .tail _ (h p hp)
theorem rt3 : ∀ p ∈ c :: a :: b :: l, p ∈ a :: b :: c :: l := fun p hp => mcons swap2 p (swap2 p hp)
theorem rt3' : ∀ p ∈ a :: b :: c :: l, p ∈ c :: a :: b :: l := fun p hp => swap2 p (mcons swap2 p hp)
theorem rt4 : ∀ p ∈ d :: a :: b :: c :: l, p ∈ a :: b :: c :: d :: l := fun p hp => mcons rt3 p (swap2 p hp)
theorem rt4' : ∀ p ∈ a :: b :: c :: d :: l, p ∈ d :: a :: b :: c :: l := fun p hp => swap2 p (mcons rt3' p hp)
theorem rt6 : ∀ p ∈ f :: a :: b :: c :: d :: e :: l, p ∈ a :: b :: c :: d :: e :: f :: l := fun p hp => mcons (mcons rt4) p (mcons swap2 p (swap2 p hp))
theorem rt22 : ∀ p ∈ a :: b :: c :: d :: l, p ∈ c :: d :: a :: b :: l := fun p hp => mcons rt3' p (rt3' p hp)
theorem rt5 : ∀ p ∈ c :: b :: d :: e :: f :: l, p ∈ e :: f :: b :: c :: d :: l := fun p hp => mcons rt4' p (rt4' p (swap2 p hp))
theorem rt7 (h : ∀ p ∈ l, p ∈ l') : ∀ p ∈ a :: b :: c :: l, p ∈ a :: c :: d :: b :: e :: f :: g :: l' :=
  mcons fun p hp => mcons (fun q hq => .tail _ (mcons (fun r hr => .tail _ (.tail _ (.tail _ (h r hr)))) q hq)) p (swap2 p hp)
theorem sub2s : ∀ p ∈ a :: b :: (t ++ l), p ∈ t ++ b :: a :: l := by
  intro p hp
  simp only [List.mem_cons, List.mem_append] at hp ⊢
  rcases hp with h | h | h | h <;> simp [h]
theorem sub1s : ∀ p ∈ a :: b :: (t ++ l), p ∈ b :: (t ++ a :: l) := by
  intro p hp
  simp only [List.mem_cons, List.mem_append] at hp ⊢
  rcases hp with h | h | h | h <;> simp [h]
theorem ins0 : ∀ p ∈ t ++ l, p ∈ t ++ a :: l := fun _ hp => (List.mem_append.mp hp).elim (fun h => List.mem_append_left _ h) fun h => List.mem_append_right _ (.tail _ h)
theorem ins1 : ∀ p ∈ t ++ u ++ l, p ∈ t ++ a :: (u ++ l) := fun p hp => ins0 p (by rwa [List.append_assoc] at hp)
theorem all_cons {P : α → Prop} (h : P a) (hl : ∀ q ∈ l, P q) : ∀ q ∈ a :: l, P q := List.forall_mem_cons.mpr ⟨h, hl⟩
end
section
variable {M D : Addr} {o : Obj} {l t rest : List (Addr × Obj)}
theorem off_cons (h : D ≠ M) (hl : ∀ q ∈ l, q.1 ≠ M) : ∀ q ∈ (D, o) :: l, q.1 ≠ M := List.forall_mem_cons.mpr ⟨h, hl⟩
theorem off_to (h : ∀ q ∈ rest, q.1 ≠ D) (hl : ∀ p ∈ l, ∀ q ∈ rest, p.1 ≠ q.1) : ∀ p ∈ (D, o) :: l, ∀ q ∈ rest, p.1 ≠ q.1 := List.forall_mem_cons.mpr ⟨fun q hq => Ne.symm (h q hq), hl⟩
theorem off_lt (h : ∀ q ∈ rest, q.1 < D) (hl : ∀ p ∈ l, ∀ q ∈ rest, p.1 ≠ q.1) : ∀ p ∈ (D, o) :: l, ∀ q ∈ rest, p.1 ≠ q.1 := List.forall_mem_cons.mpr ⟨fun q hq => Nat.ne_of_gt (h q hq), hl⟩
theorem off_apps (ht : ∀ p ∈ t, ∀ q ∈ rest, p.1 ≠ q.1) (hl : ∀ p ∈ l, ∀ q ∈ rest, p.1 ≠ q.1) : ∀ p ∈ t ++ l, ∀ q ∈ rest, p.1 ≠ q.1 := fun p hp => (List.mem_append.mp hp).elim (ht p) (hl p)
theorem off_nil : ∀ p ∈ ([] : List (Addr × Obj)), ∀ q ∈ rest, p.1 ≠ q.1 := fun _ h => nomatch h
end
open LCg in
theorem CompEnd.mono' {h₀ : Heap} {L I C D : Addr} {m : Str → Option Value} {s₁ s₂ : Shared} {oI oC oD : Obj} {S : List (Addr × Obj) → Prop} {r r' : Value → List (Addr × Obj) → Prop} {y : Value}
    (h : LCg.CompEnd h₀ L m s₁ I oI C oC D oD S r y s₂) (hr : ∀ news', r y news' → r' y news') : LCg.CompEnd h₀ L m s₁ I oI C oC D oD S r' y s₂ := by
  obtain ⟨h', tk, news', e, F, N, o, hS, hy⟩ := h
  exact ⟨h', tk, news', e, F, N, o, hS, hr _ hy⟩
section
variable {w : World} {A : Around} {h₀ : Heap} {L : Addr} {m : Str → Option Value} {env : Env} {ct elt : Expr} {x : Str} {scope : Scope} {cl : List (Str × Addr)} {s : Shared} {S : List (Addr × Obj) → Prop} {P : Nat → Value → Prop} {Fin : List Value → List (Addr × Obj) → Prop}
/-- a comprehension without a test, turn by turn, by what holds between the turns -/
theorem comp_ind {n : Nat} (Inv : Nat → List Value → List (Addr × Obj) → Prop)
    (step : ∀ i ys news, i < n → Inv i ys news → ∀ v I oI C oC D m₂ h tk (E' : Value → Shared → Prop), P i v → LCg.NsObj oC m₂ → m₂ x = some v → Fr h₀ L h m → News h₀ L h ((I, oI) :: (C, oC) :: (D, LCg.lst ys) :: news) → LCg.Off3 I C D news → ((@Ne Nat I C) ∧ (@Ne Nat I D) ∧ (@Ne Nat C D)) →
      wpAny (model PySem.Challenge.rw_oc0121_01.row.prog w) A (eval elt (compEnvC scope cl C env)) (LCg.CompEnd h₀ L m { s with heap := h, toks := tk } I oI C oC D (LCg.lst ys) S (fun y news' => Inv (i + 1) (ys ++ [y]) news')) E' { s with heap := h, toks := tk })
    (fin : ∀ ys news, Inv n ys news → Fin ys news) : ∀ (k i : Nat) (ys : List Value) (news : List (Addr × Obj)), i + k = n → Inv i ys news → LCg.CompRest PySem.Challenge.rw_oc0121_01.row.prog w A h₀ L m env elt x scope cl s S P Fin k i ys news
  | 0, i, ys, news, e, h => .zero (fin _ _ (by rw [Nat.add_zero] at e; subst e; exact h))
  | k + 1, i, ys, news, e, h => .succ fun v I oI C oC D m₂ hp tk E' hP hC hx F N off ne =>
    wpAny_mono (step i ys news (by omega) h v I oI C oC D m₂ hp tk E' hP hC hx F N off ne) (fun y s₂ q => CompEnd.mono' q fun news' hi => comp_ind Inv step fin k (i + 1) _ _ (by omega) hi) fun _ _ z => z
/-- with one test -/
theorem comp_indT {n : Nat} (Inv : Nat → List Value → List (Addr × Obj) → Prop)
    (step : ∀ i ys news, i < n → Inv i ys news → ∀ v I oI C oC D m₂ h tk (E' : Value → Shared → Prop), P i v → LCg.NsObj oC m₂ → m₂ x = some v → Fr h₀ L h m → News h₀ L h ((I, oI) :: (C, oC) :: (D, LCg.lst ys) :: news) → LCg.Off3 I C D news → ((@Ne Nat I C) ∧ (@Ne Nat I D) ∧ (@Ne Nat C D)) →
      wpAny (model PySem.Challenge.rw_oc0121_01.row.prog w) A (isTrue ct (compEnvC scope cl C env) (eval ct (compEnvC scope cl C env))) (fun ok s' => if ok = true then
        wpAny (model PySem.Challenge.rw_oc0121_01.row.prog w) A (eval elt (compEnvC scope cl C env)) (LCg.CompEnd h₀ L m { s with heap := h, toks := tk } I oI C oC D (LCg.lst ys) S (fun y news' => Inv (i + 1) (ys ++ [y]) news')) E' s'
        else LCg.CompEnd h₀ L m { s with heap := h, toks := tk } I oI C oC D (LCg.lst ys) S (fun _ news' => Inv (i + 1) ys news') Value.none s') E' { s with heap := h, toks := tk })
    (fin : ∀ ys news, Inv n ys news → Fin ys news) : ∀ (k i : Nat) (ys : List Value) (news : List (Addr × Obj)), i + k = n → Inv i ys news → LCt.CompRestT PySem.Challenge.rw_oc0121_01.row.prog w A h₀ L m env ct elt x scope cl s S P Fin k i ys news
  | 0, i, ys, news, e, h => .zero (fin _ _ (by rw [Nat.add_zero] at e; subst e; exact h))
  | k + 1, i, ys, news, e, h => .succ fun v I oI C oC D m₂ hp tk E' hP hC hx F N off ne =>
    wpAny_mono (step i ys news (by omega) h v I oI C oC D m₂ hp tk E' hP hC hx F N off ne) (fun ok s' q => by
      cases ok with
      | true =>
        simp only [if_true] at q ⊢
        exact wpAny_mono q (fun y s₂ q => CompEnd.mono' q fun news' hi => comp_indT Inv step fin k (i + 1) _ _ (by omega) hi) fun _ _ z => z
      | false =>
        simp only [Bool.false_eq_true, if_false] at q ⊢
        exact CompEnd.mono' q fun news' hi => comp_indT Inv step fin k (i + 1) _ _ (by omega) hi) fun _ _ z => z
end
section
variable {w : World} {A : Around} {E : Value → Shared → Prop} {h₀ : Heap} {L : Addr} {env : Env} {x : Str} {s : Shared} {Q : Flow → Shared → Prop}
/-- what a for's turn must bring back -/
noncomputable def FStep (h₀ : Heap) (L : Addr) (s : Shared) (I : Addr) (oI : Obj) (S : List (Addr × Obj) → Prop) (J : (Str → Option Value) → List (Addr × Obj) → Prop) (Q : Flow → Shared → Prop) (f : Flow) (s₃ : Shared) : Prop :=
  let go := ∃ h' tk m₂ news₂, s₃ = { s with heap := h', toks := tk } ∧ Fr h₀ L h' m₂ ∧ News h₀ L h' ((I, oI) :: news₂) ∧ (∀ p ∈ news₂, p.1 ≠ I) ∧ S news₂ ∧ J m₂ news₂
  match f with
  | .next => go
  | .cont => go
  | .brk => Q .next s₃
  | .ret v => Q (.ret v) s₃
theorem FStep.intro {I : Addr} {oI : Obj} {S : List (Addr × Obj) → Prop} {J : (Str → Option Value) → List (Addr × Obj) → Prop} {h' : Heap} {tk : Nat} {m₂ : Str → Option Value} {news₂ all : List (Addr × Obj)}
    (F : Fr h₀ L h' m₂) (N : News h₀ L h' all) (sub : ∀ p ∈ (I, oI) :: news₂, p ∈ all) (off : ∀ p ∈ news₂, p.1 ≠ I) (hS : S news₂) (hJ : J m₂ news₂) : FStep h₀ L s I oI S J Q .next { s with heap := h', toks := tk } :=
  ⟨h', tk, m₂, news₂, rfl, F, fun p hp => N p (sub p hp), off, hS, hJ⟩
/-- a for over what is walked -/
theorem for_walks {px : Pos} {body : List Stmt} {I : Addr} {fp : List Addr} {n : Nat} {P : Nat → Value → Prop} {St : Nat → Heap → Prop} {S : List (Addr × Obj) → Prop} {m : Str → Option Value} {news : List (Addr × Obj)} (J : Nat → (Str → Option Value) → List (Addr × Obj) → Prop)
    (W : Walks PySem.Challenge.rw_oc0121_01.row.prog w A I fp [I] n P St) (hIo : ∀ i h, St i h → ∃ o, h.get? I = some o)
    (hSt : ∀ i h h' o nw, St i h → h.get? I = some o → h'.get? I = some o → (∀ b o, h₀.get? b = some o → h'.get? b = some o) → News h₀ L h' nw → S nw → St i h')
    (hx : env.kindOf x = some .local) (hp : (env.scope.kind == .class || (env.scope.kind == .module && env.locals != env.globals)) = false) (hLe : env.locals = L) (hLf : L ∉ fp) (hI₀ : h₀.get? I = none)
    (hst : St 0 s.heap) (F : Fr h₀ L s.heap m) (N : News h₀ L s.heap news) (off : ∀ p ∈ news, p.1 ≠ I) (hS : S news) (hJ : J 0 m news)
    (turn : ∀ i v m₁ news₁ h tk oI, i < n → P i v → J i m₁ news₁ → S news₁ → Fr h₀ L h (fun y => if y = x then some v else m₁ y) → News h₀ L h ((I, oI) :: news₁) → (∀ p ∈ news₁, p.1 ≠ I) →
      wpAny (model PySem.Challenge.rw_oc0121_01.row.prog w) A (execs body env) (FStep h₀ L { s with heap := h, toks := tk } I oI S (J (i + 1)) Q) (fun _ _ => False) { s with heap := h, toks := tk })
    (done : ∀ m₁ news₁ h tk, J n m₁ news₁ → Fr h₀ L h m₁ → News h₀ L h news₁ → Q .next { s with heap := h, toks := tk }) :
    codeAny (model PySem.Challenge.rw_oc0121_01.row.prog w) A (.forLoop (.Name x px) (.ref I) body [] env) (fun r s' => match r with | .ok f => Q f s' | .error e => cameBackBy (model PySem.Challenge.rw_oc0121_01.row.prog w) A env E e s') s := by
  subst hLe
  refine codeAny_forLoop (fun k s' => ∃ h' tk i m' news', s' = { s with heap := h', toks := tk } ∧ i ≤ n ∧ k = n + 1 - i ∧ St i h' ∧ Fr h₀ env.locals h' m' ∧ News h₀ env.locals h' news' ∧ (∀ p ∈ news', p.1 ≠ I) ∧ S news' ∧ J i m' news') ?_ (n + 1)
    ⟨s.heap, s.toks, 0, m, news, rfl, Nat.zero_le _, rfl, hst, F, N, off, hS, hJ⟩
  rintro k s' ⟨h', tk, i, m', news', rfl, hi, rfl, hst', F', N', off', hS', hJ'⟩
  have hIL : env.locals ≠ I := fun e => hLf (e ▸ W.sub I (List.mem_singleton.mpr rfl))
  by_cases hlt : i < n
  · refine W.item i _ _ _ hlt hst' fun v h₂ tk₂ hPv hst₂ hk₂ => ?_
    (try dsimp only)
    have F₂ : Fr h₀ env.locals h₂ m' := LCg.fr_but F' hk₂ hIL hI₀
    have N₂ : News h₀ env.locals h₂ news' := LCg.news_but N' hk₂ off'
    refine wpAny_assign_Name (wpAny_storeName_local hx F₂.ns (fun h₃ hn₃ hs₃ => ?_) hp)
    have F₃ : Fr h₀ env.locals h₃ (fun y => if y = x then some v else m' y) := F₂.set hn₃ hs₃
    have N₃ : News h₀ env.locals h₃ news' := N₂.set hs₃
    have hst₃ : St (i + 1) h₃ := W.frame _ _ _ hst₂ fun b hb o e => hs₃.extBut b o (fun q => hLf (q ▸ hb)) e
    obtain ⟨oI, heI⟩ := hIo _ _ hst₃
    have N₄ : News h₀ env.locals h₃ ((I, oI) :: news') := fun p hp => by
      rcases List.mem_cons.mp hp with rfl | hp
      · exact ⟨heI, Ne.symm hIL, hI₀⟩
      · exact N₃ p hp
    refine wpAny_mono (turn i v m' news' h₃ _ oI hlt hPv hJ' hS' F₃ N₄ off') (fun f s₃ h₃' => ?_) fun _ _ x => x.elim
    have fin : (∃ h' tk m₂ news₂, s₃ = { s with heap := h', toks := tk } ∧ Fr h₀ env.locals h' m₂ ∧ News h₀ env.locals h' ((I, oI) :: news₂) ∧ (∀ p ∈ news₂, p.1 ≠ I) ∧ S news₂ ∧ J (i + 1) m₂ news₂) →
        ∃ m, m < n + 1 - i ∧ ∃ h' tk i m' news', s₃ = { s with heap := h', toks := tk } ∧ i ≤ n ∧ m = n + 1 - i ∧ St i h' ∧ Fr h₀ env.locals h' m' ∧ News h₀ env.locals h' news' ∧ (∀ p ∈ news', p.1 ≠ I) ∧ S news' ∧ J i m' news' := by
      rintro ⟨h₅, tk₅, m₅, news₅, rfl, F₅, N₅, off₅, hS₅, hJ₅⟩
      have N₅' : News h₀ env.locals h₅ news₅ := fun p hp => N₅ p (List.mem_cons_of_mem _ hp)
      exact ⟨n + 1 - (i + 1), by omega, h₅, tk₅, i + 1, m₅, news₅, rfl, hlt, rfl, hSt _ _ _ _ _ hst₃ heI (N₅ _ (List.Mem.head _)).1 F₅.keep N₅' hS₅, F₅, N₅', off₅, hS₅, hJ₅⟩
    cases f with
    | next => exact fin h₃'
    | cont => exact fin h₃'
    | brk => exact h₃'
    | ret v => exact h₃'
  · obtain rfl : i = n := Nat.le_antisymm hi (Nat.not_lt.mp hlt)
    refine W.done _ _ _ hst' fun h₂ tk₂ hk₂ => ?_
    exact wpAny_execs_nil (done m' news' h₂ tk₂ hJ' (LCg.fr_but F' hk₂ hIL hI₀) (LCg.news_but N' hk₂ off'))
/-- a for over a list of the ledger's or of the base's, which stays as it is -/
theorem for_list {px : Pos} {body : List Stmt} {ax : Addr} {its : Array Value} {m : Str → Option Value} {news : List (Addr × Obj)} (J : Nat → (Str → Option Value) → List (Addr × Obj) → Prop) (hh : A.handled = none)
    (hx : env.kindOf x = some .local) (hp : (env.scope.kind == .class || (env.scope.kind == .module && env.locals != env.globals)) = false) (hLe : env.locals = L)
    (F : Fr h₀ L s.heap m) (N : News h₀ L s.heap news) (hax : ax ≠ L) (hS : LCg.SrcAt h₀ ax its news) (hJ : J 0 m news)
    (turn : ∀ i v m₁ news₁ h tk I oI, i < its.size → its[i]? = some v → J i m₁ news₁ → LCg.SrcAt h₀ ax its news₁ → Fr h₀ L h (fun y => if y = x then some v else m₁ y) → News h₀ L h ((I, oI) :: news₁) → (∀ p ∈ news₁, p.1 ≠ I) →
      wpAny (model PySem.Challenge.rw_oc0121_01.row.prog w) A (execs body env) (FStep h₀ L { s with heap := h, toks := tk } I oI (LCg.SrcAt h₀ ax its) (J (i + 1)) Q) (fun _ _ => False) { s with heap := h, toks := tk })
    (done : ∀ m₁ news₁ h tk, J its.size m₁ news₁ → Fr h₀ L h m₁ → News h₀ L h news₁ → Q .next { s with heap := h, toks := tk }) :
    wpAny (model PySem.Challenge.rw_oc0121_01.row.prog w) A (pyIter (.ref ax)) (fun it s₂ =>
      codeAny (model PySem.Challenge.rw_oc0121_01.row.prog w) A (.forLoop (.Name x px) it body [] env) (fun r s' => match r with | .ok f => Q f s' | .error e => cameBackBy (model PySem.Challenge.rw_oc0121_01.row.prog w) A env E e s') s₂) E s := by
  have hl := hS.list F.keep N
  have hlt : ax < s.heap.objs.size := by obtain ⟨_, e, _⟩ := hl; exact Heap.lt_size e
  refine wpAny_pyIter_list hl ?_
  have up : ∀ b o, s.heap.get? b = some o → (s.heap.push { cls := .type "list_iterator", data := .fields #[.ref ax, .int 0 0] }).get? b = some o := fun b o e => Heap.get?_push_of_some _ e
  refine for_walks (m := m) (news := news) J (Walks.list hh s.heap.objs.size ax (Nat.ne_of_lt hlt) its) (fun i h st => by obtain ⟨o, e, _⟩ := st.1; exact ⟨o, e⟩) LCg.list_st hx hp hLe ?_ (next_is_new F) ⟨⟨_, Heap.get?_push_size _ rfl, rfl, rfl⟩, hl.push _⟩
    (F.keeps up) (N.grown up) (fun p hp => Nat.ne_of_lt (Heap.lt_size (N p hp).1)) hS hJ (fun i v m₁ news₁ h tk oI hi hv hJ₁ hS₁ F₁ N₁ o₁ => turn i v m₁ news₁ h tk _ oI hi hv hJ₁ hS₁ F₁ N₁ o₁) (fun m₁ news₁ h tk hJ₁ F₁ N₁ => done m₁ news₁ h tk hJ₁ F₁ N₁)
  intro hm
  rcases List.mem_cons.mp hm with e | hm
  · exact absurd F.ns.lt (e ▸ Nat.lt_irrefl _)
  · exact hax (List.mem_singleton.mp hm).symm
end
theorem off1_mem {D : Addr} : ∀ {l : List (Addr × Obj)}, LCg.Off1 D l → ∀ p ∈ l, p.1 ≠ D
  | [], _, _, h => nomatch h
  | _ :: _, x, p, h => by
    rcases List.mem_cons.mp h with rfl | h
    · exact x.1
    · exact off1_mem x.2 p h
theorem ints_at {its : List Value} {ns : List Int} (hi : IntsAre its ns) {i : Nat} {v : Value} (h : its.toArray[i]? = some v) : ∃ k t, ns[i]? = some k ∧ v = .int k t := by
  have h' : its[i]? = some v := by simpa using h
  have hlt : i < its.length := (List.getElem?_eq_some_iff.mp h').1
  have hlt' : i < ns.length := by rw [← hi.length]; exact hlt
  obtain ⟨t, ht⟩ := hi.get i ns[i] (List.getElem?_eq_getElem hlt')
  rw [ht] at h'
  exact ⟨ns[i], t, List.getElem?_eq_getElem hlt', (Option.some.inj h').symm⟩
theorem take_succ_of {α : Type} {l : List α} {i : Nat} {a : α} (h : l[i]? = some a) : l.take (i + 1) = l.take i ++ [a] := by
  rw [List.take_add_one, h]; rfl
theorem sub3 {α : Type} {a b c : α} {t l : List α} : ∀ p ∈ a :: b :: c :: (t ++ l), p ∈ t ++ a :: b :: c :: l := by
  intro p hp
  simp only [List.mem_cons, List.mem_append] at hp ⊢
  rcases hp with h | h | h | h | h <;> simp [h]
theorem off_app {I C D : Addr} {oI oC oD : Obj} {t l : List (Addr × Obj)} (ht : ∀ p ∈ t, ∀ q ∈ (I, oI) :: (C, oC) :: (D, oD) :: l, q.1 < p.1) (ho : LCg.Off3 I C D l) : LCg.Off3 I C D (t ++ l) :=
  LCg.Off3.of fun p hp => by
    rcases List.mem_append.mp hp with h | h
    · exact ⟨Nat.ne_of_gt (ht p h _ (.head _)), Nat.ne_of_gt (ht p h _ (.tail _ (.head _))), Nat.ne_of_gt (ht p h _ (.tail _ (.tail _ (.head _))))⟩
    · exact LCg.Off3.mem ho p h
theorem new_lob {w : World} {A : Around} {E : Value → Shared → Prop} {s : Shared} {h₀ : Heap} {L : Addr} {news : List (Addr × Obj)} {m : Str → Option Value} {Q : Value → Shared → Prop} (F : Fr h₀ L s.heap m) (N : News h₀ L s.heap news)
    (h : ∀ l h', Fr h₀ L h' m → News h₀ L h' ((l, lob [] 0) :: news) → (∀ q ∈ news, q.1 < l) → Q (.ref l) { s with heap := h' }) : wpAny (model PySem.Challenge.rw_oc0121_01.row.prog w) A (newList []) Q E s :=
  newList_N F N (fun h' F' N' => h _ h' F' N' fun q hq => Heap.lt_size (N q hq).1) (by decide)
theorem lay21 : True := by
  k_with "newList nil" => (k_here; k_dflt (refine' new_lob ?F ?N ?_; (case F => k_asm); (case N => k_asm); k_whole); intro _ _ _ _ _; (try k_sweep); (try dsimp only))
  trivial
theorem push_lob (qs : List PV) (v : Value) (t : Str) (n : Nat) : listOf ((qs.map (·.1)).toArray.push v) n = lob (qs ++ [(v, t)]) n := by simp [lob]
theorem fmod3 (k : Int) : 0 ≤ k.fmod 3 ∧ k.fmod 3 < 3 := ⟨Int.fmod_nonneg_of_pos k (by decide), Int.fmod_lt_of_pos k (by decide)⟩
/-- a list is no name -/
theorem Nm.drop {l1 l2 : List (Addr × Obj)} {D : Addr} {its : Array Value} {n : Nat} {v : Value} {t : Str} (h : Nm (l1 ++ (D, listOf its n) :: l2) v t) : Nm (l1 ++ l2) v t := by
  cases h with
  | str => exact .str
  | q a b =>
    have key : ∀ {p : Addr × Obj}, p.2 ≠ listOf its n → p ∈ l1 ++ (D, listOf its n) :: l2 → p ∈ l1 ++ l2 := by
      intro p hne hp
      rcases List.mem_append.mp hp with h | h
      · exact List.mem_append_left _ h
      · rcases List.mem_cons.mp h with rfl | h
        · exact absurd rfl hne
        · exact List.mem_append_right _ h
    exact .q (key (fun e => by cases congrArg Obj.cls e) a) (key (fun e => by have := congrArg Obj.data e; cases this) b)
-- D2
noncomputable abbrev tupOf (vs : List Value) : Obj := { cls := .type "tuple", data := .seq vs.toArray }
inductive ll1 (ns : List Int) (rest : List (Addr × Obj)) (i : Nat) (ys : List Value) (news : List (Addr × Obj)) : Prop
  | mk (ps : List PV) (tl : List (Addr × Obj)) (x1 : news = tl ++ rest) (x2 : ys = ps.map (·.1)) (x3 : ∀ p ∈ ps, Nm (tl ++ rest) p.1 p.2) (x4 : ps.map (·.2) = ((ns.take i).filter fun x => decide (¬ x.fmod 3 = 1)).map txt) (x5 : ∀ p ∈ tl, ∀ q ∈ rest, q.1 < p.1) : ll1 ns rest i ys news
inductive ll2 (ns : List Int) (S D1 aa : Addr) (bs : List (Addr × Obj)) (i : Nat) (m' : Str → Option Value) (news : List (Addr × Obj)) : Prop
  | mk (qs : List PV) (n2 : Nat) (t2 : List (Addr × Obj)) (x1 : news = (S, lob qs n2) :: (t2 ++ bs)) (x2 : m' (Str.ofString "first") = some (.ref D1)) (x3 : m' (Str.ofString "second") = some (.ref S)) (x4 : m' (Str.ofString "numbers") = some (.ref aa))
      (x5 : ∀ p ∈ qs, Nm (t2 ++ bs) p.1 p.2) (x6 : qs.map (·.2) = ((ns.take i).filter fun x => decide (¬ x.fmod 3 = 0)).map txt) (x7 : ∀ p ∈ t2, ∀ q ∈ (S, lob [] 0) :: bs, q.1 < p.1) : ll2 ns S D1 aa bs i m' news
section
variable {w : World} {hh : Option Value} {dp un : Nat} {gd : Option (List Code)} {env : Env} {outer : List Env} {A₀ : Around} {base h₀ : Heap} {L : Addr} {m mg mb : Str → Option Value} {mean : ExcName → Option Value}
   {rest : List (Addr × Obj)} {s : Shared} {Q E : Value → Shared → Prop}
theorem law_lists_c {aa : Addr} {its : List Value} {ns : List Int} {n : Nat} (C : Cx w mean mg mb A₀ base outer h₀ L env) (F : Fr h₀ L s.heap m) (N : News h₀ L s.heap rest) (hax : (aa, listOf its.toArray n) ∈ rest) (hi : IntsAre its ns) (hlen : ns.length < 100)
   (ret : ∀ h' tk' T A1 A2 ps qs n1 n2 tl, Fr h₀ L h' m → News h₀ L h' ((T, tupOf [.ref A1, .ref A2]) :: (A1, lob ps n1) :: (A2, lob qs n2) :: (tl ++ rest)) →
      (∀ q ∈ (A1, lob ps n1) :: (A2, lob qs n2) :: (tl ++ rest), q.1 ≠ T) → (∀ q ∈ (A2, lob qs n2) :: (tl ++ rest), q.1 ≠ A1) → (∀ q ∈ tl ++ rest, q.1 ≠ A2) → (∀ p ∈ tl, ∀ q ∈ rest, q.1 < p.1) →
      (∀ p ∈ ps, Nm (tl ++ rest) p.1 p.2) → (∀ p ∈ qs, Nm (tl ++ rest) p.1 p.2) → ps.map (·.2) = (ns.filter fun x => decide (¬ x.fmod 3 = 1)).map txt → qs.map (·.2) = (ns.filter fun x => decide (¬ x.fmod 3 = 0)).map txt → Q (.ref T) { s with heap := h', toks := tk' }) (hd : dp ≤ 760) (hu : un ≤ 3600) :
   wpAny (model PySem.Challenge.rw_oc0121_01.row.prog w) (ax none dp un gd env outer) (call (.ref 174) [.ref aa]) Q E s := by
  refine wpAny_le ?_ hd hu
  clear hd hu
  obtain ⟨B, X, T, hf, hk⟩ := C
  w_on
  refine wpAny_call ?_
  refine' code_def (binds := [(Str.ofString "numbers", .ref aa)]) B F X N T rfl hf hk ?k6 ?k7 ?k8 ?k9 ?kB ?_ ?c2 ?c3 ?c4 ?c5
  case k6 => k_is
  case k7 => k_is
  case k8 => k_room
  case k9 => exact BindsTo.of_eq rfl
  case kB => exact locs rfl
  case c2 => exact rfl
  case c3 => exact rfl
  case c4 => exact rfl
  case c5 => decide
  intro g1 L1 h1 FG1 F1 N1 B1 X1 T1
  (try dsimp only)
  k_fold
  ((try k_fold); w_strict (k_extra "go"))
  refine LCt.Assign_ListComp_T F1 (by rfl) (by with_unfolding_all rfl) (by rfl) (by decide) (by rfl) (by decide) (by rfl) (by rfl) (by rfl) ?_
  ((try k_fold); w_strict (k_extra "go"))
  refine LCt.CompSrcT.ledger (by rfl) F1 N1 hax (by rw [sizeLine_eq, List.size_toArray, hi.length]; omega) ?_
  intro g2
  refine comp_indT (ll1 ns rest) ?_ ?_ _ 0 [] rest (Nat.zero_add _) ⟨[], [], rfl, rfl, List.forall_mem_nil _, rfl, List.forall_mem_nil _⟩
  · rintro i ys _ hin ⟨ps, tl, rfl, rfl, hps, htx, htl⟩ v I oI Cc oC D m₂ h tk E' hP hC hx F2 N2 off ne
    obtain ⟨k, t, hk1, rfl⟩ := ints_at hi hP
    have hoff := LCg.Off3.mem off
    ((try k_fold); w_strict (k_extra "go"))
    · rename Fr _ _ _ _ => F3
      rename News _ _ _ _ => N3
      rename ¬ (_ : Int) = 1 => hne
      refine law_name_c ⟨B1, X1, T1, rfl, rfl⟩ F3 N3 ?_ (Nat.le_of_ble_eq_true rfl) (Nat.le_of_ble_eq_true rfl)
      intro h4 tk4 v tl' F4 N4 htl' hv
      refine LCg.CompEnd.intro F4 N4 (tl' ++ (tl ++ rest)) sub3 (off_app htl' off) (.inr ⟨_, List.mem_append_right _ (List.mem_append_right _ hax), rfl, _, rfl⟩) ⟨ps ++ [(v, txt k)], tl' ++ tl, (List.append_assoc ..).symm, by rw [List.map_append]; rfl, ?_, ?_, ?_⟩
      · intro p hp
        rcases List.mem_append.mp hp with h | h
        · exact (hps p h).mono fun q hq => by rw [List.append_assoc]; exact List.mem_append_right _ hq
        · rw [List.mem_singleton.mp h]
          exact hv.mono fun q hq => by rw [List.append_assoc]; exact List.mem_append_left _ hq
      · rw [take_succ_of hk1, List.filter_append, List.map_append, List.map_append, htx]; simp [hne]
      · intro p hp q hq
        rcases List.mem_append.mp hp with h | h
        · exact htl' p h q (.tail _ (.tail _ (.tail _ (List.mem_append_right _ hq))))
        · exact htl p h q hq
    · rename (_ : Int) = 1 => he
      exact LCg.CompEnd.intro F2 N2 (tl ++ rest) (fun p hp => hp) off (.inr ⟨_, List.mem_append_right _ hax, rfl, _, rfl⟩) ⟨ps, tl, rfl, rfl, hps, by rw [take_succ_of hk1, List.filter_append, htx]; simp [he], htl⟩
  · rintro ys _ ⟨ps, tl, rfl, rfl, hps, htx, htl⟩
    unfold LCg.FinA
    intro D1 h3 tk3 F3 N3 o1
    replace o1 := off1_mem o1
    clear F1 N1
    ((try k_fold); w_strict (k_extra "go"))
    rename_i S h4 ll h5 F4 N4
    refine wpAny_For ?_
    ((try k_fold); w_strict (k_extra "go"))
    have haxb : (aa, listOf its.toArray n) ∈ (D1, LCg.lst (ps.map (·.1))) :: (tl ++ rest) := .tail _ (List.mem_append_right _ hax)
    generalize hbs : (D1, LCg.lst (ps.map (·.1))) :: (tl ++ rest) = bs at N4 ll haxb
    have hsrc : LCg.SrcAt g1 aa its.toArray ((S, lob [] 0) :: bs) := .inr ⟨_, .tail _ haxb, rfl, _, rfl⟩
    refine for_list (ll2 ns S D1 aa bs)
      (by rfl) (by rfl) (by rfl) (by rfl) F4 N4 (N4 _ (.tail _ haxb)).2.1 hsrc ⟨[], 0, [], rfl, by k_extra "unf", by k_extra "unf", by k_extra "unf", List.forall_mem_nil _, rfl, List.forall_mem_nil _⟩ ?_ ?_
    · rintro i v m' _ h tk I oI hin hv ⟨qs, n2, t2, rfl, e1, e2, e3, hqs, hqt, ht2⟩ hsr F5 N5 off5
      obtain ⟨k, t, hk1, rfl⟩ := ints_at hi hv
      clear F4 N4
      have hql : qs.length < 1000 := by
        have e := congrArg List.length hqt
        rw [List.length_map, List.length_map] at e
        have := List.length_filter_le (fun x : Int => decide (¬ x.fmod 3 = 0)) (ns.take i)
        have := List.length_take_le i ns
        have := List.length_take_le' i ns
        omega
      have hSo : ∀ q ∈ t2 ++ bs, q.1 ≠ S := by
        intro q hq
        rcases List.mem_append.mp hq with h | h
        · exact Nat.ne_of_gt (ht2 q h _ (.head _))
        · exact Nat.ne_of_lt (ll q h)
      have hSI : I ≠ S := Ne.symm (off5 _ (.head _))
      have hSo' : ∀ t' : List (Addr × Obj), (∀ p ∈ t', ∀ q ∈ (I, oI) :: (S, lob qs n2) :: (t2 ++ bs), q.1 < p.1) → ∀ q ∈ (I, oI) :: (t' ++ (t2 ++ bs)), q.1 ≠ S := by
        intro t' ht' q hq
        rcases List.mem_cons.mp hq with rfl | hq
        · exact hSI
        · rcases List.mem_append.mp hq with h | h
          · exact Nat.ne_of_gt (ht' q h _ (.tail _ (.head _)))
          · exact hSo q h
      have sub2 : ∀ (o : Obj) (t' : List (Addr × Obj)), ∀ p ∈ (S, o) :: (I, oI) :: (t' ++ (t2 ++ bs)), p ∈ t' ++ (I, oI) :: (S, o) :: (t2 ++ bs) := by
        intro o t' p hp
        exact sub2s p hp
      have fin : ∀ (Q' : Flow → Shared → Prop) (s' : Shared) (h' : Heap) (tk' : Nat) (m2 : Str → Option Value) (v : Value) (t' : List (Addr × Obj)) (n3 : Nat), Fr g1 L1 h' m2 → News g1 L1 h' ((S, lob (qs ++ [(v, txt k)]) n3) :: (I, oI) :: (t' ++ (t2 ++ bs))) →
          m2 (Str.ofString "first") = some (.ref D1) → m2 (Str.ofString "second") = some (.ref S) → m2 (Str.ofString "numbers") = some (.ref aa) → (∀ p ∈ t', ∀ q ∈ (I, oI) :: (S, lob qs n2) :: (t2 ++ bs), q.1 < p.1) → Nm t' v (txt k) → ¬ k.fmod 3 = 0 →
          FStep g1 L1 s' I oI (LCg.SrcAt g1 aa its.toArray) (ll2 ns S D1 aa bs (i + 1)) Q' .next { s' with heap := h', toks := tk' } := by
        intro Q' s' h' tk' m2 v t' n3 F6 N6 f1 f2 f3 ht' hnv hne
        refine FStep.intro F6 N6 (news₂ := (S, lob (qs ++ [(v, txt k)]) n3) :: ((t' ++ t2) ++ bs)) ?_ ?_ (.inr ⟨_, .tail _ (List.mem_append_right _ haxb), rfl, _, rfl⟩) ⟨qs ++ [(v, txt k)], n3, t' ++ t2, rfl, f1, f2, f3, ?_, ?_, ?_⟩
        · intro p hp
          rw [List.append_assoc] at hp
          exact swap2 p hp
        · intro p hp
          rcases List.mem_cons.mp hp with rfl | hp
          · exact Ne.symm hSI
          · rw [List.append_assoc] at hp
            rcases List.mem_append.mp hp with h | h
            · exact Nat.ne_of_gt (ht' p h _ (.head _))
            · exact off5 p (.tail _ h)
        · intro p hp
          rw [List.append_assoc]
          rcases List.mem_append.mp hp with h | h
          · exact (hqs p h).mono fun q hq => List.mem_append_right _ hq
          · rw [List.mem_singleton.mp h]
            exact hnv.mono fun q hq => List.mem_append_left _ hq
        · rw [take_succ_of hk1, List.filter_append, List.map_append, List.map_append, hqt]; simp [hne]
        · intro p hp q hq
          rcases List.mem_append.mp hp with h | h
          · rcases List.mem_cons.mp hq with rfl | hq
            · exact ht' p h (S, lob qs n2) (.tail _ (.head _))
            · exact ht' p h q (.tail _ (.tail _ (List.mem_append_right _ hq)))
          · exact ht2 p h q hq
      ((try k_fold); w_strict (k_extra "go"))
      · rename (_ : Int) = 1 => he
        refine law_name_c ⟨B1, X1, T1, rfl, rfl⟩ F5 N5 ?_ (Nat.le_of_ble_eq_true rfl) (Nat.le_of_ble_eq_true rfl)
        intro h6 tk6 v t' F6 N6 ht' hnv
        replace N6 : News g1 L1 h6 ((S, lob qs n2) :: (I, oI) :: (t' ++ (t2 ++ bs))) := fun p hp => N6 p (sub2 _ _ p hp)
        have ho := hSo' t' ht'
        clear F5 N5
        ((try k_fold); w_strict (k_extra "go"))
        · rename (_ : Int) = 2 => he2
          omega
        · rename Fr _ _ _ _ => F7
          rename News _ _ _ _ => N7
          rw [push_lob qs v (txt k)] at N7
          exact fin _ _ _ _ _ v t' _ F7 N7 (by k_extra "unf") (by k_extra "unf") (by k_extra "unf") ht' hnv (by omega)
      · refine law_text_c ⟨B1, X1, T1, rfl, rfl⟩ F5 N5 ?_ (Nat.le_of_ble_eq_true rfl) (Nat.le_of_ble_eq_true rfl)
        intro h6 tk6 u6 F6 N6
        clear F5 N5
        ((try k_fold); w_strict (k_extra "go"))
        refine qname1_c ⟨B1, X1, T1, rfl, rfl⟩ F6 N6 ?_ (Nat.le_of_ble_eq_true rfl) (Nat.le_of_ble_eq_true rfl)
        intro h7 tk7 v t' F7 N7 ht' hnv
        replace N7 : News g1 L1 h7 ((S, lob qs n2) :: (I, oI) :: (t' ++ (t2 ++ bs))) := fun p hp => N7 p (sub2 _ _ p hp)
        have ho := hSo' t' ht'
        clear F6 N6
        ((try k_fold); w_strict (k_extra "go"))
        rename Fr _ _ _ _ => F8
        rename News _ _ _ _ => N8
        rw [push_lob qs v (txt k)] at N8
        exact fin _ _ _ _ _ v t' _ F8 N8 (by k_extra "unf") (by k_extra "unf") (by k_extra "unf") ht' hnv (by omega)
      · refine law_text_c ⟨B1, X1, T1, rfl, rfl⟩ F5 N5 ?_ (Nat.le_of_ble_eq_true rfl) (Nat.le_of_ble_eq_true rfl)
        intro h6 tk6 u6 F6 N6
        replace N6 : News g1 L1 h6 ((S, lob qs n2) :: (I, oI) :: ([] ++ (t2 ++ bs))) := fun p hp => N6 p (sub2 _ [] p hp)
        have ho := hSo' [] (List.forall_mem_nil _)
        clear F5 N5
        ((try k_fold); w_strict (k_extra "go"))
        rename Fr _ _ _ _ => F8
        rename News _ _ _ _ => N8
        rw [push_lob qs _ (txt k)] at N8
        exact fin _ _ _ _ _ _ [] _ F8 N8 (by k_extra "unf") (by k_extra "unf") (by k_extra "unf") (List.forall_mem_nil _) .str (by omega)
      · have hk3 := fmod3 k
        have h0 : k.fmod 3 = 0 := by omega
        exact FStep.intro F5 N5 (fun p hp => hp) off5 hsr ⟨qs, n2, t2, rfl, by k_extra "unf", by k_extra "unf", by k_extra "unf", hqs, by rw [take_succ_of hk1, List.filter_append, hqt]; simp [h0], ht2⟩
    · rintro m' _ h tk ⟨qs, n2, t2, rfl, e1, e2, e3, hqs, hqt, ht2⟩ F5 N5
      clear F4 N4
      ((try k_fold); w_strict (k_extra "go"))
      rename_i T1' h6 F6 N6 l6 kF kN kT kX
      have etk : ns.take its.toArray.size = ns := List.take_of_length_le (by rw [List.size_toArray, hi.length]; exact Nat.le_refl _)
      rw [etk] at hqt htx
      subst hbs
      have lT : ∀ q ∈ t2 ++ (D1, LCg.lst (ps.map (·.1))) :: (tl ++ rest), q.1 < T1' := kst_ltOf l6.2
      have m1 : ∀ q ∈ t2 ++ tl ++ rest, q ∈ t2 ++ (D1, LCg.lst (ps.map (·.1))) :: (tl ++ rest) := ins1
      have hD1S : @LT.lt Nat _ D1 S := ll _ (.head _)
      refine ret _ _ T1' D1 S ps qs ps.length n2 (t2 ++ tl) kF ?_ ?_ ?_ ?_ ?_ ?_ ?_ htx hqt
      · intro p hp
        refine kN p ?_
        simp only [List.mem_cons, List.mem_append] at hp ⊢
        rcases hp with h | h | h | (h | h) | h
        · exact .inl h
        · right; right; right; left; rw [h]; simp [lob, LCg.lst]
        · exact .inr (.inl h)
        · exact .inr (.inr (.inl h))
        · right; right; right; right; left; exact h
        · right; right; right; right; right; exact h
      · intro q hq
        rcases List.mem_cons.mp hq with rfl | hq
        · exact Nat.ne_of_lt (lT (D1, LCg.lst (ps.map (·.1))) (List.mem_append_right _ (.head _)))
        · rcases List.mem_cons.mp hq with rfl | hq
          · exact Nat.ne_of_lt l6.1
          · exact Nat.ne_of_lt (lT _ (m1 q hq))
      · intro q hq
        rcases List.mem_cons.mp hq with rfl | hq
        · exact Nat.ne_of_gt hD1S
        · rw [List.append_assoc] at hq
          rcases List.mem_append.mp hq with h | h
          · exact Nat.ne_of_gt (ht2 q h (D1, LCg.lst (ps.map (·.1))) (.tail _ (.head _)))
          · exact o1 q h
      · intro q hq
        rw [List.append_assoc] at hq
        rcases List.mem_append.mp hq with h | h
        · exact Nat.ne_of_gt (ht2 q h (S, lob [] 0) (.head _))
        · exact Nat.ne_of_lt (ll q (.tail _ h))
      · intro p hp q hq
        rcases List.mem_append.mp hp with h | h
        · exact ht2 p h q (.tail _ (.tail _ (List.mem_append_right _ hq)))
        · exact htl p h q hq
      · intro p hp
        exact (hps p hp).mono fun q hq => by rw [List.append_assoc]; exact List.mem_append_right _ hq
      · intro p hp
        have := (hqs p hp).drop
        rw [List.append_assoc]
        exact this
end
-- Lines2
theorem pv_at {ps : List PV} {i : Nat} {v : Value} (h : (ps.map (·.1)).toArray[i]? = some v) : ∃ p, ps[i]? = some p ∧ p.1 = v := by
  have h' : (ps.map (·.1))[i]? = some v := by simpa using h
  rw [List.getElem?_map] at h'
  cases e : ps[i]? with
  | none => rw [e] at h'; cases h'
  | some p => rw [e] at h'; exact ⟨p, rfl, Option.some.inj h'⟩
theorem lay22 : True := by
  k_with "mem" => first | exact List.Mem.head _ | assumption | (refine' List.Mem.tail _ ?_; k_extra "mem")
  trivial
local macro_rules | `(tactic| k_mem) => `(tactic| k_extra "mem")
theorem lay23 : True := by
  k_with "go" => repeat' ((fail_if_success (with_reducible show wpAny _ _ (exec (Stmt.While _ _ _ _) _) _ _ _)); (fail_if_success (with_reducible show wpAny _ _ (exec (Stmt.For _ _ _ _ _) _) _ _ _)); (fail_if_success (with_reducible show wpAny _ _ (exec (Stmt.Assign _ (Expr.ListComp _ _ _ _) _) _) _ _ _)); (fail_if_success (with_reducible show wpAny _ _ (eval (Expr.ListComp _ _ _ _) _) _ _ _)); (fail_if_success (with_reducible show wpAny _ _ (call (Value.ref _) _ _) _ _ _)); (fail_if_success (with_reducible show LCg.CompSrc _ _ _ _ _ _ _ _ _ _ _ _ _ _)); (fail_if_success (with_reducible show LCt.CompSrcT _ _ _ _ _ _ _ _ _ _ _ _ _ _ _)); (fail_if_success (with_reducible show wpAny _ _ (pyIter _) _ _ _)); first | (k_unfold; (try dsimp only)) | walk1 | (dsimp only; walk1) | (leave1; (try dsimp only)))
  trivial
-- E0
/-- a heap and the same with the slots of some frames changed -/
noncomputable abbrev Turn := @KtsTurn
section
variable {A A₀ : Around} {base g h h₁ : Heap} {outer : List Env} {env : Env} {L : Addr} {m : Str → Option Value} {news : List (Addr × Obj)}
theorem turn_slots (K : Below A₀ base outer g) (F : Fr g L h m) (N : News g L h news) (hf : env.frame = some L) (hs : Heap.SlotsOnly ((env :: outer).filterMap (·.frame)) h h₁) :
    ∃ g₁, KtsTurn (outer.filterMap (·.frame)) g g₁ ∧ Fr g₁ L h₁ m ∧ News g₁ L h₁ news ∧ Below A₀ base outer g₁ := by
  have hmem : ∀ b, b ∈ (env :: outer).filterMap (·.frame) → b = L ∨ b ∈ outer.filterMap (·.frame) := fun b hb => by
    obtain ⟨e', he, hf'⟩ := List.mem_filterMap.mp hb
    rcases List.mem_cons.mp he with rfl | he
    · rw [hf] at hf'; exact .inl (Option.some.inj hf').symm
    · exact .inr (List.mem_filterMap.mpr ⟨e', he, hf'⟩)
  obtain ⟨T, S⟩ := kts_turn_at (h := h₁) (fs := outer.filterMap (·.frame)) (g := g)
    (fun b hb => by
      obtain ⟨_, o, ho, _⟩ := K.frames.mem hb
      exact ⟨o, ho⟩)
    (fun b o e nm => (hs.2.1 b fun hm => by
      rcases hmem b hm with z | z
      · rw [z, kts_self F] at e; cases e
      · exact nm z).trans (F.keep b o e))
    (fun b o e hm => hs.2.2 b o (F.keep b o e))
  obtain ⟨o, es, ep, ho, r⟩ := F.ns
  obtain ⟨sl, hsl⟩ := hs.2.2 L o ho
  refine ⟨_, T, ⟨⟨_, es, ep, hsl, r⟩, S, by rw [T.size]; exact F.above⟩, fun q hq => ⟨(hs.2.1 q.1 fun hm => ?_).trans (N q hq).1, (N q hq).2.1, T.none_ _ (N q hq).2.2⟩, ⟨K.stack, fun b o e => T.other b o (K.stays b o e) (fun hm => by
    rw [(K.frames.mem hm).1] at e
    cases e), K.frames.of_keeps fun b o e _ => ?_⟩⟩
  · rcases hmem _ hm with z | z
    · exact (N q hq).2.1 z
    · obtain ⟨_, o, ho, _⟩ := K.frames.mem z
      rw [(N q hq).2.2] at ho; cases ho
  · obtain ⟨sl, hs⟩ := T.up e
    exact ⟨_, hs, rfl⟩
end
section
variable {M : Model} {A A₀ : Around} {E : Value → Shared → Prop} {s : Shared} {base g : Heap} {outer : List Env} {env : Env} {L e : Addr} {m : Str → Option Value} {news : List (Addr × Obj)} {oe : Obj} {vs : Array Value} {Q : Unit → Shared → Prop}
theorem upd_fr {d : Addr} {o o' : Obj} {rest : List (Addr × Obj)} {h h' : Heap} (F : Fr g L h m) (N : News g L h ((d, o) :: rest)) (hs : Heap.SameBut d h h') : Fr g L h' m :=
  ⟨F.ns.sameBut hs (Ne.symm (N _ (.head _)).2.1), fun b ob e => (hs.2 b (fun q => by rw [q, (N _ (.head _)).2.2] at e; cases e)).trans (F.keep b ob e), F.above⟩
theorem upd_news {d : Addr} {o o' : Obj} {rest : List (Addr × Obj)} {h h' : Heap} (N : News g L h ((d, o) :: rest)) (hne : ∀ q ∈ rest, q.1 ≠ d) (hs : Heap.SameBut d h h') (ho : h'.get? d = some o') : News g L h' ((d, o') :: rest) :=
  N.setAt (own := []) (fun _ h => nomatch h) hne hs ho
theorem sameBut_update {h : Heap} {d : Addr} {f : Obj → Obj} : Heap.SameBut d h (h.update d f) := ⟨Heap.size_after_update _ _ _, fun b hb => Heap.get?_update_other _ _ (Ne.symm hb)⟩
/-- a field of a record of the ledger is set -/
theorem set_field {d : Addr} {i : Nat} {x : Value} (F : Fr g L s.heap m) (N : News g L s.heap ((d, oe) :: news)) (hne : ∀ q ∈ news, q.1 ≠ d) (hd : oe.data = .fields vs) (hi : i < vs.size)
    (k : ∀ h' o', Fr g L h' m → News g L h' ((d, o') :: news) → o'.cls = oe.cls → o'.data = .fields (vs.setIfInBounds i x) → Q () { s with heap := h' }) : wpAny M A (setField (.ref d) i x) Q E s := by
  have hd₃ := Obj.data_mapFields hd (·.setIfInBounds i x)
  refine wpAny_setField (N _ (.head _)).1 hd hi (k _ _ (upd_fr (o' := oe) F N sameBut_update) (upd_news N hne sameBut_update (Heap.get?_update_self _ (N _ (.head _)).1 (Obj.isFreed_of_fields hd₃))) (Obj.cls_mapFields _ _) hd₃)
/-- the first look at an exception that has none yet -/
theorem note_new (hfr : A.frames = some (env :: outer)) (hf : env.frame = some L) (hk : env.scope.kind = .function) (K : Below A₀ base outer g) (F : Fr g L s.heap m) (N : News g L s.heap ((e, oe) :: news)) (hne : ∀ q ∈ news, q.1 ≠ e)
    (hd : oe.data = .fields vs) (h1 : vs[1]? = some .none)
    (k : ∀ h' g₁ T oe' oT ts, KtsTurn (outer.filterMap (·.frame)) g g₁ → Fr g₁ L h' m → News g₁ L h' ((e, oe') :: (T, oT) :: news) → (∀ q ∈ (T, oT) :: news, q.1 ≠ e) → (∀ q ∈ news, q.1 ≠ T) → Below A₀ base outer g₁ →
      oe'.cls = oe.cls → oe'.data = .fields (vs.setIfInBounds 1 (.ref T)) → oT.data = .fields ts → ts[3]? = some (rawInt L) → Q () { s with heap := h' }) :
    wpAny M A (noteFrame (.ref e) env) Q E s := by
  have hK := pushX K F hf hk
  unfold noteFrame
  simp only [hf]
  refine wpAny_bind (wpAny_field (N _ (.head _)).1 hd h1 ?_)
  rw [if_neg (by decide)]
  refine wpAny_bind (wpAny_frameOf_fun hfr hK.frames hf fun h₁ hs₁ => ?_)
  obtain ⟨g₁, T₁, F₁, N₁, K₁⟩ := turn_slots K F N hf hs₁
  refine wpAny_bind (wpAny_entryPlaceOf fun pl hpl => ?_)
  unfold EntryCells.newEntry newFields
  refine wpAny_bind (wpAny_newObj_type ?_ (hpl.sizeOk5 _ _ _ _ _))
  have kp : ∀ b o, h₁.get? b = some o → (h₁.push { cls := .type "traceback", dict := none, data := .fields ([Value.none, .ref L, .none, rawInt L, .none] ++ (if pl.isEmpty then List.replicate 6 Value.none else pl)).toArray }).get? b = some o := fun b o eb => Heap.get?_push_of_some _ eb
  have nw : ∀ q ∈ ((e, oe) :: news), q.1 ≠ h₁.objs.size := fun q hq => Nat.ne_of_lt (Heap.lt_size (N₁ q hq).1)
  have hT := Heap.get?_push_size h₁ (o := { cls := .type "traceback", dict := none, data := .fields ([Value.none, .ref L, .none, rawInt L, .none] ++ (if pl.isEmpty then List.replicate 6 Value.none else pl)).toArray }) rfl
  have hTn : g₁.get? h₁.objs.size = none := by
    cases q : g₁.get? h₁.objs.size with
    | none => rfl
    | some o => exact absurd (Heap.lt_size (F₁.keep _ _ q)) (Nat.lt_irrefl _)
  have hTL : h₁.objs.size ≠ L := by
    obtain ⟨o, _, _, ho, _⟩ := F₁.ns
    exact Nat.ne_of_gt (Heap.lt_size ho)
  refine set_field (m := m) (g := g₁) (L := L) (oe := oe) (vs := vs) (news := (h₁.objs.size, { cls := .type "traceback", dict := none, data := .fields ([Value.none, .ref L, .none, rawInt L, .none] ++ (if pl.isEmpty then List.replicate 6 Value.none else pl)).toArray }) :: news)
    ⟨F₁.ns.keeps kp, fun b o eb => kp b o (F₁.keep b o eb), F₁.above⟩ ?_ ?_ hd (Array.getElem?_eq_some_iff.mp h1).1 ?_
  · intro q hq
    rcases List.mem_cons.mp hq with rfl | hq
    · exact ⟨kp _ _ (N₁ _ (.head _)).1, (N₁ _ (.head _)).2⟩
    · rcases List.mem_cons.mp hq with rfl | hq
      · exact ⟨hT, hTL, hTn⟩
      · exact ⟨kp _ _ (N₁ _ (.tail _ hq)).1, (N₁ _ (.tail _ hq)).2⟩
  · intro q hq
    rcases List.mem_cons.mp hq with rfl | hq
    · exact Ne.symm (nw _ (.head _))
    · exact hne q hq
  · intro h' o' F' N' c' d'
    refine k h' g₁ _ o' _ _ T₁ F' N' ?_ (fun q hq => nw q (.tail _ hq)) K₁ c' d' rfl ?_
    · intro q hq
      rcases List.mem_cons.mp hq with rfl | hq
      · exact Ne.symm (nw _ (.head _))
      · exact hne q hq
    · first | (simp; done) | (rcases hpl with rfl | ⟨_, _, _, _, _, _, _, rfl⟩ <;> simp)
/-- the next look in the same frame -/
theorem note_again {T : Addr} {oT : Obj} {ts : Array Value} (hf : env.frame = some L) (he : s.heap.get? e = some oe) (hd : oe.data = .fields vs) (h1 : vs[1]? = some (.ref T)) (hT : s.heap.get? T = some oT) (hdT : oT.data = .fields ts) (h3 : ts[3]? = some (rawInt L)) (k : Q () s) :
    wpAny M A (noteFrame (.ref e) env) Q E s := by
  unfold noteFrame
  simp only [hf]
  refine wpAny_bind (wpAny_field he hd h1 ?_)
  rw [if_pos (show (Value.ref T != Value.none) = true from by simp)]
  refine wpAny_bind (wpAny_field hT hdT h3 ?_)
  rw [if_pos (show (rawInt L == rawInt L) = true from by simp)]
  exact wpAny_pure k
theorem set_flight {T : Addr} {oT : Obj} {ts : Array Value} {fr : Option Addr} (F : Fr g L s.heap m) (N : News g L s.heap ((e, oe) :: (T, oT) :: news)) (hne : ∀ q ∈ (T, oT) :: news, q.1 ≠ e) (hnT : ∀ q ∈ news, q.1 ≠ T)
    (hd : oe.data = .fields vs) (h1 : vs[1]? = some (.ref T)) (hdT : oT.data = .fields ts) (h3 : 3 < ts.size)
    (k : ∀ h' oT', Fr g L h' m → News g L h' ((e, oe) :: (T, oT') :: news) → (∀ q ∈ (T, oT') :: news, q.1 ≠ e) → oT'.data = .fields (ts.setIfInBounds 3 (fr.elim .none fun f => rawInt f)) → Q () { s with heap := h' }) :
    wpAny M A (setFlight (.ref e) fr) Q E s := by
  unfold setFlight
  refine wpAny_bind (wpAny_field (N _ (.head _)).1 hd h1 ?_)
  rw [if_pos (show (Value.ref T != Value.none) = true from by simp)]
  have hTe : T ≠ e := hne (T, oT) (.head _)
  refine set_field (oe := oT) (vs := ts) (news := (e, oe) :: news) F (fun q hq => N q (by
      rcases List.mem_cons.mp hq with rfl | hq
      · exact .tail _ (.head _)
      · rcases List.mem_cons.mp hq with rfl | hq
        · exact .head _
        · exact .tail _ (.tail _ hq))) (fun q hq => by
      rcases List.mem_cons.mp hq with rfl | hq
      · exact Ne.symm hTe
      · exact hnT q hq) hdT h3 fun h' o' F' N' c' d' => ?_
  refine k h' o' F' (fun q hq => N' q ?_) ?_ d'
  · rcases List.mem_cons.mp hq with rfl | hq
    · exact .tail _ (.head _)
    · rcases List.mem_cons.mp hq with rfl | hq
      · exact .head _
      · exact .tail _ (.tail _ hq)
  · intro q hq
    rcases List.mem_cons.mp hq with rfl | hq
    · exact hTe
    · exact hne q (.tail _ hq)
end
noncomputable def LeaveT (h₀ : Heap) (L : Addr) (m : Str → Option Value) (g : Heap) (R : Result → Shared → Prop) (v : Value) (s' : Shared) : Prop :=
  ∃ g' L' m' news', KtsTurn [L] g g' ∧ Fr g' L' s'.heap m' ∧ News g' L' s'.heap news' ∧ (Fr h₀ L s'.heap m → News h₀ L s'.heap news' → R (.ok (.ret v)) s')
theorem leaveT_ {h₀ g g' : Heap} {L L' : Addr} {m m' : Str → Option Value} {news' : List (Addr × Obj)} {R : Result → Shared → Prop} {v : Value} {s' : Shared} (T : KtsTurn [L] g g') (F' : Fr g' L' s'.heap m') (N' : News g' L' s'.heap news')
    (k : Fr h₀ L s'.heap m → News h₀ L s'.heap news' → R (.ok (.ret v)) s') : LeaveT h₀ L m g R v s' := ⟨g', L', m', news', T, F', N', k⟩
section
variable {prog : Program} {w : World} {A₀ A : Around} {s : Shared} {base h₀ : Heap} {L : Addr} {m : Str → Option Value} {env : Env} {news : List (Addr × Obj)} {K : Frag} {p : Program} {loose : List Str} {mean : ExcName → Option Value} {mg mb : Str → Option Value}
    {R : Result → Shared → Prop} {name qual : Str} {params : Arguments} {body : List Stmt} {scope : Scope} {dV kV doc pm cdv ct oc : Value} {an od : Option Addr} {osl : Array (Option Value)} {f : Addr} {args : Args} {binds : List (Str × Value)}
/-- a def called from the outermost frame, that may look at exceptions -/
theorem code_defT (B : Below A₀ base [] h₀) (F : Fr h₀ L s.heap m) (X₀ : K.In h₀) (N : News h₀ L s.heap news) (T : Top p loose mean mg mb h₀) (hA : A.frames = some [env]) (hf : env.frame = some L) (hke : env.scope.kind = .function)
    (ho : K.lookup f = some ⟨oc, od, .func (fnOf name qual params body scope dV kV doc pm an cdv ct), osl⟩) (hcd : codeIn K cdv qual = true) (hroom : A.depth < recursionLimit)
    (hbind : BindsTo s (fnOf name qual params body scope dV kV doc pm an cdv ct) args binds) (hloc : ∀ y ∈ binds, scope.names.lookup y.1 = some .local)
    (h : ∀ g L' h₁, Fr h₀ L g m → Fr g L' h₁ (fun y => binds.reverse.lookup y) → News g L' h₁ news → Below A h₀ [env] g → K.In g → Top p loose mean mg mb g →
      wpAny (model prog w) (A.deeper (envOf qual scope L' f cdv)) (execs body (envOf qual scope L' f cdv))
        (fun fl s' => LeaveT h₀ L m g R (match fl with | .ret v => v | _ => .none) s')
        (fun e s' => wpAny (model prog w) (A.deeper (envOf qual scope L' f cdv)) (leaving (envOf qual scope L' f cdv) e) (fun _ s'' => R (.error e) s'') (fun e' s'' => R (.error e') s'') s')
        { s with heap := h₁, toks := s.toks + binds.length })
    (hco : scope.isCoroutine = false) (hgen : scope.isGenerator = false) (hk : scope.kind = .function)
    (hcell : ∀ x ∈ scope.names, x.2 ≠ .cell) : codeAny (model prog w) A (.call (.ref f) args) R s := by
  have X := X₀.keeps F.keep
  have B' : Below A₀ h₀ [] h₀ := ⟨B.stack, fun _ _ e => e, trivial⟩
  refine codeAny_call_def (fd := fnOf name qual params body scope dV kV doc pm an cdv ct) (body := body) (binds := binds) hroom (X _ _ ho) rfl (T.nolimit.keeps F.keep) (codeRec_of X hcd) rfl hbind hcell hloc (fun h₁ hns hk₁ => ?_) hco hgen hk
  obtain ⟨FG, B₂, st, _⟩ := groundX (R := R) B' F N hA hf hke
  refine wpAny_mono (h _ s.heap.objs.size h₁ FG ⟨hns, fun b o e => hk₁ b o (of_hideAll _ e), Nat.le_of_eq (hideAll_size _ _)⟩
    (fun p hp => ⟨hk₁ _ _ (N p hp).1, Nat.ne_of_lt (Heap.lt_size (N p hp).1), hideAll_none _ (List.mem_map_of_mem hp)⟩) B₂ (X₀.keeps st) (T.keeps st)) (fun fl s' hl => ?_) fun _ _ y => y
  obtain ⟨g', L', m', news', T', F', N', k⟩ := hl
  have nL₀ : h₀.get? L = none := kts_self F
  obtain ⟨oL, es, ep, hLg, r⟩ := FG.ns
  obtain ⟨sl, hs⟩ := T'.up hLg
  refine k ⟨⟨_, es, ep, F'.keep _ _ hs, r⟩, fun b o e => F'.keep b o (T'.other b o (st b o e) (fun q => by
    rw [List.mem_singleton.mp q, nL₀] at e; cases e)), F.above⟩ fun p hp => ⟨(N' p hp).1, fun q => ?_, ?_⟩
  · have := (N' p hp).2.2; rw [q, hs] at this; cases this
  · cases q : h₀.get? p.1 with
    | none => rfl
    | some o =>
      obtain ⟨sl', hs'⟩ := T'.up (st _ _ q)
      have := (N' p hp).2.2
      rw [hs'] at this
      cases this
end
-- E1
section
variable {g h h' : Heap} {L e : Addr} {m : Str → Option Value} {news : List (Addr × Obj)} {cls : String}
theorem new_exc (F : Fr g L h m) (N : News g L h news) (hx : Heap.NewExc h h' e cls) :
    ∃ oe t, Fr g L h' m ∧ News g L h' ((e, oe) :: news) ∧ (∀ q ∈ news, q.1 ≠ e) ∧ oe.cls = .type cls ∧ oe.data = .fields #[t, .none, .none, .none, .bool false, .none] := by
  obtain ⟨oe, t, he, hc, hd⟩ := hx.there
  refine ⟨oe, t, ⟨F.ns.keeps hx.keeps, fun b o e => hx.keeps b o (F.keep b o e), F.above⟩, fun q hq => ?_, fun q hq z => ?_, hc, hd⟩
  · rcases List.mem_cons.mp hq with rfl | hq
    · refine ⟨he, fun z => ?_, ?_⟩
      · obtain ⟨o, _, _, ho, _⟩ := F.ns
        have z' : e = L := z
        have := hx.new
        rw [z', ho] at this; cases this
      · cases q : g.get? e with
        | none => rfl
        | some o => have := F.keep _ _ q; rw [hx.new] at this; cases this
    · exact ⟨hx.keeps _ _ (N q hq).1, (N q hq).2⟩
  · have := (N q hq).1
    rw [z, hx.new] at this; cases this
end
/-- an exception on its way through the frame L -/
inductive Fly (A₀ : Around) (base : Heap) (outer : List Env) (g0 : Heap) (L : Addr) (cls : Value) (Cc : Value → Prop) (J : (Str → Option Value) → List (Addr × Obj) → Prop) (s0 : Shared) (v : Value) (s' : Shared) : Prop
  | mk (g h' : Heap) (tk : Nat) (e : Addr) (oe : Obj) (vs : Array Value) (c : Value) (m : Str → Option Value) (news : List (Addr × Obj)) (x1 : v = .ref e) (x2 : s' = { s0 with heap := h', toks := tk }) (x3 : KtsTurn (outer.filterMap (·.frame)) g0 g) (x4 : Fr g L h' m) (x5 : Below A₀ base outer g) (x6 : J m news) (x7 : oe.cls = cls) (x8 : oe.data = .fields vs) (x9 : vs[2]? = some c) (x10 : Cc c)
    (y : (vs[1]? = some .none ∧ News g L h' ((e, oe) :: news) ∧ (∀ q ∈ news, q.1 ≠ e)) ∨
     ∃ T oT ts, vs[1]? = some (.ref T) ∧ oT.data = .fields ts ∧ ts[3]? = some (rawInt L) ∧ News g L h' ((e, oe) :: (T, oT) :: news) ∧ (∀ q ∈ (T, oT) :: news, q.1 ≠ e) ∧ ∀ q ∈ news, q.1 ≠ T) : Fly A₀ base outer g0 L cls Cc J s0 v s'
inductive FlyN (A₀ : Around) (base : Heap) (outer : List Env) (g0 : Heap) (L : Addr) (cls : Value) (Cc : Value → Prop) (J : (Str → Option Value) → List (Addr × Obj) → Prop) (s0 : Shared) (fl : Value) (v : Value) (s' : Shared) : Prop
  | mk (g h' : Heap) (tk : Nat) (e : Addr) (oe : Obj) (vs : Array Value) (c : Value) (m : Str → Option Value) (news : List (Addr × Obj)) (T : Addr) (oT : Obj) (ts : Array Value) (x1 : v = .ref e) (x2 : s' = { s0 with heap := h', toks := tk }) (x3 : KtsTurn (outer.filterMap (·.frame)) g0 g) (x4 : Fr g L h' m) (x5 : Below A₀ base outer g) (x6 : J m news) (x7 : oe.cls = cls) (x8 : oe.data = .fields vs) (x9 : vs[2]? = some c) (x10 : Cc c)
    (y1 : vs[1]? = some (.ref T)) (y2 : oT.data = .fields ts) (y3 : ts[3]? = some fl) (y4 : News g L h' ((e, oe) :: (T, oT) :: news)) (y5 : ∀ q ∈ (T, oT) :: news, q.1 ≠ e) (y6 : ∀ q ∈ news, q.1 ≠ T) : FlyN A₀ base outer g0 L cls Cc J s0 fl v s'
section
variable {M : Model} {A A' A₀ : Around} {E : Value → Shared → Prop} {s0 s' : Shared} {base g0 : Heap} {outer : List Env} {env : Env} {L : Addr} {cls v fl : Value} {Cc : Value → Prop} {J : (Str → Option Value) → List (Addr × Obj) → Prop} {Q : Unit → Shared → Prop}
theorem FlyN.fly (h : FlyN A₀ base outer g0 L cls Cc J s0 (rawInt L) v s') : Fly A₀ base outer g0 L cls Cc J s0 v s' := by
  obtain ⟨g, h', tk, e, oe, vs, c, m, news, T, oT, ts, x1, x2, x3, x4, x5, x6, x7, x8, x9, x10, y1, y2, y3, y4, y5, y6⟩ := h
  exact ⟨g, h', tk, e, oe, vs, c, m, news, x1, x2, x3, x4, x5, x6, x7, x8, x9, x10, .inr ⟨T, oT, ts, y1, y2, y3, y4, y5, y6⟩⟩
theorem Fly.note (hfr : A.frames = some (env :: outer)) (hf : env.frame = some L) (hk : env.scope.kind = .function) (h : Fly A₀ base outer g0 L cls Cc J s0 v s')
    (k : ∀ s'', FlyN A₀ base outer g0 L cls Cc J s0 (rawInt L) v s'' → Q () s'') : wpAny M A (noteFrame v env) Q E s' := by
  obtain ⟨g, h', tk, e, oe, vs, c, m, news, rfl, rfl, x3, x4, x5, x6, x7, x8, x9, x10, y⟩ := h
  rcases y with ⟨y1, y2, y3⟩ | ⟨T, oT, ts, y1, y2, y3, y4, y5, y6⟩
  · refine note_new hfr hf hk x5 x4 y2 y3 x8 y1 fun h'' g₁ T oe' oT ts z1 z2 z3 z4 z5 z6 z7 z8 z9 z10 => k _ ⟨g₁, h'', tk, e, oe', _, c, m, news, T, oT, ts, rfl, rfl, x3.trans z1, z2, z6, x6, z7.trans x7, z8, ?_, x10, ?_, z9, z10, z3, z4, z5⟩
    · rw [Array.getElem?_setIfInBounds_ne (by decide)]; exact x9
    · have : 1 < vs.size := (Array.getElem?_eq_some_iff.mp y1).1
      simp [this]
  · exact note_again hf (y4 _ (.head _)).1 x8 y1 (y4 _ (.tail _ (.head _))).1 y2 y3 (k _ ⟨g, h', tk, e, oe, vs, c, m, news, T, oT, ts, rfl, rfl, x3, x4, x5, x6, x7, x8, x9, x10, y1, y2, y3, y4, y5, y6⟩)
theorem FlyN.again (hf : env.frame = some L) (h : FlyN A₀ base outer g0 L cls Cc J s0 (rawInt L) v s') (k : Q () s') : wpAny M A (noteFrame v env) Q E s' := by
  obtain ⟨g, h', tk, e, oe, vs, c, m, news, T, oT, ts, rfl, rfl, x3, x4, x5, x6, x7, x8, x9, x10, y1, y2, y3, y4, y5, y6⟩ := h
  exact note_again hf (y4 _ (.head _)).1 x8 y1 (y4 _ (.tail _ (.head _))).1 y2 y3 k
theorem FlyN.set {fr : Option Addr} (h : FlyN A₀ base outer g0 L cls Cc J s0 fl v s') (k : ∀ s'', FlyN A₀ base outer g0 L cls Cc J s0 (fr.elim .none fun f => rawInt f) v s'' → Q () s'') : wpAny M A (setFlight v fr) Q E s' := by
  obtain ⟨g, h', tk, e, oe, vs, c, m, news, T, oT, ts, rfl, rfl, x3, x4, x5, x6, x7, x8, x9, x10, y1, y2, y3, y4, y5, y6⟩ := h
  have h3 : 3 < ts.size := (Array.getElem?_eq_some_iff.mp y3).1
  refine set_flight x4 y4 y5 y6 x8 y1 y2 h3 fun h'' oT' z1 z2 z3 z4 => k _ ⟨g, h'', tk, e, oe, vs, c, m, news, T, oT', _, rfl, rfl, x3, z1, x5, x6, x7, x8, x9, x10, y1, z4, ?_, z2, z3, y6⟩
  simp [h3]
theorem FlyN.back (hf : env.frame = some L) (h : FlyN A₀ base outer g0 L cls Cc J s0 fl v s') (k : ∀ s'', FlyN A₀ base outer g0 L cls Cc J s0 (rawInt L) v s'' → E v s'') : cameBackBy M A env E v s' := by
  have h' := h
  obtain ⟨g, h'', tk, e, oe, vs, c, m, news, T, oT, ts, rfl, rfl, x3, x4, x5, x6, x7, x8, x9, x10, y1, y2, y3, y4, y5, y6⟩ := h
  unfold cameBackBy
  refine wpAny_bind (wpAny_field (y4 _ (.head _)).1 x8 y1 ?_)
  rw [if_neg (show ¬ ((Value.ref T == Value.none) = true) from by simp)]
  refine FlyN.set h' fun s'' z => k s'' ?_
  rw [hf] at z
  exact z
theorem Fly.passesAt (hfr : A'.frames = some (env :: outer)) (hf : env.frame = some L) (hk : env.scope.kind = .function) : PassesOwnAt M A' A env (Fly A₀ base outer g0 L cls Cc J s0) := fun _ _ h =>
  Fly.note hfr hf hk h fun _ z => z.back hf fun _ y => y.fly
theorem Fly.passes (hfr : A.frames = some (env :: outer)) (hf : env.frame = some L) (hk : env.scope.kind = .function) : PassesOwn M A env (Fly A₀ base outer g0 L cls Cc J s0) := fun _ _ h =>
  Fly.note hfr hf hk h fun _ z => z.back hf fun _ y => y.fly
theorem FlyN.pass {α : Type} {what : String} {Q : α → Shared → Prop} (hf : env.frame = some L) (h : FlyN A₀ base outer g0 L cls Cc J s0 fl v s') (k : ∀ s'', FlyN A₀ base outer g0 L cls Cc J s0 (rawInt L) v s'' → E v s'') : wpAny M A (PySem.passOn what v env : Sem α) Q E s' := by
  have h' := h
  obtain ⟨g, h'', tk, e, oe, vs, c, m, news, T, oT, ts, rfl, rfl, x3, x4, x5, x6, x7, x8, x9, x10, y1, y2, y3, y4, y5, y6⟩ := h
  unfold PySem.passOn
  refine wpAny_bind (wpAny_field (y4 _ (.head _)).1 x8 y1 ?_)
  rw [if_neg (show ¬ ((Value.ref T == Value.none) = true) from by simp)]
  refine wpAny_bind (FlyN.set h' fun s'' z => wpAny_throw (k s'' ?_))
  rw [hf] at z
  exact z
end
section
variable {prog : Program} {w : World} {A A₀ : Around} {E : Value → Shared → Prop} {s0 s' : Shared} {base g0 : Heap} {outer : List Env} {L a : Addr} {name : Str} {scope : Scope} {cd v : Value} {Cc : Value → Prop} {J : (Str → Option Value) → List (Addr × Obj) → Prop} {Q : Flow → Shared → Prop}
  {KF : Frag} {p : Program} {loose : List Str} {mean : ExcName → Option Value} {mg mb : Str → Option Value} {x : Str} {X T' : String} {b₀ : Stmt} {suite : List Stmt} {pos np : Pos} {rest : List ExceptHandler}
theorem Fly.caught (hfr : A.frames = some (envOf name scope L a cd :: outer)) (hk : scope.kind = .function) (XB : KF.In base) (TB : Top p loose mean mg mb base) (h : Fly A₀ base outer g0 L (.type X) Cc J s0 v s')
    (ex : nsIn KF mainGlobals x = some none) (hv : bootBuiltins x = some (.type T')) (hn' : x ≠ "__name__")
    (hexc : isSubtype (.type T') (.type "BaseException") = pure true) (hnt : isSubtype (.type ((Manifest.find? T').elim "type" fun y => y.metatype)) (.type "tuple") = pure false) (hsub : isSubtype (.type X) (.type T') = pure true)
    (k : ∀ g h' tk e oe T oT m news, v = .ref e → KtsTurn (outer.filterMap (·.frame)) g0 g → Fr g L h' m → News g L h' ((e, oe) :: (T, oT) :: news) → (∀ q ∈ (T, oT) :: news, q.1 ≠ e) → (∀ q ∈ news, q.1 ≠ T) → Below A₀ base outer g → KF.In g → Top p loose mean mg mb g → J m news →
      wpAny (model prog w) (A.mark (some (.ref e))) (execs (b₀ :: suite) (envOf name scope L a cd)) Q (fun _ _ => False) { s0 with heap := h', toks := tk })
    (hx : (envOf name scope L a cd).kindOf x = some .globalImplicit := by rfl) (hd : (x == ("__debug__" : Str)) = false := by decide) :
    wpAny (model prog w) A (noteFrame v (envOf name scope L a cd))
      (fun _ s₂ => wpAny (model prog w) A (setFlight v none) (fun _ s₃ =>
        wpAny (model prog w) A (handleBy v (envOf name scope L a cd) (.ExceptHandler (some (.Name x np)) none (b₀ :: suite) pos :: rest)) Q E s₃) E s₂) E s' := by
  refine Fly.note hfr rfl hk h fun s₂ h₂ => ?_
  refine FlyN.set h₂ fun s₃ h₃ => ?_
  have h₄ := h₃
  obtain ⟨g, h', tk, e, oe, vs, c, m, news, T, oT, ts, rfl, rfl, x3, x4, x5, x6, x7, x8, x9, x10, y1, y2, y3, y4, y5, y6⟩ := h₃
  have X₅ : KF.In g := XB.keeps x5.stays
  have P₅ : Top p loose mean mg mb g := TB.keeps x5.stays
  refine wpAny_handleBy_builtin (X := X) (T := T') (b := true) hexc hnt hsub (name_B x4 X₅ (topRead_of P₅) ex hv hn' ⟨rfl, ⟨oe, (y4 _ (.head _)).1, x7⟩, ?_⟩ hk hx hd)
  refine FlyN.set h₄ fun s₅ h₅ => ?_
  obtain ⟨g, h', tk, e', oe, vs, c, m, news, T, oT, ts, z1, rfl, x3, x4, x5, x6, x7, x8, x9, x10, y1, y2, y3, y4, y5, y6⟩ := h₅
  have X₅ : KF.In g := XB.keeps x5.stays
  have P₅ : Top p loose mean mg mb g := TB.keeps x5.stays
  injection z1 with z1
  subst z1
  exact wpAny_mono (k g h' tk e oe T oT m news rfl x3 x4 y4 y5 y6 x5 X₅ P₅ x6) (fun _ _ q => q) fun _ _ q => q.elim
end
-- E2
/-- a list of texts -/
noncomputable def Txts (ps : List PV) : Prop := ∀ p ∈ ps, ∃ k, p.1 = .str p.2 k
section
variable {w : World} {A : Around} {E : Value → Shared → Prop} {s : Shared} {h₀ : Heap} {L D : Addr} {news : List (Addr × Obj)} {m : Str → Option Value} {n : Nat} {t : Str} {k : Tok}
theorem txts_eq {ps : List PV} (h : Txts ps) : ∀ y, y ∈ (ps.map (·.1)).toArray → MeetsSeq.EqGives y (.str t k) (isStrOf t y) := by
  intro y hy
  have hy' : y ∈ ps.map (·.1) := by simpa using hy
  obtain ⟨p, hp, rfl⟩ := List.mem_map.mp hy'
  obtain ⟨k', e⟩ := h p hp
  rw [e]
  exact eqGives_str _ _ _ _
theorem txts_is {ps : List PV} (h : Txts ps) {p : PV} (hp : p ∈ ps) : isStrOf t p.1 = (p.2 == t) := by
  obtain ⟨k', e⟩ := h p hp
  rw [e]; rfl
theorem remove_lob {l1 l2 : List PV} {p : PV} {Q : Value → Shared → Prop} (F : Fr h₀ L s.heap m) (N : News h₀ L s.heap ((D, lob (l1 ++ p :: l2) n) :: news)) (hD : ∀ q ∈ news, q.1 ≠ D) (hl : (l1 ++ p :: l2).length < 1000)
    (ht : Txts (l1 ++ p :: l2)) (h1 : ∀ q ∈ l1, q.2 ≠ t) (hp : p.2 = t)
    (h : ∀ h', Fr h₀ L h' m → News h₀ L h' ((D, lob (l1 ++ l2) (n + 1)) :: news) → Q .none { s with heap := h' }) :
    wpAny (model PySem.Challenge.rw_oc0121_01.row.prog w) A (call (.builtin "list.remove") [.ref D, .str t k]) Q E s := by
  have z := N (D, lob (l1 ++ p :: l2) n) (.head _)
  have hsz : ((l1 ++ p :: l2).map (·.1)).toArray.size = l1.length + l2.length + 1 := by simp; omega
  have hge : ∀ (i : Nat) (hi : i < ((l1 ++ p :: l2).map (·.1)).toArray.size), ((l1 ++ p :: l2).map (·.1)).toArray[i] = ((l1 ++ p :: l2)[i]'(by simpa using hi)).1 := fun i hi => by simp only [List.getElem_toArray, List.getElem_map]
  refine call_meets PySem.F.slot_list_remove ⟨_, z.1, rfl⟩ PySem.F.entry_list_remove (PySem.F.args_list_remove_2 _ _)
    (MeetsSeq.list_remove D _ n (.str t k) (isStrOf t) (txts_eq ht) l1.length (by rw [hsz]; omega) ?_ (fun i hi hlt => ?_) (by rw [hsz, sizeLine_eq]; simp at hl; omega))
    ⟨z.1, h _ (F.change (Heap.SameBut.update ..) z.2.1 z.2.2) (ki_turn (pre := []) _ N (fun _ h => nomatch h) hD ?_ ?_)⟩
  · rw [hge, txts_is ht (List.getElem_mem _)]
    simp [hp]
  · rw [hge, txts_is ht (List.getElem_mem _)]
    have : (l1 ++ p :: l2)[i]'(by simp only [List.length_append]; omega) = l1[i] := List.getElem_append_left hlt
    rw [this]
    simpa using h1 _ (List.getElem_mem hlt)
  · apply Array.toList_inj.mp
    simp [Array.toList_eraseIdxIfInBounds, List.eraseIdx_append_of_length_le]
  · rw [if_neg]
    simp
theorem remove_none {ps : List PV} {Q : Value → Shared → Prop} (hh : A.handled = none) (F : Fr h₀ L s.heap m) (N : News h₀ L s.heap news) (hm : (D, lob ps n) ∈ news) (ht : Txts ps) (h1 : ∀ q ∈ ps, q.2 ≠ t)
    (h : ∀ h' tk e oe vt, Fr h₀ L h' m → News h₀ L h' ((e, oe) :: news) → (∀ q ∈ news, q.1 ≠ e) → oe.cls = .type "ValueError" → oe.data = .fields #[vt, .none, .none, .none, .bool false, .none] → E (.ref e) { s with heap := h', toks := tk }) :
    wpAny (model PySem.Challenge.rw_oc0121_01.row.prog w) A (call (.builtin "list.remove") [.ref D, .str t k]) Q E s := by
  have z := N _ hm
  have hge : ∀ (i : Nat) (hi : i < (ps.map (·.1)).toArray.size), (ps.map (·.1)).toArray[i] = (ps[i]'(by simpa using hi)).1 := fun i hi => by simp only [List.getElem_toArray, List.getElem_map]
  refine call_meets PySem.F.slot_list_remove ⟨_, z.1, rfl⟩ PySem.F.entry_list_remove (PySem.F.args_list_remove_2 _ _)
    (MeetsSeq.list_remove_none D _ n (.str t k) (isStrOf t) (txts_eq ht) (fun i hi => ?_)) ⟨z.1, hh, fun h' tk e hx => ?_⟩
  · rw [hge, txts_is ht (List.getElem_mem _)]
    simpa using h1 _ (List.getElem_mem _)
  · obtain ⟨oe, vt, F', N', ne, hc, hd⟩ := new_exc F N hx
    exact h h' tk e oe vt F' N' ne hc hd
end
-- D8
noncomputable def unord : List PV → List PV → List PV → List PV × List PV
  | [], ms, qs => (ms, qs)
  | p :: r, ms, qs => if qs.any (fun q => q.2 == p.2) then unord r ms (qs.eraseP fun q => q.2 == p.2) else unord r (ms ++ [p]) qs
inductive unI (s : Shared) (g1 h₀ : Heap) (L L1 : Addr) (env : Env) (gd : Option (List Code)) (M ea aa : Addr) (ps qs : List PV) (rest : List (Addr × Obj)) (k : Nat) (s' : Shared) : Prop
  | mk (g : Heap) (h : Heap) (tk : Nat) (m' : Str → Option Value) (ms : List PV) (ps' : List PV) (qs' : List PV) (n1 : Nat) (n2 : Nat) (n3 : Nat) (rst : List (Addr × Obj)) (x1 : s' = { s with heap := h, toks := tk }) (x2 : KtsTurn [L] g1 g) (x3 : Fr g L1 h m') (x4 : News g L1 h ((ea, lob ps' n1) :: (M, lob ms n2) :: (aa, lob qs' n3) :: rst)) (x5 : ∀ q ∈ rest, q ∈ rst) (x6 : ∀ q ∈ rst, q.1 ≠ ea ∧ q.1 ≠ M ∧ q.1 ≠ aa) (x7 : Below (ax none 760 3600 gd env []) h₀ [env] g) (x8 : m' (Str.ofString "expected") = some (.ref ea)) (x9 : m' (Str.ofString "actual") = some (.ref aa)) (x10 : m' (Str.ofString "missing") = some (.ref M)) (x11 : Txts ps') (x12 : Txts qs') (x13 : ps'.length < 100) (x14 : qs'.length < 100) (x15 : ms.length + ps'.length < 100) (x16 : unord ps'.reverse ms qs' = unord ps.reverse [] qs) (x17 : k = ps'.length) : unI s g1 h₀ L L1 env gd M ea aa ps qs rest k s'
section
variable {w : World} {hh : Option Value} {dp un : Nat} {gd : Option (List Code)} {env : Env} {outer : List Env} {A₀ : Around} {base h₀ : Heap} {L : Addr} {m mg mb : Str → Option Value} {mean : ExcName → Option Value}
   {rest : List (Addr × Obj)} {s : Shared} {Q E : Value → Shared → Prop}
theorem unorderable_c {ea aa : Addr} {ps qs : List PV} {n n' : Nat} (C : Cx w mean mg mb A₀ base [] h₀ L env) (F : Fr h₀ L s.heap m) (N : News h₀ L s.heap ((ea, lob ps n) :: (aa, lob qs n') :: rest))
   (o1 : ∀ q ∈ (aa, lob qs n') :: rest, q.1 ≠ ea) (o2 : ∀ q ∈ rest, q.1 ≠ aa) (t1 : Txts ps) (t2 : Txts qs) (l1 : ps.length < 100) (l2 : qs.length < 100)
   (ret : ∀ h' tk' T M n1 n2, Fr h₀ L h' m → News h₀ L h' ((T, tupOf [.ref M, .ref aa]) :: (M, lob (unord ps.reverse [] qs).1 n1) :: (aa, lob (unord ps.reverse [] qs).2 n2) :: rest) → Q (.ref T) { s with heap := h', toks := tk' }) (hd : dp ≤ 760) (hu : un ≤ 3600) :
   wpAny (model PySem.Challenge.rw_oc0121_01.row.prog w) (ax none dp un gd env []) (call (.ref 148) [.ref ea, .ref aa]) Q E s := by
  refine wpAny_le ?_ hd hu
  clear hd hu
  obtain ⟨B, X, T, hf, hk⟩ := C
  w_on
  refine wpAny_call ?_
  refine' code_defT (binds := [(Str.ofString "expected", .ref ea), (Str.ofString "actual", .ref aa)]) B F X N T rfl hf hk ?k6 ?k7 ?k8 ?k9 ?kB ?_ ?c2 ?c3 ?c4 ?c5
  case k6 => k_is
  case k7 => k_is
  case k8 => k_room
  case k9 => exact BindsTo.of_eq rfl
  case kB => exact locs rfl
  case c2 => exact rfl
  case c3 => exact rfl
  case c4 => exact rfl
  case c5 => decide
  intro g1 L1 h1 FG1 F1 N1 B1 X1 T1
  (try dsimp only)
  k_fold
  ((try k_fold); w_strict (k_extra "go"))
  rename_i tk0 M h2 ll h3 F3 N3
  have efs : [env].filterMap (·.frame) = [L] := by simp [hf]
  have hMe : M ≠ ea := Nat.ne_of_gt (ll _ (.head _))
  have hMa : M ≠ aa := Nat.ne_of_gt (ll _ (.tail _ (.head _)))
  have hae : aa ≠ ea := o1 (aa, lob qs n') (.head _)
  refine while_my (unI s g1 h₀ L L1 env gd M ea aa ps qs rest) ps.length
    ⟨g1, _, _, _, [], ps, qs, _, _, _, rest, rfl, KtsTurn.refl, F3, fun p hp => N3 p (swap2 p hp), fun _ h => h, fun q hq => ⟨o1 q (.tail _ hq), Nat.ne_of_lt (ll _ (.tail _ (.tail _ hq))), o2 q hq⟩, B1, by k_extra "unf", by k_extra "unf", by k_extra "unf", t1, t2, l1, l2, by simpa using l1, rfl, rfl⟩ ?_
  clear F3 N3 B1 X1 T1
  rintro k _ ⟨g, h, tk, m', ms, ps', qs', n1, n2, n3, rst, rfl, KT, F4, N4, sub, off, B4, e1, e2, e3, t1', t2', l1', l2', l3', hun, rfl⟩
  have X4 : (hd.heap_39 w.params).In g := X.keeps B4.stays
  have T4 : Top hd.view_39 (looseW hd.view_39 []) mean mg mb g := T.keeps B4.stays
  ((try k_fold); w_strict (k_extra "go"))
  · rename_i tk5 hpos
    obtain ⟨ps2, p, rfl⟩ : ∃ ps2 p, ps' = ps2 ++ [p] := by
      rcases List.eq_nil_or_concat ps' with rfl | ⟨a, b, rfl⟩
      · exact absurd hpos (by decide)
      · exact ⟨a, b, by simp⟩
    refine pop_lob (p := p) F4 N4 ?_ (by simp at l1'; omega) ?_
    · exact off_cons hMe (off_cons hae fun q hq => (off q hq).1)
    intro h5 F5 N5
    clear F4 N4
    obtain ⟨pk, hpk⟩ := t1' p (by simp)
    rw [hpk]
    (try dsimp only)
    ((try k_fold); w_strict (k_extra "go"))
    rename_i h6 F6 N6
    have erev : (ps2 ++ [p]).reverse = p :: ps2.reverse := by simp
    rw [erev] at hun
    have t1'' : Txts ps2 := fun q hq => t1' q (List.mem_append_left _ hq)
    have l4 : ps2.length + 1 < 100 := by simpa using l1'
    have l5 : ms.length + (ps2.length + 1) < 100 := by simpa using l3'
    by_cases hany : qs'.any (fun q => q.2 == p.2) = true
    · have hun' : unord ps2.reverse ms (qs'.eraseP fun q => q.2 == p.2) = unord ps.reverse [] qs := by
        rw [unord, if_pos hany] at hun; exact hun
      obtain ⟨q1, hq1, hq2⟩ := List.any_eq_true.mp hany
      obtain ⟨q, la, lb, hla, hq, eqs, eer⟩ := List.exists_of_eraseP (p := fun q => q.2 == p.2) hq1 hq2
      rw [eer] at hun'
      subst eqs
      refine remove_lob (D := aa) (l1 := la) (l2 := lb) (p := q) (n := n3) (news := (ea, lob ps2 (n1 + 1)) :: (M, lob ms n2) :: rst) F6 (fun x hx => N6 x ?_) ?_ (by omega) t2' (fun x hx => by simpa using hla x hx) (by simpa using hq) ?_
      · exact rt3 x hx
      · exact off_cons (Ne.symm hae) (off_cons hMa fun x hx => (off x hx).2.2)
      intro h7 F7 N7
      clear F6 N6
      (try dsimp only)
      ((try k_fold); w_strict (k_extra "go"))
      refine WStep.next ps2.length (by simp) ⟨g, _, _, _, ms, ps2, la ++ lb, n1 + 1, n2, n3 + 1, rst, rfl, KT, F7, fun x hx => N7 x ?_, sub, off, B4, by k_extra "unf", by k_extra "unf", by k_extra "unf", t1'', fun x hx => t2' x ?_, by omega, by simp at l2' ⊢; omega, by omega, hun', rfl⟩
      · exact rt3' x hx
      · exact ins0 x hx
    · have hun' : unord ps2.reverse (ms ++ [p]) qs' = unord ps.reverse [] qs := by
        rw [unord, if_neg hany] at hun; exact hun
      refine remove_none (D := aa) rfl F6 N6 (.tail _ (.tail _ (.head _))) t2' (fun x hx hq => hany (List.any_eq_true.mpr ⟨x, hx, by simpa using hq⟩)) ?_
      intro h7 tk7 e7 oe7 vt7 F7 N7 ne7 hc7 hd7
      clear F6 N6
      refine Fly.caught (base := h₀) (outer := [env]) (g0 := g1) (J := fun m2 nw => m2 = (fun y => if y = Str.ofString "item" then some (Value.str p.2 pk) else m' y) ∧ nw = (ea, lob ps2 (n1 + 1)) :: (M, lob ms n2) :: (aa, lob qs' n3) :: rst) (X := "ValueError") (T' := "ValueError")
        (Cc := fun _ => True) rfl rfl X T ⟨g, h7, tk7, e7, oe7, _, .none, _, _, rfl, rfl, by rw [efs]; exact KT, F7, B4, ⟨rfl, rfl⟩, hc7, hd7, rfl, trivial, .inl ⟨rfl, N7, ne7⟩⟩
        (by k_is) PyProof.Rows.Boot.«ValueError» (by decide) PySem.F.isExc_ValueError PySem.F.notTuple_ValueError (by rw [isSubtype_type]; kernel_rfl) ?_
      rintro g8 h8 tk8 e8 oe8 T8 oT8 m8 nw8 ve KT8 F8 N8 ne8 nT8 B8 X8 T8' ⟨rfl, rfl⟩
      rw [efs] at KT8
      clear F7 N7
      (try dsimp only)
      ((try k_fold); w_strict (k_extra "go"))
      refine append_lob (p := p) (ps := ms) (n := n2) (news := (ea, lob ps2 (n1 + 1)) :: (aa, lob qs' n3) :: (e8, oe8) :: (T8, oT8) :: rst) F8 (fun x hx => N8 x ?_) ?_ (by omega) hpk ?_
      · exact rt5 x hx
      · exact off_cons (Ne.symm hMe) (off_cons (Ne.symm hMa) (off_cons (Ne.symm (ne8 (M, lob ms n2) (.tail _ (.tail _ (.head _))))) (off_cons (Ne.symm (nT8 (M, lob ms n2) (.tail _ (.head _)))) fun x hx => (off x hx).2.1)))
      intro h9 F9 N9
      clear F8 N8
      (try dsimp only)
      ((try k_fold); w_strict (k_extra "go"))
      refine WStep.next ps2.length (by simp) ⟨g8, _, _, _, ms ++ [p], ps2, qs', n1 + 1, n2 + 1, n3, (e8, oe8) :: (T8, oT8) :: rst, rfl, KT8, F9, fun x hx => N9 x ?_, fun q hq => .tail _ (.tail _ (sub q hq)), ?_, B8, by k_extra "unf", by k_extra "unf", by k_extra "unf", t1'', t2', by omega, by omega, by simp; omega, hun', rfl⟩
      · exact swap2 x hx
      · refine all_cons ?_ (all_cons ?_ off)
        · exact ⟨Ne.symm (ne8 (ea, lob ps2 (n1 + 1)) (.tail _ (.head _))), Ne.symm (ne8 (M, lob ms n2) (.tail _ (.tail _ (.head _)))), Ne.symm (ne8 (aa, lob qs' n3) (.tail _ (.tail _ (.tail _ (.head _)))))⟩
        · exact ⟨Ne.symm (nT8 (ea, lob ps2 (n1 + 1)) (.head _)), Ne.symm (nT8 (M, lob ms n2) (.tail _ (.head _))), Ne.symm (nT8 (aa, lob qs' n3) (.tail _ (.tail _ (.head _))))⟩
  · rename_i tk5 hpos D5 h5 F5 N5 l5
    change LeaveT _ _ _ _ _ _ _
    obtain rfl : ps' = [] := List.eq_nil_of_length_eq_zero (by omega)
    have hun' : (ms, qs') = unord ps.reverse [] qs := hun
    refine leaveT_ KT F5 N5 fun F6 N6 => ?_
    dsimp only at F6 N6 ⊢
    refine ret _ _ D5 M n2 n3 F6 fun x hx => N6 x ?_
    rw [← hun'] at hx
    exact mcons (fun p hp => .tail _ (mcons (mcons sub) p hp)) x hx
end
-- E3
section
variable {w : World} {A : Around} {E : Value → Shared → Prop} {s : Shared} {h₀ : Heap} {L D b : Addr} {news : List (Addr × Obj)} {m : Str → Option Value} {ps qs : List PV} {n n2 : Nat} {value slice : Expr} {Q : Value → Shared → Prop}
theorem pick_from (ps : List PV) (i : Nat) : slicePick (ps.map (·.1)).toArray (some (i : Int)) none none = ((ps.drop i).map (·.1)).toArray := by
  rw [kms_pick_eq]
  unfold kms_pick kms_lo kms_hi
  have h0 : ¬ ((i : Int) < 0) := by omega
  simp only [if_neg h0, Int.toNat_natCast, List.length_map]
  by_cases h : i ≤ ps.length
  · rw [Nat.min_eq_left h, List.take_of_length_le (by simp), List.map_drop]
  · rw [Nat.min_eq_right (by omega), List.drop_of_length_le (by simp), List.drop_of_length_le (by omega)]
    simp
theorem from_lob {i : Nat} {u : Tok} (F : Fr h₀ L s.heap m) (N : News h₀ L s.heap news) (hm : (D, lob ps n) ∈ news) (hl : ps.length < 1000)
    (h : ∀ D' h', Fr h₀ L h' m → News h₀ L h' ((D', lob (ps.drop i) 0) :: news) → (∀ p ∈ news, p.1 < D') → Q (.ref D') { s with heap := h' })
    (hs : subscripted slice false (.ref D) (.ref s.heap.objs.size) = operate [.ref s.heap.objs.size, .ref D] (getItem (.ref D) (.ref s.heap.objs.size))) (ht : ∀ r, letTemporaryGo value (.ref D) r = pure ()) :
    wpAny (model PySem.Challenge.rw_oc0121_01.row.prog w) A (subscriptTail value slice (.ref D) (.ref s.heap.objs.size)) Q E { s with heap := s.heap.push { cls := .type "slice", data := .fields #[.int (i : Int) u, .none, .none] } } := by
  refine kmk_slice F N (lob_list N hm) (.int (i : Int) u) .none (fun D' h' F' N' l1 => h D' h' F' ?_ l1) hs ht (by rw [sizeLine_eq]; simp; omega)
  rw [pick_from] at N'
  exact N'
theorem extend_lob (F : Fr h₀ L s.heap m) (N : News h₀ L s.heap ((D, lob ps n) :: news)) (hD : ∀ q ∈ news, q.1 ≠ D) (hb : (b, lob qs n2) ∈ news) (hl : ps.length < 1000) (hl2 : qs.length < 1000)
    (h : ∀ h' n', Fr h₀ L h' m → News h₀ L h' ((D, lob (ps ++ qs) n') :: news) → Q .none { s with heap := h' }) :
    wpAny (model PySem.Challenge.rw_oc0121_01.row.prog w) A (call (.builtin "list.extend") [.ref D, .ref b]) Q E s := by
  have hd : ¬(!(ps.map (·.1)).toArray.isEmpty && Builtin.List.listTooLong ((ps.map (·.1)).toArray.size + (qs.map (·.1)).toArray.size)) = true := by
    have : Builtin.List.listTooLong ((ps.map (·.1)).toArray.size + (qs.map (·.1)).toArray.size) = false := by
      unfold Builtin.List.listTooLong
      rw [sizeLine_eq]
      simp
      omega
    rw [this]; simp
  have z := N (D, lob ps n) (.head _)
  by_cases hq : qs = []
  · subst hq
    refine call_meets PySem.F.slot_list_extend ⟨_, z.1, rfl⟩ PySem.F.entry_list_extend (PySem.F.args_list_extend_2 _ _) (PySem.AutoSeq1.list_extend_list_list_0 D _ n b #[] n2 hd (by rw [sizeLine_eq]; simp; omega) (by rw [sizeLine_eq]; simp; omega)) ⟨z.1, (N _ (.tail _ hb)).1, h _ n (F.change (Heap.SameBut.update ..) z.2.1 z.2.2) ?_⟩
    rw [List.append_nil]
    exact kl_turn0 (pre := []) (fun x => x ++ #[]) N (fun _ h => nomatch h) hD (by simp) rfl
  · have e : ((ps.map (·.1)).toArray ++ (qs.map (·.1)).toArray) = ((ps ++ qs).map (·.1)).toArray := by simp
    refine call_meets PySem.F.slot_list_extend ⟨_, z.1, rfl⟩ PySem.F.entry_list_extend (PySem.F.args_list_extend_2 _ _) (PySem.AutoSeq1.list_extend_list_list_0 D _ n b _ n2 hd (by rw [sizeLine_eq]; simp; omega) (by rw [sizeLine_eq]; simp; omega)) ⟨z.1, (N _ (.tail _ hb)).1, h _ (n + 1) (F.change (Heap.SameBut.update ..) z.2.1 z.2.2) (kl_turn (pre := []) _ N (fun _ h => nomatch h) hD e ?_)⟩
    have : qs.length ≠ 0 := fun h => hq (List.eq_nil_of_length_eq_zero h)
    simp only [List.size_toArray, List.length_map, List.length_append]
    omega
theorem sub_out {k : Int} {u : Tok} (hh : A.handled = none) (F : Fr h₀ L s.heap m) (N : News h₀ L s.heap news) (hm : (D, lob ps n) ∈ news) (h1 : (ps.length : Int) ≤ k) (hfit : k < 2 ^ 63)
    (h : ∀ h' tk e oe vt, Fr h₀ L h' m → News h₀ L h' ((e, oe) :: news) → (∀ q ∈ news, q.1 ≠ e) → oe.cls = .type "IndexError" → oe.data = .fields #[vt, .none, .none, .none, .bool false, .none] → E (.ref e) { s with heap := h', toks := tk })
    (hs : subscripted slice false (.ref D) (.int k u) = operate [.ref D, .int k u] (getItem (.ref D) (.int k u)) := by with_unfolding_all rfl) :
    wpAny (model PySem.Challenge.rw_oc0121_01.row.prog w) A (subscriptTail value slice (.ref D) (.int k u)) Q E s := by
  refine item_outK hh (lob_list N hm) (.inr (by simpa using h1)) (by omega) hfit (fun h' tk e hx => ?_) hs
  obtain ⟨oe, vt, F', N', ne, hc, hd⟩ := new_exc F N hx
  exact h h' tk e oe vt F' N' ne hc hd
end
section
variable {w : World} {A : Around} {E : Value → Shared → Prop} {s : Shared} {h₀ : Heap} {L D e1 : Addr} {news : List (Addr × Obj)} {m : Str → Option Value} {ps qs : List PV} {n n2 : Nat} {value slice : Expr} {oe1 : Obj} {vs1 : Array Value} {Q : Value → Shared → Prop}
theorem entry_unchain : entryFor table "proto.unchain" = some Builtin.«proto.unchain» := entryFor_of_tree (by kernel_rfl)
/-- what is made under a handled exception -/
structure NewExcC (h h' : Heap) (e : Addr) (cls : String) (e1 : Addr) : Prop where
  keeps : ∀ b o, h.get? b = some o → h'.get? b = some o
  new : h.get? e = none
  there : ∃ ob t, h'.get? e = some ob ∧ ob.cls = .type cls ∧ ob.data = .fields #[t, .none, .ref e1, .none, .bool false, .none]
theorem raise_under {α : Type} {cls msg : String} {Q : α → Shared → Prop} (hp : PlainExc cls) (hh : A.handled = some (.ref e1)) (he1 : s.heap.get? e1 = some oe1) (hd1 : oe1.data = .fields vs1) (h2 : vs1[2]? = some .none)
    (h : ∀ h' tk e, NewExcC s.heap h' e cls e1 → E (.ref e) { s with heap := h', toks := tk }) :
    wpAny (model PySem.Challenge.rw_oc0121_01.row.prog w) A (raiseErrorWords cls msg : Sem α) Q E s := by
  unfold raiseErrorWords
  refine wpAny_bind (wpAny_mkText (wpAny_bind ?_))
  unfold newExc newTuple
  refine wpAny_bind (wpAny_newObj_type ?_)
  refine wpAny_bind (m := firstArgMember _ _) (wpAny_of_eq (a := Value.none) (by simp only [firstArgMember, hp.first]; rfl) ?_)
  rw [hp.own]
  refine wpAny_newObj_type ?_
  unfold raiseNew
  refine wpAny_bind (wpAny_handled ?_)
  rw [hh]
  have hlt := Heap.lt_size he1
  (try dsimp only)
  generalize hB : ({ cls := .type "tuple", dict := none, data := .seq [Value.str (Str.ofString msg) s.toks].toArray } : Obj) = oB
  have hsz : (s.heap.push oB).objs.size = s.heap.objs.size + 1 := by simp
  have kp : ∀ b o, s.heap.get? b = some o → ((s.heap.push oB).push { cls := .type cls, dict := none, data := .fields (#[.ref s.heap.objs.size, .none, .none, .none, .bool false, .none] ++ #[]) }).get? b = some o := fun b o hb => Heap.get?_push_of_some _ (Heap.get?_push_of_some _ hb)
  have hen : s.heap.get? (s.heap.push oB).objs.size = none := Heap.get?_none_of_le (by simp)
  have he : ((s.heap.push oB).push { cls := .type cls, dict := none, data := .fields (#[.ref s.heap.objs.size, .none, .none, .none, .bool false, .none] ++ #[]) }).get? (s.heap.push oB).objs.size = some { cls := .type cls, dict := none, data := .fields (#[.ref s.heap.objs.size, .none, .none, .none, .bool false, .none] ++ #[]) } := Heap.get?_push_size _ rfl
  have hne : e1 ≠ (s.heap.push oB).objs.size := by rw [hsz]; exact Nat.ne_of_lt (Nat.lt_succ_of_lt hlt)
  generalize (s.heap.push oB).objs.size = e at *
  generalize hH : (s.heap.push oB).push { cls := .type cls, dict := none, data := .fields (#[.ref s.heap.objs.size, .none, .none, .none, .bool false, .none] ++ #[]) } = H at *
  rw [if_pos (show (Value.ref e1 != Value.ref e) = true from by simpa using hne)]
  refine wpAny_bind (wpAny_holding (wpAny_runValue (codeAny_builtin entry_unchain ?_)))
  unfold Builtin.«proto.unchain»
  (try dsimp only)
  refine wpAny_bind (wpAny_field (kp _ _ he1) hd1 h2 ?_)
  rw [if_pos (by rfl)]
  refine wpAny_bind (wpAny_pure ?_)
  refine wpAny_pure ?_
  (try dsimp only)
  refine wpAny_bind ?_
  show wpAny _ _ (setField (.ref e) 2 (.ref e1)) _ _ _
  refine wpAny_setField he rfl (by simp) (wpAny_throw (h _ _ _ ⟨fun b o hb => ?_, hen, ?_⟩))
  · have hbe : b ≠ e := fun q => by rw [q, hen] at hb; cases hb
    rw [Heap.get?_update_other _ _ (Ne.symm hbe)]
    exact kp b o hb
  · have hd₃ := Obj.data_mapFields (o := { cls := .type cls, dict := none, data := .fields (#[.ref s.heap.objs.size, .none, .none, .none, .bool false, .none] ++ #[]) }) rfl (·.setIfInBounds 2 (Value.ref e1))
    exact ⟨_, .ref s.heap.objs.size, Heap.get?_update_self _ he (Obj.isFreed_of_fields hd₃), Obj.cls_mapFields _ _, by rw [hd₃]; simp⟩
theorem new_excC {g h h' : Heap} {e : Addr} {cls : String} (F : Fr g L h m) (N : News g L h news) (hx : NewExcC h h' e cls e1) :
    ∃ oe t, Fr g L h' m ∧ News g L h' ((e, oe) :: news) ∧ (∀ q ∈ news, q.1 ≠ e) ∧ oe.cls = .type cls ∧ oe.data = .fields #[t, .none, .ref e1, .none, .bool false, .none] := by
  obtain ⟨oe, t, he, hc, hd⟩ := hx.there
  refine ⟨oe, t, ⟨F.ns.keeps hx.keeps, fun b o e => hx.keeps b o (F.keep b o e), F.above⟩, fun q hq => ?_, fun q hq z => ?_, hc, hd⟩
  · rcases List.mem_cons.mp hq with rfl | hq
    · refine ⟨he, fun z => ?_, ?_⟩
      · obtain ⟨o, _, _, ho, _⟩ := F.ns
        have z' : e = L := z
        have := hx.new
        rw [z', ho] at this; cases this
      · cases q : g.get? e with
        | none => rfl
        | some o => have := F.keep _ _ q; rw [hx.new] at this; cases this
    · exact ⟨hx.keeps _ _ (N q hq).1, (N q hq).2⟩
  · have := (N q hq).1
    rw [z, hx.new] at this; cases this
theorem getItem_out_under {l : Addr} {items : Array Value} {k : Int} {t : Tok} {Q : Value → Shared → Prop} (hh : A.handled = some (.ref e1)) (he1 : s.heap.get? e1 = some oe1) (hd1 : oe1.data = .fields vs1) (h2 : vs1[2]? = some .none) (hl : s.heap.IsList l items)
    (hout : (items.size : Int) ≤ k) (hhi : k < 2 ^ 63)
    (hE : ∀ h' tk e, NewExcC s.heap h' e "IndexError" e1 → E (.ref e) { s with heap := h', toks := tk }) :
    wpAny (model PySem.Challenge.rw_oc0121_01.row.prog w) A (getItem (.ref l) (.int k t)) Q E s := by
  obtain ⟨o, ho, hc, ne, hd⟩ := id hl
  have hlo : -(2 ^ 63) ≤ k := by omega
  unfold getItem
  try with_reducible refine wpAny_holding ?_
  first | refine wpAny_bind (wpAny_pure ?_) | skip
  refine wpAny_bind (wpAny_sequenceKey hl.typeIs (by decide) ?_)
  refine wpAny_bind (wpAny_callSpecial?_slot (name := Str.ofString "__getitem__") hl.typeIs slot_list_getitem
    (wpAny_call_entry slot_list_getitem hl.typeIs entry_list_getitem ?_ (args_list_getitem _ _)))
  show wpAny _ _ (Builtin.List.listSubscript? (.int k t) >>= _) _ _ s
  refine wpAny_bind (wpAny_listSubscript_int (fitsIndex_both hlo hhi) ?_)
  clear hlo hhi
  cases k with
  | ofNat j =>
    have hx : items[j]? = none := Array.getElem?_eq_none (by have : (items.size : Int) ≤ (j : Int) := hout; omega)
    show wpAny _ _ ((seqItemAt l j >>= fun r => pure (r.map (j, ·))) >>= _) _ _ s
    refine wpAny_bind (wpAny_bind (wpAny_seqItemAt ho hd (wpAny_pure ?_)))
    rw [hx]
    first
      | exact wpAny_bind (wpAny_rule (raise_under plainExc_IndexError hh he1 hd1 h2 hE))
      | exact wpAny_bind (wpAny_rule (wpAny_bind (raise_under plainExc_IndexError hh he1 hd1 h2 hE)))
      | exact wpAny_rule (raise_under plainExc_IndexError hh he1 hd1 h2 hE)
  | negSucc j => exact absurd hout (by have := Int.negSucc_lt_zero j; omega)
theorem sub_out_under {k : Int} {u : Tok} (hh : A.handled = some (.ref e1)) (he1 : (e1, oe1) ∈ news) (hd1 : oe1.data = .fields vs1) (h2 : vs1[2]? = some .none) (F : Fr h₀ L s.heap m) (N : News h₀ L s.heap news) (hm : (D, lob ps n) ∈ news) (h1 : (ps.length : Int) ≤ k) (hfit : k < 2 ^ 63)
    (h : ∀ h' tk e oe vt, Fr h₀ L h' m → News h₀ L h' ((e, oe) :: news) → (∀ q ∈ news, q.1 ≠ e) → oe.cls = .type "IndexError" → oe.data = .fields #[vt, .none, .ref e1, .none, .bool false, .none] → E (.ref e) { s with heap := h', toks := tk })
    (hs : subscripted slice false (.ref D) (.int k u) = operate [.ref D, .int k u] (getItem (.ref D) (.int k u)) := by with_unfolding_all rfl) :
    wpAny (model PySem.Challenge.rw_oc0121_01.row.prog w) A (subscriptTail value slice (.ref D) (.int k u)) Q E s := by
  refine tail_any (lob_list N hm).typeIs slot_list_getitem.lookup (getItem_out_under hh (N _ he1).1 hd1 h2 (lob_list N hm) (by simpa using h1) hfit fun h' tk e hx => ?_) hs
  obtain ⟨oe, vt, F', N', ne, hc, hd⟩ := new_excC F N hx
  exact h h' tk e oe vt F' N' ne hc hd
end
-- Pure4
/-- the places that _law_once keeps -/
noncomputable def sel (ps : List PV) (k : Nat) : Option PV := if k = 0 ∨ ps[k]?.map (·.2) ≠ ps[k - 1]?.map (·.2) then ps[k]? else none
noncomputable def once (ps : List PV) (i : Nat) : List PV := (List.range i).filterMap (sel ps)
theorem once_succ (ps : List PV) (i : Nat) : once ps (i + 1) = once ps i ++ (sel ps i).toList := by
  unfold once
  rw [List.range_succ, List.filterMap_append]
  congr 1
theorem once_mem {ps : List PV} {i : Nat} {p : PV} (h : p ∈ once ps i) : p ∈ ps := by
  unfold once at h
  obtain ⟨k, _, hk⟩ := List.mem_filterMap.mp h
  unfold sel at hk
  split at hk
  · exact List.mem_of_getElem? hk
  · cases hk
theorem once_len (ps : List PV) (i : Nat) : (once ps i).length ≤ i := by
  unfold once
  exact Nat.le_trans (List.length_filterMap_le _ _) (by rw [List.length_range]; exact Nat.le_refl _)
-- Pure7
noncomputable abbrev slt (a b : PV) : Prop := a.2.cps.toList < b.2.cps.toList
noncomputable def nin (qs : List PV) (p : PV) : Bool := !(qs.any fun q => q.2 == p.2)
theorem nin_true {qs : List PV} {p : PV} (h : ∀ q ∈ qs, q.2 ≠ p.2) : nin qs p = true := by
  unfold nin
  rw [Bool.not_eq_true', List.any_eq_false]
  intro q hq
  simpa using h q hq
theorem nin_false {qs : List PV} {p q : PV} (hq : q ∈ qs) (h : q.2 = p.2) : nin qs p = false := by
  unfold nin
  rw [Bool.not_eq_false', List.any_eq_true]
  exact ⟨q, hq, by simpa using h⟩
theorem slt_ne {a b : PV} (h : slt a b) : a.2 ≠ b.2 := fun e => List.lt_irrefl _ (show b.2.cps.toList < b.2.cps.toList from by unfold slt at h; rwa [e] at h)
theorem slt_trans {a b c : PV} (h1 : slt a b) (h2 : slt b c) : slt a c := List.lt_trans h1 h2
structure SLD (ps qs : List PV) (i j : Nat) (ms us : List PV) : Prop where
  hi : i ≤ ps.length
  hj : j ≤ qs.length
  hm : ms = (ps.take i).filter (nin qs)
  hu : us = (qs.take j).filter (nin ps)
  h1 : ∀ p ∈ ps.take i, ∀ q ∈ qs.drop j, slt p q
  h2 : ∀ q ∈ qs.take j, ∀ p ∈ ps.drop i, slt q p
theorem SLD.swap {ps qs : List PV} {i j : Nat} {ms us : List PV} (h : SLD ps qs i j ms us) : SLD qs ps j i us ms := ⟨h.hj, h.hi, h.hu, h.hm, h.h2, h.h1⟩
theorem sld_init (ps qs : List PV) : SLD ps qs 0 0 [] [] := ⟨Nat.zero_le _, Nat.zero_le _, rfl, rfl, fun p hp => by simp at hp, fun p hp => by simp at hp⟩
theorem drop_at {ps : List PV} {i : Nat} {e : PV} (h : ps[i]? = some e) : ps.drop i = e :: ps.drop (i + 1) := by
  obtain ⟨hlt, rfl⟩ := List.getElem?_eq_some_iff.mp h
  exact List.drop_eq_getElem_cons hlt
theorem take_at {ps : List PV} {i : Nat} {e : PV} (h : ps[i]? = some e) : ps.take (i + 1) = ps.take i ++ [e] := by
  rw [List.take_add_one, h]; rfl
theorem drop_lt {ps : List PV} (sp : ps.Pairwise slt) {i : Nat} {e : PV} (h : ps[i]? = some e) : ∀ p ∈ ps.drop (i + 1), slt e p := by
  have := sp.drop (i := i)
  rw [drop_at h] at this
  exact (List.pairwise_cons.mp this).1
theorem SLD.lt {ps qs : List PV} {i j : Nat} {ms us : List PV} {e a : PV} (h : SLD ps qs i j ms us) (sp : ps.Pairwise slt) (sq : qs.Pairwise slt) (he : ps[i]? = some e) (ha : qs[j]? = some a) (hl : slt e a) : SLD ps qs (i + 1) j (ms ++ [e]) us := by
  have hei : e ∈ ps.drop i := by rw [drop_at he]; exact .head _
  have hlq : ∀ q ∈ qs.drop j, slt e q := fun q hq => by
    rw [drop_at ha] at hq
    rcases List.mem_cons.mp hq with rfl | hq
    · exact hl
    · exact slt_trans hl (drop_lt sq ha q hq)
  have hne : ∀ q ∈ qs, q.2 ≠ e.2 := fun q hq => by
    rw [← List.take_append_drop j qs] at hq
    rcases List.mem_append.mp hq with hq | hq
    · exact slt_ne (h.h2 q hq e hei)
    · exact Ne.symm (slt_ne (hlq q hq))
  refine ⟨(List.getElem?_eq_some_iff.mp he).1, h.hj, ?_, h.hu, ?_, ?_⟩
  · rw [take_at he, List.filter_append, ← h.hm]
    simp [List.filter, nin_true hne]
  · intro p hp q hq
    rw [take_at he] at hp
    rcases List.mem_append.mp hp with hp | hp
    · exact h.h1 p hp q hq
    · rw [List.mem_singleton.mp hp]; exact hlq q hq
  · intro q hq p hp
    exact h.h2 q hq p (by rw [drop_at he]; exact .tail _ hp)
theorem SLD.eq {ps qs : List PV} {i j : Nat} {ms us : List PV} {e a : PV} (h : SLD ps qs i j ms us) (sp : ps.Pairwise slt) (sq : qs.Pairwise slt) (he : ps[i]? = some e) (ha : qs[j]? = some a) (hl : e.2 = a.2) : SLD ps qs (i + 1) (j + 1) ms us := by
  have e1 : nin qs e = false := nin_false (List.mem_of_getElem? ha) hl.symm
  have e2 : nin ps a = false := nin_false (List.mem_of_getElem? he) hl
  have ea : ∀ p : PV, slt e p ↔ slt a p := fun p => by unfold slt; rw [hl]
  refine ⟨(List.getElem?_eq_some_iff.mp he).1, (List.getElem?_eq_some_iff.mp ha).1, ?_, ?_, ?_, ?_⟩
  · rw [take_at he, List.filter_append, ← h.hm]
    simp [List.filter, e1]
  · rw [take_at ha, List.filter_append, ← h.hu]
    simp [List.filter, e2]
  · intro p hp q hq
    rw [take_at he] at hp
    rcases List.mem_append.mp hp with hp | hp
    · exact h.h1 p hp q (by rw [drop_at ha]; exact .tail _ hq)
    · rw [List.mem_singleton.mp hp, ea]; exact drop_lt sq ha q hq
  · intro q hq p hp
    rw [take_at ha] at hq
    rcases List.mem_append.mp hq with hq | hq
    · exact h.h2 q hq p (by rw [drop_at he]; exact .tail _ hp)
    · rw [List.mem_singleton.mp hq, ← ea]; exact drop_lt sp he p hp
theorem SLD.fin1 {ps qs : List PV} {i j : Nat} {ms us : List PV} (h : SLD ps qs i j ms us) (hd : i = ps.length ∨ j = qs.length) : ms ++ ps.drop i = ps.filter (nin qs) := by
  have : (ps.drop i).filter (nin qs) = ps.drop i := by
    refine List.filter_eq_self.mpr fun p hp => ?_
    rcases hd with rfl | rfl
    · simp at hp
    · refine nin_true fun q hq => slt_ne (h.h2 q (by simpa using hq) p hp)
  calc ms ++ ps.drop i = (ps.take i).filter (nin qs) ++ (ps.drop i).filter (nin qs) := by rw [this, h.hm]
    _ = ps.filter (nin qs) := by rw [← List.filter_append, List.take_append_drop]
theorem SLD.fin {ps qs : List PV} {i j : Nat} {ms us : List PV} (h : SLD ps qs i j ms us) (hd : i = ps.length ∨ j = qs.length) : ms ++ ps.drop i = ps.filter (nin qs) ∧ us ++ qs.drop j = qs.filter (nin ps) :=
  ⟨h.fin1 hd, h.swap.fin1 hd.symm⟩
theorem next_ne {ps : List PV} (sp : ps.Pairwise slt) {i : Nat} {e p : PV} (he : ps[i]? = some e) (hp : ps[i + 1]? = some p) : (p.2 == e.2) = false := by
  have : p ∈ ps.drop (i + 1) := by rw [drop_at hp]; exact .head _
  simpa using Ne.symm (slt_ne (drop_lt sp he p this))
-- D9
theorem lay24 : True := by
  k_with "go" => repeat' ((fail_if_success (with_reducible show wpAny _ _ (exec (Stmt.While _ _ _ _) _) _ _ _)); (fail_if_success (with_reducible show wpAny _ _ (exec (Stmt.For _ _ _ _ _) _) _ _ _)); (fail_if_success (with_reducible show wpAny _ _ (exec (Stmt.Try _ _ _ _ _) _) _ _ _)); (fail_if_success (with_reducible show wpAny _ _ (call (Value.ref _) _ _) _ _ _)); first | (k_unfold; (try dsimp only)) | walk1 | (dsimp only; walk1) | (leave1; (try dsimp only)))
  trivial
theorem lay25 : True := by
  k_with "loadName" => (k_here; k_dflt (refine' ldn ?F ?v ?_ ?a ?b; (case F => k_asm); (case v => k_extra "unf"); (case a => exact rfl); (case b => exact rfl); k_whole))
  trivial
structure Lv (ea aa M U : Addr) (i j : Nat) (m : Str → Option Value) : Prop where
  a1 : m (Str.ofString "expected") = some (.ref ea)
  a2 : m (Str.ofString "actual") = some (.ref aa)
  a3 : m (Str.ofString "missing") = some (.ref M)
  a4 : m (Str.ofString "unexpected") = some (.ref U)
  a5 : ∃ k, m (Str.ofString "i") = some (.int i k)
  a6 : ∃ k, m (Str.ofString "j") = some (.int j k)
inductive JJ (ea aa M U : Addr) (ps qs : List PV) (rest : List (Addr × Obj)) (m : Str → Option Value) (nw : List (Addr × Obj)) : Prop
  | mk (i j : Nat) (ms us : List PV) (n1 n2 : Nat) (rst : List (Addr × Obj)) (x1 : Lv ea aa M U i j m) (x2 : nw = (M, lob ms n1) :: (U, lob us n2) :: rst) (x3 : ∀ q ∈ rest, q ∈ rst) (x4 : ∀ q ∈ rst, q.1 ≠ M ∧ q.1 ≠ U) (x5 : SLD ps qs i j ms us) (x6 : i = ps.length ∨ j = qs.length) : JJ ea aa M U ps qs rest m nw
inductive sldI (s : Shared) (g1 : Heap) (L1 ea aa M U : Addr) (ps qs : List PV) (rest : List (Addr × Obj)) (k : Nat) (s' : Shared) : Prop
  | mk (h : Heap) (tk : Nat) (m' : Str → Option Value) (i : Nat) (j : Nat) (ms : List PV) (us : List PV) (n1 : Nat) (n2 : Nat) (x1 : s' = { s with heap := h, toks := tk }) (x2 : Fr g1 L1 h m') (x3 : News g1 L1 h ((M, lob ms n1) :: (U, lob us n2) :: rest)) (x4 : Lv ea aa M U i j m') (x5 : SLD ps qs i j ms us) (x6 : k = ps.length - i + (qs.length - j)) : sldI s g1 L1 ea aa M U ps qs rest k s'
theorem fly_new {A₀ : Around} {base g0 g h' : Heap} {outer : List Env} {L e : Addr} {oe : Obj} {Cc : Value → Prop} {J : (Str → Option Value) → List (Addr × Obj) → Prop} {s0 : Shared} {tk : Nat} {m : Str → Option Value} {news : List (Addr × Obj)} {cls vt c : Value}
    (KT : KtsTurn (outer.filterMap (·.frame)) g0 g) (B : Below A₀ base outer g) (F : Fr g L h' m) (N : News g L h' ((e, oe) :: news)) (ne : ∀ q ∈ news, q.1 ≠ e) (hc : oe.cls = cls) (hd : oe.data = .fields #[vt, .none, c, .none, .bool false, .none]) (hC : Cc c) (hJ : J m news) :
    Fly A₀ base outer g0 L cls Cc J s0 (.ref e) { s0 with heap := h', toks := tk } :=
  ⟨g, h', tk, e, oe, _, c, m, news, rfl, rfl, KT, F, B, hJ, hc, hd, rfl, hC, .inl ⟨rfl, N, ne⟩⟩
section
variable {w : World} {hh : Option Value} {dp un : Nat} {gd : Option (List Code)} {env : Env} {outer : List Env} {A₀ : Around} {base h₀ : Heap} {L : Addr} {m mg mb : Str → Option Value} {mean : ExcName → Option Value}
   {rest : List (Addr × Obj)} {s : Shared} {Q E : Value → Shared → Prop}
theorem sld_c {ea aa : Addr} {ps qs : List PV} {n n' : Nat} (C : Cx w mean mg mb A₀ base [] h₀ L env) (F : Fr h₀ L s.heap m) (N : News h₀ L s.heap rest) (hea : (ea, lob ps n) ∈ rest) (haa : (aa, lob qs n') ∈ rest)
   (hps : ∀ p ∈ ps, Nm rest p.1 p.2) (hqs : ∀ p ∈ qs, Nm rest p.1 p.2) (sp : ps.Pairwise slt) (sq : qs.Pairwise slt) (l1 : ps.length < 100) (l2 : qs.length < 100)
   (ret : ∀ h' tk' T M U n1 n2, Fr h₀ L h' m → News h₀ L h' ((T, tupOf [.ref M, .ref U]) :: (M, lob (ps.filter (nin qs)) n1) :: (U, lob (qs.filter (nin ps)) n2) :: rest) → Q (.ref T) { s with heap := h', toks := tk' }) (hd : dp ≤ 760) (hu : un ≤ 3600) :
   wpAny (model PySem.Challenge.rw_oc0121_01.row.prog w) (ax none dp un gd env []) (call (.ref 141) [.ref ea, .ref aa]) Q E s := by
  refine wpAny_le ?_ hd hu
  clear hd hu
  obtain ⟨B, X, T, hf, hk⟩ := C
  w_on
  refine wpAny_call ?_
  refine' code_defT (binds := [(Str.ofString "expected", .ref ea), (Str.ofString "actual", .ref aa)]) B F X N T rfl hf hk ?k6 ?k7 ?k8 ?k9 ?kB ?_ ?c2 ?c3 ?c4 ?c5
  case k6 => k_is
  case k7 => k_is
  case k8 => k_room
  case k9 => exact BindsTo.of_eq rfl
  case kB => exact locs rfl
  case c2 => exact rfl
  case c3 => exact rfl
  case c4 => exact rfl
  case c5 => decide
  intro g1 L1 h1 FG1 F1 N1 B1 X1 T1
  (try dsimp only)
  k_fold
  ((try k_fold); w_strict (k_extra "go"))
  rename_i tk0 M h2 ll1 h3 tk2 U h4 ll2 h5 F3 N3
  have efs : [env].filterMap (·.frame) = [L] := by simp [hf]
  have hUM : U ≠ M := Nat.ne_of_gt (ll2 _ (.head _))
  have hrM : ∀ q ∈ rest, q.1 ≠ M := fun q hq => Nat.ne_of_lt (ll1 _ hq)
  have hrU : ∀ q ∈ rest, q.1 ≠ U := fun q hq => Nat.ne_of_lt (ll2 _ (.tail _ hq))
  refine while_my (sldI s g1 L1 ea aa M U ps qs rest) (ps.length + qs.length)
    ⟨_, _, _, 0, 0, [], [], 0, 0, rfl, F3, fun p hp => N3 p (swap2 p hp), ⟨by k_extra "unf", by k_extra "unf", by k_extra "unf", by k_extra "unf", ⟨_, by k_extra "unf"⟩, ⟨_, by k_extra "unf"⟩⟩, sld_init _ _, rfl⟩ ?_
  clear F3 N3
  rintro k _ ⟨h, tk, m', i, j, ms, us, n1, n2, rfl, F4, N4, ⟨e1, e2, e3, e4, ⟨ki, e5⟩, ⟨kj, e6⟩⟩, inv, rfl⟩
  ((try k_fold); w_strict (k_extra "go"))
  refine wpAny_Try_except ?_
  refine wpAny_mono (E := Fly (ax none 760 3600 gd env []) h₀ [env] g1 L1 (.type "IndexError") (fun _ => True) (JJ ea aa M U ps qs rest) s) ?_ (fun _ _ z => z) ?_
  · have LV : ∀ {m2 : Str → Option Value} {i' j' : Nat}, m2 (Str.ofString "expected") = some (.ref ea) → m2 (Str.ofString "actual") = some (.ref aa) → m2 (Str.ofString "missing") = some (.ref M) → m2 (Str.ofString "unexpected") = some (.ref U) → (∃ k, m2 (Str.ofString "i") = some (.int i' k)) → (∃ k, m2 (Str.ofString "j") = some (.int j' k)) → Lv ea aa M U i' j' m2 := fun a b c d e f => ⟨a, b, c, d, e, f⟩
    have offR : ∀ q ∈ rest, q.1 ≠ M ∧ q.1 ≠ U := fun q hq => ⟨hrM q hq, hrU q hq⟩
    have hib := inv.hi
    have hjb := inv.hj
    by_cases hi : ¬ i < ps.length
    · ((try k_fold); w_strict (k_extra "go"))
      refine sub_out rfl F4 N4 (.tail _ (.tail _ hea)) (by omega) (by omega) ?_
      intro h7 tk7 e7 oe7 vt7 F7 N7 ne7 hc7 hd7
      exact fly_new KtsTurn.refl B1 F7 N7 ne7 hc7 hd7 trivial ⟨i, j, ms, us, n1, n2, rest, LV (by k_extra "unf") (by k_extra "unf") (by k_extra "unf") (by k_extra "unf") ⟨_, by k_extra "unf"⟩ ⟨_, by k_extra "unf"⟩, rfl, fun _ h => h, offR, inv, .inl (by have := inv.hi; omega)⟩
    by_cases hj : ¬ j < qs.length
    · ((try k_fold); w_strict (k_extra "go"))
      rename_i e0 he0 h6 F6 N6
      refine sub_out rfl F6 N6 (.tail _ (.tail _ haa)) (by omega) (by omega) ?_
      intro h7 tk7 e7 oe7 vt7 F7 N7 ne7 hc7 hd7
      exact fly_new KtsTurn.refl B1 F7 N7 ne7 hc7 hd7 trivial ⟨i, j, ms, us, n1, n2, rest, LV (by k_extra "unf") (by k_extra "unf") (by k_extra "unf") (by k_extra "unf") ⟨_, by k_extra "unf"⟩ ⟨_, by k_extra "unf"⟩, rfl, fun _ h => h, offR, inv, .inr (by have := inv.hj; omega)⟩
    replace hi : i < ps.length := Classical.not_not.mp hi
    replace hj : j < qs.length := Classical.not_not.mp hj
    ((try k_fold); w_strict (k_extra "go"))
    rename_i pe he0 h6 pa ha0 h7 F7 N7
    replace he0 : ps[i]? = some pe := he0
    replace ha0 : qs[j]? = some pa := ha0
    have nme : Nm rest pe.1 pe.2 := hps _ (List.mem_of_getElem? he0)
    have nma : Nm rest pa.1 pa.2 := hqs _ (List.mem_of_getElem? ha0)
    ((try k_fold); w_strict (k_extra "go"))
    · rename_i h8 tk8 F8 N8 hlt
      have inv' := inv.lt sp sq he0 ha0 hlt
      refine append_lob (p := pe) F8 N8 ?_ ?_ rfl ?_
      · exact off_cons hUM hrM
      · have := inv.hm ▸ (List.length_filter_le (nin qs) (ps.take i))
        have := List.length_take_le' i ps
        omega
      intro h9 F9 N9
      clear F8 N8
      (try dsimp only)
      ((try k_fold); w_strict (k_extra "go"))
      rename Fr g1 L1 _ _ => F10
      rename News g1 L1 _ _ => N10
      refine while_E (fun _ s' => s' = _) 0 rfl ?_ (Fly.passes rfl rfl rfl)
      rintro _ _ rfl
      by_cases hi2 : ¬ i + 1 < ps.length
      · ((try k_fold); w_strict (k_extra "go"))
        refine sub_out rfl F10 N10 (.tail _ (.tail _ hea)) (by omega) (by omega) ?_
        intro h7 tk7 e7 oe7 vt7 F7 N7 ne7 hc7 hd7
        exact fly_new KtsTurn.refl B1 F7 N7 ne7 hc7 hd7 trivial ⟨i + 1, j, ms ++ [pe], us, n1 + 1, n2, rest, LV (by k_extra "unf") (by k_extra "unf") (by k_extra "unf") (by k_extra "unf") ⟨_, by k_extra "unf"⟩ ⟨_, by k_extra "unf"⟩, rfl, fun _ h => h, offR, inv', .inl (by omega)⟩
      replace hi2 : i + 1 < ps.length := Classical.not_not.mp hi2
      ((try k_fold); w_strict (k_extra "go"))
      rename_i px hpx
      replace hpx : ps[i + 1]? = some px := hpx
      refine name_eq ⟨B1, X1, T1, rfl, rfl⟩ F10 N10 (hps _ (List.mem_of_getElem? hpx)).cons.cons nme.cons.cons ?_ (Nat.le_of_ble_eq_true rfl) (Nat.le_of_ble_eq_true rfl)
      intro h11 tk11 F11 N11
      clear F10 N10
      rw [next_ne sp he0 hpx]
      (try dsimp only)
      ((try k_fold); w_strict (k_extra "go"))
      exact WStep.next (ps.length - (i + 1) + (qs.length - j)) (by omega) ⟨h11, _, _, i + 1, j, ms ++ [pe], us, n1 + 1, n2, rfl, F11, N11, LV (by k_extra "unf") (by k_extra "unf") (by k_extra "unf") (by k_extra "unf") ⟨_, by k_extra "unf"⟩ ⟨_, by k_extra "unf"⟩, inv', rfl⟩
    · rename_i h8 tk8 F8 N8 hlt
      refine name_gt ⟨B1, X1, T1, rfl, rfl⟩ F8 N8 nme.cons.cons nma.cons.cons ?_ (Nat.le_of_ble_eq_true rfl) (Nat.le_of_ble_eq_true rfl)
      intro h9 tk9 F9 N9
      clear F8 N8
      (try dsimp only)
      ((try k_fold); w_strict (k_extra "go"))
      · rename_i hgt
        have inv' := (inv.swap.lt sq sp ha0 he0 hgt).swap
        refine append_lob (p := pa) (news := (M, lob ms n1) :: rest) F9 (fun p hp => N9 p (swap2 p hp)) ?_ ?_ rfl ?_
        · exact off_cons (Ne.symm hUM) hrU
        · have := inv.hu ▸ (List.length_filter_le (nin ps) (qs.take j))
          have := List.length_take_le' j qs
          omega
        intro h9 F10 N10
        clear F9 N9
        replace N10 : News g1 L1 h9 ((M, lob ms n1) :: (U, lob (us ++ [pa]) (n2 + 1)) :: rest) := fun p hp => N10 p (swap2 p hp)
        (try dsimp only)
        ((try k_fold); w_strict (k_extra "go"))
        rename Fr g1 L1 _ _ => F11
        rename News g1 L1 _ _ => N11
        refine while_E (fun _ s' => s' = _) 0 rfl ?_ (Fly.passes rfl rfl rfl)
        rintro _ _ rfl
        by_cases hj2 : ¬ j + 1 < qs.length
        · ((try k_fold); w_strict (k_extra "go"))
          refine sub_out rfl F11 N11 (.tail _ (.tail _ haa)) (by omega) (by omega) ?_
          intro h7 tk7 e7 oe7 vt7 F7 N7 ne7 hc7 hd7
          exact fly_new KtsTurn.refl B1 F7 N7 ne7 hc7 hd7 trivial ⟨i, j + 1, ms, us ++ [pa], n1, n2 + 1, rest, LV (by k_extra "unf") (by k_extra "unf") (by k_extra "unf") (by k_extra "unf") ⟨_, by k_extra "unf"⟩ ⟨_, by k_extra "unf"⟩, rfl, fun _ h => h, offR, inv', .inr (by omega)⟩
        replace hj2 : j + 1 < qs.length := Classical.not_not.mp hj2
        ((try k_fold); w_strict (k_extra "go"))
        rename_i px hpx
        replace hpx : qs[j + 1]? = some px := hpx
        refine name_eq ⟨B1, X1, T1, rfl, rfl⟩ F11 N11 (hqs _ (List.mem_of_getElem? hpx)).cons.cons nma.cons.cons ?_ (Nat.le_of_ble_eq_true rfl) (Nat.le_of_ble_eq_true rfl)
        intro h11 tk11 F12 N12
        clear F11 N11
        rw [next_ne sq ha0 hpx]
        (try dsimp only)
        ((try k_fold); w_strict (k_extra "go"))
        exact WStep.next (ps.length - i + (qs.length - (j + 1))) (by omega) ⟨h11, _, _, i, j + 1, ms, us ++ [pa], n1, n2 + 1, rfl, F12, N12, LV (by k_extra "unf") (by k_extra "unf") (by k_extra "unf") (by k_extra "unf") ⟨_, by k_extra "unf"⟩ ⟨_, by k_extra "unf"⟩, inv', rfl⟩
      · rename_i hgt h10 F10 N10
        have heq : pe.2 = pa.2 := tle_antisymm hgt hlt
        have inv' := inv.eq sp sq he0 ha0 heq
        refine wpAny_Try_finally ?_
        refine wpAny_mono (E := Fly (ax none 760 3600 gd env []) h₀ [env] g1 L1 (.type "IndexError") (fun c => c = .none) (fun m2 nw => Lv ea aa M U (i + 1) j m2 ∧ m2 (Str.ofString "a") = some pa.1 ∧ nw = (M, lob ms n1) :: (U, lob us n2) :: rest ∧ i + 1 = ps.length) s) ?_ (fun _ _ z => z) ?_
        · ((try k_fold); w_strict (k_extra "go"))
          refine while_E (fun _ s' => s' = _) 0 rfl ?_ (Fly.passes rfl rfl rfl)
          rintro _ _ rfl
          by_cases hi2 : ¬ i + 1 < ps.length
          · ((try k_fold); w_strict (k_extra "go"))
            refine sub_out rfl F10 N10 (.tail _ (.tail _ hea)) (by omega) (by omega) ?_
            intro h7 tk7 e7 oe7 vt7 F7 N7 ne7 hc7 hd7
            exact fly_new KtsTurn.refl B1 F7 N7 ne7 hc7 hd7 rfl ⟨LV (by k_extra "unf") (by k_extra "unf") (by k_extra "unf") (by k_extra "unf") ⟨_, by k_extra "unf"⟩ ⟨_, by k_extra "unf"⟩, by k_extra "unf", rfl, by omega⟩
          replace hi2 : i + 1 < ps.length := Classical.not_not.mp hi2
          ((try k_fold); w_strict (k_extra "go"))
          rename_i px hpx
          replace hpx : ps[i + 1]? = some px := hpx
          refine name_eq ⟨B1, X1, T1, rfl, rfl⟩ F10 N10 (hps _ (List.mem_of_getElem? hpx)).cons.cons nme.cons.cons ?_ (Nat.le_of_ble_eq_true rfl) (Nat.le_of_ble_eq_true rfl)
          intro h11 tk11 F12 N12
          clear F10 N10
          rw [next_ne sp he0 hpx]
          (try dsimp only)
          ((try k_fold); w_strict (k_extra "go"))
          rename Fr g1 L1 _ _ => F13
          rename News g1 L1 _ _ => N13
          refine wpAny_mono (E := Fly (ax none 760 3600 gd env []) h₀ [env] g1 L1 (.type "IndexError") (fun _ => True) (JJ ea aa M U ps qs rest) s) ?_ (fun _ _ z => z) (Fly.passes rfl rfl rfl)
          refine while_E (fun _ s' => s' = _) 0 rfl ?_ (Fly.passes rfl rfl rfl)
          rintro _ _ rfl
          by_cases hj2 : ¬ j + 1 < qs.length
          · ((try k_fold); w_strict (k_extra "go"))
            refine sub_out rfl F13 N13 (.tail _ (.tail _ haa)) (by omega) (by omega) ?_
            intro h7 tk7 e7 oe7 vt7 F7 N7 ne7 hc7 hd7
            exact fly_new KtsTurn.refl B1 F7 N7 ne7 hc7 hd7 trivial ⟨i + 1, j + 1, ms, us, n1, n2, rest, LV (by k_extra "unf") (by k_extra "unf") (by k_extra "unf") (by k_extra "unf") ⟨_, by k_extra "unf"⟩ ⟨_, by k_extra "unf"⟩, rfl, fun _ h => h, offR, inv', .inr (by omega)⟩
          replace hj2 : j + 1 < qs.length := Classical.not_not.mp hj2
          ((try k_fold); w_strict (k_extra "go"))
          rename_i py hpy
          replace hpy : qs[j + 1]? = some py := hpy
          refine name_eq ⟨B1, X1, T1, rfl, rfl⟩ F13 N13 (hqs _ (List.mem_of_getElem? hpy)).cons.cons nma.cons.cons ?_ (Nat.le_of_ble_eq_true rfl) (Nat.le_of_ble_eq_true rfl)
          intro h14 tk14 F14 N14
          clear F13 N13
          rw [next_ne sq ha0 hpy]
          (try dsimp only)
          ((try k_fold); w_strict (k_extra "go"))
          exact WStep.next (ps.length - (i + 1) + (qs.length - (j + 1))) (by omega) ⟨h14, _, _, i + 1, j + 1, ms, us, n1, n2, rfl, F14, N14, LV (by k_extra "unf") (by k_extra "unf") (by k_extra "unf") (by k_extra "unf") ⟨_, by k_extra "unf"⟩ ⟨_, by k_extra "unf"⟩, inv', rfl⟩
        · intro v s1 hfl
          clear F10 N10
          refine Fly.note rfl rfl rfl hfl fun s2 h2 => ?_
          refine ⟨?_, FlyN.again rfl h2 (FlyN.set h2 fun s3 h3 => ?_)⟩
          · obtain ⟨_, _, _, e', _, _, _, _, _, _, _, _, rfl, _⟩ := h2
            exact ref_ne_byPass e'
          obtain ⟨g, h', tk', e', oe, vs, c, m2, nw, T5, oT, ts, rfl, rfl, KT, F11, B11, ⟨⟨f1, f2, f3, f4, ⟨ki', f5⟩, ⟨kj', f6⟩⟩, fa, rfl, hlen⟩, hcl, hdd, h22, rfl, h21, hdT, h33, N11, ne11, nT11⟩ := h3
          clear hfl h2 e1 e2 e3 e4 e5 e6
          have X11 : (hd.heap_39 w.params).In g := X.keeps B11.stays
          have T11 : Top hd.view_39 (looseW hd.view_39 []) mean mg mb g := T.keeps B11.stays
          refine wpAny_mono (E := Fly (ax none 760 3600 gd env []) h₀ [env] g1 L1 (.type "IndexError") (fun _ => True) (JJ ea aa M U ps qs rest) s) ?_ (fun _ _ z => z) (Fly.passesAt rfl rfl rfl)
          ((try k_fold); w_strict (k_extra "go"))
          rename Fr g L1 _ _ => F13
          rename News g L1 _ _ => N13
          refine while_E (fun _ s' => s' = _) 0 rfl ?_ (Fly.passes rfl rfl rfl)
          rintro _ _ rfl
          by_cases hj2 : ¬ j + 1 < qs.length
          · ((try k_fold); w_strict (k_extra "go"))
            refine sub_out_under (e1 := e') rfl (.head _) hdd h22 F13 N13 (.tail _ (.tail _ (.tail _ (.tail _ haa)))) (by omega) (by omega) ?_
            intro h7 tk7 e7 oe7 vt7 F7 N7 ne7 hc7 hd7
            refine fly_new (news := (M, lob ms n1) :: (U, lob us n2) :: (e', oe) :: (T5, oT) :: rest) KT B11 F7 (fun q hq => N7 q ?_) (fun q hq => ne7 q ?_) hc7 hd7 trivial ⟨i + 1, j + 1, ms, us, n1, n2, (e', oe) :: (T5, oT) :: rest, LV (by k_extra "unf") (by k_extra "unf") (by k_extra "unf") (by k_extra "unf") ⟨_, by k_extra "unf"⟩ ⟨_, by k_extra "unf"⟩, rfl, fun _ h => .tail _ (.tail _ h), ?_, inv', .inl hlen⟩
            · exact mcons rt22 q hq
            · exact rt22 q hq
            · refine all_cons ?_ (all_cons ?_ offR)
              · exact ⟨Ne.symm (ne11 (M, lob ms n1) (.tail _ (.head _))), Ne.symm (ne11 (U, lob us n2) (.tail _ (.tail _ (.head _))))⟩
              · exact ⟨Ne.symm (nT11 (M, lob ms n1) (.head _)), Ne.symm (nT11 (U, lob us n2) (.tail _ (.head _)))⟩
          replace hj2 : j + 1 < qs.length := Classical.not_not.mp hj2
          ((try k_fold); w_strict (k_extra "go"))
          rename_i py hpy
          replace hpy : qs[j + 1]? = some py := hpy
          refine name_eq ⟨B11, X11, T11, rfl, rfl⟩ F13 N13 (hqs _ (List.mem_of_getElem? hpy)).cons.cons.cons.cons nma.cons.cons.cons.cons ?_ (Nat.le_of_ble_eq_true rfl) (Nat.le_of_ble_eq_true rfl)
          intro h14 tk14 F14 N14
          clear F13 N13
          rw [next_ne sq ha0 hpy]
          (try dsimp only)
          ((try k_fold); w_strict (k_extra "go"))
          (try dsimp only)
          exact FlyN.pass (A₀ := ax none 760 3600 gd env []) (base := h₀) (outer := [env]) (g0 := g1) (cls := .type "IndexError") (Cc := fun _ => True) (J := JJ ea aa M U ps qs rest) (s0 := s) (fl := .none) rfl
            ⟨g, h14, _, e', oe, vs, .none, _, _, T5, oT, ts, rfl, rfl, KT, F14, B11, ⟨i + 1, j + 1, ms, us, n1, n2, rest, LV (by k_extra "unf") (by k_extra "unf") (by k_extra "unf") (by k_extra "unf") ⟨_, by k_extra "unf"⟩ ⟨_, by k_extra "unf"⟩, rfl, fun _ h => h, offR, inv', .inl hlen⟩, hcl, hdd, h22, trivial, h21, hdT, h33, N14, ne11, nT11⟩ fun s'' z => z.fly
  · intro v s1 hfl
    clear F4 N4 e1 e2 e3 e4 e5 e6 inv
    refine Fly.caught (base := h₀) (outer := [env]) (g0 := g1) rfl rfl X T hfl (by k_is) PyProof.Rows.Boot.«IndexError» (by decide) PySem.F.isExc_IndexError PySem.F.notTuple_IndexError (by rw [isSubtype_type]; kernel_rfl) ?_
    rintro g8 h8 tk8 e8 oe8 T8 oT8 m8 nw8 rfl KT8 F8 N8 ne8 nT8 B8 X8 T8' ⟨i', j', ms', us', n1', n2', rst, ⟨f1, f2, f3, f4, ⟨ki', f5⟩, ⟨kj', f6⟩⟩, rfl, sub, off, inv8, hend⟩
    rw [efs] at KT8
    ((try k_fold); w_strict (k_extra "go"))
    refine from_lob F8 N8 (.tail _ (.tail _ (.tail _ (.tail _ (sub _ hea))))) (by omega) ?_ (by with_unfolding_all rfl) (by intro _; with_unfolding_all rfl)
    intro D9 h9 F9 N9 l9
    (try dsimp only)
    ((try k_fold); w_strict (k_extra "go"))
    have hib := inv8.hi
    have hjb := inv8.hj
    have lms : ms'.length < 100 := by
      have := inv8.hm ▸ (List.length_filter_le (nin qs) (ps.take i'))
      have := List.length_take_le' i' ps
      omega
    have lus : us'.length < 100 := by
      have := inv8.hu ▸ (List.length_filter_le (nin ps) (qs.take j'))
      have := List.length_take_le' j' qs
      omega
    have ld1 : (ps.drop i').length < 100 := by rw [List.length_drop]; omega
    have ld2 : (qs.drop j').length < 100 := by rw [List.length_drop]; omega
    have offe : ∀ q ∈ rst, q.1 ≠ e8 := fun q hq => ne8 q (.tail _ (.tail _ (.tail _ hq)))
    have x1 : e8 ≠ M := Ne.symm (ne8 (M, lob ms' n1') (.tail _ (.head _)))
    have x2 : e8 ≠ U := Ne.symm (ne8 (U, lob us' n2') (.tail _ (.tail _ (.head _))))
    have x3 : T8 ≠ M := Ne.symm (nT8 (M, lob ms' n1') (.head _))
    have x4 : T8 ≠ U := Ne.symm (nT8 (U, lob us' n2') (.tail _ (.head _)))
    have x5 : D9 ≠ M := Nat.ne_of_gt (l9 (M, lob ms' n1') (.tail _ (.tail _ (.head _))))
    have x6 : D9 ≠ U := Nat.ne_of_gt (l9 (U, lob us' n2') (.tail _ (.tail _ (.tail _ (.head _)))))
    refine extend_lob (D := M) (ps := ms') (n := n1') (qs := ps.drop i') (n2 := 0) (news := (D9, lob (ps.drop i') 0) :: (e8, oe8) :: (T8, oT8) :: (U, lob us' n2') :: rst) F9 (fun q hq => N9 q ?_) ?_ (.head _) (by omega) (by omega) ?_
    · exact rt4 q hq
    · exact off_cons x5 (off_cons x1 (off_cons x3 (off_cons hUM fun q hq => (off q hq).1)))
    intro h10 n10 F10 N10
    clear F9 N9
    (try dsimp only)
    ((try k_fold); w_strict (k_extra "go"))
    refine from_lob F10 N10 (.tail _ (.tail _ (.tail _ (.tail _ (.tail _ (sub _ haa)))))) (by omega) ?_ (by with_unfolding_all rfl) (by intro _; with_unfolding_all rfl)
    intro D11 h11 F11 N11 l11
    clear F10 N10
    (try dsimp only)
    ((try k_fold); w_strict (k_extra "go"))
    have x7 : D11 ≠ U := Nat.ne_of_gt (l11 (U, lob us' n2') (.tail _ (.tail _ (.tail _ (.tail _ (.head _))))))
    refine extend_lob (D := U) (ps := us') (n := n2') (qs := qs.drop j') (n2 := 0) (news := (D11, lob (qs.drop j') 0) :: (M, lob (ms' ++ ps.drop i') n10) :: (D9, lob (ps.drop i') 0) :: (e8, oe8) :: (T8, oT8) :: rst) F11 (fun q hq => N11 q ?_) ?_ (.head _) (by omega) (by omega) ?_
    · exact rt6 q hq
    · exact off_cons x7 (off_cons (Ne.symm hUM) (off_cons x6 (off_cons x2 (off_cons x4 fun q hq => (off q hq).2))))
    intro h12 n12 F12 N12
    clear F11 N11
    (try dsimp only)
    rw [(inv8.fin hend).1, (inv8.fin hend).2] at N12
    ((try k_fold); w_strict (k_extra "go"))
    rename_i D13 h13 F13 N13 l13
    change LeaveT _ _ _ _ _ _ _
    refine leaveT_ KT8 F13 N13 fun F14 N14 => ?_
    dsimp only at F14 N14 ⊢
    refine ret _ _ D13 M U n10 n12 F14 fun x hx => N14 x ?_
    exact rt7 sub x hx
end
theorem lay26 : True := by
  k_with_none
  k_with "subscriptTail" => (k_here; (with_reducible show wpAny _ _ (subscriptTail _ _ (Value.ref _) (Value.int _ _)) _ _ _); k_dflt (refine' sub_read ?N ?m ?k0 ?k1 ?k2 ?_ ?h1 ?h2; (case N => k_asm); (case m => k_mem); (case k0 => (first | omega | ((simp only [List.length_set, List.length_append, List.length_cons, List.length_nil, List.length_map]); omega) | ((simp only [List.length_set, List.length_append, List.length_cons, List.length_nil, List.length_map] at *); omega))); (case k1 => (first | omega | ((simp only [List.length_set, List.length_append, List.length_cons, List.length_nil, List.length_map]); omega) | ((simp only [List.length_set, List.length_append, List.length_cons, List.length_nil, List.length_map] at *); omega))); (case k2 => (first | omega | ((simp only [List.length_set, List.length_append, List.length_cons, List.length_nil, List.length_map]); omega) | ((simp only [List.length_set, List.length_append, List.length_cons, List.length_nil, List.length_map] at *); omega))); (case h1 => with_unfolding_all rfl); (case h2 => (intro _; with_unfolding_all rfl)); k_whole; intro _ _))
  k_with "go" => repeat' ((fail_if_success (with_reducible show wpAny _ _ (exec (Stmt.While _ _ _ _) _) _ _ _)); (fail_if_success (with_reducible show wpAny _ _ (exec (Stmt.For _ _ _ _ _) _) _ _ _)); (fail_if_success (with_reducible show wpAny _ _ (exec (Stmt.Assign _ (Expr.ListComp _ _ _ _) _) _) _ _ _)); (fail_if_success (with_reducible show wpAny _ _ (eval (Expr.ListComp _ _ _ _) _) _ _ _)); (fail_if_success (with_reducible show wpAny _ _ (call (Value.ref _) _ _) _ _ _)); first | (k_unfold; (try dsimp only)) | walk1 | (dsimp only; walk1) | (leave1; (try dsimp only)))
  k_with "rel" => first | assumption | exact Nm.str | exact nm_at (by assumption) (by assumption) | (refine' Nm.cons ?h9; (case h9 => k_extra "rel"))
  k_with "unf" => ((try dsimp only); first | assumption | exact rfl | exact if_pos rfl | (refine (if_neg (by decide)).trans ?_; k_extra "unf"))
  k_with "eval Name" => (k_here; (with_reducible show wpAny _ _ (eval (Expr.Name _ _) (envOf _ _ _ _ _)) _ _ _); k_dflt (refine' ld ?k1 ?k2 ?_ ?k3 ?k4 ?k5; (case k1 => k_asm); (case k2 => k_extra "unf"); (case k3 => exact rfl); (case k4 => exact rfl); (case k5 => decide); k_whole))
  k_with "eval Name" => (k_here; (fail_if_success (with_reducible show wpAny _ _ (eval (Expr.Name _ _) (envOf _ _ _ _ _)) _ _ _)); k_dflt (refine' nameX_L ?F ?v ?_ ?a ?b; (case F => k_asm); (case a => exact rfl); (case b => exact rfl); (case v => k_extra "unf"); k_whole))
  k_with "setItem ref int" => (k_here; k_dflt (refine' sub_store ?F ?N ?hD ?hv ?k0 ?k1 ?k2 ?_; (case F => k_asm); (case N => k_asm); (case hD => assumption); (case hv => exact rfl); (case k0 => (first | omega | ((simp only [List.length_set, List.length_append, List.length_cons, List.length_nil, List.length_map]); omega) | ((simp only [List.length_set, List.length_append, List.length_cons, List.length_nil, List.length_map] at *); omega))); (case k1 => (first | omega | ((simp only [List.length_set, List.length_append, List.length_cons, List.length_nil, List.length_map]); omega) | ((simp only [List.length_set, List.length_append, List.length_cons, List.length_nil, List.length_map] at *); omega))); (case k2 => (first | omega | ((simp only [List.length_set, List.length_append, List.length_cons, List.length_nil, List.length_map]); omega) | ((simp only [List.length_set, List.length_append, List.length_cons, List.length_nil, List.length_map] at *); omega))); k_whole); intro _ _ _; (try k_sweep))
  k_with "compareOp Lt" => (k_here; k_dflt (refine' name_lt ⟨?B, ?X, ?T, ?hf, ?hk⟩ ?F ?N ?h1 ?h2 ?_ ?d ?u; (case B => k_asm); (case X => k_asm); (case T => k_asm); (case hf => first | assumption | exact rfl); (case hk => first | assumption | exact rfl); (case F => k_asm); (case N => k_asm); (case h1 => k_extra "rel"); (case h2 => k_extra "rel"); (case d => exact Nat.le_of_ble_eq_true rfl); (case u => exact Nat.le_of_ble_eq_true rfl); k_whole); intro _ _ _ _; (try k_sweep))
  k_with "binaryOp RShift int int" => (k_here; refine rsh1 ?_; intro _ _; (try dsimp only))
  k_with "WStep brk" => (refine WStep.brk ?_; (try dsimp only))
  k_with "WStep ret" => (refine WStep.ret ?_; (try dsimp only))
  k_with "call builtin:len" => (k_here; (with_reducible show wpAny _ _ (call (Value.builtin _) [Value.ref _]) _ _ _); k_dflt (refine' len_lob ?N ?m ?l ?_; (case N => k_asm); (case m => k_mem); (case l => (first | omega | ((simp only [List.length_set, List.length_append, List.length_cons, List.length_nil, List.length_map]); omega) | ((simp only [List.length_set, List.length_append, List.length_cons, List.length_nil, List.length_map] at *); omega))); k_whole); intro _ _; (try dsimp only))
  k_with "truthy ref" => (k_here; k_dflt (refine' truthy_lob ?N ?m ?l ?_; (case N => k_asm); (case m => k_mem); (case l => (first | omega | ((simp only [List.length_set, List.length_append, List.length_cons, List.length_nil, List.length_map]); omega) | ((simp only [List.length_set, List.length_append, List.length_cons, List.length_nil, List.length_map] at *); omega))); k_whole); intro _; (try dsimp only))
  k_with "call builtin:list.append" => (k_here; k_dflt (refine' append_lob ?F ?N ?hD ?l ?hv ?_; (case F => k_asm); (case N => k_asm); (case hD => assumption); (case l => (first | omega | ((simp only [List.length_set, List.length_append, List.length_cons, List.length_nil, List.length_map]); omega) | ((simp only [List.length_set, List.length_append, List.length_cons, List.length_nil, List.length_map] at *); omega))); (case hv => exact rfl); k_whole); intro _ _ _; (try k_sweep); (try dsimp only))
  k_with "call builtin:list.pop" => (k_here; k_dflt (refine' pop_lob ?F ?N ?hD ?l ?_; (case F => k_asm); (case N => k_asm); (case hD => assumption); (case l => (first | omega | ((simp only [List.length_set, List.length_append, List.length_cons, List.length_nil, List.length_map]); omega) | ((simp only [List.length_set, List.length_append, List.length_cons, List.length_nil, List.length_map] at *); omega))); k_whole); intro _ _ _; (try k_sweep); (try dsimp only))
  k_with "newList nil" => (k_here; k_dflt (refine' new_lob ?F ?N ?_; (case F => k_asm); (case N => k_asm); k_whole); intro _ _ _ _ _; (try k_sweep); (try dsimp only))
  k_with "mem" => first | exact List.Mem.head _ | assumption | (refine' List.Mem.tail _ ?_; k_extra "mem")
  k_with "go" => repeat' ((fail_if_success (with_reducible show wpAny _ _ (exec (Stmt.While _ _ _ _) _) _ _ _)); (fail_if_success (with_reducible show wpAny _ _ (exec (Stmt.For _ _ _ _ _) _) _ _ _)); (fail_if_success (with_reducible show wpAny _ _ (exec (Stmt.Assign _ (Expr.ListComp _ _ _ _) _) _) _ _ _)); (fail_if_success (with_reducible show wpAny _ _ (eval (Expr.ListComp _ _ _ _) _) _ _ _)); (fail_if_success (with_reducible show wpAny _ _ (call (Value.ref _) _ _) _ _ _)); (fail_if_success (with_reducible show LCg.CompSrc _ _ _ _ _ _ _ _ _ _ _ _ _ _)); (fail_if_success (with_reducible show LCt.CompSrcT _ _ _ _ _ _ _ _ _ _ _ _ _ _ _)); (fail_if_success (with_reducible show wpAny _ _ (pyIter _) _ _ _)); first | (k_unfold; (try dsimp only)) | walk1 | (dsimp only; walk1) | (leave1; (try dsimp only)))
  trivial
-- D3
inductive le1 (hp aa : Addr) (rest : List (Addr × Obj)) (ps : List PV) (i : Nat) (m' : Str → Option Value) (news : List (Addr × Obj)) : Prop
  | mk (qs : List PV) (n2 : Nat) (x1 : news = (hp, lob qs n2) :: rest) (x2 : m' (Str.ofString "names") = some (.ref aa)) (x3 : qs.Perm (ps.take i)) (x4 : Hp qs) : le1 hp aa rest ps i m' news
inductive le2 (hp : Addr) (rest : List (Addr × Obj)) (ps : List PV) (i : Nat) (ys : List Value) (news : List (Addr × Obj)) : Prop
  | mk (ou qs : List PV) (n2 : Nat) (x1 : news = (hp, lob qs n2) :: rest) (x2 : ys = ou.map (·.1)) (x3 : (ou ++ qs).Perm ps) (x4 : Hp qs) (x5 : ou.length = i) (x6 : (ou.map (·.2)).Pairwise tle) (x7 : ∀ a ∈ ou, ∀ b ∈ qs, tle a.2 b.2) : le2 hp rest ps i ys news
section
variable {w : World} {hh : Option Value} {dp un : Nat} {gd : Option (List Code)} {env : Env} {outer : List Env} {A₀ : Around} {base h₀ : Heap} {L : Addr} {m mg mb : Str → Option Value} {mean : ExcName → Option Value}
   {rest : List (Addr × Obj)} {s : Shared} {Q E : Value → Shared → Prop}
theorem law_emptied_c {aa : Addr} {ps : List PV} {n : Nat} (C : Cx w mean mg mb A₀ base outer h₀ L env) (F : Fr h₀ L s.heap m) (N : News h₀ L s.heap rest) (hax : (aa, lob ps n) ∈ rest) (hlen : ps.length < 100) (hps : ∀ p ∈ ps, Nm rest p.1 p.2)
   (ret : ∀ h' tk' D qs n1, Fr h₀ L h' m → News h₀ L h' ((D, lob qs n1) :: rest) → (∀ q ∈ rest, q.1 ≠ D) → qs.Perm ps → (qs.map (·.2)).Pairwise tle → Q (.ref D) { s with heap := h', toks := tk' }) (hd : dp ≤ 760) (hu : un ≤ 3600) :
   wpAny (model PySem.Challenge.rw_oc0121_01.row.prog w) (ax none dp un gd env outer) (call (.ref 179) [.ref aa]) Q E s := by
  refine wpAny_le ?_ hd hu
  clear hd hu
  obtain ⟨B, X, T, hf, hk⟩ := C
  w_on
  refine wpAny_call ?_
  refine' code_defC (binds := [(Str.ofString "names", .ref aa)]) B F X N T rfl hf hk ?k6 ?k7 ?k8 ?k9 ?kB ?kD ?_ ?c2 ?c3 ?c4
  case k6 => k_is
  case k7 => k_is
  case k8 => k_room
  case k9 => exact BindsTo.of_eq rfl
  case kB => exact rfl
  case kD => decide +kernel
  case c2 => exact rfl
  case c3 => exact rfl
  case c4 => exact rfl
  intro g1 L1 h1 tk1 cells1 FG1 F1 N1 Y1 B1 X1 T1 l1
  (try dsimp only)
  k_fold
  k_cells Y1
  simp only [List.cons_append, List.nil_append] at N1
  rename_i oc hoc
  ((try k_fold); w_strict (k_extra "go"))
  rename_i hp h2 F2 N2 ll
  have hne1 : ∀ q ∈ rest, q.1 ≠ L1 + 1 := fun q hq => Nat.ne_of_lt (Nat.lt_succ_of_lt (l1 q hq))
  have hne2 : hp ≠ L1 + 1 := Nat.ne_of_gt (ll _ (.head _))
  refine storeX_C F2 N2 rfl (UpdF.tail hne2 (UpdF.head hne1)) hoc ?_ rfl rfl
  intro h3 oc3 F3 N3 hoc3
  clear F2 N2
  ((try k_fold); w_strict (k_extra "go"))
  refine wpAny_For ?_
  ((try k_fold); w_strict (k_extra "go"))
  have hl1 : ∀ q ∈ rest, q.1 ≠ hp := fun q hq => Nat.ne_of_lt (ll _ (.tail _ hq))
  have hsrc : LCg.SrcAt g1 aa (ps.map (·.1)).toArray ((hp, lob [] 0) :: (L1 + 1, oc3) :: rest) := .inr ⟨_, .tail _ (.tail _ hax), rfl, _, rfl⟩
  refine for_list (le1 hp aa ((L1 + 1, oc3) :: rest) ps)
    (by rfl) (by rfl) (by rfl) (by rfl) F3 N3 (N3 _ (.tail _ (.tail _ hax))).2.1 hsrc ⟨[], 0, rfl, by rfl, List.Perm.refl _, fun i x y _ h => by cases h⟩ ?_ ?_
  · rintro i v m' _ h tk I oI hin hv ⟨qs, n2, rfl, e1, hperm, hHp⟩ hsr F5 N5 off5
    clear F3 N3
    obtain ⟨p, hp1, rfl⟩ := pv_at hv
    replace N5 : News g1 L1 h ((hp, lob qs n2) :: (I, oI) :: (L1 + 1, oc3) :: rest) := fun p hp => N5 p (swap2 p hp)
    have hhp : ∀ q ∈ (I, oI) :: (L1 + 1, oc3) :: rest, q.1 ≠ hp := off_cons (Ne.symm (off5 _ (.head _))) (off_cons (Ne.symm hne2) hl1)
    have hlq : qs.length < 900 := by
      have := hperm.length_eq
      have := List.length_take_le' i ps
      omega
    ((try k_fold); w_strict (k_extra "go"))
    refine heappush_c (p := p) ⟨B1, X1, T1, rfl, rfl⟩ F5 N5 hhp rfl (fun q hq => (hps q (List.mem_of_mem_take (hperm.mem_iff.mp hq))).cons.cons) (hps p (List.mem_of_getElem? hp1)).cons.cons hlq hHp ?_ (Nat.le_of_ble_eq_true rfl) (Nat.le_of_ble_eq_true rfl)
    intro h6 tk6 qs' n' F6 N6 hperm' hHp'
    clear F5 N5
    ((try k_fold); w_strict (k_extra "go"))
    refine FStep.intro F6 N6 (news₂ := (hp, lob qs' n') :: (L1 + 1, oc3) :: rest) swap2 ?_ (.inr ⟨_, .tail _ (.tail _ hax), rfl, _, rfl⟩) ⟨qs', n', rfl, by k_extra "unf", ?_, hHp'⟩
    · exact off_cons (off5 (hp, lob qs n2) (.head _)) fun q hq => off5 q (.tail _ hq)
    · rw [take_succ_of hp1]
      exact hperm'.trans ((List.Perm.cons p hperm).trans (List.perm_append_comm (l₁ := [p])))
  · rintro m' _ h tk ⟨qs, n2, rfl, e1, hperm, hHp⟩ F5 N5
    clear F3 N3
    ((try k_fold); w_strict (k_extra "go"))
    have etk : ps.take (ps.map (·.1)).toArray.size = ps := List.take_of_length_le (by simp)
    rw [etk] at hperm
    refine LCg.ListComp_U F5 (by rfl) (by decide) (by rfl) (by decide) (by rfl) ?_
    ((try k_fold); w_strict (k_extra "go"))
    refine LCg.CompSrc.ledger (by rfl) F5 N5 (.tail _ (.tail _ hax)) (by rw [sizeLine_eq]; simp; omega) ?_
    intro g2
    refine comp_ind (le2 hp ((L1 + 1, oc3) :: rest) ps) ?_ ?_ _ 0 [] _ (Nat.zero_add _) ⟨[], qs, n2, rfl, rfl, hperm, hHp, rfl, .nil, List.forall_mem_nil _⟩
    · clear hperm hHp N5 F5
      rintro i ys _ hin ⟨ou, qs, n2, rfl, rfl, hperm, hHp, hoi, hpw, hle⟩ v I oI Cc oC D m₂ h tk E' hP hC hx F2 N2 off ne
      have hoff := LCg.Off3.mem off
      have hlq : ou.length + qs.length = ps.length := by rw [← List.length_append]; exact hperm.length_eq
      simp only [List.size_toArray, List.length_map] at hin
      rcases List.eq_nil_or_concat qs with rfl | ⟨qi, last, rfl⟩
      · simp only [List.length_nil] at hlq; omega
      rw [List.concat_eq_append] at *
      rw [List.length_append, List.length_singleton] at hlq
      have N3 : News g1 L1 h ((hp, lob (qi ++ [last]) n2) :: (I, oI) :: (Cc, oC) :: (D, LCg.lst (ou.map (·.1))) :: (L1 + 1, oc3) :: rest) := by
        intro p hp'
        exact N2 p (rt4 p hp')
      have hhp : ∀ q ∈ (I, oI) :: (Cc, oC) :: (D, LCg.lst (ou.map (·.1))) :: (L1 + 1, oc3) :: rest, q.1 ≠ hp := by
        have z := hoff _ (.head _)
        exact off_cons (Ne.symm z.1) (off_cons (Ne.symm z.2.1) (off_cons (Ne.symm z.2.2) (off_cons (Ne.symm hne2) hl1)))
      have hqn : ∀ q ∈ qi ++ [last], Nm ((I, oI) :: (Cc, oC) :: (D, LCg.lst (ou.map (·.1))) :: (L1 + 1, oc3) :: rest) q.1 q.2 := fun q hq =>
        (hps q (hperm.mem_iff.mp (List.mem_append_right _ hq))).cons.cons.cons.cons
      ((try k_fold); w_strict (k_extra "go"))
      refine heappop_c ⟨B1, X1, T1, rfl, rfl⟩ F2 N3 hhp hqn (by omega) hHp ?_ (Nat.le_of_ble_eq_true rfl) (Nat.le_of_ble_eq_true rfl)
      intro h6 tk6 r qs' n' F6 N6 hperm' hHp' hmin
      have hall : (ou ++ [r] ++ qs').Perm ps := by
        refine List.Perm.trans ?_ hperm
        rw [List.append_assoc]
        exact List.Perm.append_left ou hperm'
      refine LCg.CompEnd.intro F6 N6 ((hp, lob qs' n') :: (L1 + 1, oc3) :: rest) ?_ (LCg.Off3.of ?_) (.inr ⟨_, .tail _ (.tail _ hax), rfl, _, rfl⟩) ⟨ou ++ [r], qs', n', rfl, by rw [List.map_append]; rfl, hall, hHp', by rw [List.length_append, List.length_singleton, hoi], ?_, ?_⟩
      · exact rt4'
      · intro q hq
        rcases List.mem_cons.mp hq with rfl | hq
        · exact hoff (hp, lob (qi ++ [last]) n2) (.head _)
        · exact hoff q (.tail _ hq)
      · rw [List.map_append, List.pairwise_append]
        refine ⟨hpw, List.pairwise_singleton _ _, ?_⟩
        intro a ha b hb
        obtain ⟨a', ha', rfl⟩ := List.mem_map.mp ha
        rw [List.mem_singleton.mp hb]
        exact hle a' ha' r (hperm'.mem_iff.mp (.head _))
      · intro a ha b hb
        rcases List.mem_append.mp ha with ha | ha
        · exact hle a ha b (hperm'.mem_iff.mp (.tail _ hb))
        · rw [List.mem_singleton.mp ha]; exact hmin b hb
    · rintro ys _ ⟨ou, qs', n3, rfl, rfl, hperm3, hHp3, hoi, hpw, hle⟩
      unfold LCg.FinE
      intro D h7 tk7 F7 N7 o7
      replace o7 := off1_mem o7
      clear F5 N5
      ((try k_fold); w_strict (k_extra "go"))
      rename Fr _ _ _ _ => kF
      rename News _ _ _ _ => kN
      have hq0 : qs' = [] := by
        have e := hperm3.length_eq
        simp only [List.size_toArray, List.length_map, List.length_append] at hoi e
        exact List.eq_nil_of_length_eq_zero (by omega)
      subst hq0
      rw [List.append_nil] at hperm3
      refine ret _ _ D ou ou.length kF ?_ (fun q hq => o7 q (.tail _ (.tail _ hq))) hperm3 hpw
      intro p hp'
      refine kN p ?_
      rcases List.mem_cons.mp hp' with rfl | hp'
      · simp [lob, LCg.lst]
      · exact .tail _ (.tail _ (.tail _ hp'))
end
-- D4
theorem lay27 : True := by
  k_with "compareOp Eq" => (k_here; k_dflt (refine' name_eq ⟨?B, ?X, ?T, ?hf, ?hk⟩ ?F ?N ?h1 ?h2 ?_ ?d ?u; (case B => k_asm); (case X => k_asm); (case T => k_asm); (case hf => first | assumption | exact rfl); (case hk => first | assumption | exact rfl); (case F => k_asm); (case N => k_asm); (case h1 => k_extra "rel"); (case h2 => k_extra "rel"); (case d => exact Nat.le_of_ble_eq_true rfl); (case u => exact Nat.le_of_ble_eq_true rfl); k_whole); intro _ _ _ _; (try k_sweep))
  trivial
section
variable {w : World} {hh : Option Value} {dp un : Nat} {gd : Option (List Code)} {env : Env} {outer : List Env} {A₀ : Around} {base h₀ : Heap} {L : Addr} {m mg mb : Str → Option Value} {mean : ExcName → Option Value}
   {rest : List (Addr × Obj)} {s : Shared} {Q E : Value → Shared → Prop}
theorem law_once_c {aa : Addr} {ps : List PV} {n : Nat} (C : Cx w mean mg mb A₀ base outer h₀ L env) (F : Fr h₀ L s.heap m) (N : News h₀ L s.heap rest) (hax : (aa, lob ps n) ∈ rest) (hlen : ps.length < 100) (hps : ∀ p ∈ ps, Nm rest p.1 p.2)
   (ret : ∀ h' tk' D n1, Fr h₀ L h' m → News h₀ L h' ((D, lob (once ps ps.length) n1) :: rest) → (∀ q ∈ rest, q.1 ≠ D) → Q (.ref D) { s with heap := h', toks := tk' }) (hd : dp ≤ 760) (hu : un ≤ 3600) :
   wpAny (model PySem.Challenge.rw_oc0121_01.row.prog w) (ax none dp un gd env outer) (call (.ref 184) [.ref aa]) Q E s := by
  refine wpAny_le ?_ hd hu
  clear hd hu
  obtain ⟨B, X, T, hf, hk⟩ := C
  w_on
  refine wpAny_call ?_
  refine' code_defC (binds := [(Str.ofString "names", .ref aa)]) B F X N T rfl hf hk ?k6 ?k7 ?k8 ?k9 ?kB ?kD ?_ ?c2 ?c3 ?c4
  case k6 => k_is
  case k7 => k_is
  case k8 => k_room
  case k9 => exact BindsTo.of_eq rfl
  case kB => exact rfl
  case kD => decide +kernel
  case c2 => exact rfl
  case c3 => exact rfl
  case c4 => exact rfl
  intro g1 L1 h1 tk1 cells1 FG1 F1 N1 Y1 B1 X1 T1 l1
  (try dsimp only)
  k_fold
  k_cells Y1
  simp only [List.cons_append, List.nil_append] at N1
  rename_i oc hoc
  ((try k_fold); w_strict (k_extra "go"))
  refine LCt.ListComp_T F1 (by rfl) (by decide) (by rfl) (by decide) (by rfl) ?_
  ((try k_fold); w_strict (k_extra "go"))
  rename_i u3 tk3 h3 tk4 t1' u1' v1' hr F3 N3 hkeep
  refine LCt.CompSrcT.range (n := ps.length) (by rfl) F3 N3 hr (small_one (by omega) (by omega) (by omega) (by omega)) (by rw [rangeSize_one]; split <;> omega) (by rw [sizeLine_eq]; omega) ?_
  intro g2
  have hcell : oc.data = .cell (some (.ref aa)) := hoc
  have hne1 : ∀ q ∈ rest, q.1 ≠ L1 + 1 := fun q hq => Nat.ne_of_lt (Nat.lt_succ_of_lt (l1 q hq))
  refine comp_indT (fun i ys news => news = (L1 + 1, oc) :: rest ∧ ys = (once ps i).map (·.1)) ?_ ?_ _ 0 [] _ (Nat.zero_add _) ⟨rfl, rfl⟩
  · rintro i ys _ hin ⟨rfl, rfl⟩ v I oI Cc oC D m₂ h tk E' ⟨t0, hP⟩ hC hx F2 N2 off ne
    subst hP
    rw [Int.zero_add] at hx
    have hoff := LCg.Off3.mem off
    clear F3 N3
    ((try k_fold); w_strict (k_extra "go"))
    · rename_i hi0 p hp1
      have hi0' : i = 0 := by omega
      rw [Int.toNat_natCast] at hp1
      refine LCg.CompEnd.intro F2 N2 _ (fun p hp => hp) off trivial ⟨rfl, ?_⟩
      rw [once_succ, show sel ps i = some p from by unfold sel; rw [if_pos (.inl hi0'), hp1]]
      simp
    · rename_i hi0 p hp1 q hq1 h5 tk5 F5 N5 heq
      rw [Int.toNat_natCast] at hp1
      rw [show ((i : Int) - 1).toNat = i - 1 by omega] at hq1
      refine LCg.CompEnd.intro F5 N5 _ (fun p hp => hp) off trivial ⟨rfl, ?_⟩
      have heq' : p.2 = q.2 := by simpa using heq
      rw [once_succ, show sel ps i = none from by unfold sel; rw [if_neg]; rintro (h | h); (· omega); (· rw [hp1, hq1] at h; exact h (by simp [heq']))]
      simp
    · rename_i hi0 p hp1 q hq1 h5 tk5 F5 N5 heq p' hp2
      rw [Int.toNat_natCast] at hp1 hp2
      rw [hp1] at hp2
      cases hp2
      rw [show ((i : Int) - 1).toNat = i - 1 by omega] at hq1
      refine LCg.CompEnd.intro F5 N5 _ (fun p hp => hp) off trivial ⟨rfl, ?_⟩
      have heq' : p.2 ≠ q.2 := by simpa using heq
      rw [once_succ, show sel ps i = some p from by unfold sel; rw [if_pos, hp1]; right; rw [hp1, hq1]; simpa using heq']
      simp
  · rintro ys _ ⟨rfl, rfl⟩
    unfold LCg.FinE
    intro D h7 tk7 F7 N7 o7
    replace o7 := off1_mem o7
    clear F3 N3
    ((try k_fold); w_strict (k_extra "go"))
    rename Fr _ _ _ _ => kF
    rename News _ _ _ _ => kN
    refine ret _ _ D (once ps ps.length).length kF ?_ (fun q hq => o7 q (.tail _ hq))
    intro p hp'
    refine kN p ?_
    rcases List.mem_cons.mp hp' with rfl | hp'
    · simp [lob, LCg.lst]
    · exact .tail _ (.tail _ hp')
end
-- D5
theorem lay28 : True := by
  k_with "compareOp Gt" => (k_here; k_dflt (refine' name_gt ⟨?B, ?X, ?T, ?hf, ?hk⟩ ?F ?N ?h1 ?h2 ?_ ?d ?u; (case B => k_asm); (case X => k_asm); (case T => k_asm); (case hf => first | assumption | exact rfl); (case hk => first | assumption | exact rfl); (case F => k_asm); (case N => k_asm); (case h1 => k_extra "rel"); (case h2 => k_extra "rel"); (case d => exact Nat.le_of_ble_eq_true rfl); (case u => exact Nat.le_of_ble_eq_true rfl); k_whole); intro _ _ _ _; (try k_sweep))
  trivial
noncomputable def cmp3 (t t' : Str) : Int := b2i (decide (t'.cps.toList < t.cps.toList)) - b2i (decide (t.cps.toList < t'.cps.toList))
section
variable {w : World} {hh : Option Value} {dp un : Nat} {gd : Option (List Code)} {env : Env} {outer : List Env} {A₀ : Around} {base h₀ : Heap} {L : Addr} {m mg mb : Str → Option Value} {mean : ExcName → Option Value}
   {rest : List (Addr × Obj)} {s : Shared} {Q E : Value → Shared → Prop}
theorem three_c {v v' : Value} {t t' : Str} (C : Cx w mean mg mb A₀ base outer h₀ L env) (F : Fr h₀ L s.heap m) (N : News h₀ L s.heap rest) (h1 : Nm rest v t) (h2 : Nm rest v' t')
   (ret : ∀ h' tk' u, Fr h₀ L h' m → News h₀ L h' rest → Q (.int (cmp3 t t') u) { s with heap := h', toks := tk' }) (hd : dp ≤ 760) (hu : un ≤ 3600) :
   wpAny (model PySem.Challenge.rw_oc0121_01.row.prog w) (ax hh dp un gd env outer) (call (.ref 155) [v, v']) Q E s := by
  refine wpAny_le ?_ hd hu
  clear hd hu
  obtain ⟨B, X, T, hf, hk⟩ := C
  w_on
  refine wpAny_call ?_
  refine' code_def (binds := [(Str.ofString "x", v), (Str.ofString "y", v')]) B F X N T rfl hf hk ?k6 ?k7 ?k8 ?k9 ?kB ?_ ?c2 ?c3 ?c4 ?c5
  case k6 => k_is
  case k7 => k_is
  case k8 => k_room
  case k9 => exact BindsTo.of_eq rfl
  case kB => exact locs rfl
  case c2 => exact rfl
  case c3 => exact rfl
  case c4 => exact rfl
  case c5 => decide
  intro g1 L1 h1 FG1 F1 N1 B1 X1 T1
  (try dsimp only)
  k_fold
  ((try k_fold); w_strict (k_extra "go"))
  exact ret _ _ _ (by assumption) (by assumption)
end
-- Loops2
section
variable {w : World} {A : Around} {E : Value → Shared → Prop} {h₀ : Heap} {L : Addr} {m : Str → Option Value} {env : Env} {elt iter : Expr} {x y : Str} {px py pos spos : Pos} {scope : Scope} {cl : List (Str × Addr)} {s : Shared}
/-- what is walked by a comprehension: any iterator -/
inductive CompW (w : World) (A : Around) (h₀ : Heap) (L : Addr) (m : Str → Option Value) (env : Env) (elt : Expr) (x : Str) (scope : Scope) (cl : List (Str × Addr)) (Fin : Shared → List Value → List (Addr × Obj) → Prop) (it : Value) (s₂ : Shared) : Prop
  | mk (I : Addr) (fp : List Addr) (n : Nat) (P : Nat → Value → Prop) (St : Nat → Heap → Prop) (S : List (Addr × Obj) → Prop) (news : List (Addr × Obj)) (x1 : it = .ref I) (x2 : Walks PySem.Challenge.rw_oc0121_01.row.prog w A I fp [I] n P St) (x3 : n ≤ sizeLine) (x4 : ∀ i h, St i h → ∃ o, h.get? I = some o)
    (x5 : ∀ i h h' o nw, St i h → h.get? I = some o → h'.get? I = some o → (∀ b o, h₀.get? b = some o → h'.get? b = some o) → News h₀ L h' nw → S nw → St i h') (x6 : St 0 s₂.heap) (x7 : ∀ b ∈ fp, b < s₂.heap.objs.size)
    (x8 : Fr h₀ L s₂.heap m) (x9 : News h₀ L s₂.heap news) (x10 : L ≠ I) (x11 : h₀.get? I = none) (x12 : ∀ p ∈ news, p.1 ≠ I) (x13 : S news) (x14 : LCg.CompRest PySem.Challenge.rw_oc0121_01.row.prog w A h₀ L m env elt x scope cl s₂ S P (Fin s₂) n 0 [] news) : CompW w A h₀ L m env elt x scope cl Fin it s₂
theorem ListComp_W {Q : Value → Shared → Prop} (F₀ : Fr h₀ L s.heap m)
    (hclos : closureFor scope env = pure cl) (hcell : ∀ y ∈ scope.names, y.2 ≠ .cell) (hkind : scope.kind = .function)
    (hnames : ∀ y ∈ scope.names, y.2 = .local → scope.names.lookup y.1 = some .local) (hx : scope.names.lookup x = some .local)
    (h : wpAny (model PySem.Challenge.rw_oc0121_01.row.prog w) A (eval iter env) (fun xv s₁ => wpAny (model PySem.Challenge.rw_oc0121_01.row.prog w) A (pyIter xv) (CompW w A h₀ L m env elt x scope cl (fun s₂ => LCg.FinE h₀ L m s₂ Q)) E s₁) E s)
    (hs : ∀ x, foldedSetIterable iter env x = pure x := by intro _; rfl) :
    wpAny (model PySem.Challenge.rw_oc0121_01.row.prog w) A (eval (.ListComp elt [⟨.Name x px, iter, [], 0⟩] scope pos) env) Q E s := by
  rw [eval_ListComp]
  refine wpAny_comprehension_free (use := none) rfl hs hclos hkind hnames (wpAny_mono h (fun xv s₁ h₁ => wpAny_mono h₁ (fun it s₂ h₂ => ?_) fun _ _ e => e) fun _ _ e => e)
  obtain ⟨I, fp, n, P, St, S, news, rfl, W, hsz, hIo, hSt, hst, hfp, F, N, hIL, hI₀, off, hS, R⟩ := h₂
  refine LCg.block_U W hsz hIo hSt hcell hkind hx hst hfp F N hIL hI₀ off hS R ?_
  intro D C h tk m' ys news' F' N' o1 hn hC₀ hD₀ hCL hDL hCD offC fin
  refine ⟨m', hn, fun h'' hs'' => fin D h'' tk (F'.change hs'' hCL hC₀) (fun p hp => ⟨hs''.extBut _ _ ?_ (N' p hp).1, (N' p hp).2⟩) o1⟩
  rcases List.mem_cons.mp hp with rfl | hp
  · exact Ne.symm hCD
  · exact offC p hp
theorem Assign_ListComp_W {Q : Flow → Shared → Prop} (F₀ : Fr h₀ L s.heap m) (hLe : env.locals = L)
    (hsw : swapsWith (.ListComp elt [⟨.Name x px, iter, [], 0⟩] scope pos) (some (.Name y py)) spos.line env = pure true)
    (hclos : closureFor scope env = pure cl) (hcell : ∀ z ∈ scope.names, z.2 ≠ .cell) (hkind : scope.kind = .function)
    (hnames : ∀ z ∈ scope.names, z.2 = .local → scope.names.lookup z.1 = some .local) (hx : scope.names.lookup x = some .local)
    (hy : env.kindOf y = some .local) (hp : (env.scope.kind == .class || (env.scope.kind == .module && env.locals != env.globals)) = false)
    (h : wpAny (model PySem.Challenge.rw_oc0121_01.row.prog w) A (eval iter env) (fun xv s₁ => wpAny (model PySem.Challenge.rw_oc0121_01.row.prog w) A (pyIter xv) (CompW w A h₀ L m env elt x scope cl (fun s₂ => LCg.FinA h₀ L m s₂ y Q)) E s₁) E s)
    (hs : ∀ x, foldedSetIterable iter env x = pure x := by intro _; rfl) :
    wpAny (model PySem.Challenge.rw_oc0121_01.row.prog w) A (exec (.Assign [.Name y py] (.ListComp elt [⟨.Name x px, iter, [], 0⟩] scope pos) spos) env) Q E s := by
  subst hLe
  rw [exec_Assign_Name_used _ _ _ _ hsw]
  refine wpAny_bind (wpAny_standAt (wpAny_bind ?_))
  show wpAny _ A (do let _ ← comprehension (.ListComp elt [⟨.Name x px, iter, [], 0⟩] scope pos) scope env _ (newList []) false (eval iter env) (some (assign (.Name y py) env))) _ _ s
  refine wpAny_bind (wpAny_mono (wpAny_comprehension_free (use := some (assign (.Name y py) env)) (Q := fun _ s' => Q .next s') rfl hs hclos hkind hnames
    (wpAny_mono h (fun xv s₁ h₁ => wpAny_mono h₁ (fun it s₂ h₂ => ?_) fun _ _ e => e) fun _ _ e => e)) (fun _ s' hq => wpAny_pure (wpAny_pure hq)) fun _ _ e => e)
  obtain ⟨I, fp, n, P, St, S, news, rfl, W, hsz, hIo, hSt, hst, hfp, F, N, hIL, hI₀, off, hS, R⟩ := h₂
  refine LCg.block_U W hsz hIo hSt hcell hkind hx hst hfp F N hIL hI₀ off hS R ?_
  intro D C h' tk m' ys news' F' N' o1 hn hC₀ hD₀ hCL hDL hCD offC fin
  show wpAny _ A (assign (.Name y py) env (.ref D)) _ _ _
  refine wpAny_assign_Name (wpAny_storeName_local hy F'.ns (fun h₂ hn₂ hs₂ => ?_) hp)
  have hL₀ : h₀.get? env.locals = none := Heap.get?_none_of_le F'.above
  have F₂ : Fr h₀ env.locals h₂ (fun z => if z = y then some (.ref D) else m z) := F'.set hn₂ hs₂
  refine ⟨m', hn.sameBut hs₂ hCL, fun h'' hs'' => fin D h'' _ (F₂.change hs'' hCL hC₀) (fun p hp => ?_) o1⟩
  have z : h₂.get? p.1 = some p.2 := hs₂.extBut _ _ (N' p hp).2.1 (N' p hp).1
  refine ⟨hs''.extBut _ _ ?_ z, (N' p hp).2⟩
  rcases List.mem_cons.mp hp with rfl | hp
  · exact Ne.symm hCD
  · exact offC p hp
/-- over the signs of a text -/
theorem comp_str {Fin : Shared → List Value → List (Addr × Obj) → Prop} {t : Str} {k : Tok} {news : List (Addr × Obj)} (hh : A.handled = none) (F : Fr h₀ L s.heap m) (N : News h₀ L s.heap news) (hsz : t.length ≤ 1000)
    (R : ∀ g, LCg.CompRest PySem.Challenge.rw_oc0121_01.row.prog w A h₀ L m env elt x scope cl { s with heap := g } (fun _ => True) (SignAt t) (Fin { s with heap := g }) t.cps.size 0 [] news) :
    wpAny (model PySem.Challenge.rw_oc0121_01.row.prog w) A (pyIter (.str t k)) (CompW w A h₀ L m env elt x scope cl Fin) E s := by
  have key : ∀ (nm : String) (o : Obj) (St : Nat → Heap → Prop), (∀ i h, St i h ↔ h.IsStrIter s.heap.objs.size nm t k i) → Walks PySem.Challenge.rw_oc0121_01.row.prog w A s.heap.objs.size [s.heap.objs.size] [s.heap.objs.size] t.cps.size (SignAt t) St → o.isFreed = false → St 0 (s.heap.push o) →
      CompW w A h₀ L m env elt x scope cl Fin (.ref s.heap.objs.size) { s with heap := s.heap.push o } := by
    intro nm o St hSt W hfr h0
    refine ⟨_, _, _, _, St, fun _ => True, news, rfl, W, by rw [sizeLine_eq]; have : t.cps.size = t.length := rfl; omega, ?_, ?_, h0, ?_, F.push _, fun p hp => ⟨Heap.get?_push_of_some _ (N p hp).1, (N p hp).2⟩, Nat.ne_of_lt F.ns.lt, next_is_new F, fun p hp => Nat.ne_of_lt (Heap.lt_size (N p hp).1), trivial, R _⟩
    · intro i h hs
      obtain ⟨o, ho, _⟩ := (hSt i h).mp hs
      exact ⟨o, ho⟩
    · intro i h h' o nw hs ho ho' _ _ _
      obtain ⟨o2, ho2, r⟩ := (hSt i h).mp hs
      rw [ho] at ho2
      cases ho2
      exact (hSt i h').mpr ⟨o, ho', r⟩
    · intro b hb
      rw [List.mem_singleton.mp hb]
      show s.heap.objs.size < (s.heap.push _).objs.size
      rw [Heap.size_push]; exact Nat.lt_succ_self _
  cases ha : t.cps.all (· < 128)
  · exact wpAny_pyIter_wide ha (key _ _ _ (fun _ _ => Iff.rfl) (Walks.strWide hh _ t k) rfl ⟨_, Heap.get?_push_size _ rfl, rfl, rfl⟩)
  · exact wpAny_pyIter_ascii ha (key _ _ _ (fun _ _ => Iff.rfl) (Walks.strAscii hh _ t k) rfl ⟨_, Heap.get?_push_size _ rfl, rfl, rfl⟩)
/-- over a tuple of the ledger's -/
noncomputable def TupSrc (tu : Addr) (its : Array Value) (news : List (Addr × Obj)) : Prop := (tu, ({ cls := .type "tuple", data := .seq its } : Obj)) ∈ news
theorem comp_tup {Fin : Shared → List Value → List (Addr × Obj) → Prop} {tu : Addr} {its : Array Value} {news : List (Addr × Obj)} (hh : A.handled = none) (F : Fr h₀ L s.heap m) (N : News h₀ L s.heap news) (ht : TupSrc tu its news) (hsz : its.size ≤ 1000)
    (R : ∀ g, LCg.CompRest PySem.Challenge.rw_oc0121_01.row.prog w A h₀ L m env elt x scope cl { s with heap := g } (TupSrc tu its) (fun i v => its[i]? = some v) (Fin { s with heap := g }) its.size 0 [] news) :
    wpAny (model PySem.Challenge.rw_oc0121_01.row.prog w) A (pyIter (.ref tu)) (CompW w A h₀ L m env elt x scope cl Fin) E s := by
  have htu : s.heap.IsTuple tu its := ⟨_, (N _ ht).1, rfl, _, rfl⟩
  have hlt : tu < s.heap.objs.size := Heap.lt_size (N _ ht).1
  refine wpAny_pyIter_tuple htu ?_
  refine ⟨_, _, _, _, _, TupSrc tu its, news, rfl, Walks.tuple hh s.heap.objs.size tu (Nat.ne_of_lt hlt) its, by rw [sizeLine_eq]; omega, ?_, ?_, ⟨⟨_, Heap.get?_push_size _ rfl, rfl, rfl⟩, ⟨_, Heap.get?_push_of_some _ (N _ ht).1, rfl, _, rfl⟩⟩, ?_, F.push _, fun p hp => ⟨Heap.get?_push_of_some _ (N p hp).1, (N p hp).2⟩, Nat.ne_of_lt F.ns.lt, next_is_new F, fun p hp => Nat.ne_of_lt (Heap.lt_size (N p hp).1), ht, R _⟩
  · intro i h st
    obtain ⟨o, ho, _⟩ := st.1
    exact ⟨o, ho⟩
  · intro i h h' o nw st ho ho' _ Nw hS
    obtain ⟨o2, ho2, r⟩ := st.1
    rw [ho] at ho2
    cases ho2
    exact ⟨⟨o, ho', r⟩, ⟨_, (Nw _ hS).1, rfl, _, rfl⟩⟩
  · intro b hb
    show b < (s.heap.push _).objs.size
    rw [Heap.size_push]
    rcases List.mem_cons.mp hb with rfl | hb
    · exact Nat.lt_succ_self _
    · rw [List.mem_singleton.mp hb]; exact Nat.lt_succ_of_lt hlt
end
-- Pure5
noncomputable def Dref : List (PyData × PyData) := [(.str (Str.ofString "&"), .str (Str.ofString "&amp;")), (.str (Str.ofString "<"), .str (Str.ofString "&lt;")), (.str (Str.ofString ">"), .str (Str.ofString "&gt;")), (.str (Str.ofString "\""), .str (Str.ofString "&quot;")), (.str (Str.ofString "\r"), .str (Str.ofString "&#13;")), (.str (Str.ofString "\n"), .str (Str.ofString "&#10;")), (.str (Str.ofString "\t"), .str (Str.ofString "&#09;"))]
noncomputable def refL (c : Nat) : List Nat := if c = 38 then [38, 97, 109, 112, 59] else if c = 60 then [38, 108, 116, 59] else if c = 62 then [38, 103, 116, 59] else if c = 34 then [38, 113, 117, 111, 116, 59] else if c = 13 then [38, 35, 49, 51, 59] else if c = 10 then [38, 35, 49, 48, 59] else if c = 9 then [38, 35, 48, 57, 59] else [c]
noncomputable def refS (c : Nat) : Str := ⟨(refL c).toArray⟩
theorem Dref_eq : Dref = [(.str ⟨#[38]⟩, .str (refS 38)), (.str ⟨#[60]⟩, .str (refS 60)), (.str ⟨#[62]⟩, .str (refS 62)), (.str ⟨#[34]⟩, .str (refS 34)), (.str ⟨#[13]⟩, .str (refS 13)), (.str ⟨#[10]⟩, .str (refS 10)), (.str ⟨#[9]⟩, .str (refS 9))] := by
  unfold Dref
  rw [show Str.ofString "&" = ⟨#[38]⟩ from by decide +kernel, show Str.ofString "<" = ⟨#[60]⟩ from by decide +kernel, show Str.ofString ">" = ⟨#[62]⟩ from by decide +kernel, show Str.ofString "\"" = ⟨#[34]⟩ from by decide +kernel, show Str.ofString "\r" = ⟨#[13]⟩ from by decide +kernel, show Str.ofString "\n" = ⟨#[10]⟩ from by decide +kernel, show Str.ofString "\t" = ⟨#[9]⟩ from by decide +kernel,
    show Str.ofString "&amp;" = refS 38 from by decide +kernel, show Str.ofString "&lt;" = refS 60 from by decide +kernel, show Str.ofString "&gt;" = refS 62 from by decide +kernel, show Str.ofString "&quot;" = refS 34 from by decide +kernel, show Str.ofString "&#13;" = refS 13 from by decide +kernel, show Str.ofString "&#10;" = refS 10 from by decide +kernel, show Str.ofString "&#09;" = refS 9 from by decide +kernel]
theorem refS_else {c : Nat} (h1 : c ≠ 38) (h2 : c ≠ 60) (h3 : c ≠ 62) (h4 : c ≠ 34) (h5 : c ≠ 13) (h6 : c ≠ 10) (h7 : c ≠ 9) : refS c = ⟨#[c]⟩ := by
  unfold refS refL
  rw [if_neg h1, if_neg h2, if_neg h3, if_neg h4, if_neg h5, if_neg h6, if_neg h7]
theorem one_eq (k c : Nat) : ((⟨#[k]⟩ : Str) = ⟨#[c]⟩) ↔ k = c := by
  constructor
  · intro e
    injection e with e
    simpa using e
  · rintro rfl; rfl
theorem look_ref (c : Nat) : (Spec.lookup (PyData.str ⟨#[c]⟩) Dref).getD (PyData.str ⟨#[c]⟩) = .str (refS c) := by
  rw [Dref_eq]
  simp only [Spec.lookup, PyProof.V.same_str, decide_eq_true_eq, one_eq]
  by_cases h1 : 38 = c
  · subst h1; rfl
  rw [if_neg h1]
  by_cases h2 : 60 = c
  · subst h2; rfl
  rw [if_neg h2]
  by_cases h3 : 62 = c
  · subst h3; rfl
  rw [if_neg h3]
  by_cases h4 : 34 = c
  · subst h4; rfl
  rw [if_neg h4]
  by_cases h5 : 13 = c
  · subst h5; rfl
  rw [if_neg h5]
  by_cases h6 : 10 = c
  · subst h6; rfl
  rw [if_neg h6]
  by_cases h7 : 9 = c
  · subst h7; rfl
  rw [if_neg h7, refS_else (Ne.symm h1) (Ne.symm h2) (Ne.symm h3) (Ne.symm h4) (Ne.symm h5) (Ne.symm h6) (Ne.symm h7)]
  rfl
/-- a text, sign by sign -/
noncomputable def wr (t : Str) : Str := ⟨(t.cps.toList.flatMap refL).toArray⟩
theorem refL_len (c : Nat) : (refL c).length ≤ 6 := by
  unfold refL
  repeat' split
  all_goals simp
theorem fold_glue : ∀ (r : List Str) (acc : Array Nat), (r.foldl (fun acc p => acc ++ (#[] : Array Nat) ++ p.cps) acc).toList = acc.toList ++ r.flatMap (fun p => p.cps.toList)
  | [], acc => by simp
  | p :: r, acc => by
    rw [List.foldl_cons, fold_glue r]
    simp
theorem join_empty (l : List Nat) : Txt.join (Str.ofString "") (l.map refS) = ⟨(l.flatMap refL).toArray⟩ := by
  rw [show Str.ofString "" = ⟨#[]⟩ from by decide +kernel]
  unfold Txt.join Builtin.Str.glued
  cases l with
  | nil => rfl
  | cons c r =>
    have e := fold_glue (r.map refS) (refS c).cps
    show (⟨((r.map refS).foldl (fun acc p => acc ++ (#[] : Array Nat) ++ p.cps) (refS c).cps)⟩ : Str) = _
    have e2 : ((r.map refS).foldl (fun acc p => acc ++ (#[] : Array Nat) ++ p.cps) (refS c).cps) = ((c :: r).flatMap refL).toArray := by
      apply Array.toList_inj.mp
      rw [e, List.flatMap_cons, List.flatMap_map]
      rfl
    rw [e2]
theorem refs_sum : ∀ l : List Nat, ((l.map refS).map (·.length)).sum ≤ 6 * l.length
  | [] => by simp
  | c :: r => by
    have h1 := refs_sum r
    have h2 := refL_len c
    have h3 : (refS c).length = (refL c).length := by unfold refS; simp [Str.length]
    simp only [List.map_cons, List.sum_cons, List.length_cons]
    omega
-- Pure6
noncomputable def rep1 (c : Nat) (z : List Nat) (x : Nat) : List Nat := if x = c then z else [x]
theorem flat_free {c : Nat} {z : List Nat} : ∀ {l : List Nat}, c ∉ l → l.flatMap (rep1 c z) = l
  | [], _ => rfl
  | x :: l, h => by
    rw [List.flatMap_cons, flat_free fun hm => h (List.mem_cons_of_mem _ hm)]
    unfold rep1
    rw [if_neg (fun e => h (by rw [e]; exact List.mem_cons_self))]
    rfl
theorem join_flat (c : Nat) (z : Str) : ∀ (parts : List Str), (∀ p ∈ parts, c ∉ p.cps.toList) → (Str.join z parts).cps.toList = (Str.join ⟨#[c]⟩ parts).cps.toList.flatMap (rep1 c z.cps.toList)
  | [], _ => rfl
  | [x], h => (flat_free (h x (.head _))).symm
  | x :: y :: r, h => by
    have ih := join_flat c z (y :: r) fun p hp => h p (.tail _ hp)
    show (x ++ z ++ Str.join z (y :: r)).cps.toList = (x ++ ⟨#[c]⟩ ++ Str.join ⟨#[c]⟩ (y :: r)).cps.toList.flatMap (rep1 c z.cps.toList)
    have e1 : ∀ a b d : Str, (a ++ b ++ d).cps.toList = a.cps.toList ++ b.cps.toList ++ d.cps.toList := by
      intro a b d
      show ((a.cps ++ b.cps) ++ d.cps).toList = _
      simp
    rw [e1, e1, ih, List.flatMap_append, List.flatMap_append, flat_free (h x (.head _))]
    simp [rep1]
theorem replace_flat (x z : Str) (c : Nat) : Txt.replace x ⟨#[c]⟩ z = ⟨(x.cps.toList.flatMap (rep1 c z.cps.toList)).toArray⟩ := by
  rw [StrLaws.replace_one]
  have h := join_flat c z (Txt.split x ⟨#[c]⟩) (StrLaws.split_free x c)
  rw [StrLaws.join_split] at h
  rw [← h]
theorem contains_one (x : Str) (c : Nat) : Txt.contains x ⟨#[c]⟩ = decide (c ∈ x.cps.toList) := StrLaws.found_one x c
theorem replace_not {x z : Str} {c : Nat} (h : Txt.contains x ⟨#[c]⟩ = false) : Txt.replace x ⟨#[c]⟩ z = x := by
  rw [contains_one, decide_eq_false_iff_not] at h
  rw [replace_flat, flat_free h]
theorem replace_not' {x z : Str} {c : Nat} (h : (Builtin.Str.occurrences x ⟨#[c]⟩ 0 x.length 1).isEmpty = true) : Txt.replace x ⟨#[c]⟩ z = x := replace_not (by unfold Txt.contains; rw [h]; rfl)
/-- the specials, in the order in which _escape_attrib takes them -/
noncomputable def spc : List Nat := [38, 60, 62, 34, 13, 10, 9]
noncomputable def refK (k : Nat) (x : Nat) : List Nat := if x ∈ spc.take k then refL x else [x]
/-- the text behind k of the seven steps -/
noncomputable def stage (k : Nat) (t : Str) : Str := ⟨(t.cps.toList.flatMap (refK k)).toArray⟩
theorem stage_zero (t : Str) : stage 0 t = t := by
  unfold stage
  have : ∀ l : List Nat, l.flatMap (refK 0) = l := by
    intro l
    induction l with
    | nil => rfl
    | cons a l ih => rw [List.flatMap_cons, ih]; rfl
  rw [this]
theorem stage_seven (t : Str) : stage 7 t = wr t := by
  unfold stage wr
  have : refK 7 = refL := by
    funext x
    unfold refK
    split
    · rfl
    · rename_i h
      have e : spc.take 7 = [38, 60, 62, 34, 13, 10, 9] := rfl
      rw [e] at h
      simp only [List.mem_cons, List.not_mem_nil, or_false, not_or] at h
      unfold refL
      rw [if_neg h.1, if_neg h.2.1, if_neg h.2.2.1, if_neg h.2.2.2.1, if_neg h.2.2.2.2.1, if_neg h.2.2.2.2.2.1, if_neg h.2.2.2.2.2.2]
  rw [this]
theorem refL_spc : ∀ x ∈ spc, ∀ y ∈ refL x, y = 38 ∨ y ∉ spc := by decide +kernel
theorem stage_succ {k c : Nat} (hk : k < 7) (hc : spc[k]? = some c) (t : Str) : stage (k + 1) t = Txt.replace (stage k t) ⟨#[c]⟩ (refS c) := by
  rw [replace_flat]
  unfold stage
  (try dsimp only)
  rw [List.flatMap_assoc]
  have hpt : ∀ x, refK (k + 1) x = (refK k x).flatMap (rep1 c (refS c).cps.toList) := by
    intro x
    have hrs : (refS c).cps.toList = refL c := by unfold refS; simp
    rw [hrs]
    have htk : spc.take (k + 1) = spc.take k ++ [c] := by rw [List.take_add_one, hc]; rfl
    have hnd : c ∉ spc.take k := by
      intro hm
      have : ∀ k : Fin 7, ∀ c, spc[k.val]? = some c → c ∉ spc.take k.val := by decide +kernel
      exact this ⟨k, hk⟩ c hc hm
    by_cases hx : x ∈ spc.take k
    · unfold refK
      rw [if_pos hx, if_pos (by rw [htk]; exact List.mem_append_left _ hx)]
      refine (flat_free ?_).symm
      intro hcm
      rcases refL_spc x (List.mem_of_mem_take hx) c hcm with h | h
      · subst h
        have h38 : ∀ k : Fin 7, spc[k.val]? = some 38 → spc.take k.val = [] := by decide +kernel
        rw [h38 ⟨k, hk⟩ hc] at hx
        cases hx
      · exact h (List.mem_of_getElem? hc)
    · by_cases hxc : x = c
      · subst hxc
        unfold refK
        rw [if_neg hx, if_pos (by rw [htk]; exact List.mem_append_right _ List.mem_cons_self)]
        simp [rep1]
      · unfold refK
        rw [if_neg hx, if_neg (by rw [htk]; intro hm; rcases List.mem_append.mp hm with h | h; (· exact hx h); (· exact hxc (List.mem_singleton.mp h)))]
        simp [rep1, hxc]
  congr 1
  congr 1
  exact congrArg (fun f => List.flatMap f t.cps.toList) (funext hpt)
theorem stage_len (k : Nat) (t : Str) : (stage k t).length ≤ 6 * t.length := by
  have h : ∀ l : List Nat, (l.flatMap (refK k)).length ≤ 6 * l.length := by
    intro l
    induction l with
    | nil => simp
    | cons a l ih =>
      rw [List.flatMap_cons, List.length_append, List.length_cons]
      have : (refK k a).length ≤ 6 := by
        unfold refK
        split
        · exact refL_len a
        · simp
      omega
  have := h t.cps.toList
  unfold stage Str.length
  simpa using this
-- D6
section
variable {w : World} {hh : Option Value} {dp un : Nat} {gd : Option (List Code)} {env : Env} {outer : List Env} {A₀ : Around} {base h₀ : Heap} {L : Addr} {m mg mb : Str → Option Value} {mean : ExcName → Option Value}
   {rest : List (Addr × Obj)} {s : Shared} {Q E : Value → Shared → Prop}
theorem law_written_c {t : Str} {k : Tok} (C : Cx w mean mg mb A₀ base outer h₀ L env) (F : Fr h₀ L s.heap m) (N : News h₀ L s.heap rest) (hl : t.length ≤ 5)
   (ret : ∀ h' tk' u, Fr h₀ L h' m → News h₀ L h' rest → Q (.str (wr t) u) { s with heap := h', toks := tk' }) (hd : dp ≤ 760) (hu : un ≤ 3600) :
   wpAny (model PySem.Challenge.rw_oc0121_01.row.prog w) (ax none dp un gd env outer) (call (.ref 189) [.str t k]) Q E s := by
  refine wpAny_le ?_ hd hu
  clear hd hu
  obtain ⟨B, X, T, hf, hk⟩ := C
  w_on
  refine wpAny_call ?_
  refine' code_defC (binds := [(Str.ofString "text", .str t k)]) B F X N T rfl hf hk ?k6 ?k7 ?k8 ?k9 ?kB ?kD ?_ ?c2 ?c3 ?c4
  case k6 => k_is
  case k7 => k_is
  case k8 => k_room
  case k9 => exact BindsTo.of_eq rfl
  case kB => exact rfl
  case kD => decide +kernel
  case c2 => exact rfl
  case c3 => exact rfl
  case c4 => exact rfl
  intro g1 L1 h1 tk1 cells1 FG1 F1 N1 Y1 B1 X1 T1 l1
  (try dsimp only)
  k_fold
  k_cells Y1
  simp only [List.cons_append, List.nil_append] at N1
  rename_i oc hoc
  ((try k_fold); w_strict (k_extra "go"))
  rename_i h2 od F2 N2 lo2 hd2 hf2 ap2 l2
  dsimp only at hd2 hf2 ⊢
  obtain ⟨kvs, hdk, hfk⟩ : ∃ kvs, Obj.IsDictOf (PySem.strKind PySem.Challenge.rw_oc0121_01.row.prog w) od kvs ∧ PyProof.V.FlatPairs PyData.str kvs Dref := ⟨_, hd2, hf2⟩
  clear hd2 hf2
  have hne1 : ∀ q ∈ rest, q.1 ≠ L1 + 1 := fun q hq => Nat.ne_of_lt (Nat.lt_succ_of_lt (l1 q hq))
  refine storeX_C F2 N2 rfl (UpdF.tail (Nat.ne_of_gt l2.1) (UpdF.head hne1)) hoc ?_ rfl rfl
  intro h3 oc3 F3 N3 hoc3
  clear F2 N2
  ((try k_fold); w_strict (k_extra "go"))
  refine ListComp_W F3 (by with_unfolding_all rfl) (by decide) (by rfl) (by decide) (by rfl) ?_
  ((try k_fold); w_strict (k_extra "go"))
  refine comp_str (by rfl) F3 N3 (by omega) ?_
  intro g4
  (try dsimp only)
  refine comp_ind (fun i ys news => news = (h1.objs.size, od) :: (L1 + 1, oc3) :: rest ∧ ∃ xs : List Str, StrsAre ys xs ∧ xs = (t.cps.toList.take i).map refS) ?_ ?_ _ 0 [] _ (Nat.zero_add _) ⟨rfl, [], .nil, rfl⟩
  · rintro i ys _ hin ⟨rfl, xs, hys, hxs⟩ v I oI Cc oC D m₂ h tk E' ⟨c, u, hP, rfl⟩ hC hx F5 N5 off ne
    clear F3 N3
    ((try k_fold); w_strict (k_extra "go"))
    rename_i v hv
    rw [look_ref] at hv
    obtain ⟨u', rfl⟩ : ∃ u', v = .str (refS c) u' := by cases hv {}; exact ⟨_, rfl⟩
    refine LCg.CompEnd.intro F5 N5 _ (fun p hp => hp) off trivial ⟨rfl, xs ++ [refS c], ?_, ?_⟩
    · exact StrsAre.append' hys (.cons _ _ .nil)
    · have hc' : t.cps.toList[i]? = some c := by simpa using hP
      rw [take_succ_of hc', List.map_append, hxs]; rfl
  · rintro ys _ ⟨rfl, xs, hys, hxs⟩
    unfold LCg.FinE
    intro D h7 tk7 F7 N7 o7
    replace o7 := off1_mem o7
    clear F3 N3
    (try dsimp only)
    ((try k_fold); w_strict (k_extra "go"))
    have etk : t.cps.toList.take t.cps.size = t.cps.toList := List.take_of_length_le (by simp)
    rw [etk] at hxs
    subst hxs
    refine join_list ⟨_, (N7 _ (.head _)).1, rfl, _, rfl⟩ hys ?_ ?_
    · have h1 := refs_sum t.cps.toList
      have h2 : t.cps.toList.length = t.length := by simp [Str.length]
      have h3 : (Str.ofString "").length = 0 := by decide +kernel
      rw [h3]
      omega
    intro u8 tk8
    rw [join_empty]
    ((try k_fold); w_strict (k_extra "go"))
    rename Fr _ _ _ _ => kF
    rename News _ _ _ _ => kN
    exact ret _ _ _ kF (fun p hp => kN p (.tail _ (.tail _ (.tail _ hp))))
end
-- D7
inductive EMid (s : Shared) (g1 : Heap) (L1 : Addr) (rest : List (Addr × Obj)) (T : Str) (f : Flow) (s' : Shared) : Prop
  | mk (x0 : f = .next) (h : Heap) (tk : Nat) (m' : Str → Option Value) (u : Tok) (x1 : s' = { s with heap := h, toks := tk }) (x2 : Fr g1 L1 h m') (x3 : News g1 L1 h rest) (x4 : m' (Str.ofString "text") = some (.str T u)) : EMid s g1 L1 rest T f s'
theorem EMid.intro {s : Shared} {g1 : Heap} {L1 : Addr} {rest : List (Addr × Obj)} {T T' : Str} {h : Heap} {tk : Nat} {m' : Str → Option Value} {u : Tok} (F : Fr g1 L1 h m') (N : News g1 L1 h rest) (e : m' (Str.ofString "text") = some (.str T' u)) (eT : T' = T) : EMid s g1 L1 rest T .next { s with heap := h, toks := tk } := by
  subst eT
  exact ⟨rfl, h, tk, m', u, rfl, F, N, e⟩
section
variable {w : World} {hh : Option Value} {dp un : Nat} {gd : Option (List Code)} {env : Env} {outer : List Env} {A₀ : Around} {base h₀ : Heap} {L : Addr} {m mg mb : Str → Option Value} {mean : ExcName → Option Value}
   {rest : List (Addr × Obj)} {s : Shared} {Q E : Value → Shared → Prop}
/-- one of the seven statements -/
theorem esc1 {A : Around} {a b : Str} {t : Str} {c i tk1 : Nat} {k : Tok} {L1 : Addr} {g1 h1 : Heap} {outer1 : List Env} {m1 : Str → Option Value} {pl : Sem Bool} {p1 p2 p3 p4 p5 p6 p7 p8 p9 p10 p11 : Pos} (ht : 1 ≤ tk1) (F1 : Fr g1 L1 h1 m1) (N1 : News g1 L1 h1 rest) (B1 : Below A base outer1 g1) (X1 : (hd.heap_39 w.params).In g1) (T1 : Top hd.view_39 (looseW hd.view_39 []) mean mg mb g1)
   (e1 : m1 (Str.ofString "text") = some (.str (stage i t) k)) (hl : t.length ≤ 5) (hk : i < 7) (hc : spc[i]? = some c) (ea : a = ⟨#[c]⟩) (eb : b = refS c) (hab : (a == b) = false) (hb : b.length ≤ 14)
   (hcall : ∀ {Q E : Value → Shared → Prop} {s : Shared}, wpAny (model PySem.Challenge.rw_oc0121_01.row.prog w) (A.deeper (envOf (Str.ofString "_escape_attrib") { kind := .function, names := [(Str.ofString "text", NameKind.local), (Str.ofString "TypeError", NameKind.globalImplicit), (Str.ofString "AttributeError", NameKind.globalImplicit), (Str.ofString "_raise_serialization_error", NameKind.globalImplicit)], isGenerator := false, isCoroutine := false } L1 106 (.ref 105))) (eval (.Name (Str.ofString "text") p5) (envOf (Str.ofString "_escape_attrib") { kind := .function, names := [(Str.ofString "text", NameKind.local), (Str.ofString "TypeError", NameKind.globalImplicit), (Str.ofString "AttributeError", NameKind.globalImplicit), (Str.ofString "_raise_serialization_error", NameKind.globalImplicit)], isGenerator := false, isCoroutine := false } L1 106 (.ref 105))) (fun ov s₁ => wpAny (model PySem.Challenge.rw_oc0121_01.row.prog w) (A.deeper (envOf (Str.ofString "_escape_attrib") { kind := .function, names := [(Str.ofString "text", NameKind.local), (Str.ofString "TypeError", NameKind.globalImplicit), (Str.ofString "AttributeError", NameKind.globalImplicit), (Str.ofString "_raise_serialization_error", NameKind.globalImplicit)], isGenerator := false, isCoroutine := false } L1 106 (.ref 105))) (getMethod ov (Str.ofString "replace") pl) (fun fx s₂ => wpAny (model PySem.Challenge.rw_oc0121_01.row.prog w) (A.deeper (envOf (Str.ofString "_escape_attrib") { kind := .function, names := [(Str.ofString "text", NameKind.local), (Str.ofString "TypeError", NameKind.globalImplicit), (Str.ofString "AttributeError", NameKind.globalImplicit), (Str.ofString "_raise_serialization_error", NameKind.globalImplicit)], isGenerator := false, isCoroutine := false } L1 106 (.ref 105))) (callWith p9 fx.1 fx.2 (backTo p9 (starEach [.Constant (.str a) 0 p7, .Constant (.str b) 0 p8] (envOf (Str.ofString "_escape_attrib") { kind := .function, names := [(Str.ofString "text", NameKind.local), (Str.ofString "TypeError", NameKind.globalImplicit), (Str.ofString "AttributeError", NameKind.globalImplicit), (Str.ofString "_raise_serialization_error", NameKind.globalImplicit)], isGenerator := false, isCoroutine := false } L1 106 (.ref 105)))) []) Q E s₂) E s₁) E s → wpAny (model PySem.Challenge.rw_oc0121_01.row.prog w) (A.deeper (envOf (Str.ofString "_escape_attrib") { kind := .function, names := [(Str.ofString "text", NameKind.local), (Str.ofString "TypeError", NameKind.globalImplicit), (Str.ofString "AttributeError", NameKind.globalImplicit), (Str.ofString "_raise_serialization_error", NameKind.globalImplicit)], isGenerator := false, isCoroutine := false } L1 106 (.ref 105))) (eval (.Call (.Attribute (.Name (Str.ofString "text") p5) (Str.ofString "replace") p6) [.Constant (.str a) 0 p7, .Constant (.str b) 0 p8] [] p9) (envOf (Str.ofString "_escape_attrib") { kind := .function, names := [(Str.ofString "text", NameKind.local), (Str.ofString "TypeError", NameKind.globalImplicit), (Str.ofString "AttributeError", NameKind.globalImplicit), (Str.ofString "_raise_serialization_error", NameKind.globalImplicit)], isGenerator := false, isCoroutine := false } L1 106 (.ref 105))) Q E s) :
   wpAny (model PySem.Challenge.rw_oc0121_01.row.prog w) (A.deeper (envOf (Str.ofString "_escape_attrib") { kind := .function, names := [(Str.ofString "text", NameKind.local), (Str.ofString "TypeError", NameKind.globalImplicit), (Str.ofString "AttributeError", NameKind.globalImplicit), (Str.ofString "_raise_serialization_error", NameKind.globalImplicit)], isGenerator := false, isCoroutine := false } L1 106 (.ref 105))) (exec (.If (.Compare (.Constant (.str a) 0 p1) [.In] [.Name (Str.ofString "text") p2] p3) [.Assign [.Name (Str.ofString "text") p4] (.Call (.Attribute (.Name (Str.ofString "text") p5) (Str.ofString "replace") p6) [.Constant (.str a) 0 p7, .Constant (.str b) 0 p8] [] p9) p10] [] p11) (envOf (Str.ofString "_escape_attrib") { kind := .function, names := [(Str.ofString "text", NameKind.local), (Str.ofString "TypeError", NameKind.globalImplicit), (Str.ofString "AttributeError", NameKind.globalImplicit), (Str.ofString "_raise_serialization_error", NameKind.globalImplicit)], isGenerator := false, isCoroutine := false } L1 106 (.ref 105)))
     (EMid s g1 L1 rest (stage (i + 1) t)) (fun _ _ => False) { s with heap := h1, toks := tk1 } := by
  have hl0 : (stage i t).length ≤ 1048576 := by
    have := stage_len i t
    omega
  have hs0 : stage (i + 1) t = Txt.replace (stage i t) a b := by
    rw [ea, eb]
    exact stage_succ hk hc t
  clear eb
  w_on
  w_strict (repeat' ((fail_if_success (with_reducible show wpAny _ _ (execs _ _) _ _ _)); (first | (k_unfold; (try dsimp only)) | walk1 | (dsimp only; walk1))))
  · ((try k_fold); w_strict (k_extra "go"))
    rename List.isEmpty _ = true => hc
    refine EMid.intro (by assumption) (by assumption) (by k_extra "unf") ?_
    rw [hs0]
    rw [ea] at hc ⊢
    exact (replace_not' hc).symm
  · have ht2 : 1 ≤ tk1 + 1 := Nat.le_add_left _ _
    (try dsimp only)
    generalize tk1 + 1 = tk2 at ht2 ⊢
    ((try k_fold); w_strict (k_extra "go"))
    refine hcall ?_
    ((try k_fold); w_strict (k_extra "go"))
    show wpAny _ _ (call (Value.builtin "str.replace") [Value.str (stage i t) _, Value.str a tk2, Value.str b (tk2 + 1)]) _ _ _
    refine SC.replaceW (Nat.ne_of_gt ht2) (Nat.succ_ne_zero _) (Nat.ne_of_lt (Nat.lt_succ_self _)) hab hl0 hb ?_
    intro u3 tk3
    ((try k_fold); w_strict (k_extra "go"))
    exact EMid.intro (by assumption) (by assumption) (by k_extra "unf") hs0.symm
theorem escape_c {t : Str} {k : Tok} (C : Cx w mean mg mb A₀ base outer h₀ L env) (F : Fr h₀ L s.heap m) (N : News h₀ L s.heap rest) (hl : t.length ≤ 5)
   (ret : ∀ h' tk' u, Fr h₀ L h' m → News h₀ L h' rest → Q (.str (wr t) u) { s with heap := h', toks := tk' }) (hd : dp ≤ 760) (hu : un ≤ 3600) :
   wpAny (model PySem.Challenge.rw_oc0121_01.row.prog w) (ax none dp un gd env outer) (call (.ref 106) [.str t k]) Q E s := by
  refine wpAny_le ?_ hd hu
  clear hd hu
  obtain ⟨B, X, T, hf, hk⟩ := C
  w_on
  refine wpAny_call ?_
  refine' code_def (binds := [(Str.ofString "text", .str t k)]) B F X N T rfl hf hk ?k6 ?k7 ?k8 ?k9 ?kB ?_ ?c2 ?c3 ?c4 ?c5
  case k6 => k_is
  case k7 => k_is
  case k8 => k_room
  case k9 => exact BindsTo.of_eq rfl
  case kB => exact locs rfl
  case c2 => exact rfl
  case c3 => exact rfl
  case c4 => exact rfl
  case c5 => decide
  intro g1 L1 h1 FG1 F1 N1 B1 X1 T1
  (try dsimp only)
  k_fold
  obtain ⟨tk1, ht0⟩ : ∃ tk, tk = s.toks + [(Str.ofString "text", Value.str t k)].length := ⟨_, rfl⟩
  have ht : 1 ≤ tk1 := by rw [ht0]; exact Nat.le_add_left _ _
  rw [← ht0]
  clear ht0
  iterate 3 (first | (k_unfold; (try dsimp only)) | walk1 | (dsimp only; walk1))
  have e1 : (fun y => List.lookup y [(Str.ofString "text", Value.str t k)].reverse) (Str.ofString "text") = some (.str (stage 0 t) k) := by rw [stage_zero]; rfl
  generalize (fun y => List.lookup y [(Str.ofString "text", Value.str t k)].reverse) = m1 at F1 e1
  refine wpAny_with_toks (n := 1) ht ?_
  refine wpAny_mono (Q := EMid s g1 L1 rest (stage 1 t)) (E := fun _ _ => False) (esc1 (i := 0) (c := 38) ht F1 N1 B1 X1 T1 e1 hl (by decide) rfl (by decide +kernel) (by decide +kernel) (by decide +kernel) (by decide +kernel) (fun h => MethodCall_ h)) ?_ (fun _ _ h => h.elim)
  clear F1 N1 e1 ht
  rintro f s' ⟨rfl, h1, tk1, m1, k1, rfl, F1, N1, e1⟩ ht
  replace ht : 1 ≤ tk1 := ht
  (try dsimp only)
  iterate 1 (first | (k_unfold; (try dsimp only)) | walk1 | (dsimp only; walk1))
  refine wpAny_with_toks (n := 1) ht ?_
  refine wpAny_mono (Q := EMid s g1 L1 rest (stage 2 t)) (E := fun _ _ => False) (esc1 (i := 1) (c := 60) ht F1 N1 B1 X1 T1 e1 hl (by decide) rfl (by decide +kernel) (by decide +kernel) (by decide +kernel) (by decide +kernel) (fun h => MethodCall_ h)) ?_ (fun _ _ h => h.elim)
  clear F1 N1 e1 ht
  rintro f s' ⟨rfl, h1, tk1, m1, k1, rfl, F1, N1, e1⟩ ht
  replace ht : 1 ≤ tk1 := ht
  (try dsimp only)
  iterate 1 (first | (k_unfold; (try dsimp only)) | walk1 | (dsimp only; walk1))
  refine wpAny_with_toks (n := 1) ht ?_
  refine wpAny_mono (Q := EMid s g1 L1 rest (stage 3 t)) (E := fun _ _ => False) (esc1 (i := 2) (c := 62) ht F1 N1 B1 X1 T1 e1 hl (by decide) rfl (by decide +kernel) (by decide +kernel) (by decide +kernel) (by decide +kernel) (fun h => MethodCall_ h)) ?_ (fun _ _ h => h.elim)
  clear F1 N1 e1 ht
  rintro f s' ⟨rfl, h1, tk1, m1, k1, rfl, F1, N1, e1⟩ ht
  replace ht : 1 ≤ tk1 := ht
  (try dsimp only)
  iterate 1 (first | (k_unfold; (try dsimp only)) | walk1 | (dsimp only; walk1))
  refine wpAny_with_toks (n := 1) ht ?_
  refine wpAny_mono (Q := EMid s g1 L1 rest (stage 4 t)) (E := fun _ _ => False) (esc1 (i := 3) (c := 34) ht F1 N1 B1 X1 T1 e1 hl (by decide) rfl (by decide +kernel) (by decide +kernel) (by decide +kernel) (by decide +kernel) (fun h => MethodCall_ h)) ?_ (fun _ _ h => h.elim)
  clear F1 N1 e1 ht
  rintro f s' ⟨rfl, h1, tk1, m1, k1, rfl, F1, N1, e1⟩ ht
  replace ht : 1 ≤ tk1 := ht
  (try dsimp only)
  iterate 1 (first | (k_unfold; (try dsimp only)) | walk1 | (dsimp only; walk1))
  refine wpAny_with_toks (n := 1) ht ?_
  refine wpAny_mono (Q := EMid s g1 L1 rest (stage 5 t)) (E := fun _ _ => False) (esc1 (i := 4) (c := 13) ht F1 N1 B1 X1 T1 e1 hl (by decide) rfl (by decide +kernel) (by decide +kernel) (by decide +kernel) (by decide +kernel) (fun h => MethodCall_ h)) ?_ (fun _ _ h => h.elim)
  clear F1 N1 e1 ht
  rintro f s' ⟨rfl, h1, tk1, m1, k1, rfl, F1, N1, e1⟩ ht
  replace ht : 1 ≤ tk1 := ht
  (try dsimp only)
  iterate 1 (first | (k_unfold; (try dsimp only)) | walk1 | (dsimp only; walk1))
  refine wpAny_with_toks (n := 1) ht ?_
  refine wpAny_mono (Q := EMid s g1 L1 rest (stage 6 t)) (E := fun _ _ => False) (esc1 (i := 5) (c := 10) ht F1 N1 B1 X1 T1 e1 hl (by decide) rfl (by decide +kernel) (by decide +kernel) (by decide +kernel) (by decide +kernel) (fun h => MethodCall_ h)) ?_ (fun _ _ h => h.elim)
  clear F1 N1 e1 ht
  rintro f s' ⟨rfl, h1, tk1, m1, k1, rfl, F1, N1, e1⟩ ht
  replace ht : 1 ≤ tk1 := ht
  (try dsimp only)
  iterate 1 (first | (k_unfold; (try dsimp only)) | walk1 | (dsimp only; walk1))
  refine wpAny_with_toks (n := 1) ht ?_
  refine wpAny_mono (Q := EMid s g1 L1 rest (stage 7 t)) (E := fun _ _ => False) (esc1 (i := 6) (c := 9) ht F1 N1 B1 X1 T1 e1 hl (by decide) rfl (by decide +kernel) (by decide +kernel) (by decide +kernel) (by decide +kernel) (fun h => MethodCall_ h)) ?_ (fun _ _ h => h.elim)
  clear F1 N1 e1 ht
  rintro f s' ⟨rfl, h1, tk1, m1, k1, rfl, F1, N1, e1⟩ ht
  replace ht : 1 ≤ tk1 := ht
  (try dsimp only)
  rw [stage_seven] at e1
  ((try k_fold); w_strict (k_extra "go"))
  exact ret _ _ _ (by assumption) (by assumption)
end
-- F1
section
variable {w : World} {hh : Option Value} {dp un : Nat} {gd : Option (List Code)} {env : Env} {outer : List Env} {A₀ : Around} {base h₀ : Heap} {L : Addr} {m mg mb : Str → Option Value} {mean : ExcName → Option Value}
   {rest : List (Addr × Obj)} {s : Shared} {Q E : Value → Shared → Prop}
theorem str_name {v : Value} {t : Str} (C : Cx w mean mg mb A₀ base outer h₀ L env) (F : Fr h₀ L s.heap m) (N : News h₀ L s.heap rest) (h1 : Nm rest v t)
   (ret : ∀ h' tk' k, Fr h₀ L h' m → News h₀ L h' rest → Q (.str t k) { s with heap := h', toks := tk' }) (hd : dp ≤ 900) (hu : un ≤ 5000) :
   wpAny (model PySem.Challenge.rw_oc0121_01.row.prog w) (ax hh dp un gd env outer) (call (.type "str") [v]) Q E s := by
  refine wpAny_le ?_ hd hu
  clear hd hu
  obtain ⟨B, X, T, hf, hk⟩ := C
  w_on
  cases h1 with
  | str => ((try k_fold); w_strict (k_steps)); exact ret _ _ _ F N
  | q a b =>
    rename_i x dx hs k1 k2 n
    ((try k_fold); w_strict (k_steps))
    refine wpAny_call ?_
    refine' code_def (binds := [(Str.ofString "self", .ref x)]) B F X N T rfl hf hk ?k6 ?k7 ?k8 ?k9 ?kB ?_ ?c2 ?c3 ?c4 ?c5
    case k6 => k_is
    case k7 => k_is
    case k8 => k_room
    case k9 => exact BindsTo.of_eq rfl
    case kB => exact locs rfl
    case c2 => exact rfl
    case c3 => exact rfl
    case c4 => exact rfl
    case c5 => decide
    intro g1 L1 h1 FG1 F1 N1 B1 X1 T1
    (try dsimp only)
    k_fold
    ((try k_fold); w_strict (k_extra "go"))
    exact ret _ _ _ (by assumption) (by assumption)
end
-- L1
noncomputable def lawS : List Stmt := match PySem.Challenge.pw_oc0121_01.main.body.getLast? with
  | some (.FunctionDef _ _ b _ _ _ _ _ _ _) => b
  | _ => []
noncomputable def lawSc : Scope := match PySem.Challenge.pw_oc0121_01.main.body.getLast? with
  | some (.FunctionDef _ _ _ _ _ _ sc _ _ _) => sc
  | _ => { kind := .function, names := [], isGenerator := false, isCoroutine := false }
noncomputable def lawE (L fa : Addr) (cd : Value) : Env := envOfC (Str.ofString "law") lawSc L fa cd
noncomputable def lawSt (k : Nat) : Stmt := match lawS.drop k with
  | st :: _ => st
  | [] => .Pass ⟨0, 0, 0, 0⟩
theorem sc_fn (L fa : Addr) (cd : Value) : (lawE L fa cd).scope.kind = .function := by rfl
section
variable {w : World} {hh : Option Value} {dp un : Nat} {gd : Option (List Code)} {env : Env} {outer : List Env} {A₀ : Around} {base h₀ : Heap} {L : Addr} {m mg mb : Str → Option Value} {mean : ExcName → Option Value}
   {rest : List (Addr × Obj)} {s : Shared} {Q E : Value → Shared → Prop}
theorem strs_of {ps : List PV} (h : Txts ps) : StrsAre (ps.map (·.1)) (ps.map (·.2)) := by
  induction ps with
  | nil => exact .nil
  | cons p ps ih =>
    obtain ⟨k, e⟩ := h p (.head _)
    simp only [List.map_cons]
    rw [e]
    exact .cons _ _ (ih fun q hq => h q (.tail _ hq))
theorem of_strs {vs : List Value} {ss : List Str} (h : StrsAre vs ss) : ∃ ps : List PV, vs = ps.map (·.1) ∧ ss = ps.map (·.2) ∧ Txts ps := by
  induction h with
  | nil => exact ⟨[], rfl, rfl, fun _ h => nomatch h⟩
  | cons y t _ ih =>
    obtain ⟨ps, rfl, rfl, h⟩ := ih
    exact ⟨(.str y t, y) :: ps, rfl, rfl, fun q hq => by
      rcases List.mem_cons.mp hq with rfl | hq
      · exact ⟨t, rfl⟩
      · exact h q hq⟩
theorem rising_pw : ∀ (p : Str) (l : List Str), risingS p l = true → (p :: l).Pairwise tle
  | p, [], _ => List.pairwise_singleton _ _
  | p, x :: r, h => by
    have h' : (!Spec.ltCps x.cps.toList p.cps.toList && risingS x r) = true := h
    rw [Bool.and_eq_true] at h'
    have ih := rising_pw x r h'.2
    have hpx : tle p x := fun q => by
      have : Spec.ltCps x.cps.toList p.cps.toList = true := by rw [ltCps_eq]; exact decide_eq_true q
      rw [this] at h'; exact absurd h'.1 (by decide)
    refine List.pairwise_cons.mpr ⟨fun y hy => ?_, ih⟩
    rcases List.mem_cons.mp hy with rfl | hy
    · exact hpx
    · exact tle_trans hpx ((List.pairwise_cons.mp ih).1 y hy)
theorem sorted_pw (l : List Str) (h : sortedS l = true) : l.Pairwise tle := by
  cases l with
  | nil => exact .nil
  | cons x r => exact rising_pw x r h
theorem seg1 {fa : Addr} {cd : Value} {D : Addr} {ws : List Value} {ns : List Int} {n : Nat} {Q : Flow → Shared → Prop} (B : Below A₀ base [] h₀) (X : (hd.heap_39 w.params).In h₀) (T : Top hd.view_39 (looseW hd.view_39 []) mean mg mb h₀)
   (F : Fr h₀ L s.heap m) (N : News h₀ L s.heap rest) (hm : m (Str.ofString "numbers") = some (.ref D)) (hD : (D, W.listOf ws.toArray n) ∈ rest) (hi : IntsAre ws ns) (hl : ns.length < 20)
   (ret : ∀ h' tk' Tx S0 S1 p0 p1 n0 n1 n2 tl, Fr h₀ L h' (fun y => if y = Str.ofString "texts" then some (.ref Tx) else m y) → News h₀ L h' (tl ++ rest) → (∀ p ∈ tl, ∀ q ∈ rest, p.1 ≠ q.1) → (Tx, W.listOf #[.ref S0, .ref S1] n2) ∈ tl → (S0, lob p0 n0) ∈ tl → (S1, lob p1 n1) ∈ tl →
     Txts p0 → Txts p1 → (p0.map (·.2)).Perm ((ns.filter fun x => decide (¬ x.fmod 3 = 1)).map txt) → (p1.map (·.2)).Perm ((ns.filter fun x => decide (¬ x.fmod 3 = 0)).map txt) → (p0.map (·.2)).Pairwise tle → (p1.map (·.2)).Pairwise tle → Q .next { s with heap := h', toks := tk' }) :
   wpAny (model PySem.Challenge.rw_oc0121_01.row.prog w) (ax none 302 8 gd (lawE L fa cd) []) (exec (lawSt 1) (lawE L fa cd)) Q E s := by
  w_on
  conv => arg 3; arg 1; whnf
  ((try k_fold); w_strict (k_extra "go"))
  have etk : ns.take ws.toArray.size = ns := List.take_of_length_le (by rw [List.size_toArray, hi.length]; exact Nat.le_refl _)
  refine LCt.ListComp_T F (by rfl) (by decide) (by rfl) (by decide) (by rfl) ?_
  ((try k_fold); w_strict (k_extra "go"))
  refine LCt.CompSrcT.ledger (by rfl) F N (hD) (by rw [sizeLine_eq, List.size_toArray, hi.length]; omega) ?_
  intro g1
  refine comp_indT (fun i ys news => rest = news ∧ ∃ ps : List PV, ys = ps.map (·.1) ∧ Txts ps ∧ ps.map (·.2) = ((ns.take i).filter fun x => decide (¬ x.fmod 3 = 1)).map txt) ?_ ?_ _ 0 [] _ (Nat.zero_add _) ⟨rfl, [], rfl, fun _ h => (nomatch h), rfl⟩
  · rintro i ys _ hin ⟨rfl, ps, rfl, hps, htx⟩ v I oI Cc oC D m₂ h tk E' hP hC hx F2 N2 off ne
    obtain ⟨k, t, hk1, rfl⟩ := ints_at hi hP
    ((try k_fold); w_strict (k_extra "go"))
    · rename Fr _ _ _ _ => F3
      rename News _ _ _ _ => N3
      rename ¬ (_ : Int) = 1 => hne
      refine law_text_c ⟨B, X, T, rfl, rfl⟩ F3 N3 ?_ (Nat.le_of_ble_eq_true rfl) (Nat.le_of_ble_eq_true rfl)
      intro h4 tk4 u4 F4 N4
      refine LCg.CompEnd.intro F4 N4 _ (fun p hp => hp) off (.inr ⟨_, hD, rfl, _, rfl⟩) ⟨rfl, ps ++ [(.str (txt k) u4, txt k)], by rw [List.map_append]; rfl, ?_, ?_⟩
      · intro p hp
        rcases List.mem_append.mp hp with h | h
        · exact hps p h
        · rw [List.mem_singleton.mp h]
          exact ⟨u4, rfl⟩
      · rw [take_succ_of hk1, List.filter_append, List.map_append, List.map_append, htx]; simp [hne]
    · rename (_ : Int) = 1 => he
      exact LCg.CompEnd.intro F2 N2 _ (fun p hp => hp) off (.inr ⟨_, hD, rfl, _, rfl⟩) ⟨rfl, ps, rfl, hps, by rw [take_succ_of hk1, List.filter_append, htx]; simp [he]⟩
  rintro ys _ ⟨rfl, q1, rfl, tq1, hq1⟩
  unfold LCg.FinE
  rw [etk] at hq1
  intro D1 h3 tk3 F3 N3 o1
  clear F N
  ((try k_fold); w_strict (k_extra "go"))
  have lq1 : (q1.map (·.1)).length < 64 := by
    have := congrArg List.length hq1
    have := List.length_filter_le (fun x => decide (¬ x.fmod 3 = 1)) ns
    simp only [List.length_map] at *
    omega
  refine sorted_N_str (vs := q1.map (·.1)) F3 N3 ⟨_, (N3 _ (.head _)).1, rfl, _, rfl⟩ (strs_of tq1) lq1 ?_
  intro h4 vs4 ss4 e4 F4 N4 hS4 hP4 hs4
  obtain ⟨p0, rfl, rfl, tp0⟩ := of_strs hS4
  have lS0 : ∀ q ∈ (D1, LCg.lst (q1.map (·.1))) :: rest, q.1 ≠ h3.objs.size + 1 := fun q hq => Nat.ne_of_lt (Nat.lt_succ_of_lt (Heap.lt_size (N3 q hq).1))
  generalize h3.objs.size + 1 = S0 at *
  replace N4 : News h₀ L h4 ((S0, lob p0 e4) :: (D1, LCg.lst (q1.map (·.1))) :: rest) := N4
  clear F3 N3
  (try dsimp only)
  ((try k_fold); w_strict (k_extra "go"))
  refine LCt.ListComp_T F4 (by rfl) (by decide) (by rfl) (by decide) (by rfl) ?_
  ((try k_fold); w_strict (k_extra "go"))
  refine LCt.CompSrcT.ledger (by rfl) F4 N4 (.tail _ (.tail _ hD)) (by rw [sizeLine_eq, List.size_toArray, hi.length]; omega) ?_
  intro g2
  refine comp_indT (fun i ys news => ((S0, lob p0 e4) :: (D1, LCg.lst (q1.map (·.1))) :: rest) = news ∧ ∃ ps : List PV, ys = ps.map (·.1) ∧ Txts ps ∧ ps.map (·.2) = ((ns.take i).filter fun x => decide (¬ x.fmod 3 = 0)).map txt) ?_ ?_ _ 0 [] _ (Nat.zero_add _) ⟨rfl, [], rfl, fun _ h => (nomatch h), rfl⟩
  · rintro i ys _ hin ⟨rfl, ps, rfl, hps, htx⟩ v I oI Cc oC D m₂ h tk E' hP hC hx F2 N2 off ne
    obtain ⟨k, t, hk1, rfl⟩ := ints_at hi hP
    ((try k_fold); w_strict (k_extra "go"))
    · rename Fr _ _ _ _ => F3
      rename News _ _ _ _ => N3
      rename ¬ (_ : Int) = 0 => hne
      refine law_text_c ⟨B, X, T, rfl, rfl⟩ F3 N3 ?_ (Nat.le_of_ble_eq_true rfl) (Nat.le_of_ble_eq_true rfl)
      intro h4 tk4 u4 F4 N4
      refine LCg.CompEnd.intro F4 N4 _ (fun p hp => hp) off (.inr ⟨_, .tail _ (.tail _ hD), rfl, _, rfl⟩) ⟨rfl, ps ++ [(.str (txt k) u4, txt k)], by rw [List.map_append]; rfl, ?_, ?_⟩
      · intro p hp
        rcases List.mem_append.mp hp with h | h
        · exact hps p h
        · rw [List.mem_singleton.mp h]
          exact ⟨u4, rfl⟩
      · rw [take_succ_of hk1, List.filter_append, List.map_append, List.map_append, htx]; simp [hne]
    · rename (_ : Int) = 0 => he
      exact LCg.CompEnd.intro F2 N2 _ (fun p hp => hp) off (.inr ⟨_, .tail _ (.tail _ hD), rfl, _, rfl⟩) ⟨rfl, ps, rfl, hps, by rw [take_succ_of hk1, List.filter_append, htx]; simp [he]⟩
  rintro ys _ ⟨rfl, q2, rfl, tq2, hq2⟩
  unfold LCg.FinE
  rw [etk] at hq2
  intro D2 h5 tk5 F5 N5 o5
  clear F4 N4
  ((try k_fold); w_strict (k_extra "go"))
  have lq2 : (q2.map (·.1)).length < 64 := by
    have := congrArg List.length hq2
    have := List.length_filter_le (fun x => decide (¬ x.fmod 3 = 0)) ns
    simp only [List.length_map] at *
    omega
  refine sorted_N_str (vs := q2.map (·.1)) F5 N5 ⟨_, (N5 _ (.head _)).1, rfl, _, rfl⟩ (strs_of tq2) lq2 ?_
  intro h6 vs6 ss6 e6 F6 N6 hS6 hP6 hs6
  obtain ⟨p1, rfl, rfl, tp1⟩ := of_strs hS6
  have lS1 : ∀ q ∈ (D2, LCg.lst (q2.map (·.1))) :: (S0, lob p0 e4) :: (D1, LCg.lst (q1.map (·.1))) :: rest, q.1 ≠ h5.objs.size + 1 := fun q hq => Nat.ne_of_lt (Nat.lt_succ_of_lt (Heap.lt_size (N5 q hq).1))
  generalize h5.objs.size + 1 = S1 at *
  replace N6 : News h₀ L h6 ((S1, lob p1 e6) :: (D2, LCg.lst (q2.map (·.1))) :: (S0, lob p0 e4) :: (D1, LCg.lst (q1.map (·.1))) :: rest) := N6
  clear F5 N5
  (try dsimp only)
  ((try k_fold); w_strict (k_extra "go"))
  rename_i Tx h7 l7 h8 F8 N8
  have o1' := off1_mem o1
  have o5' := off1_mem o5
  refine ret h8 _ Tx S0 S1 p0 p1 e4 e6 0 [(Tx, W.listOf #[.ref S0, .ref S1] 0), (S1, lob p1 e6), (D2, LCg.lst (q2.map fun x : PV => x.1)), (S0, lob p0 e4), (D1, LCg.lst (q1.map fun x : PV => x.1))] F8 N8 ?_ (.head _) (.tail _ (.tail _ (.tail _ (.head _)))) (.tail _ (.head _)) tp0 tp1 (by rw [← hq1]; exact hP4) (by rw [← hq2]; exact hP6) (sorted_pw _ hs4) (sorted_pw _ hs6)
  exact off_lt (kst_ltOf l7.2.2.2.2) (off_to (fun q hq => lS1 q (.tail _ (.tail _ (.tail _ hq)))) (off_to (fun q hq => o5' q (.tail _ (.tail _ hq))) (off_to (fun q hq => lS0 q (.tail _ hq)) (off_to o1' off_nil))))
end
-- Maps
/-- what the making of one value brings -/
inductive Out (h₀ : Heap) (L : Addr) (m : Str → Option Value) (s : Shared) (all : List (Addr × Obj)) (R : Value → List (Addr × Obj) → Prop) (y : Value) (s' : Shared) : Prop
  | mk (h' : Heap) (tk : Nat) (tl : List (Addr × Obj)) (x1 : s' = { s with heap := h', toks := tk }) (x2 : Fr h₀ L h' m) (x3 : News h₀ L h' (tl ++ all)) (x4 : ∀ p ∈ tl, ∀ q ∈ all, p.1 ≠ q.1) (x5 : R y tl) : Out h₀ L m s all R y s'
theorem Out.intro {h₀ : Heap} {L : Addr} {m : Str → Option Value} {s : Shared} {all : List (Addr × Obj)} {R : Value → List (Addr × Obj) → Prop} {y : Value} {h' : Heap} {tk : Nat} (tl : List (Addr × Obj)) (F : Fr h₀ L h' m) (N : News h₀ L h' (tl ++ all)) (off : ∀ p ∈ tl, ∀ q ∈ all, p.1 ≠ q.1) (hR : R y tl) :
    Out h₀ L m s all R y { s with heap := h', toks := tk } := ⟨h', tk, tl, rfl, F, N, off, hR⟩
section
variable {w : World} {A : Around} {h₀ : Heap} {L : Addr} {m : Str → Option Value} {env : Env} {ct elt : Expr} {x : Str} {scope : Scope} {cl : List (Str × Addr)} {s : Shared} {S : List (Addr × Obj) → Prop} {P : Nat → Value → Prop} {Fin : List Value → List (Addr × Obj) → Prop} {W0 : List (Addr × Obj)}
/-- a comprehension without a test, value by value -/
theorem comp_map {n : Nat} (R : Nat → Value → List (Addr × Obj) → Prop) (mono : ∀ i y l l', R i y l → (∀ p ∈ l, p ∈ l') → R i y l') (hS : ∀ tl, S (tl ++ W0))
    (step : ∀ i v tl I oI C oC D oD m₂ h tk (E' : Value → Shared → Prop), i < n → P i v → LCg.NsObj oC m₂ → m₂ x = some v → Fr h₀ L h m → News h₀ L h ((I, oI) :: (C, oC) :: (D, oD) :: (tl ++ W0)) → (∀ p ∈ tl ++ W0, p.1 ≠ I ∧ p.1 ≠ C ∧ p.1 ≠ D) →
      wpAny (model PySem.Challenge.rw_oc0121_01.row.prog w) A (eval elt (compEnvC scope cl C env)) (Out h₀ L m { s with heap := h, toks := tk } ((I, oI) :: (C, oC) :: (D, oD) :: (tl ++ W0)) (fun y tl' => R i y (tl' ++ (tl ++ W0)))) E' { s with heap := h, toks := tk })
    (fin : ∀ ys tl, (∀ p ∈ tl, ∀ q ∈ W0, p.1 ≠ q.1) → ys.length = n → (∀ j y, ys[j]? = some y → R j y (tl ++ W0)) → Fin ys (tl ++ W0)) :
    LCg.CompRest PySem.Challenge.rw_oc0121_01.row.prog w A h₀ L m env elt x scope cl s S P Fin n 0 [] W0 := by
  refine comp_ind (fun i ys news => ∃ tl, news = tl ++ W0 ∧ (∀ p ∈ tl, ∀ q ∈ W0, p.1 ≠ q.1) ∧ ys.length = i ∧ ∀ j y, ys[j]? = some y → R j y (tl ++ W0)) ?_ ?_ n 0 [] W0 (Nat.zero_add _) ⟨[], rfl, fun _ h => (nomatch h), rfl, fun j y h => by simp at h⟩
  · rintro i ys _ hin ⟨tl, rfl, ho, hlen, hR⟩ v I oI C oC D m₂ h tk E' hP hC hx F N off ne
    have hoff := LCg.Off3.mem off
    refine wpAny_mono (step i v tl I oI C oC D _ m₂ h tk E' hin hP hC hx F N hoff) (fun y s' hy => ?_) fun _ _ z => z
    obtain ⟨h', tk', tl', rfl, F', N', o', hy⟩ := hy
    refine LCg.CompEnd.intro F' N' (tl' ++ (tl ++ W0)) sub3 (LCg.Off3.of ?_) (by rw [← List.append_assoc]; exact hS _) ⟨tl' ++ tl, (List.append_assoc ..).symm, ?_, by rw [List.length_append, hlen]; rfl, ?_⟩
    · intro p hp
      rcases List.mem_append.mp hp with h | h
      · exact ⟨o' p h _ (.head _), o' p h _ (.tail _ (.head _)), o' p h _ (.tail _ (.tail _ (.head _)))⟩
      · exact hoff p h
    · intro p hp q hq
      rcases List.mem_append.mp hp with h | h
      · exact o' p h q (.tail _ (.tail _ (.tail _ (List.mem_append_right _ hq))))
      · exact ho p h q hq
    · intro j y' hj
      rw [List.append_assoc]
      by_cases hji : j < ys.length
      · rw [List.getElem?_append_left hji] at hj
        exact mono _ _ _ _ (hR j y' hj) fun p hp => List.mem_append_right _ hp
      · have hj2 : j = ys.length := by
          have := (List.getElem?_eq_some_iff.mp hj).1
          rw [List.length_append, List.length_singleton] at this
          omega
        subst hj2
        rw [List.getElem?_append_right (Nat.le_refl _), Nat.sub_self] at hj
        obtain rfl : y = y' := by simpa using hj
        rw [hlen]
        exact hy
  · rintro ys _ ⟨tl, rfl, ho, hlen, hR⟩
    exact fin ys tl ho hlen hR
end
-- L2
theorem two_at {a b : Value} {i : Nat} {v : Value} (h : #[a, b][i]? = some v) : (i = 0 ∧ v = a) ∨ (i = 1 ∧ v = b) := by
  rcases i with _ | _ | i
  · left; exact ⟨rfl, by simpa using h.symm⟩
  · right; exact ⟨rfl, by simpa using h.symm⟩
  · simp at h
theorem two_of {ys : List Value} (h : ys.length = 2) : ∃ a b, ys = [a, b] := by
  rcases ys with _ | ⟨a, _ | ⟨b, _ | ⟨c, r⟩⟩⟩
  · simp at h
  · simp at h
  · exact ⟨a, b, rfl⟩
  · simp at h
section
variable {w : World} {hh : Option Value} {dp un : Nat} {gd : Option (List Code)} {env : Env} {outer : List Env} {A₀ : Around} {base h₀ : Heap} {L : Addr} {m mg mb : Str → Option Value} {mean : ExcName → Option Value}
   {rest : List (Addr × Obj)} {s : Shared} {Q E : Value → Shared → Prop}
theorem seg2 {fa : Addr} {cd : Value} {D : Addr} {ws : List Value} {ns : List Int} {n : Nat} {Q : Flow → Shared → Prop} (B : Below A₀ base [] h₀) (X : (hd.heap_39 w.params).In h₀) (T : Top hd.view_39 (looseW hd.view_39 []) mean mg mb h₀)
   (F : Fr h₀ L s.heap m) (N : News h₀ L s.heap rest) (hm : m (Str.ofString "numbers") = some (.ref D)) (hD : (D, W.listOf ws.toArray n) ∈ rest) (hi : IntsAre ws ns) (hl : ns.length < 20)
   (ret : ∀ h' tk' Tx S0 S1 p0 p1 n0 n1 n2 tl, Fr h₀ L h' (fun y => if y = Str.ofString "taken" then some (.ref Tx) else m y) → News h₀ L h' (tl ++ rest) → (∀ p ∈ tl, ∀ q ∈ rest, p.1 ≠ q.1) → (Tx, W.listOf #[.ref S0, .ref S1] n2) ∈ tl ++ rest → (S0, lob p0 n0) ∈ tl ++ rest → (S1, lob p1 n1) ∈ tl ++ rest →
     (∀ p ∈ p0, Nm (tl ++ rest) p.1 p.2) → (∀ p ∈ p1, Nm (tl ++ rest) p.1 p.2) → (p0.map (·.2)).Perm ((ns.filter fun x => decide (¬ x.fmod 3 = 1)).map txt) → (p1.map (·.2)).Perm ((ns.filter fun x => decide (¬ x.fmod 3 = 0)).map txt) → (p0.map (·.2)).Pairwise tle → (p1.map (·.2)).Pairwise tle → Q .next { s with heap := h', toks := tk' }) :
   wpAny (model PySem.Challenge.rw_oc0121_01.row.prog w) (ax none 302 8 gd (lawE L fa cd) []) (exec (lawSt 2) (lawE L fa cd)) Q E s := by
  w_on
  conv => arg 3; arg 1; whnf
  refine Assign_ListComp_W F (by rfl) (by with_unfolding_all rfl) (by rfl) (by decide) (by rfl) (by decide) (by rfl) (by rfl) (by rfl) ?_
  ((try k_fold); w_strict (k_extra "go"))
  refine law_lists_c ⟨B, X, T, rfl, rfl⟩ F N hD hi (by omega) ?_ (Nat.le_of_ble_eq_true rfl) (Nat.le_of_ble_eq_true rfl)
  intro h2 tk2 Tu A1 A2 ps qs na nb tl F2 N2 o1 o2 o3 o4 nps nqs eps eqs
  have lps : ps.length < 100 := by
    have := congrArg List.length eps
    have := List.length_filter_le (fun x => decide (¬ x.fmod 3 = 1)) ns
    simp only [List.length_map] at *
    omega
  have lqs : qs.length < 100 := by
    have := congrArg List.length eqs
    have := List.length_filter_le (fun x => decide (¬ x.fmod 3 = 0)) ns
    simp only [List.length_map] at *
    omega
  clear F N
  refine comp_tup rfl F2 N2 (its := #[.ref A1, .ref A2]) (.head _) (by simp) ?_
  intro g3
  refine comp_map (fun i y l => ∃ D q k, y = .ref D ∧ (D, lob q k) ∈ l ∧ q.Perm (if i = 0 then ps else qs) ∧ (q.map (·.2)).Pairwise tle) (fun i y l l' h hs => by obtain ⟨D, q, k, e1, e2, e3⟩ := h; exact ⟨D, q, k, e1, hs _ e2, e3⟩) (fun tl => List.mem_append_right _ (.head _)) ?_ ?_
  · intro i v tl' I oI Cc oC Dd oD m₂ h tk E' hin hP hC hx F3 N3 hoff
    ((try k_fold); w_strict (k_extra "go"))
    have key : ∀ {A3 : Addr} {pp : List PV} {nn : Nat}, v = .ref A3 → (A3, lob pp nn) ∈ (A1, lob ps na) :: (A2, lob qs nb) :: (tl ++ rest) → pp.length < 100 → (∀ p ∈ pp, Nm (tl ++ rest) p.1 p.2) → pp = (if i = 0 then ps else qs) →
        wpAny (model PySem.Challenge.rw_oc0121_01.row.prog w) (ax none 302 8 gd (lawE L fa cd) []) (call (.ref 179) [v]) qk ek { s with heap := h, toks := tk } := by
      rintro A3 pp nn rfl hA hl3 hnm rfl
      refine law_emptied_c ⟨B, X, T, rfl, rfl⟩ F3 N3 (.tail _ (.tail _ (.tail _ (List.mem_append_right _ (.tail _ hA))))) hl3 (fun p hp => (hnm p hp).mono fun q hq => .tail _ (.tail _ (.tail _ (List.mem_append_right _ (.tail _ (.tail _ (.tail _ hq))))))) ?_ (Nat.le_of_ble_eq_true rfl) (Nat.le_of_ble_eq_true rfl)
      intro h4 tk4 D4 q4 n4 F4 N4 o4' hp4 hs4
      exact Out.intro [(D4, lob q4 n4)] F4 N4 (fun p hp q hq => by rw [List.mem_singleton.mp hp]; exact Ne.symm (o4' q hq)) ⟨D4, q4, n4, rfl, .head _, hp4, hs4⟩
    rcases two_at hP with ⟨rfl, rfl⟩ | ⟨rfl, rfl⟩
    · exact key rfl (.head _) lps nps rfl
    · exact key rfl (.tail _ (.head _)) lqs nqs rfl
  · intro ys tl' ho' hlen hR
    unfold LCg.FinA
    intro D1 h3 tk3 F3 N3 o5
    replace o5 := off1_mem o5
    clear F2 N2
    obtain ⟨y0, y1, rfl⟩ := two_of hlen
    obtain ⟨S0, p0, n0, rfl, m0, perm0, pw0⟩ := hR 0 y0 rfl
    obtain ⟨S1, p1, n1, rfl, m1, perm1, pw1⟩ := hR 1 y1 rfl
    have e : ((D1, LCg.lst [Value.ref S0, Value.ref S1]) :: (tl' ++ (Tu, tupOf [Value.ref A1, Value.ref A2]) :: (A1, lob ps na) :: (A2, lob qs nb) :: tl)) ++ rest = (D1, LCg.lst [Value.ref S0, Value.ref S1]) :: (tl' ++ (Tu, tupOf [Value.ref A1, Value.ref A2]) :: (A1, lob ps na) :: (A2, lob qs nb) :: (tl ++ rest)) := by simp
    have nm : ∀ {p : PV}, Nm (tl ++ rest) p.1 p.2 → Nm (((D1, LCg.lst [Value.ref S0, Value.ref S1]) :: (tl' ++ (Tu, tupOf [Value.ref A1, Value.ref A2]) :: (A1, lob ps na) :: (A2, lob qs nb) :: tl)) ++ rest) p.1 p.2 := fun h => h.mono fun q hq => by
      rw [e]; exact .tail _ (List.mem_append_right _ (.tail _ (.tail _ (.tail _ hq))))
    refine ret h3 _ D1 S0 S1 p0 p1 n0 n1 _ ((D1, LCg.lst [Value.ref S0, Value.ref S1]) :: (tl' ++ (Tu, tupOf [Value.ref A1, Value.ref A2]) :: (A1, lob ps na) :: (A2, lob qs nb) :: tl)) F3 (by rw [e]; exact N3) ?_ (.head _) (by rw [e]; exact .tail _ m0) (by rw [e]; exact .tail _ m1)
      (fun p hp => nm (nps p (perm0.mem_iff.mp hp))) (fun p hp => nm (nqs p (perm1.mem_iff.mp hp))) (by rw [← eps]; exact perm0.map _) (by rw [← eqs]; exact perm1.map _) pw0 pw1
    exact off_to (fun q hq => o5 q (List.mem_append_right _ (.tail _ (.tail _ (.tail _ (List.mem_append_right _ hq)))))) (off_apps (fun p h q hq => ho' p h q (.tail _ (.tail _ (.tail _ (List.mem_append_right _ hq)))))
      (off_to (fun q hq => o1 q (.tail _ (.tail _ (List.mem_append_right _ hq)))) (off_to (fun q hq => o2 q (.tail _ (List.mem_append_right _ hq))) (off_to (fun q hq => o3 q (List.mem_append_right _ hq)) fun p h q hq => Nat.ne_of_gt (o4 p h q hq)))))
end
-- L3
theorem lay29 : True := by
  k_with "go" => repeat' ((fail_if_success (with_reducible show wpAny _ _ (exec (Stmt.While _ _ _ _) _) _ _ _)); (fail_if_success (with_reducible show wpAny _ _ (exec (Stmt.For _ _ _ _ _) _) _ _ _)); (fail_if_success (with_reducible show wpAny _ _ (exec (Stmt.Assign _ (Expr.ListComp _ _ _ _) _) _) _ _ _)); (fail_if_success (with_reducible show wpAny _ _ (eval (Expr.ListComp _ _ _ _) _) _ _ _)); (fail_if_success (with_reducible show wpAny _ _ (call (Value.ref _) _ _) _ _ _)); (fail_if_success (with_reducible show LCg.CompSrc _ _ _ _ _ _ _ _ _ _ _ _ _ _)); (fail_if_success (with_reducible show LCt.CompSrcT _ _ _ _ _ _ _ _ _ _ _ _ _ _ _)); (fail_if_success (with_reducible show wpAny _ _ (pyIter _) _ _ _)); (fail_if_success (with_reducible show wpAny _ _ (compareOp _ (Value.ref _) (Value.ref _)) _ _ _)); first | (k_unfold; (try dsimp only)) | walk1 | (dsimp only; walk1) | (leave1; (try dsimp only)))
  trivial
/-- a new row of texts -/
inductive RowT (a : List Str) (y : Value) (l : List (Addr × Obj)) : Prop
  | mk (D : Addr) (q : List PV) (k : Nat) (x1 : y = .ref D) (x2 : (D, lob q k) ∈ l) (x3 : Txts q) (x4 : q.map (·.2) = a) : RowT a y l
theorem RowT.mono {a : List Str} {y : Value} {l l' : List (Addr × Obj)} (h : RowT a y l) (hs : ∀ p ∈ l, p ∈ l') : RowT a y l' := by
  obtain ⟨D, q, k, a1, a2, a3, a4⟩ := h
  exact ⟨D, q, k, a1, hs _ a2, a3, a4⟩
/-- a row at hand -/
inductive RowN (rest : List (Addr × Obj)) (v : Value) (pp : List PV) (P : Prop) : Prop
  | mk (A : Addr) (n : Nat) (x1 : v = .ref A) (x2 : (A, lob pp n) ∈ rest) (x3 : pp.length < 100) (x4 : P) : RowN rest v pp P
theorem row_at {rest : List (Addr × Obj)} {S0 S1 : Addr} {p0 p1 : List PV} {k0 k1 i : Nat} {v : Value} (P : List PV → Prop) (hP : #[Value.ref S0, Value.ref S1][i]? = some v) (d2 : (S0, lob p0 k0) ∈ rest) (d3 : (S1, lob p1 k1) ∈ rest) (l0 : p0.length < 100) (l1 : p1.length < 100) (n0 : P p0) (n1 : P p1) :
    RowN rest v (if i = 0 then p0 else p1) (P (if i = 0 then p0 else p1)) := by
  rcases two_at hP with ⟨rfl, rfl⟩ | ⟨rfl, rfl⟩
  · exact ⟨S0, k0, rfl, d2, l0, n0⟩
  · exact ⟨S1, k1, rfl, d3, l1, n1⟩
theorem txts_of {ps : List PV} {ys : List Value} (hl : ys.length = ps.length) (h : ∀ (j : Nat) (y : Value), ys[j]? = some y → ∃ (p : PV) (k : Tok), ps[j]? = some p ∧ y = Value.str p.2 k) : ∃ qs : List PV, ys = qs.map (·.1) ∧ qs.map (·.2) = ps.map (·.2) ∧ Txts qs := by
  induction ps generalizing ys with
  | nil =>
    obtain rfl : ys = [] := List.eq_nil_of_length_eq_zero hl
    exact ⟨[], rfl, rfl, fun _ h => nomatch h⟩
  | cons p ps ih =>
    cases ys with
    | nil => simp at hl
    | cons y ys =>
      obtain ⟨p', k, e1, rfl⟩ := h 0 y rfl
      obtain rfl : p = p' := by simpa using e1
      obtain ⟨qs, rfl, e2, e3⟩ := ih (ys := ys) (by simpa using hl) fun j y hj => h (j + 1) y (by simpa using hj)
      exact ⟨(.str p.2 k, p.2) :: qs, rfl, by simp [e2], fun q hq => by
        rcases List.mem_cons.mp hq with rfl | hq
        · exact ⟨k, rfl⟩
        · exact e3 q hq⟩
theorem dat_txts {l : List (Addr × Obj)} {ps : List PV} (h : Txts ps) : DatAll l (ps.map (·.1)) (ps.map fun p => Dat.str p.2) := by
  induction ps with
  | nil => exact .nil
  | cons p ps ih =>
    obtain ⟨k, e⟩ := h p (.head _)
    simp only [List.map_cons]
    rw [e]
    exact .cons (.str _ _) (ih fun q hq => h q (.tail _ hq))
theorem dat_row {l : List (Addr × Obj)} {ps : List PV} {D : Addr} {k : Nat} (h : Txts ps) (hm : (D, lob ps k) ∈ l) : DatIn l (.ref D) (.list (ps.map fun p => Dat.str p.2)) := .list hm (dat_txts h)
theorem dat_two {l : List (Addr × Obj)} {a b : Value} {d e : Dat} (h1 : DatIn l a d) (h2 : DatIn l b e) : DatAll l [a, b] [d, e] := .cons h1 (.cons h2 .nil)
theorem ok_row {ps : List PV} (h : ∀ p ∈ ps, PyData.strOk p.2 = true) (n : Nat) : kqdOk (n + 1) (.list (ps.map fun p => Dat.str p.2)) = true := by
  rw [kqdOk, List.all_eq_true]
  intro d hd
  obtain ⟨p, hp, rfl⟩ := List.mem_map.mp hd
  cases n <;> exact h p hp
theorem dats_eq {ps qs : List PV} (h : ps.map (·.2) = qs.map (·.2)) : (ps.map fun p => Dat.str p.2) = qs.map fun p => Dat.str p.2 := by
  have : (ps.map (·.2)).map Dat.str = (qs.map (·.2)).map Dat.str := by rw [h]
  rw [List.map_map, List.map_map] at this
  exact this
theorem ok_of {ps qs : List PV} (h : ps.map (·.2) = qs.map (·.2)) (ok : ∀ p ∈ qs, PyData.strOk p.2 = true) : ∀ p ∈ ps, PyData.strOk p.2 = true := fun p hp => by
  have : p.2 ∈ qs.map (·.2) := by rw [← h]; exact List.mem_map_of_mem hp
  obtain ⟨q, hq, e⟩ := List.mem_map.mp this
  rw [← e]; exact ok q hq
theorem all_two {P : Dat → Prop} {a b : Dat} (h1 : P a) (h2 : P b) : ∀ d ∈ [a, b], P d := by
  intro d hd
  rcases List.mem_cons.mp hd with rfl | hd
  · exact h1
  · rw [List.mem_singleton.mp hd]; exact h2
section
variable {w : World} {hh : Option Value} {dp un : Nat} {gd : Option (List Code)} {env : Env} {outer : List Env} {A₀ : Around} {base h₀ : Heap} {L : Addr} {m mg mb : Str → Option Value} {mean : ExcName → Option Value}
   {rest : List (Addr × Obj)} {s : Shared} {Q E : Value → Shared → Prop}
theorem seg3 {fa : Addr} {cd : Value} {Tk Tx S0 S1 R0 R1 : Addr} {p0 p1 t0 t1 : List PV} {k0 k1 k2 j0 j1 j2 : Nat} {Q : Flow → Shared → Prop} (B : Below A₀ base [] h₀) (X : (hd.heap_39 w.params).In h₀) (T : Top hd.view_39 (looseW hd.view_39 []) mean mg mb h₀)
   (F : Fr h₀ L s.heap m) (N : News h₀ L s.heap rest) (hm1 : m (Str.ofString "taken") = some (.ref Tk)) (hm2 : m (Str.ofString "texts") = some (.ref Tx))
   (d1 : (Tk, W.listOf #[.ref S0, .ref S1] k2) ∈ rest) (d2 : (S0, lob p0 k0) ∈ rest) (d3 : (S1, lob p1 k1) ∈ rest) (x1 : (Tx, W.listOf #[.ref R0, .ref R1] j2) ∈ rest) (x2 : (R0, lob t0 j0) ∈ rest) (x3 : (R1, lob t1 j1) ∈ rest)
   (n0 : ∀ p ∈ p0, Nm rest p.1 p.2) (n1 : ∀ p ∈ p1, Nm rest p.1 p.2) (y0 : Txts t0) (y1 : Txts t1) (e0 : p0.map (·.2) = t0.map (·.2)) (e1 : p1.map (·.2) = t1.map (·.2)) (l0 : p0.length < 100) (l1 : p1.length < 100)
   (ok0 : ∀ p ∈ t0, PyData.strOk p.2 = true) (ok1 : ∀ p ∈ t1, PyData.strOk p.2 = true)
   (ret : ∀ h' tk' tl, Fr h₀ L h' m → News h₀ L h' (tl ++ rest) → (∀ p ∈ tl, ∀ q ∈ rest, p.1 ≠ q.1) → Q .next { s with heap := h', toks := tk' }) :
   wpAny (model PySem.Challenge.rw_oc0121_01.row.prog w) (ax none 302 8 gd (lawE L fa cd) []) (exec (lawSt 3) (lawE L fa cd)) Q E s := by
  w_on
  conv => arg 3; arg 1; whnf
  ((try k_fold); w_strict (k_extra "go"))
  refine LCg.ListComp_U F (by rfl) (by decide) (by rfl) (by decide) (by rfl) ?_
  ((try k_fold); w_strict (k_extra "go"))
  refine LCg.CompSrc.ledger (by rfl) F N d1 (by rw [sizeLine_eq]; simp) ?_
  intro g2
  refine comp_map (fun i y l => RowT ((if i = 0 then p0 else p1).map fun x : PV => x.2) y l) (fun _ _ _ _ h hs => h.mono hs) (fun tl => .inr ⟨_, List.mem_append_right _ d1, rfl, _, rfl⟩) ?_ ?_
  · intro i v tl' I oI Cc oC Dd oD m₂ h tk E' hin hP hC hx F3 N3 hoff
    obtain ⟨A3, nn, rfl, hA, hl3, hnm⟩ := row_at (fun pp => ∀ p ∈ pp, Nm rest p.1 p.2) hP d2 d3 l0 l1 n0 n1
    generalize (if i = 0 then p0 else p1) = pp at hA hl3 hnm ⊢
    refine LCg.ListComp_U F3 (by rfl) (by decide) (by rfl) (by decide) (by rfl) ?_
    ((try k_fold); w_strict (k_extra "go"))
    refine LCg.CompSrc.ledger (by rfl) F3 N3 (.tail _ (.tail _ (.tail _ (List.mem_append_right _ hA)))) (by rw [sizeLine_eq]; simp; omega) ?_
    intro gj
    refine comp_map (fun j y _ => ∃ p k, pp[j]? = some p ∧ y = .str p.2 k) (fun _ _ _ _ h _ => h) (fun tl => .inr ⟨_, List.mem_append_right _ (.tail _ (.tail _ (.tail _ (List.mem_append_right _ hA)))), rfl, _, rfl⟩) ?_ ?_
    · intro j vj tlj Ij oIj Cj oCj Dj oDj mj hj tkj Ej hinj hPj hCj hxj Fj Nj hoffj
      obtain ⟨pj, hpj, rfl⟩ := pv_at hPj
      ((try k_fold); w_strict (k_extra "go"))
      refine str_name ⟨B, X, T, rfl, rfl⟩ Fj Nj (((fun p hp => (hnm p hp).mono fun q hq => .tail _ (.tail _ (.tail _ (List.mem_append_right _ hq)))) pj (List.mem_of_getElem? hpj)).mono fun q hq => .tail _ (.tail _ (.tail _ (List.mem_append_right _ hq)))) ?_ (Nat.le_of_ble_eq_true rfl) (Nat.le_of_ble_eq_true rfl)
      intro h8 tk8 k8 F8 N8
      exact Out.intro [] F8 N8 (fun _ h => nomatch h) ⟨pj, k8, hpj, rfl⟩
    intro ysj tlj hoj hlenj hRj
    obtain ⟨qsj, rfl, eqj, txj⟩ := txts_of (by simpa using hlenj) hRj
    unfold LCg.FinE
    intro D5 h5 tk5 F5 N5 o5
    replace o5 := off1_mem o5
    exact Out.intro ((D5, lob qsj _) :: tlj) F5 N5 (off_to (fun q hq => o5 q (List.mem_append_right _ hq)) hoj) ⟨D5, qsj, _, rfl, .head _, txj, eqj⟩
  · intro ys tl ho hlen hR
    unfold LCg.FinE
    intro D6 h6 tk6 F6 N6 o6
    replace o6 := off1_mem o6
    clear F N
    obtain ⟨v0, v1, rfl⟩ := two_of hlen
    obtain ⟨U0, u0, i0, rfl, m0, tu0, eu0⟩ := hR 0 v0 rfl
    obtain ⟨U1, u1, i1, rfl, m1, tu1, eu1⟩ := hR 1 v1 rfl
    simp only [if_true] at eu0
    replace eu1 : u1.map (·.2) = p1.map (·.2) := eu1
    ((try k_fold); w_strict (k_extra "go"))
    refine kqd_ne (ds := [.list (u0.map fun p => Dat.str p.2), .list (u1.map fun p => Dat.str p.2)]) (es := [.list (t0.map fun p => Dat.str p.2), .list (t1.map fun p => Dat.str p.2)]) N6 (.head _) rfl rfl (dat_two (dat_row tu0 (.tail _ m0)) (dat_row tu1 (.tail _ m1))) (fun _ h => h)
      (.tail _ (List.mem_append_right _ x1)) rfl rfl (ys := [.ref R0, .ref R1]) (dat_two (dat_row y0 (.tail _ (List.mem_append_right _ x2))) (dat_row y1 (.tail _ (List.mem_append_right _ x3)))) (fun _ h => h)
      (all_two (ok_row (ok_of (eu0.trans e0) ok0) 7) (ok_row (ok_of (eu1.trans e1) ok1) 7)) (all_two (ok_row ok0 7) (ok_row ok1 7)) (Nat.le_of_ble_eq_true rfl) ?_
    rw [dats_eq (eu0.trans e0), dats_eq (eu1.trans e1)]
    simp only [decide_true, Bool.not_true]
    ((try k_fold); w_strict (k_extra "go"))
    refine ret h6 _ ((D6, LCg.lst [Value.ref U0, Value.ref U1]) :: tl) F6 N6 (off_to (fun q hq => o6 q (List.mem_append_right _ hq)) ho)
end
theorem lay30 : True := by
  k_with_none
  k_with "subscriptTail" => (k_here; (with_reducible show wpAny _ _ (subscriptTail _ _ (Value.ref _) (Value.int _ _)) _ _ _); k_dflt (refine' sub_read ?N ?m ?k0 ?k1 ?k2 ?_ ?h1 ?h2; (case N => k_asm); (case m => k_mem); (case k0 => (first | omega | ((simp only [List.length_set, List.length_append, List.length_cons, List.length_nil, List.length_map]); omega) | ((simp only [List.length_set, List.length_append, List.length_cons, List.length_nil, List.length_map] at *); omega))); (case k1 => (first | omega | ((simp only [List.length_set, List.length_append, List.length_cons, List.length_nil, List.length_map]); omega) | ((simp only [List.length_set, List.length_append, List.length_cons, List.length_nil, List.length_map] at *); omega))); (case k2 => (first | omega | ((simp only [List.length_set, List.length_append, List.length_cons, List.length_nil, List.length_map]); omega) | ((simp only [List.length_set, List.length_append, List.length_cons, List.length_nil, List.length_map] at *); omega))); (case h1 => with_unfolding_all rfl); (case h2 => (intro _; with_unfolding_all rfl)); k_whole; intro _ _))
  k_with "go" => repeat' ((fail_if_success (with_reducible show wpAny _ _ (exec (Stmt.While _ _ _ _) _) _ _ _)); (fail_if_success (with_reducible show wpAny _ _ (exec (Stmt.For _ _ _ _ _) _) _ _ _)); (fail_if_success (with_reducible show wpAny _ _ (exec (Stmt.Assign _ (Expr.ListComp _ _ _ _) _) _) _ _ _)); (fail_if_success (with_reducible show wpAny _ _ (eval (Expr.ListComp _ _ _ _) _) _ _ _)); (fail_if_success (with_reducible show wpAny _ _ (call (Value.ref _) _ _) _ _ _)); first | (k_unfold; (try dsimp only)) | walk1 | (dsimp only; walk1) | (leave1; (try dsimp only)))
  k_with "rel" => first | assumption | exact Nm.str | exact nm_at (by assumption) (by assumption) | (refine' Nm.cons ?h9; (case h9 => k_extra "rel"))
  k_with "unf" => ((try dsimp only); first | assumption | exact rfl | exact if_pos rfl | (refine (if_neg (by decide)).trans ?_; k_extra "unf"))
  k_with "eval Name" => (k_here; (with_reducible show wpAny _ _ (eval (Expr.Name _ _) (envOf _ _ _ _ _)) _ _ _); k_dflt (refine' ld ?k1 ?k2 ?_ ?k3 ?k4 ?k5; (case k1 => k_asm); (case k2 => k_extra "unf"); (case k3 => exact rfl); (case k4 => exact rfl); (case k5 => decide); k_whole))
  k_with "eval Name" => (k_here; (fail_if_success (with_reducible show wpAny _ _ (eval (Expr.Name _ _) (envOf _ _ _ _ _)) _ _ _)); k_dflt (refine' nameX_L ?F ?v ?_ ?a ?b; (case F => k_asm); (case a => exact rfl); (case b => exact rfl); (case v => k_extra "unf"); k_whole))
  k_with "setItem ref int" => (k_here; k_dflt (refine' sub_store ?F ?N ?hD ?hv ?k0 ?k1 ?k2 ?_; (case F => k_asm); (case N => k_asm); (case hD => assumption); (case hv => exact rfl); (case k0 => (first | omega | ((simp only [List.length_set, List.length_append, List.length_cons, List.length_nil, List.length_map]); omega) | ((simp only [List.length_set, List.length_append, List.length_cons, List.length_nil, List.length_map] at *); omega))); (case k1 => (first | omega | ((simp only [List.length_set, List.length_append, List.length_cons, List.length_nil, List.length_map]); omega) | ((simp only [List.length_set, List.length_append, List.length_cons, List.length_nil, List.length_map] at *); omega))); (case k2 => (first | omega | ((simp only [List.length_set, List.length_append, List.length_cons, List.length_nil, List.length_map]); omega) | ((simp only [List.length_set, List.length_append, List.length_cons, List.length_nil, List.length_map] at *); omega))); k_whole); intro _ _ _; (try k_sweep))
  k_with "compareOp Lt" => (k_here; k_dflt (refine' name_lt ⟨?B, ?X, ?T, ?hf, ?hk⟩ ?F ?N ?h1 ?h2 ?_ ?d ?u; (case B => k_asm); (case X => k_asm); (case T => k_asm); (case hf => first | assumption | exact rfl); (case hk => first | assumption | exact rfl); (case F => k_asm); (case N => k_asm); (case h1 => k_extra "rel"); (case h2 => k_extra "rel"); (case d => exact Nat.le_of_ble_eq_true rfl); (case u => exact Nat.le_of_ble_eq_true rfl); k_whole); intro _ _ _ _; (try k_sweep))
  k_with "binaryOp RShift int int" => (k_here; refine rsh1 ?_; intro _ _; (try dsimp only))
  k_with "WStep brk" => (refine WStep.brk ?_; (try dsimp only))
  k_with "WStep ret" => (refine WStep.ret ?_; (try dsimp only))
  k_with "call builtin:len" => (k_here; (with_reducible show wpAny _ _ (call (Value.builtin _) [Value.ref _]) _ _ _); k_dflt (refine' len_lob ?N ?m ?l ?_; (case N => k_asm); (case m => k_mem); (case l => (first | omega | ((simp only [List.length_set, List.length_append, List.length_cons, List.length_nil, List.length_map]); omega) | ((simp only [List.length_set, List.length_append, List.length_cons, List.length_nil, List.length_map] at *); omega))); k_whole); intro _ _; (try dsimp only))
  k_with "truthy ref" => (k_here; k_dflt (refine' truthy_lob ?N ?m ?l ?_; (case N => k_asm); (case m => k_mem); (case l => (first | omega | ((simp only [List.length_set, List.length_append, List.length_cons, List.length_nil, List.length_map]); omega) | ((simp only [List.length_set, List.length_append, List.length_cons, List.length_nil, List.length_map] at *); omega))); k_whole); intro _; (try dsimp only))
  k_with "call builtin:list.append" => (k_here; k_dflt (refine' append_lob ?F ?N ?hD ?l ?hv ?_; (case F => k_asm); (case N => k_asm); (case hD => assumption); (case l => (first | omega | ((simp only [List.length_set, List.length_append, List.length_cons, List.length_nil, List.length_map]); omega) | ((simp only [List.length_set, List.length_append, List.length_cons, List.length_nil, List.length_map] at *); omega))); (case hv => exact rfl); k_whole); intro _ _ _; (try k_sweep); (try dsimp only))
  k_with "call builtin:list.pop" => (k_here; k_dflt (refine' pop_lob ?F ?N ?hD ?l ?_; (case F => k_asm); (case N => k_asm); (case hD => assumption); (case l => (first | omega | ((simp only [List.length_set, List.length_append, List.length_cons, List.length_nil, List.length_map]); omega) | ((simp only [List.length_set, List.length_append, List.length_cons, List.length_nil, List.length_map] at *); omega))); k_whole); intro _ _ _; (try k_sweep); (try dsimp only))
  k_with "newList nil" => (k_here; k_dflt (refine' new_lob ?F ?N ?_; (case F => k_asm); (case N => k_asm); k_whole); intro _ _ _ _ _; (try k_sweep); (try dsimp only))
  k_with "mem" => first | exact List.Mem.head _ | assumption | (refine' List.Mem.tail _ ?_; k_extra "mem")
  k_with "go" => repeat' ((fail_if_success (with_reducible show wpAny _ _ (exec (Stmt.While _ _ _ _) _) _ _ _)); (fail_if_success (with_reducible show wpAny _ _ (exec (Stmt.For _ _ _ _ _) _) _ _ _)); (fail_if_success (with_reducible show wpAny _ _ (exec (Stmt.Assign _ (Expr.ListComp _ _ _ _) _) _) _ _ _)); (fail_if_success (with_reducible show wpAny _ _ (eval (Expr.ListComp _ _ _ _) _) _ _ _)); (fail_if_success (with_reducible show wpAny _ _ (call (Value.ref _) _ _) _ _ _)); (fail_if_success (with_reducible show LCg.CompSrc _ _ _ _ _ _ _ _ _ _ _ _ _ _)); (fail_if_success (with_reducible show LCt.CompSrcT _ _ _ _ _ _ _ _ _ _ _ _ _ _ _)); (fail_if_success (with_reducible show wpAny _ _ (pyIter _) _ _ _)); first | (k_unfold; (try dsimp only)) | walk1 | (dsimp only; walk1) | (leave1; (try dsimp only)))
  k_with "compareOp Eq" => (k_here; k_dflt (refine' name_eq ⟨?B, ?X, ?T, ?hf, ?hk⟩ ?F ?N ?h1 ?h2 ?_ ?d ?u; (case B => k_asm); (case X => k_asm); (case T => k_asm); (case hf => first | assumption | exact rfl); (case hk => first | assumption | exact rfl); (case F => k_asm); (case N => k_asm); (case h1 => k_extra "rel"); (case h2 => k_extra "rel"); (case d => exact Nat.le_of_ble_eq_true rfl); (case u => exact Nat.le_of_ble_eq_true rfl); k_whole); intro _ _ _ _; (try k_sweep))
  k_with "compareOp Gt" => (k_here; k_dflt (refine' name_gt ⟨?B, ?X, ?T, ?hf, ?hk⟩ ?F ?N ?h1 ?h2 ?_ ?d ?u; (case B => k_asm); (case X => k_asm); (case T => k_asm); (case hf => first | assumption | exact rfl); (case hk => first | assumption | exact rfl); (case F => k_asm); (case N => k_asm); (case h1 => k_extra "rel"); (case h2 => k_extra "rel"); (case d => exact Nat.le_of_ble_eq_true rfl); (case u => exact Nat.le_of_ble_eq_true rfl); k_whole); intro _ _ _ _; (try k_sweep))
  trivial
-- L4
theorem lay31 : True := by
  k_with "go" => repeat' ((fail_if_success (with_reducible show wpAny _ _ (exec (Stmt.While _ _ _ _) _) _ _ _)); (fail_if_success (with_reducible show wpAny _ _ (exec (Stmt.For _ _ _ _ _) _) _ _ _)); (fail_if_success (with_reducible show wpAny _ _ (exec (Stmt.Assign _ (Expr.ListComp _ _ _ _) _) _) _ _ _)); (fail_if_success (with_reducible show wpAny _ _ (eval (Expr.ListComp _ _ _ _) _) _ _ _)); (fail_if_success (with_reducible show wpAny _ _ (call (Value.ref _) _ _) _ _ _)); (fail_if_success (with_reducible show LCg.CompSrc _ _ _ _ _ _ _ _ _ _ _ _ _ _)); (fail_if_success (with_reducible show LCt.CompSrcT _ _ _ _ _ _ _ _ _ _ _ _ _ _ _)); (fail_if_success (with_reducible show wpAny _ _ (pyIter _) _ _ _)); (fail_if_success (with_reducible show wpAny _ _ (compareOp _ (Value.ref _) (Value.ref _)) _ _ _)); first | (k_unfold; (try dsimp only)) | walk1 | (dsimp only; walk1) | (leave1; (try dsimp only)))
  trivial
section
variable {w : World} {hh : Option Value} {dp un : Nat} {gd : Option (List Code)} {env : Env} {outer : List Env} {A₀ : Around} {base h₀ : Heap} {L : Addr} {m mg mb : Str → Option Value} {mean : ExcName → Option Value}
   {rest : List (Addr × Obj)} {s : Shared} {Q E : Value → Shared → Prop}
theorem seg4 {fa : Addr} {cd : Value} {Tx R0 R1 : Addr} {t0 t1 : List PV} {j0 j1 j2 : Nat} {oc : Obj} {c0 : Option Value} {Q : Flow → Shared → Prop} (B : Below A₀ base [] h₀) (X : (hd.heap_39 w.params).In h₀) (T : Top hd.view_39 (looseW hd.view_39 []) mean mg mb h₀)
   (F : Fr h₀ L s.heap m) (N : News h₀ L s.heap ((L + 1, oc) :: rest)) (hoc : oc.data = .cell c0) (hcr : ∀ q ∈ rest, q.1 ≠ L + 1) (hm2 : m (Str.ofString "texts") = some (.ref Tx))
   (x1 : (Tx, W.listOf #[.ref R0, .ref R1] j2) ∈ rest) (x2 : (R0, lob t0 j0) ∈ rest) (x3 : (R1, lob t1 j1) ∈ rest) (y0 : Txts t0) (y1 : Txts t1) (l0 : t0.length < 100) (l1 : t1.length < 100)
   (ret : ∀ h' tk' tl Rw K0 K1 k0 k1 k2 oc', Fr h₀ L h' m → News h₀ L h' ((L + 1, oc') :: (tl ++ rest)) → oc'.data = .cell (some (.ref Rw)) → (∀ q ∈ tl ++ rest, q.1 ≠ L + 1) → (Rw, W.listOf #[.ref K0, .ref K1] k2) ∈ tl ++ rest → (K0, lob (once t0 t0.length) k0) ∈ tl ++ rest → (K1, lob (once t1 t1.length) k1) ∈ tl ++ rest → Q .next { s with heap := h', toks := tk' }) :
   wpAny (model PySem.Challenge.rw_oc0121_01.row.prog w) (ax none 302 8 gd (lawE L fa cd) []) (exec (lawSt 4) (lawE L fa cd)) Q E s := by
  w_on
  conv => arg 3; arg 1; whnf
  refine wpAny_Assign_Name ?_
  refine LCg.ListComp_U F (by rfl) (by decide) (by rfl) (by decide) (by rfl) ?_
  ((try k_fold); w_strict (k_extra "go"))
  refine LCg.CompSrc.ledger (by rfl) F N (.tail _ x1) (by rw [sizeLine_eq]; simp) ?_
  intro g2
  refine comp_map (fun i y l => ∃ D k, y = .ref D ∧ (D, lob (if i = 0 then once t0 t0.length else once t1 t1.length) k) ∈ l) (fun i y l l' h hs => by obtain ⟨D, k, a1, a2⟩ := h; exact ⟨D, k, a1, hs _ a2⟩) (fun tl => .inr ⟨_, List.mem_append_right _ (.tail _ x1), rfl, _, rfl⟩) ?_ ?_
  · intro i v tl' I oI Cc oC Dd oD m₂ h tk E' hin hP hC hx F3 N3 hoff
    obtain ⟨A3, pp, nn, rfl, hA, hl3, htx, epp⟩ : ∃ A3 pp nn, v = .ref A3 ∧ (A3, lob pp nn) ∈ rest ∧ pp.length < 100 ∧ Txts pp ∧ (if i = 0 then once t0 t0.length else once t1 t1.length) = once pp pp.length := by
      rcases two_at hP with ⟨rfl, rfl⟩ | ⟨rfl, rfl⟩
      · exact ⟨R0, t0, j0, rfl, x2, l0, y0, rfl⟩
      · exact ⟨R1, t1, j1, rfl, x3, l1, y1, rfl⟩
    rw [epp]
    ((try k_fold); w_strict (k_extra "go"))
    refine law_once_c ⟨B, X, T, rfl, rfl⟩ F3 N3 (.tail _ (.tail _ (.tail _ (List.mem_append_right _ (.tail _ hA))))) hl3 (fun p hp => by obtain ⟨k, e⟩ := htx p hp; rw [e]; exact .str) ?_ (Nat.le_of_ble_eq_true rfl) (Nat.le_of_ble_eq_true rfl)
    intro h4 tk4 D4 n4 F4 N4 o4
    exact Out.intro [(D4, lob (once pp pp.length) n4)] F4 N4 (fun p hp q hq => by rw [List.mem_singleton.mp hp]; exact Ne.symm (o4 q hq)) ⟨D4, n4, rfl, .head _⟩
  · intro ys tl ho hlen hR
    unfold LCg.FinE
    intro D6 h6 tk6 F6 N6 o6
    replace o6 := off1_mem o6
    clear F N
    obtain ⟨v0, v1, rfl⟩ := two_of hlen
    obtain ⟨U0, i0, rfl, m0⟩ := hR 0 v0 rfl
    obtain ⟨U1, i1, rfl, m1⟩ := hR 1 v1 rfl
    replace m0 : (U0, lob (once t0 t0.length) i0) ∈ tl ++ (L + 1, oc) :: rest := m0
    replace m1 : (U1, lob (once t1 t1.length) i1) ∈ tl ++ (L + 1, oc) :: rest := m1
    have sw : ∀ p ∈ (L + 1, oc) :: (((D6, LCg.lst [Value.ref U0, Value.ref U1]) :: tl) ++ rest), p ∈ (D6, LCg.lst [Value.ref U0, Value.ref U1]) :: (tl ++ (L + 1, oc) :: rest) := fun p hp => sub1s p hp
    have offc : ∀ q ∈ ((D6, LCg.lst [Value.ref U0, Value.ref U1]) :: tl) ++ rest, q.1 ≠ L + 1 := off_cons (Ne.symm (o6 (L + 1, oc) (List.mem_append_right _ (.head _)))) fun q hq => (List.mem_append.mp hq).elim (fun h => ho q h (L + 1, oc) (.head _)) (hcr q)
    have mv : ∀ {D : Addr} {ps : List PV} {k : Nat}, (D, lob ps k) ∈ tl ++ (L + 1, oc) :: rest → (D, lob ps k) ∈ ((D6, LCg.lst [Value.ref U0, Value.ref U1]) :: tl) ++ rest := by
      intro D ps k h
      rcases List.mem_append.mp h with h | h
      · exact List.mem_append_left _ (.tail _ h)
      · rcases List.mem_cons.mp h with h | h
        · have e := congrArg (·.2.data) h
          dsimp only at e
          rw [hoc] at e
          cases e
        · exact List.mem_append_right _ h
    show wpAny _ _ (storeName (envX (Str.ofString "law") lawSc L fa cd (cellsFrom (L + 1) lawSc.names [])) (Str.ofString "rows") (.ref D6)) _ _ _
    refine storeX_C (c := L + 1) F6 (fun p hp => N6 p (sw p hp)) (by rfl) (UpdF.head offc) hoc ?_ rfl rfl
    intro h7 oc7 F7 N7 hoc7
    exact ret h7 _ _ D6 U0 U1 i0 i1 _ oc7 F7 N7 hoc7 offc (.head _) (mv m0) (mv m1)
end
theorem lay32 : True := by
  k_with_none
  k_with "subscriptTail" => (k_here; (with_reducible show wpAny _ _ (subscriptTail _ _ (Value.ref _) (Value.int _ _)) _ _ _); k_dflt (refine' sub_read ?N ?m ?k0 ?k1 ?k2 ?_ ?h1 ?h2; (case N => k_asm); (case m => k_mem); (case k0 => (first | omega | ((simp only [List.length_set, List.length_append, List.length_cons, List.length_nil, List.length_map]); omega) | ((simp only [List.length_set, List.length_append, List.length_cons, List.length_nil, List.length_map] at *); omega))); (case k1 => (first | omega | ((simp only [List.length_set, List.length_append, List.length_cons, List.length_nil, List.length_map]); omega) | ((simp only [List.length_set, List.length_append, List.length_cons, List.length_nil, List.length_map] at *); omega))); (case k2 => (first | omega | ((simp only [List.length_set, List.length_append, List.length_cons, List.length_nil, List.length_map]); omega) | ((simp only [List.length_set, List.length_append, List.length_cons, List.length_nil, List.length_map] at *); omega))); (case h1 => with_unfolding_all rfl); (case h2 => (intro _; with_unfolding_all rfl)); k_whole; intro _ _))
  k_with "go" => repeat' ((fail_if_success (with_reducible show wpAny _ _ (exec (Stmt.While _ _ _ _) _) _ _ _)); (fail_if_success (with_reducible show wpAny _ _ (exec (Stmt.For _ _ _ _ _) _) _ _ _)); (fail_if_success (with_reducible show wpAny _ _ (exec (Stmt.Assign _ (Expr.ListComp _ _ _ _) _) _) _ _ _)); (fail_if_success (with_reducible show wpAny _ _ (eval (Expr.ListComp _ _ _ _) _) _ _ _)); (fail_if_success (with_reducible show wpAny _ _ (call (Value.ref _) _ _) _ _ _)); first | (k_unfold; (try dsimp only)) | walk1 | (dsimp only; walk1) | (leave1; (try dsimp only)))
  k_with "rel" => first | assumption | exact Nm.str | exact nm_at (by assumption) (by assumption) | (refine' Nm.cons ?h9; (case h9 => k_extra "rel"))
  k_with "unf" => ((try dsimp only); first | assumption | exact rfl | exact if_pos rfl | (refine (if_neg (by decide)).trans ?_; k_extra "unf"))
  k_with "eval Name" => (k_here; (with_reducible show wpAny _ _ (eval (Expr.Name _ _) (envOf _ _ _ _ _)) _ _ _); k_dflt (refine' ld ?k1 ?k2 ?_ ?k3 ?k4 ?k5; (case k1 => k_asm); (case k2 => k_extra "unf"); (case k3 => exact rfl); (case k4 => exact rfl); (case k5 => decide); k_whole))
  k_with "eval Name" => (k_here; (fail_if_success (with_reducible show wpAny _ _ (eval (Expr.Name _ _) (envOf _ _ _ _ _)) _ _ _)); k_dflt (refine' nameX_L ?F ?v ?_ ?a ?b; (case F => k_asm); (case a => exact rfl); (case b => exact rfl); (case v => k_extra "unf"); k_whole))
  k_with "setItem ref int" => (k_here; k_dflt (refine' sub_store ?F ?N ?hD ?hv ?k0 ?k1 ?k2 ?_; (case F => k_asm); (case N => k_asm); (case hD => assumption); (case hv => exact rfl); (case k0 => (first | omega | ((simp only [List.length_set, List.length_append, List.length_cons, List.length_nil, List.length_map]); omega) | ((simp only [List.length_set, List.length_append, List.length_cons, List.length_nil, List.length_map] at *); omega))); (case k1 => (first | omega | ((simp only [List.length_set, List.length_append, List.length_cons, List.length_nil, List.length_map]); omega) | ((simp only [List.length_set, List.length_append, List.length_cons, List.length_nil, List.length_map] at *); omega))); (case k2 => (first | omega | ((simp only [List.length_set, List.length_append, List.length_cons, List.length_nil, List.length_map]); omega) | ((simp only [List.length_set, List.length_append, List.length_cons, List.length_nil, List.length_map] at *); omega))); k_whole); intro _ _ _; (try k_sweep))
  k_with "compareOp Lt" => (k_here; k_dflt (refine' name_lt ⟨?B, ?X, ?T, ?hf, ?hk⟩ ?F ?N ?h1 ?h2 ?_ ?d ?u; (case B => k_asm); (case X => k_asm); (case T => k_asm); (case hf => first | assumption | exact rfl); (case hk => first | assumption | exact rfl); (case F => k_asm); (case N => k_asm); (case h1 => k_extra "rel"); (case h2 => k_extra "rel"); (case d => exact Nat.le_of_ble_eq_true rfl); (case u => exact Nat.le_of_ble_eq_true rfl); k_whole); intro _ _ _ _; (try k_sweep))
  k_with "binaryOp RShift int int" => (k_here; refine rsh1 ?_; intro _ _; (try dsimp only))
  k_with "WStep brk" => (refine WStep.brk ?_; (try dsimp only))
  k_with "WStep ret" => (refine WStep.ret ?_; (try dsimp only))
  k_with "call builtin:len" => (k_here; (with_reducible show wpAny _ _ (call (Value.builtin _) [Value.ref _]) _ _ _); k_dflt (refine' len_lob ?N ?m ?l ?_; (case N => k_asm); (case m => k_mem); (case l => (first | omega | ((simp only [List.length_set, List.length_append, List.length_cons, List.length_nil, List.length_map]); omega) | ((simp only [List.length_set, List.length_append, List.length_cons, List.length_nil, List.length_map] at *); omega))); k_whole); intro _ _; (try dsimp only))
  k_with "truthy ref" => (k_here; k_dflt (refine' truthy_lob ?N ?m ?l ?_; (case N => k_asm); (case m => k_mem); (case l => (first | omega | ((simp only [List.length_set, List.length_append, List.length_cons, List.length_nil, List.length_map]); omega) | ((simp only [List.length_set, List.length_append, List.length_cons, List.length_nil, List.length_map] at *); omega))); k_whole); intro _; (try dsimp only))
  k_with "call builtin:list.append" => (k_here; k_dflt (refine' append_lob ?F ?N ?hD ?l ?hv ?_; (case F => k_asm); (case N => k_asm); (case hD => assumption); (case l => (first | omega | ((simp only [List.length_set, List.length_append, List.length_cons, List.length_nil, List.length_map]); omega) | ((simp only [List.length_set, List.length_append, List.length_cons, List.length_nil, List.length_map] at *); omega))); (case hv => exact rfl); k_whole); intro _ _ _; (try k_sweep); (try dsimp only))
  k_with "call builtin:list.pop" => (k_here; k_dflt (refine' pop_lob ?F ?N ?hD ?l ?_; (case F => k_asm); (case N => k_asm); (case hD => assumption); (case l => (first | omega | ((simp only [List.length_set, List.length_append, List.length_cons, List.length_nil, List.length_map]); omega) | ((simp only [List.length_set, List.length_append, List.length_cons, List.length_nil, List.length_map] at *); omega))); k_whole); intro _ _ _; (try k_sweep); (try dsimp only))
  k_with "newList nil" => (k_here; k_dflt (refine' new_lob ?F ?N ?_; (case F => k_asm); (case N => k_asm); k_whole); intro _ _ _ _ _; (try k_sweep); (try dsimp only))
  k_with "mem" => first | exact List.Mem.head _ | assumption | (refine' List.Mem.tail _ ?_; k_extra "mem")
  k_with "go" => repeat' ((fail_if_success (with_reducible show wpAny _ _ (exec (Stmt.While _ _ _ _) _) _ _ _)); (fail_if_success (with_reducible show wpAny _ _ (exec (Stmt.For _ _ _ _ _) _) _ _ _)); (fail_if_success (with_reducible show wpAny _ _ (exec (Stmt.Assign _ (Expr.ListComp _ _ _ _) _) _) _ _ _)); (fail_if_success (with_reducible show wpAny _ _ (eval (Expr.ListComp _ _ _ _) _) _ _ _)); (fail_if_success (with_reducible show wpAny _ _ (call (Value.ref _) _ _) _ _ _)); (fail_if_success (with_reducible show LCg.CompSrc _ _ _ _ _ _ _ _ _ _ _ _ _ _)); (fail_if_success (with_reducible show LCt.CompSrcT _ _ _ _ _ _ _ _ _ _ _ _ _ _ _)); (fail_if_success (with_reducible show wpAny _ _ (pyIter _) _ _ _)); first | (k_unfold; (try dsimp only)) | walk1 | (dsimp only; walk1) | (leave1; (try dsimp only)))
  k_with "compareOp Eq" => (k_here; k_dflt (refine' name_eq ⟨?B, ?X, ?T, ?hf, ?hk⟩ ?F ?N ?h1 ?h2 ?_ ?d ?u; (case B => k_asm); (case X => k_asm); (case T => k_asm); (case hf => first | assumption | exact rfl); (case hk => first | assumption | exact rfl); (case F => k_asm); (case N => k_asm); (case h1 => k_extra "rel"); (case h2 => k_extra "rel"); (case d => exact Nat.le_of_ble_eq_true rfl); (case u => exact Nat.le_of_ble_eq_true rfl); k_whole); intro _ _ _ _; (try k_sweep))
  k_with "compareOp Gt" => (k_here; k_dflt (refine' name_gt ⟨?B, ?X, ?T, ?hf, ?hk⟩ ?F ?N ?h1 ?h2 ?_ ?d ?u; (case B => k_asm); (case X => k_asm); (case T => k_asm); (case hf => first | assumption | exact rfl); (case hk => first | assumption | exact rfl); (case F => k_asm); (case N => k_asm); (case h1 => k_extra "rel"); (case h2 => k_extra "rel"); (case d => exact Nat.le_of_ble_eq_true rfl); (case u => exact Nat.le_of_ble_eq_true rfl); k_whole); intro _ _ _ _; (try k_sweep))
  trivial
-- L5
theorem lay33 : True := by
  k_with "go" => repeat' ((fail_if_success (with_reducible show wpAny _ _ (exec (Stmt.While _ _ _ _) _) _ _ _)); (fail_if_success (with_reducible show wpAny _ _ (exec (Stmt.For _ _ _ _ _) _) _ _ _)); (fail_if_success (with_reducible show wpAny _ _ (exec (Stmt.Assign _ (Expr.ListComp _ _ _ _) _) _) _ _ _)); (fail_if_success (with_reducible show wpAny _ _ (eval (Expr.ListComp _ _ _ _) _) _ _ _)); (fail_if_success (with_reducible show wpAny _ _ (call (Value.ref _) _ _) _ _ _)); (fail_if_success (with_reducible show LCg.CompSrc _ _ _ _ _ _ _ _ _ _ _ _ _ _)); (fail_if_success (with_reducible show LCt.CompSrcT _ _ _ _ _ _ _ _ _ _ _ _ _ _ _)); (fail_if_success (with_reducible show wpAny _ _ (pyIter _) _ _ _)); (fail_if_success (with_reducible show wpAny _ _ (compareOp _ (Value.ref _) (Value.ref _)) _ _ _)); first | (k_unfold; (try dsimp only)) | walk1 | (dsimp only; walk1) | (leave1; (try dsimp only)))
  trivial
section
variable {w : World} {hh : Option Value} {dp un : Nat} {gd : Option (List Code)} {env : Env} {outer : List Env} {A₀ : Around} {base h₀ : Heap} {L : Addr} {m mg mb : Str → Option Value} {mean : ExcName → Option Value}
   {rest : List (Addr × Obj)} {s : Shared} {Q E : Value → Shared → Prop}
theorem seg5 {fa : Addr} {cd : Value} {Tk S0 S1 : Addr} {p0 p1 : List PV} {k0 k1 k2 : Nat} {Q : Flow → Shared → Prop} (B : Below A₀ base [] h₀) (X : (hd.heap_39 w.params).In h₀) (T : Top hd.view_39 (looseW hd.view_39 []) mean mg mb h₀)
   (F : Fr h₀ L s.heap m) (N : News h₀ L s.heap rest) (hm1 : m (Str.ofString "taken") = some (.ref Tk))
   (d1 : (Tk, W.listOf #[.ref S0, .ref S1] k2) ∈ rest) (d2 : (S0, lob p0 k0) ∈ rest) (d3 : (S1, lob p1 k1) ∈ rest) (n0 : ∀ p ∈ p0, Nm rest p.1 p.2) (n1 : ∀ p ∈ p1, Nm rest p.1 p.2) (l0 : p0.length < 100) (l1 : p1.length < 100)
   (ret : ∀ h' tk' tl K0 K1 k0 k1, Fr h₀ L h' (fun y => if y = Str.ofString "first" then some (.ref K0) else if y = Str.ofString "second" then some (.ref K1) else m y) → News h₀ L h' (tl ++ rest) → (∀ p ∈ tl, ∀ q ∈ rest, p.1 ≠ q.1) → (K0, lob (once p0 p0.length) k0) ∈ tl → (K1, lob (once p1 p1.length) k1) ∈ tl → Q .next { s with heap := h', toks := tk' }) :
   wpAny (model PySem.Challenge.rw_oc0121_01.row.prog w) (ax none 302 8 gd (lawE L fa cd) []) (exec (lawSt 5) (lawE L fa cd)) Q E s := by
  w_on
  conv => arg 3; arg 1; whnf
  ((try k_fold); w_strict (k_extra "go"))
  refine sub_read (ps := [(.ref S0, Str.ofString ""), (.ref S1, Str.ofString "")]) (n := k2) N d1 (by decide) (by simp) (by decide) ?_
  intro pa hpa
  obtain rfl : pa = (.ref S0, Str.ofString "") := (Option.some.inj hpa).symm
  (try dsimp only)
  ((try k_fold); w_strict (k_extra "go"))
  refine law_once_c ⟨B, X, T, rfl, rfl⟩ F N d2 l0 n0 ?_ (Nat.le_of_ble_eq_true rfl) (Nat.le_of_ble_eq_true rfl)
  intro h2 tk2 D2 n2 F2 N2 o2
  clear F N
  ((try k_fold); w_strict (k_extra "go"))
  refine sub_read (ps := [(.ref S0, Str.ofString ""), (.ref S1, Str.ofString "")]) (n := k2) N2 (.tail _ d1) (by decide) (by simp) (by decide) ?_
  intro pb hpb
  obtain rfl : pb = (.ref S1, Str.ofString "") := (Option.some.inj hpb).symm
  (try dsimp only)
  ((try k_fold); w_strict (k_extra "go"))
  refine law_once_c ⟨B, X, T, rfl, rfl⟩ F2 N2 (.tail _ d3) l1 (fun p hp => (n1 p hp).cons) ?_ (Nat.le_of_ble_eq_true rfl) (Nat.le_of_ble_eq_true rfl)
  intro h3 tk3 D3 n3 F3 N3 o3
  clear F2 N2
  ((try k_fold); w_strict (k_extra "go"))
  rename_i D5 h5 l5 h6 h7 h8 F8 N8
  refine ret h8 _ [(D5, { cls := .type "tuple", data := .seq #[.ref D2, .ref D3] }), (D3, lob (once p1 p1.length) n3), (D2, lob (once p0 p0.length) n2)] D2 D3 n2 n3 F8 N8 ?_ (.tail _ (.tail _ (.head _))) (.tail _ (.head _))
  exact off_lt (kst_ltOf l5.2.2) (off_to (fun q hq => o3 q (.tail _ hq)) (off_to o2 off_nil))
end
theorem lay34 : True := by
  k_with_none
  k_with "subscriptTail" => (k_here; (with_reducible show wpAny _ _ (subscriptTail _ _ (Value.ref _) (Value.int _ _)) _ _ _); k_dflt (refine' sub_read ?N ?m ?k0 ?k1 ?k2 ?_ ?h1 ?h2; (case N => k_asm); (case m => k_mem); (case k0 => (first | omega | ((simp only [List.length_set, List.length_append, List.length_cons, List.length_nil, List.length_map]); omega) | ((simp only [List.length_set, List.length_append, List.length_cons, List.length_nil, List.length_map] at *); omega))); (case k1 => (first | omega | ((simp only [List.length_set, List.length_append, List.length_cons, List.length_nil, List.length_map]); omega) | ((simp only [List.length_set, List.length_append, List.length_cons, List.length_nil, List.length_map] at *); omega))); (case k2 => (first | omega | ((simp only [List.length_set, List.length_append, List.length_cons, List.length_nil, List.length_map]); omega) | ((simp only [List.length_set, List.length_append, List.length_cons, List.length_nil, List.length_map] at *); omega))); (case h1 => with_unfolding_all rfl); (case h2 => (intro _; with_unfolding_all rfl)); k_whole; intro _ _))
  k_with "go" => repeat' ((fail_if_success (with_reducible show wpAny _ _ (exec (Stmt.While _ _ _ _) _) _ _ _)); (fail_if_success (with_reducible show wpAny _ _ (exec (Stmt.For _ _ _ _ _) _) _ _ _)); (fail_if_success (with_reducible show wpAny _ _ (exec (Stmt.Assign _ (Expr.ListComp _ _ _ _) _) _) _ _ _)); (fail_if_success (with_reducible show wpAny _ _ (eval (Expr.ListComp _ _ _ _) _) _ _ _)); (fail_if_success (with_reducible show wpAny _ _ (call (Value.ref _) _ _) _ _ _)); first | (k_unfold; (try dsimp only)) | walk1 | (dsimp only; walk1) | (leave1; (try dsimp only)))
  k_with "rel" => first | assumption | exact Nm.str | exact nm_at (by assumption) (by assumption) | (refine' Nm.cons ?h9; (case h9 => k_extra "rel"))
  k_with "unf" => ((try dsimp only); first | assumption | exact rfl | exact if_pos rfl | (refine (if_neg (by decide)).trans ?_; k_extra "unf"))
  k_with "eval Name" => (k_here; (with_reducible show wpAny _ _ (eval (Expr.Name _ _) (envOf _ _ _ _ _)) _ _ _); k_dflt (refine' ld ?k1 ?k2 ?_ ?k3 ?k4 ?k5; (case k1 => k_asm); (case k2 => k_extra "unf"); (case k3 => exact rfl); (case k4 => exact rfl); (case k5 => decide); k_whole))
  k_with "eval Name" => (k_here; (fail_if_success (with_reducible show wpAny _ _ (eval (Expr.Name _ _) (envOf _ _ _ _ _)) _ _ _)); k_dflt (refine' nameX_L ?F ?v ?_ ?a ?b; (case F => k_asm); (case a => exact rfl); (case b => exact rfl); (case v => k_extra "unf"); k_whole))
  k_with "setItem ref int" => (k_here; k_dflt (refine' sub_store ?F ?N ?hD ?hv ?k0 ?k1 ?k2 ?_; (case F => k_asm); (case N => k_asm); (case hD => assumption); (case hv => exact rfl); (case k0 => (first | omega | ((simp only [List.length_set, List.length_append, List.length_cons, List.length_nil, List.length_map]); omega) | ((simp only [List.length_set, List.length_append, List.length_cons, List.length_nil, List.length_map] at *); omega))); (case k1 => (first | omega | ((simp only [List.length_set, List.length_append, List.length_cons, List.length_nil, List.length_map]); omega) | ((simp only [List.length_set, List.length_append, List.length_cons, List.length_nil, List.length_map] at *); omega))); (case k2 => (first | omega | ((simp only [List.length_set, List.length_append, List.length_cons, List.length_nil, List.length_map]); omega) | ((simp only [List.length_set, List.length_append, List.length_cons, List.length_nil, List.length_map] at *); omega))); k_whole); intro _ _ _; (try k_sweep))
  k_with "compareOp Lt" => (k_here; k_dflt (refine' name_lt ⟨?B, ?X, ?T, ?hf, ?hk⟩ ?F ?N ?h1 ?h2 ?_ ?d ?u; (case B => k_asm); (case X => k_asm); (case T => k_asm); (case hf => first | assumption | exact rfl); (case hk => first | assumption | exact rfl); (case F => k_asm); (case N => k_asm); (case h1 => k_extra "rel"); (case h2 => k_extra "rel"); (case d => exact Nat.le_of_ble_eq_true rfl); (case u => exact Nat.le_of_ble_eq_true rfl); k_whole); intro _ _ _ _; (try k_sweep))
  k_with "binaryOp RShift int int" => (k_here; refine rsh1 ?_; intro _ _; (try dsimp only))
  k_with "WStep brk" => (refine WStep.brk ?_; (try dsimp only))
  k_with "WStep ret" => (refine WStep.ret ?_; (try dsimp only))
  k_with "call builtin:len" => (k_here; (with_reducible show wpAny _ _ (call (Value.builtin _) [Value.ref _]) _ _ _); k_dflt (refine' len_lob ?N ?m ?l ?_; (case N => k_asm); (case m => k_mem); (case l => (first | omega | ((simp only [List.length_set, List.length_append, List.length_cons, List.length_nil, List.length_map]); omega) | ((simp only [List.length_set, List.length_append, List.length_cons, List.length_nil, List.length_map] at *); omega))); k_whole); intro _ _; (try dsimp only))
  k_with "truthy ref" => (k_here; k_dflt (refine' truthy_lob ?N ?m ?l ?_; (case N => k_asm); (case m => k_mem); (case l => (first | omega | ((simp only [List.length_set, List.length_append, List.length_cons, List.length_nil, List.length_map]); omega) | ((simp only [List.length_set, List.length_append, List.length_cons, List.length_nil, List.length_map] at *); omega))); k_whole); intro _; (try dsimp only))
  k_with "call builtin:list.append" => (k_here; k_dflt (refine' append_lob ?F ?N ?hD ?l ?hv ?_; (case F => k_asm); (case N => k_asm); (case hD => assumption); (case l => (first | omega | ((simp only [List.length_set, List.length_append, List.length_cons, List.length_nil, List.length_map]); omega) | ((simp only [List.length_set, List.length_append, List.length_cons, List.length_nil, List.length_map] at *); omega))); (case hv => exact rfl); k_whole); intro _ _ _; (try k_sweep); (try dsimp only))
  k_with "call builtin:list.pop" => (k_here; k_dflt (refine' pop_lob ?F ?N ?hD ?l ?_; (case F => k_asm); (case N => k_asm); (case hD => assumption); (case l => (first | omega | ((simp only [List.length_set, List.length_append, List.length_cons, List.length_nil, List.length_map]); omega) | ((simp only [List.length_set, List.length_append, List.length_cons, List.length_nil, List.length_map] at *); omega))); k_whole); intro _ _ _; (try k_sweep); (try dsimp only))
  k_with "newList nil" => (k_here; k_dflt (refine' new_lob ?F ?N ?_; (case F => k_asm); (case N => k_asm); k_whole); intro _ _ _ _ _; (try k_sweep); (try dsimp only))
  k_with "mem" => first | exact List.Mem.head _ | assumption | (refine' List.Mem.tail _ ?_; k_extra "mem")
  k_with "go" => repeat' ((fail_if_success (with_reducible show wpAny _ _ (exec (Stmt.While _ _ _ _) _) _ _ _)); (fail_if_success (with_reducible show wpAny _ _ (exec (Stmt.For _ _ _ _ _) _) _ _ _)); (fail_if_success (with_reducible show wpAny _ _ (exec (Stmt.Assign _ (Expr.ListComp _ _ _ _) _) _) _ _ _)); (fail_if_success (with_reducible show wpAny _ _ (eval (Expr.ListComp _ _ _ _) _) _ _ _)); (fail_if_success (with_reducible show wpAny _ _ (call (Value.ref _) _ _) _ _ _)); (fail_if_success (with_reducible show LCg.CompSrc _ _ _ _ _ _ _ _ _ _ _ _ _ _)); (fail_if_success (with_reducible show LCt.CompSrcT _ _ _ _ _ _ _ _ _ _ _ _ _ _ _)); (fail_if_success (with_reducible show wpAny _ _ (pyIter _) _ _ _)); first | (k_unfold; (try dsimp only)) | walk1 | (dsimp only; walk1) | (leave1; (try dsimp only)))
  k_with "compareOp Eq" => (k_here; k_dflt (refine' name_eq ⟨?B, ?X, ?T, ?hf, ?hk⟩ ?F ?N ?h1 ?h2 ?_ ?d ?u; (case B => k_asm); (case X => k_asm); (case T => k_asm); (case hf => first | assumption | exact rfl); (case hk => first | assumption | exact rfl); (case F => k_asm); (case N => k_asm); (case h1 => k_extra "rel"); (case h2 => k_extra "rel"); (case d => exact Nat.le_of_ble_eq_true rfl); (case u => exact Nat.le_of_ble_eq_true rfl); k_whole); intro _ _ _ _; (try k_sweep))
  k_with "compareOp Gt" => (k_here; k_dflt (refine' name_gt ⟨?B, ?X, ?T, ?hf, ?hk⟩ ?F ?N ?h1 ?h2 ?_ ?d ?u; (case B => k_asm); (case X => k_asm); (case T => k_asm); (case hf => first | assumption | exact rfl); (case hk => first | assumption | exact rfl); (case F => k_asm); (case N => k_asm); (case h1 => k_extra "rel"); (case h2 => k_extra "rel"); (case d => exact Nat.le_of_ble_eq_true rfl); (case u => exact Nat.le_of_ble_eq_true rfl); k_whole); intro _ _ _ _; (try k_sweep))
  trivial
-- LX
theorem lay35 : True := by
  k_with "go" => repeat' ((fail_if_success (with_reducible show wpAny _ _ (exec (Stmt.While _ _ _ _) _) _ _ _)); (fail_if_success (with_reducible show wpAny _ _ (exec (Stmt.For _ _ _ _ _) _) _ _ _)); (fail_if_success (with_reducible show wpAny _ _ (exec (Stmt.Assign _ (Expr.ListComp _ _ _ _) _) _) _ _ _)); (fail_if_success (with_reducible show wpAny _ _ (eval (Expr.ListComp _ _ _ _) _) _ _ _)); (fail_if_success (with_reducible show wpAny _ _ (call (Value.ref _) _ _) _ _ _)); (fail_if_success (with_reducible show LCg.CompSrc _ _ _ _ _ _ _ _ _ _ _ _ _ _)); (fail_if_success (with_reducible show LCt.CompSrcT _ _ _ _ _ _ _ _ _ _ _ _ _ _ _)); (fail_if_success (with_reducible show wpAny _ _ (pyIter _) _ _ _)); (fail_if_success (with_reducible show wpAny _ _ (compareOp _ (Value.ref _) (Value.ref _)) _ _ _)); (fail_if_success (with_reducible show wpAny _ _ (newList _) _ _ _)); (fail_if_success (with_reducible show wpAny _ _ (newTuple _) _ _ _)); (fail_if_success (with_reducible show wpAny _ _ (eval (Expr.Name (Str.ofString "rows") _) _) _ _ _)); first | (k_unfold; (try dsimp only)) | walk1 | (dsimp only; walk1) | (leave1; (try dsimp only)))
  trivial
section
variable {w : World} {A : Around} {E : Value → Shared → Prop} {s : Shared} {h₀ : Heap} {L : Addr} {news : List (Addr × Obj)} {m : Str → Option Value} {Q : Value → Shared → Prop}
theorem new_list {vs : List Value} (F : Fr h₀ L s.heap m) (N : News h₀ L s.heap news) (hl : vs.length ≤ 1000)
    (h : ∀ l h', Fr h₀ L h' m → News h₀ L h' ((l, W.listOf vs.toArray 0) :: news) → (∀ q ∈ news, q.1 ≠ l) → Q (.ref l) { s with heap := h' }) : wpAny (model PySem.Challenge.rw_oc0121_01.row.prog w) A (newList vs) Q E s :=
  newList_N F N (fun h' F' N' => h _ h' F' N' fun q hq => Nat.ne_of_lt (Heap.lt_size (N q hq).1)) (by rw [sizeLine_eq]; omega)
theorem new_tup {vs : List Value} (F : Fr h₀ L s.heap m) (N : News h₀ L s.heap news) (hl : vs.length ≤ 1000)
    (h : ∀ l h', Fr h₀ L h' m → News h₀ L h' ((l, tupOf vs) :: news) → (∀ q ∈ news, q.1 ≠ l) → Q (.ref l) { s with heap := h' }) : wpAny (model PySem.Challenge.rw_oc0121_01.row.prog w) A (newTuple vs) Q E s :=
  newTuple_N F N (fun h' F' N' => h _ h' F' N' fun q hq => Nat.ne_of_lt (Heap.lt_size (N q hq).1)) (by rw [sizeLine_eq]; omega)
theorem rows_read {fa : Addr} {cd : Value} {oc : Obj} {v : Value} {p : Pos} (N : News h₀ L s.heap news) (hm : (L + 1, oc) ∈ news) (hd : oc.data = .cell (some v)) (h : Q v s) :
    wpAny (model PySem.Challenge.rw_oc0121_01.row.prog w) A (eval (.Name (Str.ofString "rows") p) (lawE L fa cd)) Q E s := by
  show wpAny _ _ (eval _ (envX (Str.ofString "law") lawSc L fa cd (cellsFrom (L + 1) lawSc.names []))) _ _ _
  exact nameX_C N (by rfl) hm hd h rfl rfl (by decide)
end
-- L6
section
variable {w : World} {hh : Option Value} {dp un : Nat} {gd : Option (List Code)} {env : Env} {outer : List Env} {A₀ : Around} {base h₀ : Heap} {L : Addr} {m mg mb : Str → Option Value} {mean : ExcName → Option Value}
   {rest : List (Addr × Obj)} {s : Shared} {Q E : Value → Shared → Prop}
theorem seg6 {fa : Addr} {cd : Value} {K0 K1 Rw R0 R1 : Addr} {p0 p1 t0 t1 : List PV} {k0 k1 j0 j1 j2 : Nat} {oc : Obj} {Q : Flow → Shared → Prop} (B : Below A₀ base [] h₀) (X : (hd.heap_39 w.params).In h₀) (T : Top hd.view_39 (looseW hd.view_39 []) mean mg mb h₀)
   (F : Fr h₀ L s.heap m) (N : News h₀ L s.heap rest) (hoc : oc.data = .cell (some (.ref Rw))) (hcm : (L + 1, oc) ∈ rest) (hm1 : m (Str.ofString "first") = some (.ref K0)) (hm2 : m (Str.ofString "second") = some (.ref K1))
   (d2 : (K0, lob p0 k0) ∈ rest) (d3 : (K1, lob p1 k1) ∈ rest) (x1 : (Rw, W.listOf #[.ref R0, .ref R1] j2) ∈ rest) (x2 : (R0, lob t0 j0) ∈ rest) (x3 : (R1, lob t1 j1) ∈ rest)
   (n0 : ∀ p ∈ p0, Nm rest p.1 p.2) (n1 : ∀ p ∈ p1, Nm rest p.1 p.2) (y0 : Txts t0) (y1 : Txts t1) (e0 : p0.map (·.2) = t0.map (·.2)) (e1 : p1.map (·.2) = t1.map (·.2)) (l0 : p0.length < 100) (l1 : p1.length < 100)
   (ok0 : ∀ p ∈ t0, PyData.strOk p.2 = true) (ok1 : ∀ p ∈ t1, PyData.strOk p.2 = true)
   (ret : ∀ h' tk' tl, Fr h₀ L h' m → News h₀ L h' (tl ++ rest) → (∀ p ∈ tl, ∀ q ∈ rest, p.1 ≠ q.1) → Q .next { s with heap := h', toks := tk' }) :
   wpAny (model PySem.Challenge.rw_oc0121_01.row.prog w) (ax none 302 8 gd (lawE L fa cd) []) (exec (lawSt 6) (lawE L fa cd)) Q E s := by
  w_on
  conv => arg 3; arg 1; whnf
  ((try k_fold); w_strict (k_extra "go"))
  refine LCg.ListComp_U F (by rfl) (by decide) (by rfl) (by decide) (by rfl) ?_
  ((try k_fold); w_strict (k_extra "go"))
  refine LCg.CompSrc.ledger (by rfl) F N (d2) (by rw [sizeLine_eq]; simp; omega) ?_
  intro ga
  refine comp_map (fun j y _ => ∃ p k, p0[j]? = some p ∧ y = .str p.2 k) (fun _ _ _ _ h _ => h) (fun tl => .inr ⟨_, List.mem_append_right _ (d2), rfl, _, rfl⟩) ?_ ?_
  · intro j va tla Ia oIa Ca oCa Da oDa ma ha tka Ea hina hPa hCa hxa Fa Na hoffa
    obtain ⟨pa, hpa, rfl⟩ := pv_at hPa
    ((try k_fold); w_strict (k_extra "go"))
    refine str_name ⟨B, X, T, rfl, rfl⟩ Fa Na ((n0 pa (List.mem_of_getElem? hpa)).mono fun q hq => .tail _ (.tail _ (.tail _ (List.mem_append_right _ hq)))) ?_ (Nat.le_of_ble_eq_true rfl) (Nat.le_of_ble_eq_true rfl)
    intro h8 tk8 k8 F8 N8
    exact Out.intro [] F8 N8 (fun _ h => nomatch h) ⟨pa, k8, hpa, rfl⟩
  intro ysa tla hoa hlena hRa
  obtain ⟨qsa, rfl, eqa, txa⟩ := txts_of (by simpa using hlena) hRa
  unfold LCg.FinE
  clear hRa hlena
  intro D5 h5 tk5 F5 N5 o5
  replace o5 := off1_mem o5
  (try dsimp only)
  clear F N
  obtain ⟨r5, er5⟩ : ∃ r5, r5 = (D5, LCg.lst (qsa.map (·.1))) :: (tla ++ rest) := ⟨_, rfl⟩
  have sub5 : ∀ p ∈ rest, p ∈ r5 := fun p hp => by rw [er5]; exact .tail _ (List.mem_append_right _ hp)
  have d5 : (D5, lob qsa (qsa.map (·.1)).length) ∈ r5 := by rw [er5]; exact .head _
  rw [← er5] at N5
  ((try k_fold); w_strict (k_extra "go"))
  refine LCg.ListComp_U F5 (by rfl) (by decide) (by rfl) (by decide) (by rfl) ?_
  ((try k_fold); w_strict (k_extra "go"))
  have n1' : ∀ p ∈ p1, Nm r5 p.1 p.2 := fun p hp => (n1 p hp).mono sub5
  refine LCg.CompSrc.ledger (by rfl) F5 N5 (sub5 _ d3) (by rw [sizeLine_eq]; simp; omega) ?_
  intro gb
  refine comp_map (fun j y _ => ∃ p k, p1[j]? = some p ∧ y = .str p.2 k) (fun _ _ _ _ h _ => h) (fun tl => .inr ⟨_, List.mem_append_right _ (sub5 _ d3), rfl, _, rfl⟩) ?_ ?_
  · intro j vb tlb Ib oIb Cb oCb Db oDb mb hb tkb Eb hinb hPb hCb hxb Fb Nb hoffb
    obtain ⟨pb, hpb, rfl⟩ := pv_at hPb
    ((try k_fold); w_strict (k_extra "go"))
    refine str_name ⟨B, X, T, rfl, rfl⟩ Fb Nb ((n1' pb (List.mem_of_getElem? hpb)).mono fun q hq => .tail _ (.tail _ (.tail _ (List.mem_append_right _ hq)))) ?_ (Nat.le_of_ble_eq_true rfl) (Nat.le_of_ble_eq_true rfl)
    intro h8 tk8 k8 F8 N8
    exact Out.intro [] F8 N8 (fun _ h => nomatch h) ⟨pb, k8, hpb, rfl⟩
  intro ysb tlb hob hlenb hRb
  obtain ⟨qsb, rfl, eqb, txb⟩ := txts_of (by simpa using hlenb) hRb
  unfold LCg.FinE
  clear hRb hlenb
  intro D7 h7 tk7 F7 N7 o7
  replace o7 := off1_mem o7
  clear F5
  obtain ⟨r7, er7⟩ : ∃ r7, r7 = (D7, LCg.lst (qsb.map (·.1))) :: (tlb ++ r5) := ⟨_, rfl⟩
  have sub7 : ∀ p ∈ r5, p ∈ r7 := fun p hp => by rw [er7]; exact .tail _ (List.mem_append_right _ hp)
  have d7 : (D7, lob qsb (qsb.map (·.1)).length) ∈ r7 := by rw [er7]; exact .head _
  rw [← er7] at N7
  clear N5
  (try dsimp only)
  ((try k_fold); w_strict (k_extra "go"))
  refine new_list F7 N7 (by simp) ?_
  intro D8 h8 F8 N8 o8
  clear F7 N7
  (try dsimp only)
  ((try k_fold); w_strict (k_extra "go"))
  refine rows_read N8 (.tail _ (sub7 _ (sub5 _ hcm))) hoc ?_
  ((try k_fold); w_strict (k_extra "go"))
  refine kqd_ne (ds := [.list (qsa.map fun p => Dat.str p.2), .list (qsb.map fun p => Dat.str p.2)]) (es := [.list (t0.map fun p => Dat.str p.2), .list (t1.map fun p => Dat.str p.2)]) N8 (.head _) rfl rfl (xs := [.ref D5, .ref D7]) (dat_two (dat_row txa (.tail _ (sub7 _ d5))) (dat_row txb (.tail _ d7))) (fun _ h => h)
    (.tail _ (sub7 _ (sub5 _ x1))) rfl rfl (ys := [.ref R0, .ref R1]) (dat_two (dat_row y0 (.tail _ (sub7 _ (sub5 _ x2)))) (dat_row y1 (.tail _ (sub7 _ (sub5 _ x3))))) (fun _ h => h)
    (all_two (ok_row (ok_of (eqa.trans e0) ok0) 7) (ok_row (ok_of (eqb.trans e1) ok1) 7)) (all_two (ok_row ok0 7) (ok_row ok1 7)) (Nat.le_of_ble_eq_true rfl) ?_
  rw [dats_eq (eqa.trans e0), dats_eq (eqb.trans e1)]
  simp only [decide_true, Bool.not_true]
  ((try k_fold); w_strict (k_extra "go"))
  subst er7 er5
  refine ret h8 _ ((D8, W.listOf [Value.ref D5, Value.ref D7].toArray 0) :: (D7, LCg.lst (qsb.map (·.1))) :: (tlb ++ (D5, LCg.lst (qsa.map (·.1))) :: tla)) F8 (by simpa using N8) (off_to (fun q hq => o8 q (sub7 _ (sub5 _ hq))) (off_to (fun q hq => o7 q (List.mem_append_right _ (sub5 _ hq))) (off_apps (fun p h q hq => hob p h q (sub5 _ hq)) (off_to (fun q hq => o5 q (List.mem_append_right _ hq)) hoa))))
end
-- L7a
theorem allobj_of : ∀ {ws : List (Addr × String)} {k : List (Addr × Obj) → Prop}, (∀ its, Objs ws its → k its) → AllObj ws k
  | [], _, h => h [] trivial
  | w :: ws, k, h => fun o ho => allobj_of (ws := ws) fun its hi => h ((w.1, o) :: its) ⟨⟨rfl, ho⟩, hi⟩
section
variable {w : World} {A : Around} {E : Value → Shared → Prop} {s : Shared} {env : Env} {h₀ : Heap} {target : Expr} {body : List Stmt} {Q : Flow → Shared → Prop} {ws : List (Addr × String)} {keep rest : List (Addr × Obj)}
theorem items_zip (J : (Str → Option Value) → Prop) (hk : SubL keep rest) (done : ∀ m h tk, J m → Fr h₀ env.locals h m → News h₀ env.locals h rest → Q .next { s with heap := h, toks := tk }) : ∀ (xs ys : List Value)
    (_ : ∀ (i : Nat) x y T h tk its m, xs[i]? = some x → ys[i]? = some y → J m → IsTup h T #[x, y] → Fr h₀ env.locals h m → Objs ws its → News h₀ env.locals h (its ++ rest) →
      wpAny (model PySem.Challenge.rw_oc0121_01.row.prog w) A (assign target env (.ref T)) (fun _ s₂ => wpAny (model PySem.Challenge.rw_oc0121_01.row.prog w) A (execs body env) (UnrPostW h₀ env.locals { s with heap := h, toks := tk } its (fun m' n' => J m' ∧ n' = rest) Q) E s₂) E { s with heap := h, toks := tk })
    (m : Str → Option Value), J m → ItemsRest PySem.Challenge.rw_oc0121_01.row.prog w A E h₀ env target body Q s ws keep (zipItems xs ys) m rest
  | [], _, _, m, hJ => ItemsRest.zero fun h tk F N => done m h tk hJ F N
  | _ :: _, [], _, m, hJ => ItemsRest.zero fun h tk F N => done m h tk hJ F N
  | x :: xs, y :: ys, turn, m, hJ => by
    refine ItemsRest.pair fun T t h tk hT F => allobj_of fun its hits N => ?_
    refine wpAny_mono (turn 0 x y T h tk its m rfl rfl hJ hT F hits N) (fun _ s₂ h₂ => wpAny_mono h₂ (fun f s₃ h₃ => ?_) fun _ _ z => z) fun _ _ z => z
    have key : UnrEndW h₀ env.locals { s with heap := h, toks := tk } its (fun m' n' => J m' ∧ n' = rest) s₃ → UnrEndW h₀ env.locals { s with heap := h, toks := tk } its (fun m' n' => SubL keep n' ∧ ItemsRest PySem.Challenge.rw_oc0121_01.row.prog w A E h₀ env target body Q s ws keep (zipItems xs ys) m' n') s₃ := by
      rintro ⟨h', tk', m', n', e, F', N', o', hJ', e2⟩
      rw [e2] at N' o'
      exact ⟨h', tk', m', rest, e, F', N', o', hk, items_zip J hk done xs ys (fun i x y T h tk its m h1 h2 => turn (i + 1) x y T h tk its m (by simpa using h1) (by simpa using h2)) m' hJ'⟩
    cases f with
    | next => exact key h₃
    | cont => exact key h₃
    | brk => exact h₃
    | ret v => exact h₃
end
noncomputable def in7 : Stmt := match lawSt 7 with
  | .For _ _ (st :: _) _ _ => st
  | st => st
noncomputable def bd7 : List Stmt := match in7 with
  | .For _ _ b _ _ => b
  | _ => []
theorem dat_strs2 {l : List (Addr × Obj)} {a b : Str} {k1 k2 : Tok} : DatAll l [.str a k1, .str b k2] [.str a, .str b] := .cons (.str _ _) (.cons (.str _ _) .nil)
theorem cmp3_gt {t t' : Str} (h : t'.cps.toList < t.cps.toList) : cmp3 t t' = 1 ∧ cmp3 t' t = -1 := by
  have h2 : ¬ t.cps.toList < t'.cps.toList := List.lt_asymm h
  unfold cmp3
  rw [decide_eq_true h, decide_eq_false h2]
  exact ⟨rfl, rfl⟩
theorem cmp3_lt {t t' : Str} (h : t.cps.toList < t'.cps.toList) : cmp3 t t' = -1 ∧ cmp3 t' t = 1 := ⟨(cmp3_gt h).2, (cmp3_gt h).1⟩
theorem cmp3_eq {t t' : Str} (h1 : ¬ t'.cps.toList < t.cps.toList) (h2 : ¬ t.cps.toList < t'.cps.toList) : cmp3 t t' = 0 ∧ cmp3 t' t = 0 := by
  unfold cmp3
  rw [decide_eq_false h1, decide_eq_false h2]
  exact ⟨rfl, rfl⟩
noncomputable def bd7t : List Stmt := match bd7 with
  | _ :: r => r
  | _ => []
section
variable {w : World} {hh : Option Value} {dp un : Nat} {gd : Option (List Code)} {env : Env} {outer : List Env} {A₀ : Around} {base h₀ : Heap} {L : Addr} {m mg mb : Str → Option Value} {mean : ExcName → Option Value}
   {rest : List (Addr × Obj)} {s : Shared} {Q E : Value → Shared → Prop}
theorem body7t {fa : Addr} {cd : Value} {v v' : Value} {t t' : Str} {d : Int} {kd : Tok} {Q : Flow → Shared → Prop} (B : Below A₀ base [] h₀) (X : (hd.heap_39 w.params).In h₀) (T : Top hd.view_39 (looseW hd.view_39 []) mean mg mb h₀)
   (F : Fr h₀ L s.heap m) (N : News h₀ L s.heap rest) (hm1 : m (Str.ofString "one") = some v) (hm3 : m (Str.ofString "other") = some v') (hm5 : m (Str.ofString "due") = some (.int d kd))
   (h1 : Nm rest v t) (h2 : Nm rest v' t') (c1 : cmp3 t t' = d) (c2 : cmp3 t' t = -d) (lo : -2 ^ 1920 < d) (hi : d < 2 ^ 1920) (lo2 : -2 ^ 1920 < -d) (hi2 : -d < 2 ^ 1920) (ok1 : kqdOk 8 (.str (Str.ofString (toString d))) = true) (ok2 : kqdOk 8 (.str (Str.ofString (toString (-d)))) = true)
   (ret : ∀ h' tk', Fr h₀ L h' m → News h₀ L h' rest → Q .next { s with heap := h', toks := tk' }) :
   wpAny (model PySem.Challenge.rw_oc0121_01.row.prog w) (ax none 302 8 gd (lawE L fa cd) []) (execs bd7t (lawE L fa cd)) Q E s := by
  w_on
  conv => arg 3; arg 1; whnf
  ((try k_fold); w_strict (k_extra "go"))
  refine three_c ⟨B, X, T, rfl, rfl⟩ F N h1 h2 ?_ (Nat.le_of_ble_eq_true rfl) (Nat.le_of_ble_eq_true rfl)
  intro h4 tk4 u4 F4 N4
  clear F N
  rw [c1]
  (try dsimp only)
  ((try k_fold); w_strict (k_extra "go"))
  refine three_c ⟨B, X, T, rfl, rfl⟩ F4 N4 h2 h1 ?_ (Nat.le_of_ble_eq_true rfl) (Nat.le_of_ble_eq_true rfl)
  intro h5 tk5 u5 F5 N5
  clear F4 N4
  rw [c2]
  (try dsimp only)
  ((try k_fold); w_strict (k_extra "go"))
  refine new_list F5 N5 (by simp) ?_
  intro D6 h6 F6 N6 o6
  clear F5 N5
  (try dsimp only)
  ((try k_fold); w_strict (k_extra "go"))
  refine new_list F6 N6 (by simp) ?_
  intro D7 h7 F7 N7 o7
  clear F6 N6
  (try dsimp only)
  ((try k_fold); w_strict (k_extra "go"))
  refine kqd_ne N7 (.tail _ (.head _)) rfl rfl dat_strs2 (n₁ := rest) (fun _ h => .tail _ (.tail _ h)) (.head _) rfl rfl dat_strs2 (n₂ := rest) (fun _ h => .tail _ (.tail _ h)) (all_two ok1 ok2) (all_two ok1 ok2) (Nat.le_of_ble_eq_true rfl) ?_
  simp only [decide_true, Bool.not_true]
  ((try k_fold); w_strict (k_extra "go"))
  exact ret _ _ F7 fun p hp => N7 p (.tail _ (.tail _ hp))
theorem body7 {fa : Addr} {cd : Value} {v v' : Value} {t t' : Str} {k k' : Tok} {Q : Flow → Shared → Prop} (B : Below A₀ base [] h₀) (X : (hd.heap_39 w.params).In h₀) (T : Top hd.view_39 (looseW hd.view_39 []) mean mg mb h₀)
   (F : Fr h₀ L s.heap m) (N : News h₀ L s.heap rest) (hm1 : m (Str.ofString "one") = some v) (hm2 : m (Str.ofString "text") = some (.str t k)) (hm3 : m (Str.ofString "other") = some v') (hm4 : m (Str.ofString "more") = some (.str t' k'))
   (h1 : Nm rest v t) (h2 : Nm rest v' t')
   (ret : ∀ h' tk' u, Fr h₀ L h' (fun y => if y = Str.ofString "due" then some u else m y) → News h₀ L h' rest → Q .next { s with heap := h', toks := tk' }) :
   wpAny (model PySem.Challenge.rw_oc0121_01.row.prog w) (ax none 302 8 gd (lawE L fa cd) []) (execs bd7 (lawE L fa cd)) Q E s := by
  have key : ∀ {h3 : Heap} {tk3 : Nat} (d : Int) (kd : Tok), cmp3 t t' = d ∧ cmp3 t' t = -d → (-2 ^ 1920 < d ∧ d < 2 ^ 1920) ∧ (-2 ^ 1920 < -d ∧ -d < 2 ^ 1920) ∧ kqdOk 8 (.str (Str.ofString (toString d))) = true ∧ kqdOk 8 (.str (Str.ofString (toString (-d)))) = true →
      Fr h₀ L h3 (fun y => if y = Str.ofString "due" then some (.int d kd) else m y) → News h₀ L h3 rest → wpAny (model PySem.Challenge.rw_oc0121_01.row.prog w) (ax none 302 8 gd (lawE L fa cd) []) (execs bd7t (lawE L fa cd)) Q E { s with heap := h3, toks := tk3 } := fun d kd hc hb F3 N3 =>
    body7t B X T F3 N3 hm1 hm3 rfl h1 h2 hc.1 hc.2 hb.1.1 hb.1.2 hb.2.1.1 hb.2.1.2 hb.2.2.1 hb.2.2.2 fun h' tk' F' N' => ret h' tk' _ F' N'
  w_on
  conv => arg 3; arg 1; whnf
  w_strict (repeat' ((fail_if_success (with_reducible show wpAny _ _ (execs [_] _) _ _ _)); first | (k_unfold; (try dsimp only)) | walk1 | (dsimp only; walk1) | (leave1; (try dsimp only))))
  · rename t'.cps.toList < t.cps.toList => hc
    rename Fr _ _ _ _ => F3
    rename News _ _ _ _ => N3
    exact key _ _ (cmp3_gt hc) (by decide +kernel) F3 N3
  · rename t.cps.toList < t'.cps.toList => hc
    rename Fr _ _ _ _ => F3
    rename News _ _ _ _ => N3
    exact key _ _ (cmp3_lt hc) (by decide +kernel) F3 N3
  · rename ¬ t'.cps.toList < t.cps.toList => hc1
    rename ¬ t.cps.toList < t'.cps.toList => hc2
    rename Fr _ _ _ _ => F3
    rename News _ _ _ _ => N3
    exact key _ _ (cmp3_eq hc1 hc2) (by decide +kernel) F3 N3
end
-- L7b
theorem its_off {rest its : List (Addr × Obj)} {I : Addr} (hI : ∀ p ∈ rest, p.1 < I) (h : Objs [(I + 4, "zip"), (I + 2, "tuple"), (I + 3, "tuple"), (I, "list_iterator"), (I + 1, "list_iterator")] its) : ∀ p ∈ rest, ∀ q ∈ its, p.1 ≠ q.1 := by
  intro p hp q hq
  have h1 : q.1 ∈ its.map (·.1) := List.mem_map_of_mem hq
  rw [h.map] at h1
  have h2 : q.1 = I + 4 ∨ q.1 = I + 2 ∨ q.1 = I + 3 ∨ q.1 = I ∨ q.1 = I + 1 := by simpa using h1
  have h3 : @LT.lt Nat _ p.1 I := hI p hp
  have : @Ne Nat p.1 q.1 := by
    rcases h2 with h | h | h | h | h <;> (rw [h]; first | exact Nat.ne_of_lt h3 | exact Nat.ne_of_lt (Nat.lt_add_right _ h3))
  exact this
theorem txt_at {ps : List PV} (h : Txts ps) {i : Nat} {y : Value} (hy : (ps.map (·.1))[i]? = some y) : ∃ p k, ps[i]? = some p ∧ y = .str p.2 k := by
  obtain ⟨p, hp, rfl⟩ := pv_at (ps := ps) (i := i) (v := y) (by simpa using hy)
  obtain ⟨k, e⟩ := h p (List.mem_of_getElem? hp)
  exact ⟨p, k, hp, e⟩
theorem same_at {ps qs : List PV} (e : ps.map (·.2) = qs.map (·.2)) {i : Nat} {p q : PV} (hp : ps[i]? = some p) (hq : qs[i]? = some q) : p.2 = q.2 := by
  have h1 : (ps.map (·.2))[i]? = some p.2 := by rw [List.getElem?_map, hp]; rfl
  rw [e, List.getElem?_map, hq] at h1
  exact (Option.some.inj h1).symm
/-- a state behind a step that makes nothing -/
noncomputable def At (h₀ : Heap) (L : Addr) (s : Shared) (m : Str → Option Value) (news : List (Addr × Obj)) (s₂ : Shared) : Prop := ∃ h' tk', s₂ = { s with heap := h', toks := tk' } ∧ Fr h₀ L h' m ∧ News h₀ L h' news
theorem At.intro {h₀ : Heap} {L : Addr} {s : Shared} {m : Str → Option Value} {news : List (Addr × Obj)} {h' : Heap} {tk' : Nat} (F : Fr h₀ L h' m) (N : News h₀ L h' news) : At h₀ L s m news { s with heap := h', toks := tk' } := ⟨h', tk', rfl, F, N⟩
section
variable {w : World} {hh : Option Value} {dp un : Nat} {gd : Option (List Code)} {env : Env} {outer : List Env} {A₀ : Around} {base h₀ : Heap} {L : Addr} {m mg mb : Str → Option Value} {mean : ExcName → Option Value}
   {rest : List (Addr × Obj)} {s : Shared} {Q E : Value → Shared → Prop}
theorem inner7 {fa : Addr} {cd : Value} {v : Value} {t : Str} {k : Tok} {K1 Rw R0 R1 : Addr} {p1 t1 : List PV} {k1 j1 j2 : Nat} {oc : Obj} {Q : Flow → Shared → Prop} (B : Below A₀ base [] h₀) (X : (hd.heap_39 w.params).In h₀) (T : Top hd.view_39 (looseW hd.view_39 []) mean mg mb h₀)
   (F : Fr h₀ L s.heap m) (N : News h₀ L s.heap rest) (hoc : oc.data = .cell (some (.ref Rw))) (hcm : (L + 1, oc) ∈ rest) (hm1 : m (Str.ofString "one") = some v) (hm2 : m (Str.ofString "text") = some (.str t k)) (hm3 : m (Str.ofString "second") = some (.ref K1))
   (d3 : (K1, lob p1 k1) ∈ rest) (x1 : (Rw, W.listOf #[.ref R0, .ref R1] j2) ∈ rest) (x3 : (R1, lob t1 j1) ∈ rest)
   (h1 : Nm rest v t) (n1 : ∀ p ∈ p1, Nm rest p.1 p.2) (y1 : Txts t1) (e1 : p1.map (·.2) = t1.map (·.2)) (l1 : p1.length < 100)
   (ret : ∀ h' tk' m', Fr h₀ L h' m' → News h₀ L h' rest → (∀ y, y ≠ Str.ofString "other" → y ≠ Str.ofString "more" → y ≠ Str.ofString "due" → m' y = m y) → Q .next { s with heap := h', toks := tk' }) :
   wpAny (model PySem.Challenge.rw_oc0121_01.row.prog w) (ax none 302 8 gd (lawE L fa cd) []) (exec in7 (lawE L fa cd)) Q E s := by
  w_on
  conv => arg 3; arg 1; whnf
  refine wpAny_noRaise ?_
  refine For_turns (E := fun _ _ => False) F ?_ (by intro _; rfl) PassesOwn.never
  ((try k_fold); w_strict (k_extra "go"))
  refine rows_read N hcm hoc ?_
  ((try k_fold); w_strict (k_extra "go"))
  refine sub_read (ps := [(.ref R0, Str.ofString ""), (.ref R1, Str.ofString "")]) (n := j2) N x1 (by decide) (by simp) (by decide) ?_
  intro pb hpb
  obtain rfl : pb = (.ref R1, Str.ofString "") := (Option.some.inj hpb).symm
  (try dsimp only)
  ((try k_fold); w_strict (k_extra "go"))
  refine ktu_zip (xs := p1.map (·.1)) (ys := t1.map (·.1)) rfl F N d3 rfl rfl x3 rfl rfl ?_
  intro I hI
  refine items_zip (fun m' => ∀ y, y ≠ Str.ofString "other" → y ≠ Str.ofString "more" → y ≠ Str.ofString "due" → m' y = m y) ?hk ?hdone _ _ ?_ m (fun _ _ _ _ => rfl)
  case hk => exact ⟨d3, x3, trivial⟩
  case hdone => exact fun m' h tk hJ F' N' => ret h tk m' F' N' hJ
  intro i x y T2 h tk its m2 hx hy hJ hT F2 N2i N2
  have hoff := its_off hI N2i
  obtain ⟨p, hp, rfl⟩ := pv_at (ps := p1) (i := i) (v := x) (by simpa using hx)
  obtain ⟨q, kq, hq, rfl⟩ := txt_at y1 hy
  have epq := same_at e1 hp hq
  have m1 : m2 (Str.ofString "one") = some v := (hJ _ (by decide) (by decide) (by decide)).trans hm1
  have m3 : m2 (Str.ofString "text") = some (.str t k) := (hJ _ (by decide) (by decide) (by decide)).trans hm2
  clear F N
  replace F2 : Fr h₀ L h m2 := F2
  replace N2 : News h₀ L h (its ++ rest) := N2
  refine wpAny_mono (Q := fun _ s₂ => At h₀ L s (fun y => if y = Str.ofString "more" then some (.str q.2 kq) else if y = Str.ofString "other" then some p.1 else m2 y) (its ++ rest) s₂) ?ha ?hb (fun _ _ z => z)
  case ha =>
    ((try k_fold); w_strict (k_extra "go"))
    exact At.intro (by assumption) (by assumption)
  case hb =>
    rintro _ _ ⟨h3, tk3, rfl, F3, N3⟩
    refine body7 (v := v) (v' := p.1) (t := t) (t' := q.2) (k := k) (k' := kq) B X T F3 N3 ((if_neg (by decide)).trans ((if_neg (by decide)).trans m1)) ((if_neg (by decide)).trans ((if_neg (by decide)).trans m3)) ((if_neg (by decide)).trans (if_pos rfl)) (if_pos rfl) (h1.mono fun r hr => List.mem_append_right _ hr) ?_ ?_
    · rw [← epq]
      exact (n1 p (List.mem_of_getElem? hp)).mono fun r hr => List.mem_append_right _ hr
    intro h4 tk4 u4 F4 N4
    refine ⟨h4, tk4, _, rest, rfl, F4, N4, hoff, ?_, rfl⟩
    intro y hy1 hy2 hy3
    (try dsimp only)
    rw [if_neg hy3, if_neg hy2, if_neg hy1]
    exact hJ y hy1 hy2 hy3
end
-- L7
section
variable {w : World} {hh : Option Value} {dp un : Nat} {gd : Option (List Code)} {env : Env} {outer : List Env} {A₀ : Around} {base h₀ : Heap} {L : Addr} {m mg mb : Str → Option Value} {mean : ExcName → Option Value}
   {rest : List (Addr × Obj)} {s : Shared} {Q E : Value → Shared → Prop}
theorem seg7 {fa : Addr} {cd : Value} {K0 K1 Rw R0 R1 : Addr} {p0 p1 t0 t1 : List PV} {k0 k1 j0 j1 j2 : Nat} {oc : Obj} {Q : Flow → Shared → Prop} (B : Below A₀ base [] h₀) (X : (hd.heap_39 w.params).In h₀) (T : Top hd.view_39 (looseW hd.view_39 []) mean mg mb h₀)
   (F : Fr h₀ L s.heap m) (N : News h₀ L s.heap rest) (hoc : oc.data = .cell (some (.ref Rw))) (hcm : (L + 1, oc) ∈ rest) (hm1 : m (Str.ofString "first") = some (.ref K0)) (hm2 : m (Str.ofString "second") = some (.ref K1))
   (d2 : (K0, lob p0 k0) ∈ rest) (d3 : (K1, lob p1 k1) ∈ rest) (x1 : (Rw, W.listOf #[.ref R0, .ref R1] j2) ∈ rest) (x2 : (R0, lob t0 j0) ∈ rest) (x3 : (R1, lob t1 j1) ∈ rest)
   (n0 : ∀ p ∈ p0, Nm rest p.1 p.2) (n1 : ∀ p ∈ p1, Nm rest p.1 p.2) (y0 : Txts t0) (y1 : Txts t1) (e0 : p0.map (·.2) = t0.map (·.2)) (e1 : p1.map (·.2) = t1.map (·.2)) (l0 : p0.length < 100) (l1 : p1.length < 100)
   (ret : ∀ h' tk' m', Fr h₀ L h' m' → News h₀ L h' rest → (∀ y, y ≠ Str.ofString "one" → y ≠ Str.ofString "text" → y ≠ Str.ofString "other" → y ≠ Str.ofString "more" → y ≠ Str.ofString "due" → m' y = m y) → Q .next { s with heap := h', toks := tk' }) :
   wpAny (model PySem.Challenge.rw_oc0121_01.row.prog w) (ax none 302 8 gd (lawE L fa cd) []) (exec (lawSt 7) (lawE L fa cd)) Q E s := by
  w_on
  conv => arg 3; arg 1; whnf
  refine wpAny_noRaise ?_
  refine For_turns (E := fun _ _ => False) F ?_ (by intro _; rfl) PassesOwn.never
  ((try k_fold); w_strict (k_extra "go"))
  refine rows_read N hcm hoc ?_
  ((try k_fold); w_strict (k_extra "go"))
  refine sub_read (ps := [(.ref R0, Str.ofString ""), (.ref R1, Str.ofString "")]) (n := j2) N x1 (by decide) (by simp) (by decide) ?_
  intro pb hpb
  obtain rfl : pb = (.ref R0, Str.ofString "") := (Option.some.inj hpb).symm
  (try dsimp only)
  ((try k_fold); w_strict (k_extra "go"))
  refine ktu_zip (xs := p0.map (·.1)) (ys := t0.map (·.1)) rfl F N d2 rfl rfl x2 rfl rfl ?_
  intro I hI
  refine items_zip (fun m' => ∀ y, y ≠ Str.ofString "one" → y ≠ Str.ofString "text" → y ≠ Str.ofString "other" → y ≠ Str.ofString "more" → y ≠ Str.ofString "due" → m' y = m y) ?hk ?hdone _ _ ?_ m (fun _ _ _ _ _ _ => rfl)
  case hk => exact ⟨d2, x2, trivial⟩
  case hdone => exact fun m' h tk hJ F' N' => ret h tk m' F' N' hJ
  intro i x y T2 h tk its m2 hx hy hJ hT F2 N2i N2
  have hoff := its_off hI N2i
  obtain ⟨p, hp, rfl⟩ := pv_at (ps := p0) (i := i) (v := x) (by simpa using hx)
  obtain ⟨q, kq, hq, rfl⟩ := txt_at y0 hy
  have epq := same_at e0 hp hq
  have m1 : m2 (Str.ofString "second") = some (.ref K1) := (hJ _ (by decide) (by decide) (by decide) (by decide) (by decide)).trans hm2
  clear F N
  replace F2 : Fr h₀ L h m2 := F2
  replace N2 : News h₀ L h (its ++ rest) := N2
  refine wpAny_mono (Q := fun _ s₂ => At h₀ L s (fun y => if y = Str.ofString "text" then some (.str q.2 kq) else if y = Str.ofString "one" then some p.1 else m2 y) (its ++ rest) s₂) ?ha ?hb (fun _ _ z => z)
  case ha =>
    ((try k_fold); w_strict (k_extra "go"))
    exact At.intro (by assumption) (by assumption)
  case hb =>
    rintro _ _ ⟨h3, tk3, rfl, F3, N3⟩
    have up : ∀ r ∈ rest, r ∈ its ++ rest := fun r hr => List.mem_append_right _ hr
    show wpAny _ _ (execs [in7] (lawE L fa cd)) _ _ _
    refine wpAny_execs_cons ?_
    refine inner7 (v := p.1) (t := q.2) (k := kq) B X T F3 N3 hoc (up _ hcm) ((if_neg (by decide)).trans (if_pos rfl)) (if_pos rfl) ((if_neg (by decide)).trans ((if_neg (by decide)).trans m1)) (up _ d3) (up _ x1) (up _ x3) ?_ (fun r hr => (n1 r hr).mono up) y1 e1 l1 ?_
    · rw [← epq]
      exact (n0 p (List.mem_of_getElem? hp)).mono up
    intro h4 tk4 m4 F4 N4 hm4
    refine wpAny_execs_nil ?_
    refine ⟨h4, tk4, m4, rest, rfl, F4, N4, hoff, ?_, rfl⟩
    intro y hy1 hy2 hy3 hy4 hy5
    rw [hm4 y hy3 hy4 hy5]
    rw [if_neg hy2, if_neg hy1]
    exact hJ y hy1 hy2 hy3 hy4 hy5
end
-- L8
theorem rows_readC {w : World} {A : Around} {E : Value → Shared → Prop} {s : Shared} {h₀ : Heap} {L : Addr} {news : List (Addr × Obj)} {Q : Value → Shared → Prop} {oc : Obj} {v : Value} {p : Pos} {scope : Scope} {cl : List (Str × Addr)} {C : Addr} {env : Env} (N : News h₀ L s.heap news) (hm : (L + 1, oc) ∈ news) (hd : oc.data = .cell (some v)) (h : Q v s)
    (hk : (compEnvC scope cl C env).scope.kind = .function) (hx : (compEnvC scope cl C env).kindOf (Str.ofString "rows") = some .cell) (hc : cl.lookup (Str.ofString "rows") = some (L + 1)) :
    wpAny (model PySem.Challenge.rw_oc0121_01.row.prog w) A (eval (.Name (Str.ofString "rows") p) (compEnvC scope cl C env)) Q E s :=
  wpAny_Name (wpAny_loadName_cell hk hx hc ⟨oc, (N _ hm).1, hd⟩ h) (by decide)
theorem nin_dat (qs : List PV) (p : PV) [Decidable (Dat.str p.2 ∈ qs.map fun q => Dat.str q.2)] : (!decide (Dat.str p.2 ∈ qs.map fun q => Dat.str q.2)) = nin qs p := by
  by_cases h : ∃ q ∈ qs, q.2 = p.2
  · obtain ⟨q, hq, e⟩ := h
    rw [nin_false hq e, decide_eq_true (List.mem_map.mpr ⟨q, hq, by rw [e]⟩)]
    rfl
  · rw [nin_true (fun q hq e => h ⟨q, hq, e⟩), decide_eq_false]
    · rfl
    · intro hm
      obtain ⟨q, hq, e⟩ := List.mem_map.mp hm
      exact h ⟨q, hq, Dat.str.inj e⟩
theorem ok_strs {ps : List PV} (h : ∀ p ∈ ps, PyData.strOk p.2 = true) (n : Nat) : ∀ d ∈ (ps.map fun p => Dat.str p.2), kqdOk n d = true := by
  intro d hd
  obtain ⟨p, hp, rfl⟩ := List.mem_map.mp hd
  cases n <;> exact h p hp
section
variable {w : World} {hh : Option Value} {dp un : Nat} {gd : Option (List Code)} {env : Env} {outer : List Env} {A₀ : Around} {base h₀ : Heap} {L : Addr} {m mg mb : Str → Option Value} {mean : ExcName → Option Value}
   {rest : List (Addr × Obj)} {s : Shared} {Q E : Value → Shared → Prop}
theorem seg8 {fa : Addr} {cd : Value} {Rw R0 R1 : Addr} {t0 t1 : List PV} {j0 j1 j2 : Nat} {oc : Obj} {Q : Flow → Shared → Prop} (B : Below A₀ base [] h₀) (X : (hd.heap_39 w.params).In h₀) (T : Top hd.view_39 (looseW hd.view_39 []) mean mg mb h₀)
   (F : Fr h₀ L s.heap m) (N : News h₀ L s.heap rest) (hoc : oc.data = .cell (some (.ref Rw))) (hcm : (L + 1, oc) ∈ rest)
   (x1 : (Rw, W.listOf #[.ref R0, .ref R1] j2) ∈ rest) (x2 : (R0, lob t0 j0) ∈ rest) (x3 : (R1, lob t1 j1) ∈ rest)
   (y0 : Txts t0) (y1 : Txts t1) (l0 : t0.length < 100) (l1 : t1.length < 100)
   (ok0 : ∀ p ∈ t0, PyData.strOk p.2 = true) (ok1 : ∀ p ∈ t1, PyData.strOk p.2 = true)
   (ret : ∀ h' tk' tl K0 K1 k0 k1, Fr h₀ L h' (fun y => if y = Str.ofString "lost" then some (.ref K0) else if y = Str.ofString "over" then some (.ref K1) else m y) → News h₀ L h' (tl ++ rest) → (∀ p ∈ tl, ∀ q ∈ rest, p.1 ≠ q.1) → (K0, lob (t0.filter (nin t1)) k0) ∈ tl → (K1, lob (t1.filter (nin t0)) k1) ∈ tl → Q .next { s with heap := h', toks := tk' }) :
   wpAny (model PySem.Challenge.rw_oc0121_01.row.prog w) (ax none 302 8 gd (lawE L fa cd) []) (exec (lawSt 8) (lawE L fa cd)) Q E s := by
  w_on
  conv => arg 3; arg 1; whnf
  ((try k_fold); w_strict (k_extra "go"))
  refine LCt.ListComp_T F (by rfl) (by decide) (by rfl) (by decide) (by rfl) ?_
  ((try k_fold); w_strict (k_extra "go"))
  refine rows_read N hcm hoc ?_
  ((try k_fold); w_strict (k_extra "go"))
  refine sub_read (ps := [(.ref R0, Str.ofString ""), (.ref R1, Str.ofString "")]) (n := j2) N x1 (by decide) (by simp) (by decide) ?_
  intro pb hpb
  obtain rfl : pb = (.ref R0, Str.ofString "") := (Option.some.inj hpb).symm
  (try dsimp only)
  ((try k_fold); w_strict (k_extra "go"))
  refine LCt.CompSrcT.ledger (by rfl) F N x2 (by rw [sizeLine_eq]; simp; omega) ?_
  intro g1
  refine comp_indT (fun i ys news => rest = news ∧ ys = ((t0.take i).filter (nin t1)).map (·.1)) ?_ ?_ _ 0 [] _ (Nat.zero_add _) ⟨rfl, rfl⟩
  · rintro i ys _ hin ⟨rfl, rfl⟩ v I oI Cc oC D m₂ h tk E' hP hC hx F2 N2 off ne
    obtain ⟨p, hp, rfl⟩ := pv_at hP
    obtain ⟨kp, ekp⟩ := y0 p (List.mem_of_getElem? hp)
    ((try k_fold); w_strict (k_extra "go"))
    refine rows_readC N2 (.tail _ (.tail _ (.tail _ hcm))) hoc ?_ rfl rfl rfl
    ((try k_fold); w_strict (k_extra "go"))
    refine sub_read (ps := [(.ref R0, Str.ofString ""), (.ref R1, Str.ofString "")]) (n := j2) N2 (.tail _ (.tail _ (.tail _ x1))) (by decide) (by simp) (by decide) ?_
    intro pb hpb
    obtain rfl : pb = (.ref R1, Str.ofString "") := (Option.some.inj hpb).symm
    rw [ekp]
    (try dsimp only)
    refine kqd_notIn N2 (.tail _ (.tail _ (.tail _ x3))) rfl rfl (dat_txts y1 (l := rest)) (fun _ h => .tail _ (.tail _ (.tail _ h))) (n₂ := rest) (.str _ _) (fun _ h => .tail _ (.tail _ (.tail _ h))) (ok_strs ok1 8) (by exact ok0 p (List.mem_of_getElem? hp)) (Nat.le_of_ble_eq_true rfl) ?_
    rw [nin_dat]
    have ef : ((t0.take (i + 1)).filter (nin t1)) = (t0.take i).filter (nin t1) ++ if nin t1 p then [p] else [] := by
      rw [take_succ_of hp, List.filter_append]
      cases hn : nin t1 p <;> simp [List.filter, hn]
    cases hn : nin t1 p
    · rw [hn] at ef
      ((try k_fold); w_strict (k_extra "go"))
      exact LCg.CompEnd.intro F2 N2 _ (fun p hp => hp) off (.inr ⟨_, x2, rfl, _, rfl⟩) ⟨rfl, by rw [ef]; simp⟩
    · rw [hn] at ef
      ((try k_fold); w_strict (k_extra "go"))
      exact LCg.CompEnd.intro F2 N2 _ (fun p hp => hp) off (.inr ⟨_, x2, rfl, _, rfl⟩) ⟨rfl, by rw [ef]; simp⟩
  rintro ys _ ⟨rfl, rfl⟩
  unfold LCg.FinE
  rw [List.size_toArray, List.length_map, List.take_length]
  intro D1 h3 tk3 F3 N3 o1
  replace o1 := off1_mem o1
  clear F N
  (try dsimp only)
  obtain ⟨r3, er3⟩ : ∃ r3, r3 = (D1, LCg.lst ((t0.filter (nin t1)).map (·.1))) :: rest := ⟨_, rfl⟩
  have sub3 : ∀ p ∈ rest, p ∈ r3 := fun p hp => by rw [er3]; exact .tail _ hp
  rw [← er3] at N3
  ((try k_fold); w_strict (k_extra "go"))
  refine LCt.ListComp_T F3 (by rfl) (by decide) (by rfl) (by decide) (by rfl) ?_
  ((try k_fold); w_strict (k_extra "go"))
  refine rows_read N3 (sub3 _ hcm) hoc ?_
  ((try k_fold); w_strict (k_extra "go"))
  refine sub_read (ps := [(.ref R0, Str.ofString ""), (.ref R1, Str.ofString "")]) (n := j2) N3 (sub3 _ x1) (by decide) (by simp) (by decide) ?_
  intro pc hpc
  obtain rfl : pc = (.ref R1, Str.ofString "") := (Option.some.inj hpc).symm
  (try dsimp only)
  ((try k_fold); w_strict (k_extra "go"))
  refine LCt.CompSrcT.ledger (by rfl) F3 N3 (sub3 _ x3) (by rw [sizeLine_eq]; simp; omega) ?_
  intro g2
  refine comp_indT (fun i ys news => r3 = news ∧ ys = ((t1.take i).filter (nin t0)).map (·.1)) ?_ ?_ _ 0 [] _ (Nat.zero_add _) ⟨rfl, rfl⟩
  · rintro i ys nw hin ⟨enw, rfl⟩ v I oI Cc oC D m₂ h tk E' hP hC hx F2 N2 off ne
    rw [← enw] at N2 off
    obtain ⟨p, hp, rfl⟩ := pv_at hP
    obtain ⟨kp, ekp⟩ := y1 p (List.mem_of_getElem? hp)
    ((try k_fold); w_strict (k_extra "go"))
    refine rows_readC N2 (.tail _ (.tail _ (.tail _ (sub3 _ hcm)))) hoc ?_ rfl rfl rfl
    ((try k_fold); w_strict (k_extra "go"))
    refine sub_read (ps := [(.ref R0, Str.ofString ""), (.ref R1, Str.ofString "")]) (n := j2) N2 (.tail _ (.tail _ (.tail _ (sub3 _ x1)))) (by decide) (by simp) (by decide) ?_
    intro pb hpb
    obtain rfl : pb = (.ref R0, Str.ofString "") := (Option.some.inj hpb).symm
    rw [ekp]
    (try dsimp only)
    refine kqd_notIn N2 (.tail _ (.tail _ (.tail _ (sub3 _ x2)))) rfl rfl (dat_txts y0 (l := r3)) (fun _ h => .tail _ (.tail _ (.tail _ h))) (n₂ := r3) (.str _ _) (fun _ h => .tail _ (.tail _ (.tail _ h))) (ok_strs ok0 8) (by exact ok1 p (List.mem_of_getElem? hp)) (Nat.le_of_ble_eq_true rfl) ?_
    rw [nin_dat]
    have ef : ((t1.take (i + 1)).filter (nin t0)) = (t1.take i).filter (nin t0) ++ if nin t0 p then [p] else [] := by
      rw [take_succ_of hp, List.filter_append]
      cases hn : nin t0 p <;> simp [List.filter, hn]
    cases hn : nin t0 p
    · rw [hn] at ef
      ((try k_fold); w_strict (k_extra "go"))
      exact LCg.CompEnd.intro F2 N2 _ (fun p hp => hp) off (.inr ⟨_, sub3 _ x3, rfl, _, rfl⟩) ⟨rfl, by rw [ef]; simp⟩
    · rw [hn] at ef
      ((try k_fold); w_strict (k_extra "go"))
      exact LCg.CompEnd.intro F2 N2 _ (fun p hp => hp) off (.inr ⟨_, sub3 _ x3, rfl, _, rfl⟩) ⟨rfl, by rw [ef]; simp⟩
  rintro ys nw ⟨enw, rfl⟩
  unfold LCg.FinE
  rw [List.size_toArray, List.length_map, List.take_length, ← enw]
  intro D2 h5 tk5 F5 N5 o5
  replace o5 := off1_mem o5
  clear F3 N3 enw
  (try dsimp only)
  ((try k_fold); w_strict (k_extra "go"))
  refine new_tup F5 N5 (by simp) ?_
  intro D6 h6 F6 N6 o6
  clear F5 N5
  (try dsimp only)
  ((try k_fold); w_strict (k_extra "go"))
  rename Fr _ _ _ _ => F8
  rename News _ _ _ _ => N8
  subst er3
  refine ret _ _ [(D6, tupOf [Value.ref D1, Value.ref D2]), (D2, LCg.lst ((t1.filter (nin t0)).map fun x : PV => x.1)), (D1, LCg.lst ((t0.filter (nin t1)).map fun x : PV => x.1))] D1 D2 _ _ F8 N8 ?_ (.tail _ (.tail _ (.head _))) (.tail _ (.head _))
  exact off_to (fun q hq => o6 q (.tail _ (sub3 _ hq))) (off_to (fun q hq => o5 q (sub3 _ hq)) (off_to o1 off_nil))
end
-- L9
section
variable {w : World} {hh : Option Value} {dp un : Nat} {gd : Option (List Code)} {env : Env} {outer : List Env} {A₀ : Around} {base h₀ : Heap} {L : Addr} {m mg mb : Str → Option Value} {mean : ExcName → Option Value}
   {rest : List (Addr × Obj)} {s : Shared} {Q E : Value → Shared → Prop}
theorem seg9 {fa : Addr} {cd : Value} {K0 K1 : Addr} {p0 p1 : List PV} {k0 k1 : Nat} {Q : Flow → Shared → Prop} (B : Below A₀ base [] h₀) (X : (hd.heap_39 w.params).In h₀) (T : Top hd.view_39 (looseW hd.view_39 []) mean mg mb h₀)
   (F : Fr h₀ L s.heap m) (N : News h₀ L s.heap rest) (hm1 : m (Str.ofString "first") = some (.ref K0)) (hm2 : m (Str.ofString "second") = some (.ref K1))
   (d2 : (K0, lob p0 k0) ∈ rest) (d3 : (K1, lob p1 k1) ∈ rest) (n0 : ∀ p ∈ p0, Nm rest p.1 p.2) (n1 : ∀ p ∈ p1, Nm rest p.1 p.2) (s0 : p0.Pairwise slt) (s1 : p1.Pairwise slt) (l0 : p0.length < 100) (l1 : p1.length < 100)
   (ret : ∀ h' tk' T0 T1 T2 A1 A2 B1 B2 a1 a2 b1 b2, Fr h₀ L h' (fun y => if y = Str.ofString "told" then some (.ref T0) else m y) → News h₀ L h' ((T0, tupOf [.ref T1, .ref T2]) :: (T2, tupOf [.ref B1, .ref B2]) :: (B1, lob (p1.filter (nin p0)) b1) :: (B2, lob (p0.filter (nin p1)) b2) :: (T1, tupOf [.ref A1, .ref A2]) :: (A1, lob (p0.filter (nin p1)) a1) :: (A2, lob (p1.filter (nin p0)) a2) :: rest) → Q .next { s with heap := h', toks := tk' }) :
   wpAny (model PySem.Challenge.rw_oc0121_01.row.prog w) (ax none 302 8 gd (lawE L fa cd) []) (exec (lawSt 9) (lawE L fa cd)) Q E s := by
  w_on
  conv => arg 3; arg 1; whnf
  ((try k_fold); w_strict (k_extra "go"))
  refine sld_c ⟨B, X, T, rfl, rfl⟩ F N d2 d3 n0 n1 s0 s1 l0 l1 ?_ (Nat.le_of_ble_eq_true rfl) (Nat.le_of_ble_eq_true rfl)
  intro h2 tk2 T1 A1 A2 a1 a2 F2 N2
  clear F N
  obtain ⟨r2, er2⟩ : ∃ r2, r2 = (T1, tupOf [.ref A1, .ref A2]) :: (A1, lob (p0.filter (nin p1)) a1) :: (A2, lob (p1.filter (nin p0)) a2) :: rest := ⟨_, rfl⟩
  have sub2 : ∀ p ∈ rest, p ∈ r2 := fun p hp => by rw [er2]; exact .tail _ (.tail _ (.tail _ hp))
  rw [← er2] at N2
  (try dsimp only)
  ((try k_fold); w_strict (k_extra "go"))
  refine sld_c ⟨B, X, T, rfl, rfl⟩ F2 N2 (sub2 _ d3) (sub2 _ d2) (fun p hp => (n1 p hp).mono sub2) (fun p hp => (n0 p hp).mono sub2) s1 s0 l1 l0 ?_ (Nat.le_of_ble_eq_true rfl) (Nat.le_of_ble_eq_true rfl)
  intro h3 tk3 T2 B1 B2 b1 b2 F3 N3
  clear F2 N2
  (try dsimp only)
  ((try k_fold); w_strict (k_extra "go"))
  refine new_tup F3 N3 (by simp) ?_
  intro D6 h6 F6 N6 o6
  clear F3 N3
  (try dsimp only)
  ((try k_fold); w_strict (k_extra "go"))
  rename Fr _ _ _ _ => F8
  rename News _ _ _ _ => N8
  subst er2
  exact ret _ _ D6 T1 T2 A1 A2 B1 B2 a1 a2 b1 b2 F8 N8
end
-- L10
/-- a list of two rows of texts -/
inductive Two (l : List (Addr × Obj)) (v : Value) (a b : List Str) : Prop
  | mk (D U0 U1 : Addr) (u0 u1 : List PV) (k k0 k1 : Nat) (x1 : v = .ref D) (x2 : (D, W.listOf #[.ref U0, .ref U1] k) ∈ l) (x3 : (U0, lob u0 k0) ∈ l) (x4 : (U1, lob u1 k1) ∈ l) (x5 : Txts u0) (x6 : Txts u1) (x7 : u0.map (·.2) = a) (x8 : u1.map (·.2) = b) : Two l v a b
/-- a pair of rows at hand -/
inductive InT (rest : List (Addr × Obj)) (v : Value) (pa pb : List PV) : Prop
  | mk (Tt Aa Ab : Addr) (ka kb : Nat) (x1 : v = .ref Tt) (x2 : (Tt, tupOf [.ref Aa, .ref Ab]) ∈ rest) (x3 : (Aa, lob pa ka) ∈ rest) (x4 : (Ab, lob pb kb) ∈ rest) (x5 : ∀ p ∈ pa, Nm rest p.1 p.2) (x6 : ∀ p ∈ pb, Nm rest p.1 p.2) (x7 : pa.length < 100) (x8 : pb.length < 100) : InT rest v pa pb
theorem Two.mono {l l' : List (Addr × Obj)} {v : Value} {a b : List Str} (h : Two l v a b) (hs : ∀ p ∈ l, p ∈ l') : Two l' v a b := by
  obtain ⟨D, U0, U1, u0, u1, k, k0, k1, e, h1, h2, h3, r1, r2, r3, r4⟩ := h
  exact ⟨D, U0, U1, u0, u1, k, k0, k1, e, hs _ h1, hs _ h2, hs _ h3, r1, r2, r3, r4⟩
theorem dat_pair {l : List (Addr × Obj)} {D U0 U1 : Addr} {k : Nat} {d e : Dat} (h : (D, W.listOf #[.ref U0, .ref U1] k) ∈ l) (h1 : DatIn l (.ref U0) d) (h2 : DatIn l (.ref U1) e) : DatIn l (.ref D) (.list [d, e]) :=
  .list (vs := [.ref U0, .ref U1]) h (dat_two h1 h2)
theorem ok_two {a b : Dat} {n : Nat} (h1 : kqdOk n a = true) (h2 : kqdOk n b = true) : kqdOk (n + 1) (.list [a, b]) = true := by
  rw [kqdOk, List.all_eq_true]
  exact all_two h1 h2
noncomputable abbrev ds (ps : List PV) : Dat := .list (ps.map fun p => Dat.str p.2)
theorem ds_eq {ps qs : List PV} (h : ps.map (·.2) = qs.map (·.2)) : ds ps = ds qs := congrArg Dat.list (dats_eq h)
section
variable {w : World} {hh : Option Value} {dp un : Nat} {gd : Option (List Code)} {env : Env} {outer : List Env} {A₀ : Around} {base h₀ : Heap} {L : Addr} {m mg mb : Str → Option Value} {mean : ExcName → Option Value}
   {rest : List (Addr × Obj)} {s : Shared} {Q E : Value → Shared → Prop}
theorem seg10 {fa : Addr} {cd : Value} {T0 T1 T2 A1 A2 B1 B2 Lo Ov : Addr} {pa1 pa2 pb1 pb2 lo ov : List PV} {a1 a2 b1 b2 lk ok : Nat} {Q : Flow → Shared → Prop} (B : Below A₀ base [] h₀) (X : (hd.heap_39 w.params).In h₀) (T : Top hd.view_39 (looseW hd.view_39 []) mean mg mb h₀)
   (F : Fr h₀ L s.heap m) (N : News h₀ L s.heap rest) (hm1 : m (Str.ofString "told") = some (.ref T0)) (hm2 : m (Str.ofString "lost") = some (.ref Lo)) (hm3 : m (Str.ofString "over") = some (.ref Ov))
   (d0 : (T0, tupOf [.ref T1, .ref T2]) ∈ rest) (d1 : (T1, tupOf [.ref A1, .ref A2]) ∈ rest) (d2 : (T2, tupOf [.ref B1, .ref B2]) ∈ rest)
   (g1 : (A1, lob pa1 a1) ∈ rest) (g2 : (A2, lob pa2 a2) ∈ rest) (g3 : (B1, lob pb1 b1) ∈ rest) (g4 : (B2, lob pb2 b2) ∈ rest)
   (n1 : ∀ p ∈ pa1, Nm rest p.1 p.2) (n2 : ∀ p ∈ pa2, Nm rest p.1 p.2) (n3 : ∀ p ∈ pb1, Nm rest p.1 p.2) (n4 : ∀ p ∈ pb2, Nm rest p.1 p.2)
   (c1 : pa1.length < 100) (c2 : pa2.length < 100) (c3 : pb1.length < 100) (c4 : pb2.length < 100)
   (xl : (Lo, lob lo lk) ∈ rest) (xo : (Ov, lob ov ok) ∈ rest) (yl : Txts lo) (yo : Txts ov)
   (e1 : pa1.map (·.2) = lo.map (·.2)) (e2 : pa2.map (·.2) = ov.map (·.2)) (e3 : pb1.map (·.2) = ov.map (·.2)) (e4 : pb2.map (·.2) = lo.map (·.2))
   (okl : ∀ p ∈ lo, PyData.strOk p.2 = true) (oko : ∀ p ∈ ov, PyData.strOk p.2 = true)
   (ret : ∀ h' tk', Fr h₀ L h' m → News h₀ L h' rest → Q .next { s with heap := h', toks := tk' }) :
   wpAny (model PySem.Challenge.rw_oc0121_01.row.prog w) (ax none 302 8 gd (lawE L fa cd) []) (exec (lawSt 10) (lawE L fa cd)) Q E s := by
  w_on
  conv => arg 3; arg 1; whnf
  ((try k_fold); w_strict (k_extra "go"))
  refine ListComp_W F (by rfl) (by decide) (by rfl) (by decide) (by rfl) ?_
  ((try k_fold); w_strict (k_extra "go"))
  refine comp_tup rfl F N (its := #[.ref T1, .ref T2]) d0 (by simp) ?_
  intro q3
  refine comp_map (fun i y l => Two l y ((if i = 0 then pa1 else pb1).map fun x : PV => x.2) ((if i = 0 then pa2 else pb2).map fun x : PV => x.2)) (fun i y l l' h hs => h.mono hs) (fun tl => List.mem_append_right _ d0) ?_ ?_
  · intro i v tl I oI Cc oC Dd oD m₂ h tk E' hin hP hC hx F3 N3 hoff
    obtain ⟨Tt, Aa, Ab, ka, kb, rfl, dt, da, db, na, nb, ca, cb⟩ : InT rest v (if i = 0 then pa1 else pb1) (if i = 0 then pa2 else pb2) := by
      rcases two_at hP with ⟨rfl, rfl⟩ | ⟨rfl, rfl⟩
      · exact ⟨T1, A1, A2, a1, a2, rfl, d1, g1, g2, n1, n2, c1, c2⟩
      · exact ⟨T2, B1, B2, b1, b2, rfl, d2, g3, g4, n3, n4, c3, c4⟩
    generalize (if i = 0 then pa1 else pb1) = pa at da na ca ⊢
    generalize (if i = 0 then pa2 else pb2) = pb at db nb cb ⊢
    obtain ⟨r3, er3⟩ : ∃ r3, r3 = (I, oI) :: (Cc, oC) :: (Dd, oD) :: (tl ++ rest) := ⟨_, rfl⟩
    have sub3 : ∀ p ∈ rest, p ∈ r3 := fun p hp => by rw [er3]; exact .tail _ (.tail _ (.tail _ (List.mem_append_right _ hp)))
    have hCm : (Cc, oC) ∈ r3 := by rw [er3]; exact .tail _ (.head _)
    rw [← er3] at N3 ⊢
    refine ListComp_W F3 (by rfl) (by decide) (by rfl) (by decide) (by rfl) ?_
    ((try k_fold); w_strict (k_extra "go"))
    refine comp_tup rfl F3 N3 (its := #[.ref Aa, .ref Ab]) (sub3 _ dt) (by simp) ?_
    intro q4
    refine comp_map (fun i y l => RowT ((if i = 0 then pa else pb).map fun x : PV => x.2) y l ∧ ∀ p ∈ r3, y ≠ .ref p.1) (fun _ _ _ _ h hs => ⟨h.1.mono hs, h.2⟩) (fun tl => List.mem_append_right _ (sub3 _ dt)) ?_ ?_
    · intro i2 v2 tl2 I2 oI2 Cc2 oC2 Dd2 oD2 m₃ h4 tk4 E4 hin2 hP2 hC2 hx2 F4 N4 hoff2
      obtain ⟨A3, nn, rfl, hA, hl3, hnm⟩ := row_at (fun pp => ∀ p ∈ pp, Nm rest p.1 p.2) hP2 da db ca cb na nb
      generalize (if i2 = 0 then pa else pb) = pp at hA hl3 hnm ⊢
      refine LCg.ListComp_U F4 (by rfl) (by decide) (by rfl) (by decide) (by rfl) ?_
      ((try k_fold); w_strict (k_extra "go"))
      refine LCg.CompSrc.ledger (by rfl) F4 N4 (.tail _ (.tail _ (.tail _ (List.mem_append_right _ (sub3 _ hA))))) (by rw [sizeLine_eq]; simp; omega) ?_
      intro gj
      refine comp_map (fun j y _ => ∃ p k, pp[j]? = some p ∧ y = .str p.2 k) (fun _ _ _ _ h _ => h) (fun tl => .inr ⟨_, List.mem_append_right _ (.tail _ (.tail _ (.tail _ (List.mem_append_right _ (sub3 _ hA))))), rfl, _, rfl⟩) ?_ ?_
      · intro j vj tlj Ij oIj Cj oCj Dj oDj mj hj tkj Ej hinj hPj hCj hxj Fj Nj hoffj
        obtain ⟨pj, hpj, rfl⟩ := pv_at hPj
        ((try k_fold); w_strict (k_extra "go"))
        refine str_name ⟨B, X, T, rfl, rfl⟩ Fj Nj (((fun p hp => (hnm p hp).mono fun q hq => .tail _ (.tail _ (.tail _ (List.mem_append_right _ (sub3 _ hq))))) pj (List.mem_of_getElem? hpj)).mono fun q hq => .tail _ (.tail _ (.tail _ (List.mem_append_right _ hq)))) ?_ (Nat.le_of_ble_eq_true rfl) (Nat.le_of_ble_eq_true rfl)
        intro h8 tk8 k8 F8 N8
        exact Out.intro [] F8 N8 (fun _ h => nomatch h) ⟨pj, k8, hpj, rfl⟩
      intro ysj tlj hoj hlenj hRj
      obtain ⟨qsj, rfl, eqj, txj⟩ := txts_of (by simpa using hlenj) hRj
      unfold LCg.FinE
      intro D5 h5 tk5 F5 N5 o5
      replace o5 := off1_mem o5
      exact Out.intro ((D5, lob qsj _) :: tlj) F5 N5 (off_to (fun q hq => o5 q (List.mem_append_right _ hq)) hoj) ⟨⟨D5, qsj, _, rfl, .head _, txj, eqj⟩, fun p hp e => o5 p (List.mem_append_right _ (.tail _ (.tail _ (.tail _ (List.mem_append_right _ hp))))) (Value.ref.inj e).symm⟩
    · intro ys tl2 ho2 hlen hR
      unfold LCg.FinE
      intro D6 h6 tk6 F6 N6 o6
      replace o6 := off1_mem o6
      obtain ⟨v0, v1, rfl⟩ := two_of hlen
      obtain ⟨⟨U0, u0, i0, rfl, m0, tu0, eu0⟩, f0⟩ := hR 0 v0 rfl
      obtain ⟨⟨U1, u1, i1, rfl, m1, tu1, eu1⟩, f1⟩ := hR 1 v1 rfl
      replace m0 := (List.mem_append.mp m0).resolve_right fun h => f0 _ h rfl
      replace m1 := (List.mem_append.mp m1).resolve_right fun h => f1 _ h rfl
      exact Out.intro ((D6, LCg.lst [Value.ref U0, Value.ref U1]) :: tl2) F6 N6 (off_to (fun q hq => o6 q (List.mem_append_right _ hq)) ho2) ⟨D6, U0, U1, u0, u1, _, i0, i1, rfl, .head _, .tail _ (List.mem_append_left _ m0), .tail _ (List.mem_append_left _ m1), tu0, tu1, eu0, eu1⟩
  · intro ys tl ho hlen hR
    unfold LCg.FinE
    intro D6 h6 tk6 F6 N6 o6
    clear F N
    obtain ⟨v0, v1, rfl⟩ := two_of hlen
    obtain ⟨V0, U0, U1, u0, u1, i, i0, i1, rfl, w0, w1, w2, tu0, tu1, eu0, eu1⟩ := hR 0 v0 rfl
    obtain ⟨V1, U2, U3, u2, u3, j, j0, j1, rfl, w3, w4, w5, tu2, tu3, eu2, eu3⟩ := hR 1 v1 rfl
    replace eu0 : u0.map (·.2) = pa1.map (·.2) := eu0
    replace eu1 : u1.map (·.2) = pa2.map (·.2) := eu1
    replace eu2 : u2.map (·.2) = pb1.map (·.2) := eu2
    replace eu3 : u3.map (·.2) = pb2.map (·.2) := eu3
    obtain ⟨r6, er6⟩ : ∃ r6, r6 = (D6, LCg.lst [Value.ref V0, Value.ref V1]) :: (tl ++ rest) := ⟨_, rfl⟩
    have sub6 : ∀ p ∈ tl ++ rest, p ∈ r6 := fun p hp => by rw [er6]; exact .tail _ hp
    have sub6' : ∀ p ∈ rest, p ∈ r6 := fun p hp => sub6 p (List.mem_append_right _ hp)
    have hD6 : (D6, LCg.lst [Value.ref V0, Value.ref V1]) ∈ r6 := by rw [er6]; exact .head _
    rw [← er6] at N6
    (try dsimp only)
    ((try k_fold); w_strict (k_extra "go"))
    refine new_list F6 N6 (by simp) ?_
    intro X1 h7 F7 N7 o7
    clear F6 N6
    (try dsimp only)
    ((try k_fold); w_strict (k_extra "go"))
    refine new_list F7 N7 (by simp) ?_
    intro X2 h8 F8 N8 o8
    clear F7 N7
    (try dsimp only)
    ((try k_fold); w_strict (k_extra "go"))
    refine new_list F8 N8 (by simp) ?_
    intro X3 h9 F9 N9 o9
    clear F8 N8
    (try dsimp only)
    ((try k_fold); w_strict (k_extra "go"))
    have up : ∀ p ∈ tl ++ rest, p ∈ (X3, W.listOf #[Value.ref X1, Value.ref X2] 0) :: (X2, W.listOf #[Value.ref Ov, Value.ref Lo] 0) :: (X1, W.listOf #[Value.ref Lo, Value.ref Ov] 0) :: r6 := fun p hp => .tail _ (.tail _ (.tail _ (sub6 p hp)))
    have up' : ∀ p ∈ rest, p ∈ (X3, W.listOf #[Value.ref X1, Value.ref X2] 0) :: (X2, W.listOf #[Value.ref Ov, Value.ref Lo] 0) :: (X1, W.listOf #[Value.ref Lo, Value.ref Ov] 0) :: r6 := fun p hp => .tail _ (.tail _ (.tail _ (sub6' p hp)))
    have q0 := ds_eq (eu0.trans e1)
    have q1 := ds_eq (eu1.trans e2)
    have q2 := ds_eq (eu2.trans e3)
    have q3 := ds_eq (eu3.trans e4)
    have kl : kqdOk 7 (ds lo) = true := ok_row okl 6
    have ko : kqdOk 7 (ds ov) = true := ok_row oko 6
    refine kqd_ne (ds := [.list [ds u0, ds u1], .list [ds u2, ds u3]]) (es := [.list [ds lo, ds ov], .list [ds ov, ds lo]]) (xs := [.ref V0, .ref V1]) (ys := [.ref X1, .ref X2]) N9 (.tail _ (.tail _ (.tail _ hD6))) rfl rfl
      (dat_two (dat_pair (up _ w0) (dat_row tu0 (up _ w1)) (dat_row tu1 (up _ w2))) (dat_pair (up _ w3) (dat_row tu2 (up _ w4)) (dat_row tu3 (up _ w5)))) (fun _ h => h)
      (.head _) rfl rfl (dat_two (dat_pair (.tail _ (.tail _ (.head _))) (dat_row yl (up' _ xl)) (dat_row yo (up' _ xo))) (dat_pair (.tail _ (.head _)) (dat_row yo (up' _ xo)) (dat_row yl (up' _ xl)))) (fun _ h => h)
      (all_two (ok_two (by rw [q0]; exact kl) (by rw [q1]; exact ko)) (ok_two (by rw [q2]; exact ko) (by rw [q3]; exact kl))) (all_two (ok_two kl ko) (ok_two ko kl)) (Nat.le_of_ble_eq_true rfl) ?_
    rw [q0, q1, q2, q3]
    simp only [decide_true, Bool.not_true]
    ((try k_fold); w_strict (k_extra "go"))
    exact ret h9 _ F9 fun p hp => N9 p (up' p hp)
end
-- L11
section
variable {w : World} {A : Around} {h₀ : Heap} {L : Addr} {m : Str → Option Value} {env : Env} {ct elt : Expr} {x : Str} {scope : Scope} {cl : List (Str × Addr)} {s : Shared} {S : List (Addr × Obj) → Prop} {P : Nat → Value → Prop} {Fin : List Value → List (Addr × Obj) → Prop} {W0 : List (Addr × Obj)}
/-- a comprehension without a test that makes a new object at each turn -/
theorem comp_mapD {n : Nat} (R : Nat → Value → List (Addr × Obj) → Prop) (mono : ∀ i y l l', R i y l → (∀ p ∈ l, p ∈ l') → R i y l') (hmem : ∀ i y l, R i y l → ∃ D o, y = .ref D ∧ (D, o) ∈ l) (hS : ∀ tl, S (tl ++ W0))
    (step : ∀ i v tl I oI C oC D oD m₂ h tk (E' : Value → Shared → Prop), i < n → P i v → LCg.NsObj oC m₂ → m₂ x = some v → Fr h₀ L h m → News h₀ L h ((I, oI) :: (C, oC) :: (D, oD) :: (tl ++ W0)) → (∀ p ∈ tl ++ W0, p.1 ≠ I ∧ p.1 ≠ C ∧ p.1 ≠ D) →
      wpAny (model PySem.Challenge.rw_oc0121_01.row.prog w) A (eval elt (compEnvC scope cl C env)) (Out h₀ L m { s with heap := h, toks := tk } ((I, oI) :: (C, oC) :: (D, oD) :: (tl ++ W0)) (fun y tl' => R i y (tl' ++ (tl ++ W0)) ∧ ∀ q ∈ tl ++ W0, y ≠ .ref q.1)) E' { s with heap := h, toks := tk })
    (fin : ∀ ys tl, (∀ p ∈ tl, ∀ q ∈ W0, p.1 ≠ q.1) → ys.length = n → (∀ j y, ys[j]? = some y → R j y (tl ++ W0)) → ys.Pairwise (· ≠ ·) → Fin ys (tl ++ W0)) :
    LCg.CompRest PySem.Challenge.rw_oc0121_01.row.prog w A h₀ L m env elt x scope cl s S P Fin n 0 [] W0 := by
  refine comp_ind (fun i ys news => ∃ tl, news = tl ++ W0 ∧ (∀ p ∈ tl, ∀ q ∈ W0, p.1 ≠ q.1) ∧ ys.length = i ∧ (∀ j y, ys[j]? = some y → R j y (tl ++ W0)) ∧ ys.Pairwise (· ≠ ·)) ?_ ?_ n 0 [] W0 (Nat.zero_add _) ⟨[], rfl, fun _ h => (nomatch h), rfl, fun j y h => by simp at h, .nil⟩
  · rintro i ys _ hin ⟨tl, rfl, ho, hlen, hR, hnd⟩ v I oI C oC D m₂ h tk E' hP hC hx F N off ne
    have hoff := LCg.Off3.mem off
    refine wpAny_mono (step i v tl I oI C oC D _ m₂ h tk E' hin hP hC hx F N hoff) (fun y s' hy => ?_) fun _ _ z => z
    obtain ⟨h', tk', tl', rfl, F', N', o', hy, hne⟩ := hy
    refine LCg.CompEnd.intro F' N' (tl' ++ (tl ++ W0)) sub3 (LCg.Off3.of ?_) (by rw [← List.append_assoc]; exact hS _) ⟨tl' ++ tl, (List.append_assoc ..).symm, ?_, by rw [List.length_append, hlen]; rfl, ?_, ?_⟩
    · intro p hp
      rcases List.mem_append.mp hp with h | h
      · exact ⟨o' p h _ (.head _), o' p h _ (.tail _ (.head _)), o' p h _ (.tail _ (.tail _ (.head _)))⟩
      · exact hoff p h
    · intro p hp q hq
      rcases List.mem_append.mp hp with h | h
      · exact o' p h q (.tail _ (.tail _ (.tail _ (List.mem_append_right _ hq))))
      · exact ho p h q hq
    · intro j y' hj
      rw [List.append_assoc]
      by_cases hji : j < ys.length
      · rw [List.getElem?_append_left hji] at hj
        exact mono _ _ _ _ (hR j y' hj) fun p hp => List.mem_append_right _ hp
      · have hj2 : j = ys.length := by
          have := (List.getElem?_eq_some_iff.mp hj).1
          rw [List.length_append, List.length_singleton] at this
          omega
        subst hj2
        rw [List.getElem?_append_right (Nat.le_refl _), Nat.sub_self] at hj
        obtain rfl : y = y' := by simpa using hj
        rw [hlen]
        exact hy
    · refine List.pairwise_append.mpr ⟨hnd, List.pairwise_singleton _ _, ?_⟩
      intro a ha b hb
      rw [List.mem_singleton.mp hb]
      obtain ⟨j, hj⟩ := List.getElem?_of_mem ha
      obtain ⟨D', o'', rfl, hD'⟩ := hmem _ _ _ (hR j a hj)
      exact Ne.symm (hne _ hD')
  · rintro ys _ ⟨tl, rfl, ho, hlen, hR, hnd⟩
    exact fin ys tl ho hlen hR hnd
end
theorem map_of {f : Str → Str} {ps : List PV} {ys : List Value} (hl : ys.length = ps.length) (h : ∀ (j : Nat) (y : Value), ys[j]? = some y → ∃ (p : PV) (k : Tok), ps[j]? = some p ∧ y = Value.str (f p.2) k) : ∃ qs : List PV, ys = qs.map (·.1) ∧ qs.map (·.2) = ps.map (fun p => f p.2) ∧ Txts qs := by
  obtain ⟨qs, h1, h2, h3⟩ := txts_of (ps := ps.map fun p => (p.1, f p.2)) (by simpa using hl) fun j y hy => by
    obtain ⟨p, k, e1, e2⟩ := h j y hy
    exact ⟨(p.1, f p.2), k, by rw [List.getElem?_map, e1]; rfl, e2⟩
  exact ⟨qs, h1, by rw [h2, List.map_map]; rfl, h3⟩
section
variable {w : World} {hh : Option Value} {dp un : Nat} {gd : Option (List Code)} {env : Env} {outer : List Env} {A₀ : Around} {base h₀ : Heap} {L : Addr} {m mg mb : Str → Option Value} {mean : ExcName → Option Value}
   {rest : List (Addr × Obj)} {s : Shared} {Q E : Value → Shared → Prop}
theorem seg11 {fa : Addr} {cd : Value} {Rw R0 R1 : Addr} {t0 t1 : List PV} {j0 j1 j2 : Nat} {oc : Obj} {Q : Flow → Shared → Prop} (B : Below A₀ base [] h₀) (X : (hd.heap_39 w.params).In h₀) (T : Top hd.view_39 (looseW hd.view_39 []) mean mg mb h₀)
   (F : Fr h₀ L s.heap m) (N : News h₀ L s.heap rest) (hoc : oc.data = .cell (some (.ref Rw))) (hcm : (L + 1, oc) ∈ rest)
   (x1 : (Rw, W.listOf #[.ref R0, .ref R1] j2) ∈ rest) (x2 : (R0, lob t0 j0) ∈ rest) (x3 : (R1, lob t1 j1) ∈ rest)
   (y0 : Txts t0) (y1 : Txts t1) (l0 : t0.length < 100) (l1 : t1.length < 100) (v0 : ∀ p ∈ t0, p.2.length ≤ 5) (v1 : ∀ p ∈ t1, p.2.length ≤ 5)
   (ret : ∀ h' tk' tl Wr W0 W1 w0 w1 k k0 k1, Fr h₀ L h' (fun y => if y = Str.ofString "written" then some (.ref Wr) else m y) → News h₀ L h' (tl ++ rest) → (∀ p ∈ tl, ∀ q ∈ rest, p.1 ≠ q.1) → (Wr, W.listOf #[.ref W0, .ref W1] k) ∈ tl ++ rest → (W0, lob w0 k0) ∈ tl ++ rest → (W1, lob w1 k1) ∈ tl ++ rest →
      W0 ≠ W1 → Txts w0 → Txts w1 → w0.map (·.2) = t0.map (fun p => wr p.2) → w1.map (·.2) = t1.map (fun p => wr p.2) → Q .next { s with heap := h', toks := tk' }) :
   wpAny (model PySem.Challenge.rw_oc0121_01.row.prog w) (ax none 302 8 gd (lawE L fa cd) []) (exec (lawSt 11) (lawE L fa cd)) Q E s := by
  w_on
  conv => arg 3; arg 1; whnf
  refine LCg.Assign_ListComp_U F (by rfl) (by with_unfolding_all rfl) (by rfl) (by decide) (by rfl) (by decide) (by rfl) (by rfl) (by rfl) ?_
  ((try k_fold); w_strict (k_extra "go"))
  refine rows_read N hcm hoc ?_
  ((try k_fold); w_strict (k_extra "go"))
  refine LCg.CompSrc.ledger (by rfl) F N x1 (by rw [sizeLine_eq]; simp) ?_
  intro g2
  refine comp_mapD (fun i y l => RowT ((if i = 0 then t0 else t1).map fun p : PV => wr p.2) y l) (fun _ _ _ _ h hs => h.mono hs)
    (fun _ _ _ ⟨D, _, _, a1, a2, _, _⟩ => ⟨D, _, a1, a2⟩) (fun tl => .inr ⟨_, List.mem_append_right _ x1, rfl, _, rfl⟩) ?_ ?_
  · intro i v tl' I oI Cc oC Dd oD m₂ h tk E' hin hP hC hx F3 N3 hoff
    obtain ⟨A3, nn, rfl, hA, hl3, htx, hv⟩ := row_at (fun pp => Txts pp ∧ ∀ p ∈ pp, p.2.length ≤ 5) hP x2 x3 l0 l1 ⟨y0, v0⟩ ⟨y1, v1⟩
    generalize (if i = 0 then t0 else t1) = pp at hA hl3 htx hv ⊢
    obtain ⟨r3, er3⟩ : ∃ r3, r3 = (I, oI) :: (Cc, oC) :: (Dd, oD) :: (tl' ++ rest) := ⟨_, rfl⟩
    have sub3 : ∀ p ∈ tl' ++ rest, p ∈ r3 := fun p hp => by rw [er3]; exact .tail _ (.tail _ (.tail _ hp))
    have hCm : (Cc, oC) ∈ r3 := by rw [er3]; exact .tail _ (.head _)
    rw [← er3] at N3 ⊢
    refine LCg.ListComp_U F3 (by rfl) (by decide) (by rfl) (by decide) (by rfl) ?_
    ((try k_fold); w_strict (k_extra "go"))
    refine LCg.CompSrc.ledger (by rfl) F3 N3 (sub3 _ (List.mem_append_right _ hA)) (by rw [sizeLine_eq]; simp; omega) ?_
    intro g3
    refine comp_map (fun j y _ => ∃ p k, pp[j]? = some p ∧ y = .str (wr p.2) k) (fun _ _ _ _ h _ => h) (fun tl => .inr ⟨_, List.mem_append_right _ (sub3 _ (List.mem_append_right _ hA)), rfl, _, rfl⟩) ?_ ?_
    · intro j vj tlj Ij oIj Cj oCj Dj oDj mj hj tkj Ej hinj hPj hCj hxj Fj Nj hoffj
      obtain ⟨pj, hpj, rfl⟩ := pv_at hPj
      obtain ⟨kj, ekj⟩ := htx pj (List.mem_of_getElem? hpj)
      ((try k_fold); w_strict (k_extra "go"))
      rw [ekj]
      refine escape_c ⟨B, X, T, rfl, rfl⟩ Fj Nj (hv pj (List.mem_of_getElem? hpj)) ?_ (Nat.le_of_ble_eq_true rfl) (Nat.le_of_ble_eq_true rfl)
      intro h8 tk8 k8 F8 N8
      exact Out.intro [] F8 N8 (fun _ h => nomatch h) ⟨pj, k8, hpj, rfl⟩
    intro ysj tlj hoj hlenj hRj
    obtain ⟨qsj, rfl, eqj, txj⟩ := map_of (f := wr) (by simpa using hlenj) hRj
    unfold LCg.FinE
    intro D5 h5 tk5 F5 N5 o5
    replace o5 := off1_mem o5
    exact Out.intro ((D5, lob qsj _) :: tlj) F5 N5 (off_to (fun q hq => o5 q (List.mem_append_right _ hq)) hoj) ⟨⟨D5, qsj, _, rfl, .head _, txj, eqj⟩, fun q hq e => o5 q (List.mem_append_right _ (sub3 _ hq)) (Value.ref.inj e).symm⟩
  · intro ys tl ho hlen hR hnd
    unfold LCg.FinA
    intro D6 h6 tk6 F6 N6 o6
    replace o6 := off1_mem o6
    obtain ⟨v0, v1, rfl⟩ := two_of hlen
    obtain ⟨U0, u0, i0, rfl, m0, tu0, eu0⟩ := hR 0 v0 rfl
    obtain ⟨U1, u1, i1, rfl, m1, tu1, eu1⟩ := hR 1 v1 rfl
    have hne : U0 ≠ U1 := fun e => by
      have := (List.pairwise_cons.mp hnd).1 (.ref U1) (.head _)
      exact this (by rw [e])
    refine ret h6 _ ((D6, LCg.lst [Value.ref U0, Value.ref U1]) :: tl) D6 U0 U1 u0 u1 _ i0 i1 F6 N6 (off_to (fun q hq => o6 q (List.mem_append_right _ hq)) ho) (.head _) (.tail _ m0) (.tail _ m1) hne tu0 tu1 eu0 eu1
end
-- L12
section
variable {w : World} {hh : Option Value} {dp un : Nat} {gd : Option (List Code)} {env : Env} {outer : List Env} {A₀ : Around} {base h₀ : Heap} {L : Addr} {m mg mb : Str → Option Value} {mean : ExcName → Option Value}
   {rest : List (Addr × Obj)} {s : Shared} {Q E : Value → Shared → Prop}
theorem seg12 {fa : Addr} {cd : Value} {Rw R0 R1 Wr W0 W1 : Addr} {t0 t1 w0 w1 : List PV} {j0 j1 j2 kw kw0 kw1 : Nat} {oc : Obj} {Q : Flow → Shared → Prop} (B : Below A₀ base [] h₀) (X : (hd.heap_39 w.params).In h₀) (T : Top hd.view_39 (looseW hd.view_39 []) mean mg mb h₀)
   (F : Fr h₀ L s.heap m) (N : News h₀ L s.heap rest) (hoc : oc.data = .cell (some (.ref Rw))) (hcm : (L + 1, oc) ∈ rest) (hm1 : m (Str.ofString "written") = some (.ref Wr))
   (x1 : (Rw, W.listOf #[.ref R0, .ref R1] j2) ∈ rest) (x2 : (R0, lob t0 j0) ∈ rest) (x3 : (R1, lob t1 j1) ∈ rest) (z1 : (Wr, W.listOf #[.ref W0, .ref W1] kw) ∈ rest) (z2 : (W0, lob w0 kw0) ∈ rest) (z3 : (W1, lob w1 kw1) ∈ rest)
   (y0 : Txts t0) (y1 : Txts t1) (l0 : t0.length < 100) (l1 : t1.length < 100) (v0 : ∀ p ∈ t0, p.2.length ≤ 5) (v1 : ∀ p ∈ t1, p.2.length ≤ 5)
   (u0 : Txts w0) (u1 : Txts w1) (e0 : w0.map (·.2) = t0.map (fun p => wr p.2)) (e1 : w1.map (·.2) = t1.map (fun p => wr p.2)) (ok0 : ∀ p ∈ w0, PyData.strOk p.2 = true) (ok1 : ∀ p ∈ w1, PyData.strOk p.2 = true)
   (ret : ∀ h' tk', Fr h₀ L h' m → News h₀ L h' rest → Q .next { s with heap := h', toks := tk' }) :
   wpAny (model PySem.Challenge.rw_oc0121_01.row.prog w) (ax none 302 8 gd (lawE L fa cd) []) (exec (lawSt 12) (lawE L fa cd)) Q E s := by
  w_on
  conv => arg 3; arg 1; whnf
  ((try k_fold); w_strict (k_extra "go"))
  refine LCg.ListComp_U F (by rfl) (by decide) (by rfl) (by decide) (by rfl) ?_
  ((try k_fold); w_strict (k_extra "go"))
  refine rows_read N hcm hoc ?_
  ((try k_fold); w_strict (k_extra "go"))
  refine LCg.CompSrc.ledger (by rfl) F N x1 (by rw [sizeLine_eq]; simp) ?_
  intro g2
  refine comp_map (fun i y l => RowT ((if i = 0 then t0 else t1).map fun p : PV => wr p.2) y l) (fun _ _ _ _ h hs => h.mono hs) (fun tl => .inr ⟨_, List.mem_append_right _ x1, rfl, _, rfl⟩) ?_ ?_
  · intro i v tl' I oI Cc oC Dd oD m₂ h tk E' hin hP hC hx F3 N3 hoff
    obtain ⟨A3, nn, rfl, hA, hl3, htx, hv⟩ := row_at (fun pp => Txts pp ∧ ∀ p ∈ pp, p.2.length ≤ 5) hP x2 x3 l0 l1 ⟨y0, v0⟩ ⟨y1, v1⟩
    generalize (if i = 0 then t0 else t1) = pp at hA hl3 htx hv ⊢
    obtain ⟨r3, er3⟩ : ∃ r3, r3 = (I, oI) :: (Cc, oC) :: (Dd, oD) :: (tl' ++ rest) := ⟨_, rfl⟩
    have sub3 : ∀ p ∈ tl' ++ rest, p ∈ r3 := fun p hp => by rw [er3]; exact .tail _ (.tail _ (.tail _ hp))
    have hCm : (Cc, oC) ∈ r3 := by rw [er3]; exact .tail _ (.head _)
    rw [← er3] at N3 ⊢
    refine LCg.ListComp_U F3 (by rfl) (by decide) (by rfl) (by decide) (by rfl) ?_
    ((try k_fold); w_strict (k_extra "go"))
    refine LCg.CompSrc.ledger (by rfl) F3 N3 (sub3 _ (List.mem_append_right _ hA)) (by rw [sizeLine_eq]; simp; omega) ?_
    intro g3
    refine comp_map (fun j y _ => ∃ p k, pp[j]? = some p ∧ y = .str (wr p.2) k) (fun _ _ _ _ h _ => h) (fun tl => .inr ⟨_, List.mem_append_right _ (sub3 _ (List.mem_append_right _ hA)), rfl, _, rfl⟩) ?_ ?_
    · intro j vj tlj Ij oIj Cj oCj Dj oDj mj hj tkj Ej hinj hPj hCj hxj Fj Nj hoffj
      obtain ⟨pj, hpj, rfl⟩ := pv_at hPj
      obtain ⟨kj, ekj⟩ := htx pj (List.mem_of_getElem? hpj)
      ((try k_fold); w_strict (k_extra "go"))
      rw [ekj]
      refine law_written_c ⟨B, X, T, rfl, rfl⟩ Fj Nj (hv pj (List.mem_of_getElem? hpj)) ?_ (Nat.le_of_ble_eq_true rfl) (Nat.le_of_ble_eq_true rfl)
      intro h8 tk8 k8 F8 N8
      exact Out.intro [] F8 N8 (fun _ h => nomatch h) ⟨pj, k8, hpj, rfl⟩
    intro ysj tlj hoj hlenj hRj
    obtain ⟨qsj, rfl, eqj, txj⟩ := map_of (f := wr) (by simpa using hlenj) hRj
    unfold LCg.FinE
    intro D5 h5 tk5 F5 N5 o5
    replace o5 := off1_mem o5
    exact Out.intro ((D5, lob qsj _) :: tlj) F5 N5 (off_to (fun q hq => o5 q (List.mem_append_right _ hq)) hoj) ⟨D5, qsj, _, rfl, .head _, txj, eqj⟩
  · intro ys tl ho hlen hR
    unfold LCg.FinE
    intro D6 h6 tk6 F6 N6 o6
    clear F N
    obtain ⟨b0, b1, rfl⟩ := two_of hlen
    obtain ⟨U0, c0, i0, rfl, m0, tu0, eu0⟩ := hR 0 b0 rfl
    obtain ⟨U1, c1, i1, rfl, m1, tu1, eu1⟩ := hR 1 b1 rfl
    replace eu0 : c0.map (·.2) = t0.map (fun p => wr p.2) := eu0
    replace eu1 : c1.map (·.2) = t1.map (fun p => wr p.2) := eu1
    have q0 := ds_eq (e0.trans eu0.symm)
    have q1 := ds_eq (e1.trans eu1.symm)
    (try dsimp only)
    ((try k_fold); w_strict (k_extra "go"))
    have kl : kqdOk 8 (ds w0) = true := ok_row ok0 7
    have ko : kqdOk 8 (ds w1) = true := ok_row ok1 7
    refine kqd_ne (ds := [ds w0, ds w1]) (es := [ds c0, ds c1]) (xs := [.ref W0, .ref W1]) (ys := [.ref U0, .ref U1]) N6 (.tail _ (List.mem_append_right _ z1)) rfl rfl
      (dat_two (dat_row u0 (.tail _ (List.mem_append_right _ z2))) (dat_row u1 (.tail _ (List.mem_append_right _ z3)))) (fun _ h => h)
      (.head _) rfl rfl (dat_two (dat_row tu0 (.tail _ m0)) (dat_row tu1 (.tail _ m1))) (fun _ h => h) (all_two kl ko) (all_two (by rw [← q0]; exact kl) (by rw [← q1]; exact ko)) (Nat.le_of_ble_eq_true rfl) ?_
    rw [q0, q1]
    simp only [decide_true, Bool.not_true]
    ((try k_fold); w_strict (k_extra "go"))
    exact ret h6 _ F6 fun p hp => N6 p (.tail _ (List.mem_append_right _ hp))
end
-- L13
section
variable {w : World} {A : Around} {E : Value → Shared → Prop} {s : Shared} {h₀ : Heap} {L D b : Addr} {news : List (Addr × Obj)} {m : Str → Option Value} {ps qs : List PV} {n n2 : Nat} {value slice : Expr} {Q : Value → Shared → Prop}
theorem rev_lob {u : Tok} {ops : List Value} (F : Fr h₀ L s.heap m) (N : News h₀ L s.heap news) (hm : (D, lob ps n) ∈ news) (hl : ps.length < 1000)
    (h : ∀ D' h', Fr h₀ L h' m → News h₀ L h' ((D', lob ps.reverse 0) :: news) → (∀ p ∈ news, p.1 < D') → Q (.ref D') { s with heap := h' })
    (hs : subscripted slice false (.ref D) (.ref s.heap.objs.size) = operate ops (getItem (.ref D) (.ref s.heap.objs.size))) (ht : ∀ r, letTemporaryGo value (.ref D) r = pure ()) :
    wpAny (model PySem.Challenge.rw_oc0121_01.row.prog w) A (subscriptTail value slice (.ref D) (.ref s.heap.objs.size)) Q E { s with heap := s.heap.push { cls := .type "slice", data := .fields #[.none, .none, .int (-1) u] } } :=
  krv_lit (zs := ps.reverse.map (·.1)) F N (lob_list N hm) (IsPart.int _ _) (by simp) (fun D' h' F' N' l1 => h D' h' F' N' l1) hs ht (by rw [sizeLine_eq]; simp; omega)
theorem eq_same {a b : Value} {d : Dat} (N : News h₀ L s.heap news) (Da : DatIn news a d) (Db : DatIn news b d) (ok : kqdOk 9 d = true) (hu : A.units + 64 < cLine) (h : Q (.bool true) s) : wpAny (model PySem.Challenge.rw_oc0121_01.row.prog w) A (compareOp .Eq a b) Q E s := by
  obtain ⟨as, ra⟩ := kqd_in N 9 Da ok
  obtain ⟨bs, rb⟩ := kqd_in N 9 Db ok
  have la := kqd_lay 9 d ok
  have e := (kqd_eqv 9 d d 9 ok ok).mpr rfl
  refine eq_dataH ra rb ?_ ?_ hu (by rw [e]; exact h)
  · unfold SeqAt.shaped; rw [la.1, Bool.true_and]; exact decide_eq_true (Nat.le_trans la.2 (by decide))
  · unfold SeqAt.shaped; rw [la.1, Bool.true_and]; exact decide_eq_true (Nat.le_trans la.2 (by decide))
end
section
variable {w : World} {hh : Option Value} {dp un : Nat} {gd : Option (List Code)} {env : Env} {outer : List Env} {A₀ : Around} {base h₀ : Heap} {L : Addr} {m mg mb : Str → Option Value} {mean : ExcName → Option Value}
   {rest : List (Addr × Obj)} {s : Shared} {Q E : Value → Shared → Prop}
theorem seg13 {fa : Addr} {cd : Value} {Lo Ov : Addr} {lo ov : List PV} {kl ko : Nat} {Q : Flow → Shared → Prop} (B : Below A₀ base [] h₀) (X : (hd.heap_39 w.params).In h₀) (T : Top hd.view_39 (looseW hd.view_39 []) mean mg mb h₀)
   (F : Fr h₀ L s.heap m) (N : News h₀ L s.heap rest) (hm1 : m (Str.ofString "lost") = some (.ref Lo)) (hm2 : m (Str.ofString "over") = some (.ref Ov))
   (x2 : (Lo, lob lo kl) ∈ rest) (x3 : (Ov, lob ov ko) ∈ rest)
   (y0 : Txts lo) (y1 : Txts ov) (l0 : lo.length < 100) (l1 : ov.length < 100) (v0 : ∀ p ∈ lo, p.2.length ≤ 5) (v1 : ∀ p ∈ ov, p.2.length ≤ 5)
   (ret : ∀ h' tk' Du D0 D1 c0 c1 k0 k1 tl, Fr h₀ L h' (fun y => if y = Str.ofString "due" then some (.ref Du) else m y) → News h₀ L h' (tl ++ rest) → (∀ p ∈ tl, ∀ q ∈ rest, p.1 ≠ q.1) → (Du, tupOf [.ref D0, .ref D1]) ∈ tl → (D0, lob c0 k0) ∈ tl → (D1, lob c1 k1) ∈ tl →
      Txts c0 → Txts c1 → c0.map (·.2) = lo.reverse.map (fun p => wr p.2) → c1.map (·.2) = ov.map (fun p => wr p.2) → Q .next { s with heap := h', toks := tk' }) :
   wpAny (model PySem.Challenge.rw_oc0121_01.row.prog w) (ax none 302 8 gd (lawE L fa cd) []) (exec (lawSt 13) (lawE L fa cd)) Q E s := by
  w_on
  conv => arg 3; arg 1; whnf
  ((try k_fold); w_strict (k_extra "go"))
  refine LCg.ListComp_U F (by rfl) (by decide) (by rfl) (by decide) (by rfl) ?_
  ((try k_fold); w_strict (k_extra "go"))
  refine rev_lob F N x2 (by omega) ?_ (by with_unfolding_all rfl) (by intro _; with_unfolding_all rfl)
  intro Ra ha Fa Na oa
  clear F N
  (try dsimp only)
  ((try k_fold); w_strict (k_extra "go"))
  obtain ⟨ra, era⟩ : ∃ ra, ra = (Ra, lob lo.reverse 0) :: rest := ⟨_, rfl⟩
  have suba : ∀ p ∈ rest, p ∈ ra := fun p hp => by rw [era]; exact .tail _ hp
  have da : (Ra, lob lo.reverse 0) ∈ ra := by rw [era]; exact .head _
  rw [← era] at Na
  have y0r : Txts lo.reverse := fun p hp => y0 p (List.mem_reverse.mp hp)
  have v0r : ∀ p ∈ lo.reverse, p.2.length ≤ 5 := fun p hp => v0 p (List.mem_reverse.mp hp)
  refine LCg.CompSrc.ledger (by rfl) Fa Na (da) (by rw [sizeLine_eq]; simp; omega) ?_
  intro ga
  refine comp_map (fun j y _ => ∃ p k, (lo.reverse)[j]? = some p ∧ y = .str (wr p.2) k) (fun _ _ _ _ h _ => h) (fun tl => .inr ⟨_, List.mem_append_right _ (da), rfl, _, rfl⟩) ?_ ?_
  · intro j vj tlj Ij oIj Cj oCj Dj oDj mj hj tkj Ej hinj hPj hCj hxj Fj Nj hoffj
    obtain ⟨pj, hpj, rfl⟩ := pv_at hPj
    obtain ⟨kj, ekj⟩ := y0r pj (List.mem_of_getElem? hpj)
    ((try k_fold); w_strict (k_extra "go"))
    rw [ekj]
    refine law_written_c ⟨B, X, T, rfl, rfl⟩ Fj Nj (v0r pj (List.mem_of_getElem? hpj)) ?_ (Nat.le_of_ble_eq_true rfl) (Nat.le_of_ble_eq_true rfl)
    intro h8 tk8 k8 F8 N8
    exact Out.intro [] F8 N8 (fun _ h => nomatch h) ⟨pj, k8, hpj, rfl⟩
  intro ysa tla hoa hlena hRa
  obtain ⟨qsa, rfl, eqa, txa⟩ := map_of (f := wr) (ps := lo.reverse) (by simpa using hlena) hRa
  clear hRa hlena
  unfold LCg.FinE
  intro D5 h5 tk5 F5 N5 o5
  replace o5 := off1_mem o5
  clear Fa Na
  obtain ⟨r5, er5⟩ : ∃ r5, r5 = (D5, LCg.lst (qsa.map (·.1))) :: (tla ++ ra) := ⟨_, rfl⟩
  have sub5 : ∀ p ∈ ra, p ∈ r5 := fun p hp => by rw [er5]; exact .tail _ (List.mem_append_right _ hp)
  rw [← er5] at N5
  (try dsimp only)
  ((try k_fold); w_strict (k_extra "go"))
  refine LCg.ListComp_U F5 (by rfl) (by decide) (by rfl) (by decide) (by rfl) ?_
  ((try k_fold); w_strict (k_extra "go"))
  refine LCg.CompSrc.ledger (by rfl) F5 N5 (sub5 _ (suba _ x3)) (by rw [sizeLine_eq]; simp; omega) ?_
  intro gb
  refine comp_map (fun j y _ => ∃ p k, (ov)[j]? = some p ∧ y = .str (wr p.2) k) (fun _ _ _ _ h _ => h) (fun tl => .inr ⟨_, List.mem_append_right _ (sub5 _ (suba _ x3)), rfl, _, rfl⟩) ?_ ?_
  · intro j vj tlj Ij oIj Cj oCj Dj oDj mj hj tkj Ej hinj hPj hCj hxj Fj Nj hoffj
    obtain ⟨pj, hpj, rfl⟩ := pv_at hPj
    obtain ⟨kj, ekj⟩ := y1 pj (List.mem_of_getElem? hpj)
    ((try k_fold); w_strict (k_extra "go"))
    rw [ekj]
    refine law_written_c ⟨B, X, T, rfl, rfl⟩ Fj Nj (v1 pj (List.mem_of_getElem? hpj)) ?_ (Nat.le_of_ble_eq_true rfl) (Nat.le_of_ble_eq_true rfl)
    intro h8 tk8 k8 F8 N8
    exact Out.intro [] F8 N8 (fun _ h => nomatch h) ⟨pj, k8, hpj, rfl⟩
  intro ysb tlb hob hlenb hRb
  obtain ⟨qsb, rfl, eqb, txb⟩ := map_of (f := wr) (ps := ov) (by simpa using hlenb) hRb
  clear hRb hlenb
  unfold LCg.FinE
  intro D7 h7 tk7 F7 N7 o7
  replace o7 := off1_mem o7
  clear F5 N5
  (try dsimp only)
  ((try k_fold); w_strict (k_extra "go"))
  refine new_tup F7 N7 (by simp) ?_
  intro D8 h8 F8 N8 o8
  clear F7 N7
  (try dsimp only)
  ((try k_fold); w_strict (k_extra "go"))
  rename Fr _ _ _ _ => F9
  rename News _ _ _ _ => N9
  subst er5 era
  refine ret _ _ D8 D5 D7 qsa qsb _ _ ((D8, tupOf [Value.ref D5, Value.ref D7]) :: (D7, LCg.lst (qsb.map fun x : PV => x.1)) :: (tlb ++ (D5, LCg.lst (qsa.map fun x : PV => x.1)) :: (tla ++ [(Ra, lob lo.reverse 0)]))) F9 (by simpa using N9) ?_ (.head _) (.tail _ (.tail _ (List.mem_append_right _ (.head _)))) (.tail _ (.head _)) txa txb eqa eqb
  exact off_to (fun q hq => o8 q (.tail _ (List.mem_append_right _ (sub5 _ (suba _ hq))))) (off_to (fun q hq => o7 q (List.mem_append_right _ (sub5 _ (suba _ hq)))) (off_apps (fun p h q hq => hob p h q (sub5 _ (suba _ hq)))
    (off_to (fun q hq => o5 q (List.mem_append_right _ (suba _ hq))) (off_apps (fun p h q hq => hoa p h q (suba _ hq)) (off_lt oa off_nil)))))
end
-- L14
theorem unord_txts : ∀ (ps ms qs : List PV), Txts ps → Txts ms → Txts qs → Txts (unord ps ms qs).1 ∧ Txts (unord ps ms qs).2
  | [], ms, qs, _, h2, h3 => ⟨h2, h3⟩
  | p :: r, ms, qs, h1, h2, h3 => by
    unfold unord
    split
    · exact unord_txts r ms _ (fun q hq => h1 q (.tail _ hq)) h2 fun q hq => h3 q (List.mem_of_mem_eraseP hq)
    · refine unord_txts r _ qs (fun q hq => h1 q (.tail _ hq)) (fun q hq => ?_) h3
      rcases List.mem_append.mp hq with h | h
      · exact h2 q h
      · rw [List.mem_singleton.mp h]; exact h1 p (.head _)
theorem dat_tup {l : List (Addr × Obj)} {D U0 U1 : Addr} {d e : Dat} (h : (D, tupOf [.ref U0, .ref U1]) ∈ l) (h1 : DatIn l (.ref U0) d) (h2 : DatIn l (.ref U1) e) : DatIn l (.ref D) (.tuple [d, e]) :=
  .tuple (vs := [.ref U0, .ref U1]) h (dat_two h1 h2)
theorem ok_tup {a b : Dat} {n : Nat} (h1 : kqdOk n a = true) (h2 : kqdOk n b = true) : kqdOk (n + 1) (.tuple [a, b]) = true := by
  rw [kqdOk, List.all_eq_true]
  exact all_two h1 h2
section
variable {w : World} {hh : Option Value} {dp un : Nat} {gd : Option (List Code)} {env : Env} {outer : List Env} {A₀ : Around} {base h₀ : Heap} {L : Addr} {m mg mb : Str → Option Value} {mean : ExcName → Option Value}
   {rest : List (Addr × Obj)} {s : Shared} {Q E : Value → Shared → Prop}
theorem seg14 {fa : Addr} {cd : Value} {Wr W0 W1 Du D0 D1 : Addr} {w0 w1 c0 c1 : List PV} {kw k0 k1 i0 i1 : Nat} {Q : Flow → Shared → Prop} (B : Below A₀ base [] h₀) (X : (hd.heap_39 w.params).In h₀) (T : Top hd.view_39 (looseW hd.view_39 []) mean mg mb h₀)
   (F : Fr h₀ L s.heap m) (N : News h₀ L s.heap rest) (hm1 : m (Str.ofString "written") = some (.ref Wr)) (hm2 : m (Str.ofString "due") = some (.ref Du))
   (z1 : (Wr, W.listOf #[.ref W0, .ref W1] kw) ∈ rest) (z2 : (W0, lob w0 k0) ∈ rest) (z3 : (W1, lob w1 k1) ∈ rest) (x1 : (Du, tupOf [.ref D0, .ref D1]) ∈ rest) (x2 : (D0, lob c0 i0) ∈ rest) (x3 : (D1, lob c1 i1) ∈ rest)
   (q1 : W0 ≠ W1) (q2 : Du ≠ W0) (q3 : Du ≠ W1) (q4 : D0 ≠ W0) (q5 : D0 ≠ W1) (q6 : D1 ≠ W0) (q7 : D1 ≠ W1)
   (y0 : Txts w0) (y1 : Txts w1) (u0 : Txts c0) (u1 : Txts c1) (l0 : w0.length < 100) (l1 : w1.length < 100)
   (e0 : (unord w0.reverse [] w1).1.map (·.2) = c0.map (·.2)) (e1 : (unord w0.reverse [] w1).2.map (·.2) = c1.map (·.2)) (ok0 : ∀ p ∈ c0, PyData.strOk p.2 = true) (ok1 : ∀ p ∈ c1, PyData.strOk p.2 = true)
   (ret : ∀ h' tk', Fr h₀ L h' m → Q (.ret (.bool true)) { s with heap := h', toks := tk' }) :
   wpAny (model PySem.Challenge.rw_oc0121_01.row.prog w) (ax none 302 8 gd (lawE L fa cd) []) (exec (lawSt 14) (lawE L fa cd)) Q E s := by
  w_on
  conv => arg 3; arg 1; whnf
  ((try k_fold); w_strict (k_extra "go"))
  refine sub_read (ps := [(.ref W0, Str.ofString ""), (.ref W1, Str.ofString "")]) (n := kw) N z1 (by decide) (by simp) (by decide) ?_
  intro pa hpa
  obtain rfl : pa = (.ref W0, Str.ofString "") := (Option.some.inj hpa).symm
  (try dsimp only)
  ((try k_fold); w_strict (k_extra "go"))
  refine sub_read (ps := [(.ref W0, Str.ofString ""), (.ref W1, Str.ofString "")]) (n := kw) N z1 (by decide) (by simp) (by decide) ?_
  intro pb hpb
  obtain rfl : pb = (.ref W1, Str.ofString "") := (Option.some.inj hpb).symm
  (try dsimp only)
  ((try k_fold); w_strict (k_extra "go"))
  have N1 : News h₀ L s.heap ((W0, lob w0 k0) :: (W1, lob w1 k1) :: [(Du, tupOf [.ref D0, .ref D1]), (D0, lob c0 i0), (D1, lob c1 i1)]) := by
    exact all_cons (N _ z2) (all_cons (N _ z3) (all_cons (N _ x1) (all_cons (N _ x2) (all_cons (N _ x3) fun _ h => nomatch h))))
  refine unorderable_c ⟨B, X, T, rfl, rfl⟩ F N1 ?_ ?_ y0 y1 l0 l1 ?_ (Nat.le_of_ble_eq_true rfl) (Nat.le_of_ble_eq_true rfl)
  · exact off_cons (Ne.symm q1) (off_cons q2 (off_cons q4 (off_cons q6 fun _ h => nomatch h)))
  · exact off_cons q3 (off_cons q5 (off_cons q7 fun _ h => nomatch h))
  intro h3 tk3 Tu Mi n1 n2 F3 N3
  clear F N N1
  (try dsimp only)
  ((try k_fold); w_strict (k_extra "go"))
  obtain ⟨t0, t1⟩ := unord_txts w0.reverse [] w1 (fun p hp => y0 p (List.mem_reverse.mp hp)) (fun _ h => nomatch h) y1
  have kl : kqdOk 8 (ds c0) = true := ok_row ok0 7
  have ko : kqdOk 8 (ds c1) = true := ok_row ok1 7
  have dm := dat_row t0 (D := Mi) (k := n1) (l := (Tu, tupOf [.ref Mi, .ref W1]) :: (Mi, lob (unord w0.reverse [] w1).1 n1) :: (W1, lob (unord w0.reverse [] w1).2 n2) :: [(Du, tupOf [.ref D0, .ref D1]), (D0, lob c0 i0), (D1, lob c1 i1)]) (.tail _ (.head _))
  have dw := dat_row t1 (D := W1) (k := n2) (l := (Tu, tupOf [.ref Mi, .ref W1]) :: (Mi, lob (unord w0.reverse [] w1).1 n1) :: (W1, lob (unord w0.reverse [] w1).2 n2) :: [(Du, tupOf [.ref D0, .ref D1]), (D0, lob c0 i0), (D1, lob c1 i1)]) (.tail _ (.tail _ (.head _)))
  rw [dats_eq e0] at dm
  rw [dats_eq e1] at dw
  refine eq_same N3 (dat_tup (.head _) dm dw) (dat_tup (.tail _ (.tail _ (.tail _ (.head _)))) (dat_row u0 (.tail _ (.tail _ (.tail _ (.tail _ (.head _)))))) (dat_row u1 (.tail _ (.tail _ (.tail _ (.tail _ (.tail _ (.head _)))))))) (ok_tup kl ko) (Nat.le_of_ble_eq_true rfl) ?_
  ((try k_fold); w_strict (k_extra "go"))
  exact ret h3 _ F3
end
-- M1
theorem perm_eq {a b : List Str} (hp : a.Perm b) (ha : a.Pairwise tle) (hb : b.Pairwise tle) : a = b :=
  hp.eq_of_pairwise (fun x y _ _ h1 h2 => tle_antisymm h1 h2) ha hb
theorem sel_map (ps : List PV) (k : Nat) : (sel ps k).map (·.2) = if k = 0 ∨ (ps.map (·.2))[k]? ≠ (ps.map (·.2))[k - 1]? then (ps.map (·.2))[k]? else none := by
  unfold sel
  simp only [List.getElem?_map]
  split <;> rfl
theorem once_map {ps qs : List PV} (h : ps.map (·.2) = qs.map (·.2)) : (once ps ps.length).map (·.2) = (once qs qs.length).map (·.2) := by
  have hl : ps.length = qs.length := by simpa using congrArg List.length h
  unfold once
  rw [List.map_filterMap, List.map_filterMap, hl]
  congr 1
  funext k
  rw [sel_map, sel_map, h]
theorem slt_of {a b : PV} (h : tle a.2 b.2) (hn : a.2 ≠ b.2) : slt a b := Classical.byContradiction fun hc => hn (tle_antisymm h hc)
theorem once_slt {ps : List PV} (h : (ps.map (·.2)).Pairwise tle) : (once ps ps.length).Pairwise slt := by
  have hg : ∀ i j (hi : i < ps.length) (hj : j < ps.length), i < j → tle ps[i].2 ps[j].2 := by
    intro i j hi hj hij
    have := List.pairwise_iff_getElem.mp h i j (by simpa using hi) (by simpa using hj) hij
    simpa using this
  unfold once
  rw [List.pairwise_filterMap]
  refine List.Pairwise.imp ?_ List.pairwise_lt_range
  intro i j hij p hp q hq
  have ei : ps[i]? = some p := by
    unfold sel at hp
    split at hp
    · exact hp
    · cases hp
  unfold sel at hq
  split at hq
  · rename_i hc
    obtain ⟨hi, rfl⟩ := List.getElem?_eq_some_iff.mp ei
    obtain ⟨hj, rfl⟩ := List.getElem?_eq_some_iff.mp hq
    have hj0 : j ≠ 0 := by omega
    have hne := hc.resolve_left hj0
    have hj1 : j - 1 < ps.length := by omega
    rw [List.getElem?_eq_getElem hj, List.getElem?_eq_getElem hj1] at hne
    have hne' : ps[j].2 ≠ ps[j - 1].2 := fun e => hne (by simp [e])
    have s1 : slt ps[j - 1] ps[j] := slt_of (hg (j - 1) j hj1 hj (by omega)) (Ne.symm hne')
    by_cases e : i = j - 1
    · subst e; exact s1
    · have t1 := hg i (j - 1) hi hj1 (by omega)
      unfold slt
      unfold tle at t1
      rw [List.not_lt] at t1
      exact List.lt_of_le_of_lt t1 s1
  · cases hq
theorem nin_map {qs qs' : List PV} (h : qs.map (·.2) = qs'.map (·.2)) (p p' : PV) (hp : p.2 = p'.2) : nin qs p = nin qs' p' := by
  have e : ∀ (l : List PV) (p : PV), nin l p = !((l.map (·.2)).any (· == p.2)) := fun l p => by unfold nin; rw [List.any_map]; rfl
  rw [e, e, h, hp]
theorem filt_map {ps ps' qs qs' : List PV} (h : ps.map (·.2) = ps'.map (·.2)) (hq : qs.map (·.2) = qs'.map (·.2)) : (ps.filter (nin qs)).map (·.2) = (ps'.filter (nin qs')).map (·.2) := by
  have e : ∀ (l k : List PV), (l.filter (nin k)).map (·.2) = (l.map (·.2)).filter fun t => !((k.map (·.2)).any (· == t)) := by
    intro l k
    rw [List.filter_map]
    congr 1
    refine List.filter_congr fun x _ => ?_
    unfold nin
    rw [Function.comp_apply, List.any_map]
    rfl
  rw [e, e, h, hq]
noncomputable def key3 (l : List Nat) : Option Nat × Option Nat × Option Nat := (l[1]?, l[2]?, l[3]?)
theorem ref_key : ∀ a ∈ spc, ∀ b ∈ spc, key3 (refL a) = key3 (refL b) → a = b := by decide +kernel
theorem ref_long : ∀ a ∈ spc, 4 ≤ (refL a).length ∧ (refL a).head? = some 38 := by decide +kernel
theorem ref_or (a : Nat) : a ∈ spc ∨ (a ∉ spc ∧ refL a = [a]) := by
  by_cases h : a ∈ spc
  · exact .inl h
  · refine .inr ⟨h, ?_⟩
    simp only [spc, List.mem_cons, List.not_mem_nil, or_false, not_or] at h
    unfold refL
    rw [if_neg h.1, if_neg h.2.1, if_neg h.2.2.1, if_neg h.2.2.2.1, if_neg h.2.2.2.2.1, if_neg h.2.2.2.2.2.1, if_neg h.2.2.2.2.2.2]
theorem key_app {l X : List Nat} (h : 4 ≤ l.length) : key3 (l ++ X) = key3 l := by
  unfold key3
  rw [List.getElem?_append_left (Nat.lt_of_lt_of_le (by decide) h), List.getElem?_append_left (Nat.lt_of_lt_of_le (by decide) h), List.getElem?_append_left (Nat.lt_of_lt_of_le (by decide) h)]
theorem head_app {l X : List Nat} {c : Nat} (h : l.head? = some c) : (l ++ X).head? = some c := by rw [List.head?_append, h]; rfl
theorem ref_pre {a b : Nat} {X Y : List Nat} (h : refL a ++ X = refL b ++ Y) : a = b := by
  rcases ref_or a with ha | ⟨ha, ea⟩ <;> rcases ref_or b with hb | ⟨hb, eb⟩
  · refine ref_key a ha b hb ?_
    rw [← key_app (X := X) (ref_long a ha).1, h, key_app (ref_long b hb).1]
  · have h1 := head_app (X := X) (ref_long a ha).2
    rw [h, eb] at h1
    obtain rfl : b = 38 := Option.some.inj h1
    exact absurd (List.Mem.head _) hb
  · have h1 := head_app (X := Y) (ref_long b hb).2
    rw [← h, ea] at h1
    obtain rfl : a = 38 := Option.some.inj h1
    exact absurd (List.Mem.head _) ha
  · rw [ea, eb] at h
    exact (List.cons.inj h).1
theorem wr_inj {s t : Str} (h : wr s = wr t) : s = t := by
  have key : ∀ l k : List Nat, l.flatMap refL = k.flatMap refL → l = k := by
    intro l
    induction l with
    | nil =>
      intro k hk
      cases k with
      | nil => rfl
      | cons b k =>
        exfalso
        have := congrArg List.length hk
        rw [List.flatMap_cons, List.length_append] at this
        have hb : 0 < (refL b).length := by unfold refL; repeat' split
                                            all_goals simp
        simp at this
        omega
    | cons a l ih =>
      intro k hk
      cases k with
      | nil =>
        exfalso
        have := congrArg List.length hk
        rw [List.flatMap_cons, List.length_append] at this
        have hb : 0 < (refL a).length := by unfold refL; repeat' split
                                            all_goals simp
        change (refL a).length + (l.flatMap refL).length = 0 at this
        omega
      | cons b k =>
        rw [List.flatMap_cons, List.flatMap_cons] at hk
        have e := ref_pre hk
        subst e
        rw [ih k (List.append_cancel_left hk)]
  unfold wr at h
  have h' := congrArg (fun x : Str => x.cps.toList) h
  have := key _ _ h'
  obtain ⟨s⟩ := s
  obtain ⟨t⟩ := t
  have e : s = t := Array.toList_inj.mp this
  rw [e]
/-- _law_written's and unorderable_list_difference's answer, on the texts -/
theorem unord_eq : ∀ (ps ms qs : List PV), (ps.map (·.2)).Nodup → (qs.map (·.2)).Nodup → (unord ps ms qs).1.map (·.2) = ms.map (·.2) ++ (ps.filter (nin qs)).map (·.2) ∧ (unord ps ms qs).2.map (·.2) = (qs.filter (nin ps)).map (·.2)
  | [], ms, qs, _, _ => by
    unfold unord
    refine ⟨by simp, ?_⟩
    rw [List.filter_eq_self.mpr (show ∀ q ∈ qs, nin [] q = true from fun q _ => rfl)]
  | p :: r, ms, qs, hp, hq => by
    rw [List.map_cons, List.nodup_cons] at hp
    have hpr : ∀ x ∈ r, x.2 ≠ p.2 := fun x hx e => hp.1 (by rw [← e]; exact List.mem_map_of_mem hx)
    unfold unord
    by_cases hany : qs.any (fun q => q.2 == p.2) = true
    · rw [if_pos hany]
      obtain ⟨q1, hq1, hq2⟩ := List.any_eq_true.mp hany
      obtain ⟨q, la, lb, hla, hqp, eqs, eer⟩ := List.exists_of_eraseP (p := fun q => q.2 == p.2) hq1 hq2
      rw [eer]
      subst eqs
      have eqp : q.2 = p.2 := by simpa using hqp
      have hnd : ((la ++ lb).map (·.2)).Nodup := by
        rw [List.map_append, List.map_cons] at hq
        rw [List.map_append]
        exact hq.sublist (List.Sublist.append_left (List.sublist_cons_self _ _) _)
      have hnot : ∀ x ∈ la ++ lb, x.2 ≠ p.2 := by
        intro x hx e
        rw [List.map_append, List.map_cons] at hq
        refine (List.nodup_cons.mp (List.perm_middle.nodup_iff.mp hq)).1 ?_
        rw [eqp, ← e, ← List.map_append]
        exact List.mem_map_of_mem hx
      obtain ⟨h1, h2⟩ := unord_eq r ms (la ++ lb) hp.2 hnd
      have hn : nin (la ++ q :: lb) p = false := nin_false (List.mem_append_right _ (.head _)) eqp
      have hf : ∀ x ∈ r, nin (la ++ lb) x = nin (la ++ q :: lb) x := by
        intro x hx
        by_cases h : ∃ y ∈ la ++ lb, y.2 = x.2
        · obtain ⟨y, hy, e⟩ := h
          rw [nin_false hy e, nin_false (q := y) _ e]
          rcases List.mem_append.mp hy with h | h
          · exact List.mem_append_left _ h
          · exact List.mem_append_right _ (.tail _ h)
        · rw [nin_true fun y hy e => h ⟨y, hy, e⟩, nin_true]
          intro y hy e
          rcases List.mem_append.mp hy with h' | h'
          · exact h ⟨y, List.mem_append_left _ h', e⟩
          · rcases List.mem_cons.mp h' with rfl | h'
            · exact hpr x hx (e.symm.trans eqp)
            · exact h ⟨y, List.mem_append_right _ h', e⟩
      refine ⟨?_, ?_⟩
      · rw [h1, List.filter_cons_of_neg (by rw [hn]; decide), List.filter_congr hf]
      · rw [h2]
        have hg : ∀ x ∈ la ++ lb, nin r x = nin (p :: r) x := by
          intro x hx
          unfold nin
          rw [List.any_cons, show (p.2 == x.2) = false from by simpa using Ne.symm (hnot x hx), Bool.false_or]
        have hnq : nin (p :: r) q = false := nin_false (.head _) eqp.symm
        rw [List.filter_congr hg, List.filter_append, List.filter_append, List.filter_cons_of_neg (by rw [hnq]; decide)]
    · rw [if_neg hany]
      have hnot : ∀ x ∈ qs, x.2 ≠ p.2 := fun x hx e => hany (List.any_eq_true.mpr ⟨x, hx, by simpa using e⟩)
      obtain ⟨h1, h2⟩ := unord_eq r (ms ++ [p]) qs hp.2 hq
      refine ⟨?_, ?_⟩
      · rw [h1, List.filter_cons_of_pos (nin_true hnot)]
        simp
      · rw [h2]
        have hg : ∀ x ∈ qs, nin r x = nin (p :: r) x := by
          intro x hx
          unfold nin
          rw [List.any_cons, show (p.2 == x.2) = false from by simpa using Ne.symm (hnot x hx), Bool.false_or]
        rw [List.filter_congr hg]
theorem slt_nodup {ps : List PV} (h : ps.Pairwise slt) : (ps.map (·.2)).Nodup := by
  unfold List.Nodup
  rw [List.pairwise_map]
  exact h.imp fun h => slt_ne h
theorem nodup_wr {ps : List PV} (h : (ps.map (·.2)).Nodup) : (ps.map fun p => wr p.2).Nodup := by
  have : (ps.map fun p => wr p.2) = (ps.map (·.2)).map wr := by rw [List.map_map]; rfl
  rw [this]
  unfold List.Nodup at *
  rw [List.pairwise_map]
  exact h.imp fun h e => h (wr_inj e)
theorem filt_wr (ps qs : List PV) : ((ps.map fun p => (p.1, wr p.2)).filter (nin (qs.map fun p => (p.1, wr p.2)))).map (·.2) = (ps.filter (nin qs)).map fun p => wr p.2 := by
  rw [List.filter_map, List.map_map]
  have e : ∀ p ∈ ps, (nin (qs.map fun p => (p.1, wr p.2)) ∘ fun p : PV => ((p.1, wr p.2) : PV)) p = nin qs p := by
    intro p _
    rw [Function.comp_apply]
    by_cases h : ∃ q ∈ qs, q.2 = p.2
    · obtain ⟨q, hq, e⟩ := h
      rw [nin_false hq e, nin_false (q := (q.1, wr q.2)) (List.mem_map_of_mem (f := fun p : PV => ((p.1, wr p.2) : PV)) hq) (by show wr q.2 = wr p.2; rw [e])]
    · rw [nin_true fun q hq e => h ⟨q, hq, e⟩, nin_true]
      intro q hq e
      obtain ⟨q', hq', rfl⟩ := List.mem_map.mp hq
      exact h ⟨q', hq', wr_inj e⟩
  rw [List.filter_congr e]
  rfl
/-- the end of the law, on the texts -/
theorem end_law {r0 r1 w0 w1 c0 c1 : List PV} (h0 : r0.Pairwise slt) (h1 : r1.Pairwise slt) (e0 : w0.map (·.2) = r0.map (fun p => wr p.2)) (e1 : w1.map (·.2) = r1.map (fun p => wr p.2))
    (f0 : c0.map (·.2) = (r0.filter (nin r1)).reverse.map (fun p => wr p.2)) (f1 : c1.map (·.2) = (r1.filter (nin r0)).map (fun p => wr p.2)) :
    (unord w0.reverse [] w1).1.map (·.2) = c0.map (·.2) ∧ (unord w0.reverse [] w1).2.map (·.2) = c1.map (·.2) := by
  have n0 : (w0.map (·.2)).Nodup := by rw [e0]; exact nodup_wr (slt_nodup h0)
  have n1 : (w1.map (·.2)).Nodup := by rw [e1]; exact nodup_wr (slt_nodup h1)
  have n0' : (w0.reverse.map (·.2)).Nodup := by rw [List.map_reverse]; exact (List.reverse_perm _).nodup_iff.mpr n0
  obtain ⟨q0, q1⟩ := unord_eq w0.reverse [] w1 n0' n1
  have g0 : w0.map (·.2) = (r0.map fun p => ((p.1, wr p.2) : PV)).map (·.2) := by rw [e0, List.map_map]; rfl
  have g1 : w1.map (·.2) = (r1.map fun p => ((p.1, wr p.2) : PV)).map (·.2) := by rw [e1, List.map_map]; rfl
  rw [q0, q1, f0, f1]
  refine ⟨?_, ?_⟩
  · rw [List.map_nil, List.nil_append, List.filter_reverse, List.map_reverse, filt_map g0 g1, filt_wr, List.map_reverse]
  · have hr : ∀ x ∈ w1, nin w0.reverse x = nin w0 x := fun x _ => by unfold nin; rw [List.any_reverse]
    rw [List.filter_congr hr, filt_map g1 g0, filt_wr]
theorem ok_app {a b : Str} (h1 : PyData.strOk a = true) (h2 : PyData.strOk b = true) : PyData.strOk (a ++ b) = true := by
  unfold PyData.strOk at *
  show (a.cps ++ b.cps).all _ = true
  rw [Array.all_append, h1, h2]
  rfl
theorem ok_item : ∀ i : Fin 8, PyData.strOk (Txt.item sg ((i.val : Nat) : Int)) = true := by decide +kernel
theorem ok_item' (x : Int) : PyData.strOk (Txt.item sg (x.fmod 8)) = true := by
  have h1 := Int.fmod_nonneg_of_pos x (b := 8) (by decide)
  have h2 := Int.fmod_lt_of_pos x (b := 8) (by decide)
  have := ok_item ⟨(x.fmod 8).toNat, by omega⟩
  rw [Int.toNat_of_nonneg h1] at this
  exact this
theorem ok_txt (x : Int) : PyData.strOk (txt x) = true := by
  have h : PyData.strOk (two x) = true := ok_app (ok_item' _) (ok_item' _)
  unfold txt
  split
  · exact ok_app (by decide +kernel) h
  · exact h
theorem ok_wr {t : Str} (h : PyData.strOk t = true) : PyData.strOk (wr t) = true := by
  unfold PyData.strOk at *
  have h' : ∀ c ∈ t.cps.toList, c < 0x110000 := by
    intro c hc
    have := Array.all_eq_true'.mp h c (Array.mem_toList_iff.mp hc)
    simpa using this
  unfold wr
  rw [Array.all_eq_true']
  intro y hy
  have hy' : y ∈ t.cps.toList.flatMap refL := by simpa using hy
  obtain ⟨c, hc, hyc⟩ := List.mem_flatMap.mp hy'
  have hcc := h' c hc
  unfold refL at hyc
  repeat' split at hyc
  all_goals (simp at hyc; simp; omega)
-- M2
theorem lawS_eq : lawS = [lawSt 0, lawSt 1, lawSt 2, lawSt 3, lawSt 4, lawSt 5, lawSt 6, lawSt 7, lawSt 8, lawSt 9, lawSt 10, lawSt 11, lawSt 12, lawSt 13, lawSt 14] := by rfl
theorem off_cell {h₀ h : Heap} {L x c : Addr} {G : List (Addr × Obj)} {oc o : Obj} {c0 : Option Value} (N : News h₀ L h G) (hc : (c, oc) ∈ G) (hoc : oc.data = .cell c0) (hx : (x, o) ∈ G) (hno : ∀ v, o.data ≠ .cell v) : x ≠ c := by
  rintro rfl
  have h1 := (N _ hc).1
  have h2 := (N _ hx).1
  rw [h1] at h2
  obtain rfl := Option.some.inj h2
  exact hno _ hoc
noncomputable def but (c : Addr) (G : List (Addr × Obj)) : List (Addr × Obj) := G.filter fun p => decide (@Ne Nat p.1 c)
theorem mem_but {c x : Addr} {G : List (Addr × Obj)} {o : Obj} (h : (x, o) ∈ G) (hn : x ≠ c) : (x, o) ∈ but c G := List.mem_filter.mpr ⟨h, decide_eq_true hn⟩
theorem but_sub {c : Addr} {G : List (Addr × Obj)} : ∀ p ∈ but c G, p ∈ G := fun _ h => (List.mem_filter.mp h).1
theorem but_ne {c : Addr} {G : List (Addr × Obj)} : ∀ p ∈ but c G, p.1 ≠ c := fun _ h => of_decide_eq_true (List.mem_filter.mp h).2
theorem nm_but {h₀ h : Heap} {L c : Addr} {G : List (Addr × Obj)} {oc : Obj} {c0 : Option Value} {v : Value} {t : Str} (N : News h₀ L h G) (hc : (c, oc) ∈ G) (hoc : oc.data = .cell c0) (hn : Nm G v t) : Nm (but c G) v t := by
  cases hn with
  | str => exact .str
  | q a b => exact .q (mem_but a (off_cell N hc hoc a fun v e => by cases e)) (mem_but b (off_cell N hc hoc b fun v e => by cases e))
theorem txt_all {ns : List Int} {t : List Str} {f : Int → Bool} (h : t.Perm ((ns.filter f).map txt)) : ∀ x ∈ t, PyData.strOk x = true ∧ x.length ≤ 5 := by
  intro x hx
  obtain ⟨k, _, rfl⟩ := List.mem_map.mp (h.mem_iff.mp hx)
  exact ⟨ok_txt k, txt_len k⟩
theorem len_of {ns : List Int} {t : List PV} {f : Int → Bool} (h : (t.map (·.2)).Perm ((ns.filter f).map txt)) (hl : ns.length < 20) : t.length < 20 := by
  have h1 := h.length_eq
  have h2 := List.length_filter_le f ns
  simp only [List.length_map] at h1
  omega
section
variable {w : World} {hh : Option Value} {dp un : Nat} {gd : Option (List Code)} {env : Env} {outer : List Env} {A₀ : Around} {base h₀ : Heap} {L : Addr} {m mg mb : Str → Option Value} {mean : ExcName → Option Value}
   {rest : List (Addr × Obj)} {s : Shared} {Q E : Value → Shared → Prop}
theorem law_tail {fa : Addr} {cd : Value} {D : Addr} {ws : List Value} {ns : List Int} {n : Nat} {oc : Obj} {c0 : Option Value} {Q : Flow → Shared → Prop} (B : Below A₀ base [] h₀) (X : (hd.heap_39 w.params).In h₀) (T : Top hd.view_39 (looseW hd.view_39 []) mean mg mb h₀)
   (F : Fr h₀ L s.heap m) (N : News h₀ L s.heap rest) (hc : (L + 1, oc) ∈ rest) (hoc : oc.data = .cell c0) (hm : m (Str.ofString "numbers") = some (.ref D)) (hD : (D, W.listOf ws.toArray n) ∈ rest) (hi : IntsAre ws ns) (hl : ns.length < 20)
   (ret : ∀ h' tk' m', Fr h₀ L h' m' → Q (.ret (.bool true)) { s with heap := h', toks := tk' }) :
   wpAny (model PySem.Challenge.rw_oc0121_01.row.prog w) (ax none 302 8 gd (lawE L fa cd) []) (execs [lawSt 1, lawSt 2, lawSt 3, lawSt 4, lawSt 5, lawSt 6, lawSt 7, lawSt 8, lawSt 9, lawSt 10, lawSt 11, lawSt 12, lawSt 13, lawSt 14] (lawE L fa cd)) Q E s := by
  refine wpAny_execs_cons ?_
  refine seg1 B X T F N hm hD hi hl ?_
  intro h1 tk1 Tx S0 S1 t0 t1 kt0 kt1 kt tl1 F1 N1 o1 a1 a2 a3 yt0 yt1 pt0 pt1 st0 st1
  clear F N o1
  have sub1 : ∀ p ∈ rest, p ∈ tl1 ++ rest := fun p hp => List.mem_append_right _ hp
  have u1 : ∀ p ∈ tl1, p ∈ tl1 ++ rest := fun p hp => List.mem_append_left _ hp
  refine wpAny_execs_cons ?_
  refine seg2 B X T F1 N1 ((if_neg (by decide)).trans hm) (sub1 _ hD) hi hl ?_
  intro h2 tk2 Tk P0 P1 p0 p1 kp0 kp1 kp tl2 F2 N2 o2 b1 b2 b3 nm0 nm1 pp0 pp1 sp0 sp1
  clear F1 N1 o2
  have sub2 : ∀ p ∈ tl1 ++ rest, p ∈ tl2 ++ (tl1 ++ rest) := fun p hp => List.mem_append_right _ hp
  have e0 : p0.map (·.2) = t0.map (·.2) := perm_eq (pp0.trans pt0.symm) sp0 st0
  have e1 : p1.map (·.2) = t1.map (·.2) := perm_eq (pp1.trans pt1.symm) sp1 st1
  have lt0 := len_of pt0 hl
  have lt1 := len_of pt1 hl
  have lp0 := len_of pp0 hl
  have lp1 := len_of pp1 hl
  have tp0 : ∀ p ∈ t0, PyData.strOk p.2 = true ∧ p.2.length ≤ 5 := fun p hp => txt_all pt0 _ (List.mem_map_of_mem hp)
  have tp1 : ∀ p ∈ t1, PyData.strOk p.2 = true ∧ p.2.length ≤ 5 := fun p hp => txt_all pt1 _ (List.mem_map_of_mem hp)
  refine wpAny_execs_cons ?_
  refine seg3 B X T F2 N2 (if_pos rfl) ((if_neg (by decide)).trans (if_pos rfl)) b1 b2 b3 (sub2 _ (u1 _ a1)) (sub2 _ (u1 _ a2)) (sub2 _ (u1 _ a3)) nm0 nm1 yt0 yt1 e0 e1 (by omega) (by omega) (fun p hp => (tp0 p hp).1) (fun p hp => (tp1 p hp).1) ?_
  intro h3 tk3 tl3 F3 N3 _
  replace N3 : News h₀ L h3 (tl2 ++ (tl1 ++ rest)) := fun p hp => N3 p (List.mem_append_right _ hp)
  clear F2 N2
  obtain ⟨G, eG⟩ : ∃ G, G = tl2 ++ (tl1 ++ rest) := ⟨_, rfl⟩
  rw [← eG] at N3 b1 b2 b3 nm0 nm1
  have sG : ∀ p ∈ tl1 ++ rest, p ∈ G := fun p hp => by rw [eG]; exact sub2 p hp
  have hcG : (L + 1, oc) ∈ G := sG _ (sub1 _ hc)
  have N3' : News h₀ L h3 ((L + 1, oc) :: but (L + 1) G) := fun p hp => by
    rcases List.mem_cons.mp hp with rfl | hp
    · exact N3 _ hcG
    · exact N3 _ (but_sub p hp)
  have oo : ∀ {x : Addr} {o : Obj}, (x, o) ∈ G → (∀ v, o.data ≠ .cell v) → (x, o) ∈ but (L + 1) G := fun h hno => mem_but h (off_cell N3 hcG hoc h hno)
  have nl : ∀ {its : Array Value} {k : Nat} (v), (W.listOf its k).data ≠ .cell v := fun v e => by cases e
  have nm0' : ∀ p ∈ p0, Nm (but (L + 1) G) p.1 p.2 := fun p hp => nm_but N3 hcG hoc (nm0 p hp)
  have nm1' : ∀ p ∈ p1, Nm (but (L + 1) G) p.1 p.2 := fun p hp => nm_but N3 hcG hoc (nm1 p hp)
  replace b1 := oo b1 nl
  replace b2 := oo b2 nl
  replace b3 := oo b3 nl
  replace a1 := oo (sG _ (u1 _ a1)) nl
  replace a2 := oo (sG _ (u1 _ a2)) nl
  replace a3 := oo (sG _ (u1 _ a3)) nl
  refine wpAny_execs_cons ?_
  refine seg4 B X T F3 N3' hoc but_ne ((if_neg (by decide)).trans (if_pos rfl)) a1 a2 a3 yt0 yt1 (by omega) (by omega) ?_
  intro h4 tk4 tl4 Rw R0 R1 kr0 kr1 kr oc4 F4 N4 hoc4 _ x1 x2 x3
  clear F3 N3 N3'
  obtain ⟨G4, eG4⟩ : ∃ G4, G4 = (L + 1, oc4) :: (tl4 ++ but (L + 1) G) := ⟨_, rfl⟩
  rw [← eG4] at N4
  have s4 : ∀ p ∈ tl4 ++ but (L + 1) G, p ∈ G4 := fun p hp => by rw [eG4]; exact .tail _ hp
  have s4' : ∀ p ∈ but (L + 1) G, p ∈ G4 := fun p hp => s4 p (List.mem_append_right _ hp)
  have hc4 : (L + 1, oc4) ∈ G4 := by rw [eG4]; exact .head _
  replace x1 := s4 _ x1
  replace x2 := s4 _ x2
  replace x3 := s4 _ x3
  refine wpAny_execs_cons ?_
  refine seg5 B X T F4 N4 (if_pos rfl) (s4' _ b1) (s4' _ b2) (s4' _ b3) (fun p hp => (nm0' p hp).mono s4') (fun p hp => (nm1' p hp).mono s4') (by omega) (by omega) ?_
  intro h5 tk5 tl5 K0 K1 kk0 kk1 F5 N5 _ c1 c2
  clear F4 N4
  have er0 := once_map e0
  have er1 := once_map e1
  have sf0 := once_slt sp0
  have sf1 := once_slt sp1
  have sr0 := once_slt st0
  have sr1 := once_slt st1
  have lf0 : (once p0 p0.length).length < 20 := Nat.lt_of_le_of_lt (once_len _ _) lp0
  have lf1 : (once p1 p1.length).length < 20 := Nat.lt_of_le_of_lt (once_len _ _) lp1
  have lr0 : (once t0 t0.length).length < 20 := Nat.lt_of_le_of_lt (once_len _ _) lt0
  have lr1 : (once t1 t1.length).length < 20 := Nat.lt_of_le_of_lt (once_len _ _) lt1
  have yr0 : Txts (once t0 t0.length) := fun p hp => yt0 p (once_mem hp)
  have yr1 : Txts (once t1 t1.length) := fun p hp => yt1 p (once_mem hp)
  have tr0 : ∀ p ∈ once t0 t0.length, PyData.strOk p.2 = true ∧ p.2.length ≤ 5 := fun p hp => tp0 p (once_mem hp)
  have tr1 : ∀ p ∈ once t1 t1.length, PyData.strOk p.2 = true ∧ p.2.length ≤ 5 := fun p hp => tp1 p (once_mem hp)
  have nf0 : ∀ p ∈ once p0 p0.length, Nm G4 p.1 p.2 := fun p hp => (nm0' p (once_mem hp)).mono s4'
  have nf1 : ∀ p ∈ once p1 p1.length, Nm G4 p.1 p.2 := fun p hp => (nm1' p (once_mem hp)).mono s4'
  generalize once p0 p0.length = f0 at *
  generalize once p1 p1.length = f1 at *
  generalize once t0 t0.length = r0 at *
  generalize once t1 t1.length = r1 at *
  obtain ⟨G5, eG5⟩ : ∃ G5, G5 = tl5 ++ G4 := ⟨_, rfl⟩
  rw [← eG5] at N5
  have s5 : ∀ p ∈ G4, p ∈ G5 := fun p hp => by rw [eG5]; exact List.mem_append_right _ hp
  replace c1 : (K0, lob f0 kk0) ∈ G5 := by rw [eG5]; exact List.mem_append_left _ c1
  replace c2 : (K1, lob f1 kk1) ∈ G5 := by rw [eG5]; exact List.mem_append_left _ c2
  replace x1 := s5 _ x1
  replace x2 := s5 _ x2
  replace x3 := s5 _ x3
  replace hc4 := s5 _ hc4
  replace nf0 : ∀ p ∈ f0, Nm G5 p.1 p.2 := fun p hp => (nf0 p hp).mono s5
  replace nf1 : ∀ p ∈ f1, Nm G5 p.1 p.2 := fun p hp => (nf1 p hp).mono s5
  refine wpAny_execs_cons ?_
  refine seg6 B X T F5 N5 hoc4 hc4 (if_pos rfl) ((if_neg (by decide)).trans (if_pos rfl)) c1 c2 x1 x2 x3 nf0 nf1 yr0 yr1 er0 er1 (by omega) (by omega) (fun p hp => (tr0 p hp).1) (fun p hp => (tr1 p hp).1) ?_
  intro h6 tk6 tl6 F6 N6 _
  replace N6 : News h₀ L h6 G5 := fun p hp => N6 p (List.mem_append_right _ hp)
  clear F5 N5
  refine wpAny_execs_cons ?_
  refine seg7 B X T F6 N6 hoc4 hc4 (if_pos rfl) ((if_neg (by decide)).trans (if_pos rfl)) c1 c2 x1 x2 x3 nf0 nf1 yr0 yr1 er0 er1 (by omega) (by omega) ?_
  intro h7 tk7 m7 F7 N7 hm7
  clear F6 N6
  have hf : m7 (Str.ofString "first") = some (.ref K0) := (hm7 _ (by decide) (by decide) (by decide) (by decide) (by decide)).trans (if_pos rfl)
  have hs : m7 (Str.ofString "second") = some (.ref K1) := (hm7 _ (by decide) (by decide) (by decide) (by decide) (by decide)).trans ((if_neg (by decide)).trans (if_pos rfl))
  clear hm7
  refine wpAny_execs_cons ?_
  refine seg8 B X T F7 N7 hoc4 hc4 x1 x2 x3 yr0 yr1 (by omega) (by omega) (fun p hp => (tr0 p hp).1) (fun p hp => (tr1 p hp).1) ?_
  intro h8 tk8 tl8 Lo Ov kl ko F8 N8 _ xl xo
  clear F7 N7
  obtain ⟨G8, eG8⟩ : ∃ G8, G8 = tl8 ++ G5 := ⟨_, rfl⟩
  rw [← eG8] at N8
  have s8 : ∀ p ∈ G5, p ∈ G8 := fun p hp => by rw [eG8]; exact List.mem_append_right _ hp
  replace xl : (Lo, lob (r0.filter (nin r1)) kl) ∈ G8 := by rw [eG8]; exact List.mem_append_left _ xl
  replace xo : (Ov, lob (r1.filter (nin r0)) ko) ∈ G8 := by rw [eG8]; exact List.mem_append_left _ xo
  replace x1 := s8 _ x1
  replace x2 := s8 _ x2
  replace x3 := s8 _ x3
  replace hc4 := s8 _ hc4
  replace nf0 : ∀ p ∈ f0, Nm G8 p.1 p.2 := fun p hp => (nf0 p hp).mono s8
  replace nf1 : ∀ p ∈ f1, Nm G8 p.1 p.2 := fun p hp => (nf1 p hp).mono s8
  refine wpAny_execs_cons ?_
  refine seg9 B X T F8 N8 ((if_neg (by decide)).trans ((if_neg (by decide)).trans hf)) ((if_neg (by decide)).trans ((if_neg (by decide)).trans hs)) (s8 _ c1) (s8 _ c2) nf0 nf1 sf0 sf1 (by omega) (by omega) ?_
  intro h9 tk9 T0 T1 T2 A1 A2 B1 B2 ka1 ka2 kb1 kb2 F9 N9
  clear F8 N8
  obtain ⟨G9, eG9⟩ : ∃ G9, G9 = (T0, tupOf [.ref T1, .ref T2]) :: (T2, tupOf [.ref B1, .ref B2]) :: (B1, lob (f1.filter (nin f0)) kb1) :: (B2, lob (f0.filter (nin f1)) kb2) :: (T1, tupOf [.ref A1, .ref A2]) :: (A1, lob (f0.filter (nin f1)) ka1) :: (A2, lob (f1.filter (nin f0)) ka2) :: G8 := ⟨_, rfl⟩
  rw [← eG9] at N9
  have s9 : ∀ p ∈ G8, p ∈ G9 := fun p hp => by rw [eG9]; exact .tail _ (.tail _ (.tail _ (.tail _ (.tail _ (.tail _ (.tail _ hp))))))
  have i0 : (T0, tupOf [.ref T1, .ref T2]) ∈ G9 := by rw [eG9]; exact .head _
  have i1 : (T1, tupOf [.ref A1, .ref A2]) ∈ G9 := by rw [eG9]; exact .tail _ (.tail _ (.tail _ (.tail _ (.head _))))
  have i2 : (T2, tupOf [.ref B1, .ref B2]) ∈ G9 := by rw [eG9]; exact .tail _ (.head _)
  have i3 : (A1, lob (f0.filter (nin f1)) ka1) ∈ G9 := by rw [eG9]; exact .tail _ (.tail _ (.tail _ (.tail _ (.tail _ (.head _)))))
  have i4 : (A2, lob (f1.filter (nin f0)) ka2) ∈ G9 := by rw [eG9]; exact .tail _ (.tail _ (.tail _ (.tail _ (.tail _ (.tail _ (.head _))))))
  have i5 : (B1, lob (f1.filter (nin f0)) kb1) ∈ G9 := by rw [eG9]; exact .tail _ (.tail _ (.head _))
  have i6 : (B2, lob (f0.filter (nin f1)) kb2) ∈ G9 := by rw [eG9]; exact .tail _ (.tail _ (.tail _ (.head _)))
  replace xl := s9 _ xl
  replace xo := s9 _ xo
  replace x1 := s9 _ x1
  replace x2 := s9 _ x2
  replace x3 := s9 _ x3
  replace hc4 := s9 _ hc4
  have ng0 : ∀ p ∈ f0.filter (nin f1), Nm G9 p.1 p.2 := fun p hp => (nf0 p (List.mem_filter.mp hp).1).mono s9
  have ng1 : ∀ p ∈ f1.filter (nin f0), Nm G9 p.1 p.2 := fun p hp => (nf1 p (List.mem_filter.mp hp).1).mono s9
  have lg0 : (f0.filter (nin f1)).length < 20 := Nat.lt_of_le_of_lt (List.length_filter_le _ _) lf0
  have lg1 : (f1.filter (nin f0)).length < 20 := Nat.lt_of_le_of_lt (List.length_filter_le _ _) lf1
  have ll0 : (r0.filter (nin r1)).length < 20 := Nat.lt_of_le_of_lt (List.length_filter_le _ _) lr0
  have ll1 : (r1.filter (nin r0)).length < 20 := Nat.lt_of_le_of_lt (List.length_filter_le _ _) lr1
  have yl : Txts (r0.filter (nin r1)) := fun p hp => yr0 p (List.mem_filter.mp hp).1
  have yo : Txts (r1.filter (nin r0)) := fun p hp => yr1 p (List.mem_filter.mp hp).1
  have tl0 : ∀ p ∈ r0.filter (nin r1), PyData.strOk p.2 = true ∧ p.2.length ≤ 5 := fun p hp => tr0 p (List.mem_filter.mp hp).1
  have to0 : ∀ p ∈ r1.filter (nin r0), PyData.strOk p.2 = true ∧ p.2.length ≤ 5 := fun p hp => tr1 p (List.mem_filter.mp hp).1
  refine wpAny_execs_cons ?_
  refine seg10 B X T F9 N9 (if_pos rfl) ((if_neg (by decide)).trans (if_pos rfl)) ((if_neg (by decide)).trans ((if_neg (by decide)).trans (if_pos rfl))) i0 i1 i2 i3 i4 i5 i6 ng0 ng1 ng1 ng0 (by omega) (by omega) (by omega) (by omega) xl xo yl yo
    (filt_map er0 er1) (filt_map er1 er0) (filt_map er1 er0) (filt_map er0 er1) (fun p hp => (tl0 p hp).1) (fun p hp => (to0 p hp).1) ?_
  intro h10 tk10 F10 N10
  clear F9 N9
  refine wpAny_execs_cons ?_
  refine seg11 B X T F10 N10 hoc4 hc4 x1 x2 x3 yr0 yr1 (by omega) (by omega) (fun p hp => (tr0 p hp).2) (fun p hp => (tr1 p hp).2) ?_
  intro h11 tk11 tl11 Wr W0 W1 w0 w1 kw kw0 kw1 F11 N11 _ z1 z2 z3 hne ty0 ty1 ew0 ew1
  clear F10 N10
  obtain ⟨G11, eG11⟩ : ∃ G11, G11 = tl11 ++ G9 := ⟨_, rfl⟩
  rw [← eG11] at N11 z1 z2 z3
  have s11 : ∀ p ∈ G9, p ∈ G11 := fun p hp => by rw [eG11]; exact List.mem_append_right _ hp
  have okw0 : ∀ p ∈ w0, PyData.strOk p.2 = true := fun p hp => by
    have : p.2 ∈ r0.map (fun p => wr p.2) := by rw [← ew0]; exact List.mem_map_of_mem hp
    obtain ⟨q, hq, e⟩ := List.mem_map.mp this
    rw [← e]; exact ok_wr (tr0 q hq).1
  have okw1 : ∀ p ∈ w1, PyData.strOk p.2 = true := fun p hp => by
    have : p.2 ∈ r1.map (fun p => wr p.2) := by rw [← ew1]; exact List.mem_map_of_mem hp
    obtain ⟨q, hq, e⟩ := List.mem_map.mp this
    rw [← e]; exact ok_wr (tr1 q hq).1
  refine wpAny_execs_cons ?_
  refine seg12 B X T F11 N11 hoc4 (s11 _ hc4) (if_pos rfl) (s11 _ x1) (s11 _ x2) (s11 _ x3) z1 z2 z3 yr0 yr1 (by omega) (by omega) (fun p hp => (tr0 p hp).2) (fun p hp => (tr1 p hp).2) ty0 ty1 ew0 ew1 okw0 okw1 ?_
  intro h12 tk12 F12 N12
  clear F11 N11
  refine wpAny_execs_cons ?_
  refine seg13 B X T F12 N12 ((if_neg (by decide)).trans ((if_neg (by decide)).trans (if_pos rfl))) ((if_neg (by decide)).trans ((if_neg (by decide)).trans ((if_neg (by decide)).trans (if_pos rfl)))) (s11 _ xl) (s11 _ xo) yl yo (by omega) (by omega) (fun p hp => (tl0 p hp).2) (fun p hp => (to0 p hp).2) ?_
  intro h13 tk13 Du D0 D1 c0 c1 kd0 kd1 tl13 F13 N13 o13 g1 g2 g3 tc0 tc1 ec0 ec1
  clear F12 N12
  have lw0 : w0.length < 20 := by
    have := congrArg List.length ew0
    simp only [List.length_map] at this
    omega
  have lw1 : w1.length < 20 := by
    have := congrArg List.length ew1
    simp only [List.length_map] at this
    omega
  have okc0 : ∀ p ∈ c0, PyData.strOk p.2 = true := fun p hp => by
    have : p.2 ∈ (r0.filter (nin r1)).reverse.map (fun p => wr p.2) := by rw [← ec0]; exact List.mem_map_of_mem hp
    obtain ⟨q, hq, e⟩ := List.mem_map.mp this
    rw [← e]; exact ok_wr (tl0 q (List.mem_reverse.mp hq)).1
  have okc1 : ∀ p ∈ c1, PyData.strOk p.2 = true := fun p hp => by
    have : p.2 ∈ (r1.filter (nin r0)).map (fun p => wr p.2) := by rw [← ec1]; exact List.mem_map_of_mem hp
    obtain ⟨q, hq, e⟩ := List.mem_map.mp this
    rw [← e]; exact ok_wr (to0 q hq).1
  obtain ⟨en0, en1⟩ := end_law sr0 sr1 ew0 ew1 ec0 ec1
  refine wpAny_execs_cons ?_
  refine seg14 B X T F13 N13 ((if_neg (by decide)).trans (if_pos rfl)) (if_pos rfl) (List.mem_append_right _ z1) (List.mem_append_right _ z2) (List.mem_append_right _ z3) (List.mem_append_left _ g1) (List.mem_append_left _ g2) (List.mem_append_left _ g3)
    hne (o13 _ g1 _ z2) (o13 _ g1 _ z3) (o13 _ g2 _ z2) (o13 _ g2 _ z3) (o13 _ g3 _ z2) (o13 _ g3 _ z3) ty0 ty1 tc0 tc1 (by omega) (by omega) en0 en1 okc0 okc1 ?_
  intro h14 tk14 F14
  exact ret h14 tk14 _ F14
end
-- M3
section
variable {w : World} {hh : Option Value} {dp un : Nat} {gd : Option (List Code)} {env : Env} {outer : List Env} {A₀ : Around} {base h₀ : Heap} {L : Addr} {m mg mb : Str → Option Value} {mean : ExcName → Option Value}
   {rest : List (Addr × Obj)} {s : Shared} {Q E : Value → Shared → Prop}
theorem seg0 {fa : Addr} {cd : Value} {sc : Addr} {vs : List Value} {ns : List Int} {Q : Flow → Shared → Prop} (B : Below A₀ base [] h₀) (X : (hd.heap_39 w.params).In h₀) (T : Top hd.view_39 (looseW hd.view_39 []) mean mg mb h₀)
   (F : Fr h₀ L s.heap m) (N : News h₀ L s.heap rest) (hm : m (Str.ofString "script") = some (.ref sc)) (hL : h₀.IsList sc vs.toArray) (hI : IntsAre vs ns) (hlen : ns.length ≤ 63)
   (ret : ∀ h' tk' D ws ks n tl, Fr h₀ L h' (fun y => if y = Str.ofString "numbers" then some (.ref D) else m y) → News h₀ L h' (tl ++ rest) → (D, W.listOf (List.toArray ws) n) ∈ tl → IntsAre ws ks → ks.length < 20 → Q .next { s with heap := h', toks := tk' }) :
   wpAny (model PySem.Challenge.rw_oc0121_01.row.prog w) (ax none 302 8 gd (lawE L fa cd) []) (exec (lawSt 0) (lawE L fa cd)) Q E s := by
  w_on
  conv => arg 3; arg 1; whnf
  ((try k_fold); w_strict (k_extra "go"))
  (try dsimp only)
  refine new_list F N (by simp) ?_
  intro D1 h1 F1 N1 o1
  clear F N
  (try dsimp only)
  ((try k_fold); w_strict (k_extra "go"))
  rename IntsAre _ ([90, 323, 481, 65, 6] ++ _) => hI4
  rename Fr _ _ _ _ => F4
  rename News _ _ _ _ => N4
  refine ret _ _ _ _ _ _ [_, _, _] F4 N4 (.head _) hI4 ?_
  simp only [List.length_append, List.length_take, List.length_cons, List.length_nil]
  omega
theorem law_body {fa : Addr} {cd : Value} {sc : Addr} {vs : List Value} {ns : List Int} {oc : Obj} {c0 : Option Value} {Q : Flow → Shared → Prop} (B : Below A₀ base [] h₀) (X : (hd.heap_39 w.params).In h₀) (T : Top hd.view_39 (looseW hd.view_39 []) mean mg mb h₀)
   (F : Fr h₀ L s.heap m) (N : News h₀ L s.heap [(L + 1, oc)]) (hoc : oc.data = .cell c0) (hm : m (Str.ofString "script") = some (.ref sc)) (hL : h₀.IsList sc vs.toArray) (hI : IntsAre vs ns) (hlen : ns.length ≤ 63)
   (ret : ∀ h' tk' m', Fr h₀ L h' m' → Q (.ret (.bool true)) { s with heap := h', toks := tk' }) :
   wpAny (model PySem.Challenge.rw_oc0121_01.row.prog w) (ax none 302 7 gd (lawE L fa cd) []) (execs lawS (lawE L fa cd)) Q E s := by
  refine wpAny_le (dp := 302) (un := 8) ?_ (Nat.le_refl _) (by decide)
  rw [lawS_eq]
  refine wpAny_execs_cons ?_
  refine seg0 B X T F N hm hL hI hlen ?_
  intro h1 tk1 D ws ks n tl F1 N1 hD hi hl
  exact law_tail B X T F1 N1 (List.mem_append_right _ (.head _)) hoc (if_pos rfl) (List.mem_append_left _ hD) hi hl fun h' tk' m' F' => ret h' tk' m' F'
end
theorem law_holds : PySem.Challenge.rw_oc0121_01.Holds := by
  refine hd ?_
  k_go0
  w_on
  (try k_fold)
  (try dsimp only)
  rename Shared => s1
  rename Heap => h1
  rename Nat => tk1
  rename Top _ _ _ _ _ _ => T0
  rename Frag.In _ _ => X0
  rename Below _ _ _ _ => K0
  replace K0 : Below callerA s1.heap [] s1.heap := K0
  rename Fr _ _ _ _ => F0
  rename News _ _ _ _ => N0
  rename IntsAre _ _ => I0
  rename Heap.IsList _ _ _ => L0
  rename ¬ ((63 : Nat) : Int) < _ => H0
  rename Obj.data _ = Data.cell _ => C0
  refine law_body (gd := some []) (s := { s1 with heap := h1, toks := tk1 }) (h₀ := s1.heap) (L := s1.heap.objs.size) K0 X0 T0 F0 N0 C0 ?hm L0 I0 (by omega) ?hr
  case hm => rfl
  case hr =>
    intro h2 tk2 m2 F2
    ((try k_fold); w_strict (k_steps))
end Mine
theorem PySem.Challenge.cw_oc0121_01_holds : PySem.Challenge.rw_oc0121_01.Holds :=
  Mine.law_holds
#print axioms PySem.Challenge.cw_oc0121_01_holds
