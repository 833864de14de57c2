import PyProof.Rows.All
import Wide.All
import OpenK.AllK
import Wide.FinOn
import PySem.Challenge.RW_bd5005_01
open PySem PySem.W PyProof.Rows PySem.Calls
set_option Elab.async false
set_option maxRecDepth 100000
set_option maxHeartbeats 8000000
namespace Mine
open_top hd for PySem.Challenge.rw_bd5005_01
local macro_rules | `(tactic| k_room) => `(tactic| ktr_room)
local macro_rules | `(tactic| k_units) => `(tactic| ktr_units)
local macro_rules | `(tactic| ktr_enter) => `(tactic| (refine' code_def ?k1 ?k2 ?k3 ?k4 ?k5 ?kA ?kF ?kK ?k6 ?k7 ?k8 ?k9 ?kB ?_ ?c2 ?c3 ?c4 ?c5; (case kA => exact rfl); (case kF => exact rfl); (case kK => first | assumption | exact rfl); (case k1 => k_asm); (case k2 => k_asm); (case k3 => k_asm); (case k4 => k_asm); (case k5 => k_asm); (case k6 => k_is); (case k7 => k_is); (case k8 => ktr_room); (case k9 => first | exact BindsTo.of_eq rfl | exact binds_K (by k_in) rfl (by k_is) rfl rfl rfl); (case c5 => decide); (case kB => exact locs rfl); (case c2 => exact rfl); (case c3 => exact rfl); (case c4 => exact rfl); k_whole; intro g' L' h' FG' F' N' B' X' T'; (try dsimp only); (try k_lift B'); (try k_fold)))

theorem off01 : True := by
  w_top off
  trivial
/-- a part of a locale as the model's value: None, or a text -/
@[irreducible] def pv (o : Option Str) (t : Tok) : Value := match o with
  | none => .none
  | some x => .str x t
theorem pv_none (t : Tok) : pv none t = .none := by unfold pv; rfl
theorem pv_some (x : Str) (t : Tok) : pv (some x) t = .str x t := by unfold pv; rfl
/-- is it a text that isn't empty -/
def tr (o : Option Str) : Bool := match o with
  | none => false
  | some x => x.length != 0
section
variable {prog : Program} {w : World} {A : Around} {E : Value → Shared → Prop} {s : Shared} {o p : Option Str} {t u : Tok} {x : Str}
theorem is_pv_none {Q : Value → Shared → Prop} (h : Q (.bool o.isNone) s) : wpAny (model prog w) A (compareOp .Is (pv o t) .none) Q E s := by
  cases o with
  | none => rw [pv_none]; exact is_none_none h
  | some x => rw [pv_some]; exact is_str_none h
theorem isnot_pv_none {Q : Value → Shared → Prop} (h : Q (.bool o.isSome) s) : wpAny (model prog w) A (compareOp .IsNot (pv o t) .none) Q E s := by
  cases o with
  | none => rw [pv_none]; exact isnot_none_none h
  | some x => rw [pv_some]; exact isnot_str_none h
theorem eq_pv_str {Q : Value → Shared → Prop} (h : Q (.bool (decide (o = some x))) s) : wpAny (model prog w) A (compareOp .Eq (pv o t) (.str x u)) Q E s := by
  cases o with
  | none => rw [pv_none]; exact EqNone.eq_none_str (by simpa using h)
  | some y =>
    rw [pv_some]
    refine eq_str ?_
    have e : (y == x) = decide (some y = some x) := by
      by_cases q : y = x
      · simp [q]
      · simp [q]
    rw [e]; exact h
theorem ne_pv_str {Q : Value → Shared → Prop} (h : Q (.bool (!decide (o = some x))) s) : wpAny (model prog w) A (compareOp .NotEq (pv o t) (.str x u)) Q E s := by
  cases o with
  | none => rw [pv_none]; exact EqNone.ne_none_str (by simpa using h)
  | some y =>
    rw [pv_some]
    refine ne_str ?_
    have e : (y != x) = !decide (some y = some x) := by
      by_cases q : y = x
      · simp [q]
      · simp [q, bne]
    rw [e]; exact h
theorem eq_pv_pv {Q : Value → Shared → Prop} (h : Q (.bool (decide (o = p))) s) : wpAny (model prog w) A (compareOp .Eq (pv o t) (pv p u)) Q E s := by
  cases p with
  | none =>
    cases o with
    | none => rw [pv_none, pv_none]; exact EqNone.eq_none_none (by simpa using h)
    | some x => rw [pv_none, pv_some]; exact EqNone.eq_str_none (by simpa using h)
  | some y => rw [pv_some y]; exact eq_pv_str h
theorem truthy_pv {Q : Bool → Shared → Prop} (hfit : ∀ x, o = some x → x.length ≤ sizeLine) (h : ∀ tk, Q (tr o) { s with toks := tk }) : wpAny (model prog w) A (truthy (pv o t)) Q E s := by
  cases o with
  | none => rw [pv_none]; exact truthy_none (h s.toks)
  | some x =>
    rw [pv_some]
    have hx := hfit x rfl
    rw [sizeLine_eq] at hx
    refine PySem.P.truthy_str (by omega) ?_
    have e : ((x.length : Int) != 0) = (x.length != 0) := by
      generalize x.length = n
      cases n <;> rfl
    have z := h (s.toks + 1 + 1)
    show Q _ _
    rw [e]; exact z
end
section
variable {h₀ h : Heap} {L : Addr} {news : List (Addr × Obj)} {q a b c : Addr × Obj}
theorem dup (N : News h₀ L h news) (hq : q ∈ news) : News h₀ L h (q :: news) := fun p hp => by
  rcases List.mem_cons.mp hp with e | hp
  · subst e; exact N _ hq
  · exact N _ hp
theorem undup1 (N : News h₀ L h (a :: q :: news)) : News h₀ L h (a :: news) := fun p hp => by
  rcases List.mem_cons.mp hp with e | hp
  · subst e; exact N _ (.head _)
  · exact N _ (.tail _ (.tail _ hp))
theorem undup2 (N : News h₀ L h (a :: b :: q :: news)) : News h₀ L h (a :: b :: news) := fun p hp => by
  rcases List.mem_cons.mp hp with e | hp
  · subst e; exact N _ (.head _)
  · exact undup1 N.tail' p hp
theorem undup3 (N : News h₀ L h (a :: b :: c :: q :: news)) : News h₀ L h (a :: b :: news) := undup2 (undup2 N)
end
/-- a locale's own dict -/
abbrev locD (P : Params) (t0 t1 t2 t3 t4 t5 : Tok) (v0 v1 v2 v3 v4 vd : Value) : List DictEntry :=
  [⟨PyData.keyHash P (Str.ofString "language"), .str (Str.ofString "language") t0, v0⟩,
   ⟨PyData.keyHash P (Str.ofString "territory"), .str (Str.ofString "territory") t1, v1⟩,
   ⟨PyData.keyHash P (Str.ofString "script"), .str (Str.ofString "script") t2, v2⟩,
   ⟨PyData.keyHash P (Str.ofString "variant"), .str (Str.ofString "variant") t3, v3⟩,
   ⟨PyData.keyHash P (Str.ofString "modifier"), .str (Str.ofString "modifier") t4, v4⟩,
   ⟨PyData.keyHash P (Str.ofString "_data"), .str (Str.ofString "_data") t5, vd⟩]
abbrev tupO (vs : List Value) (n : Nat) : Obj := { cls := .type "tuple", data := .seq vs.toArray n }

theorem off02 : True := by
  w_top off
  trivial
local macro_rules | `(tactic| walk_at "compareOp Is") => `(tactic| (k_here; (with_reducible show wpAny _ _ (compareOp CmpOp.Is (pv _ _) Value.none) _ _ _); refine is_pv_none ?_))
local macro_rules | `(tactic| walk_at "compareOp IsNot") => `(tactic| (k_here; (with_reducible show wpAny _ _ (compareOp CmpOp.IsNot (pv _ _) Value.none) _ _ _); refine isnot_pv_none ?_))
local macro_rules | `(tactic| walk_at "compareOp Eq") => `(tactic| (k_here; (with_reducible show wpAny _ _ (compareOp CmpOp.Eq (pv _ _) (Value.str _ _)) _ _ _); refine eq_pv_str ?_))
local macro_rules | `(tactic| walk_at "compareOp NotEq") => `(tactic| (k_here; (with_reducible show wpAny _ _ (compareOp CmpOp.NotEq (pv _ _) (Value.str _ _)) _ _ _); refine ne_pv_str ?_))
local macro_rules | `(tactic| walk_at "compareOp Eq") => `(tactic| (k_here; (with_reducible show wpAny _ _ (compareOp CmpOp.Eq (pv _ _) (pv _ _)) _ _ _); refine eq_pv_pv ?_))
/-- what _law_changed makes of a part -/
def chg (o : Option Str) : Option Str := match o with
  | none => some (Str.ofString "")
  | some x => if x = Str.ofString "" then none else some (x ++ Str.ofString "x")
section
variable {w : World} {dp un : Nat} {gd : Option (List Code)} {cn : Str} {cs : Scope} {a : Addr} {ccd : Value} {cl : List (Str × Addr)} {outer : List Env} {A₀ : Around} {base h₀ : Heap} {L : Addr} {m mg mb : Str → Option Value} {mean : ExcName → Option Value} {s : Shared} {Q E : Value → Shared → Prop} {news : List (Addr × Obj)}
theorem changed {o : Option Str} {t : Tok} (ho : ∀ x, o = some x → x.length ≤ 1000) (B : Below A₀ base outer h₀) (F : Fr h₀ L s.heap m) (X : (Mine.hd.heap_39 w.params).In h₀) (N : News h₀ L s.heap (news)) (T : Top Mine.hd.view_39 (looseW Mine.hd.view_39 [Str.ofString "Locale", Str.ofString "parse_locale", Str.ofString "get_locale_identifier"]) mean mg mb h₀) (hk : cs.kind = .function) (hd : dp + 4 < recursionLimit) (hu : un + 60 < cLine)
   (hret : ∀ (t' : Tok) (h' : Heap) (tk' : Nat), Fr h₀ L h' m → News h₀ L h' news → Q (pv (chg o) t') { s with heap := h', toks := tk' }) :
   wpAny (model PySem.Challenge.rw_bd5005_01.row.prog w) (ktrTop dp un gd cn cs L a ccd cl outer) (call (.ref 210) [pv o t]) Q E s := by
  cases o with
  | none =>
    simp only [pv_none, pv_some, chg] at *
    (refine wpAny_call ?_; k_dflt ktr_enter; k_steps)
    all_goals exact hret _ _ _ (by k_asm) (by k_asm)
  | some x =>
    have hx := ho x rfl
    by_cases q : x = Str.ofString ""
    · simp only [pv_some, chg, if_pos q, pv_none] at *
      (refine wpAny_call ?_; k_dflt ktr_enter; k_steps)
      all_goals first | exact hret 0 _ _ (by k_asm) (by k_asm) | (exfalso; simp_all; done)
    · simp only [pv_some, chg, if_neg q] at *
      (refine wpAny_call ?_; k_dflt ktr_enter; k_steps)
      all_goals first | exact hret _ _ _ (by k_asm) (by k_asm) | (exfalso; simp_all; done)
end

theorem off03 : True := by
  w_top off
  trivial
section
variable {w : World} {dp un : Nat} {gd : Option (List Code)} {cn : Str} {cs : Scope} {a : Addr} {ccd : Value} {cl : List (Str × Addr)} {outer : List Env} {A₀ : Around} {base h₀ : Heap} {L : Addr} {m mg mb : Str → Option Value} {mean : ExcName → Option Value} {s : Shared} {Q E : Value → Shared → Prop} {news : List (Addr × Obj)}
theorem made {p : Addr} {n : Nat} {v0 v1 v2 v3 v4 : Value} {k : Int} {tk : Tok} (h0 : 0 ≤ k) (h2 : k ≤ 2) (B : Below A₀ base outer h₀) (F : Fr h₀ L s.heap m) (X : (Mine.hd.heap_39 w.params).In h₀) (N : News h₀ L s.heap (news)) (T : Top Mine.hd.view_39 (looseW Mine.hd.view_39 [Str.ofString "Locale", Str.ofString "parse_locale", Str.ofString "get_locale_identifier"]) mean mg mb h₀) (hk : cs.kind = .function) (hd : dp + 8 < recursionLimit) (hu : un + 100 < cLine) (hp : (p, tupO [v0, v1, v2, v3, v4] n) ∈ news)
   (hret : ∀ (x dx : Addr) (vd : Value) (t0 t1 t2 t3 t4 t5 : Tok) (h' : Heap) (tk' : Nat), Fr h₀ L h' m → News h₀ L h' ((x, instObj 177 dx) :: (dx, dictOf (locD w.params t0 t1 t2 t3 t4 t5 v0 v1 v2 v3 v4 vd) 6) :: news) → AllLt dx news → dx < x → Q (.ref x) { s with heap := h', toks := tk' }) :
   wpAny (model PySem.Challenge.rw_bd5005_01.row.prog w) (ktrTop dp un gd cn cs L a ccd cl outer) (call (.ref 217) [.ref p, .int k tk]) Q E s := by
  replace N := dup N hp
  (refine wpAny_call ?_; k_dflt ktr_enter; k_steps)
  all_goals first
    | exact hret _ _ _ _ _ _ _ _ _ _ _ (by k_asm) (undup2 (by k_asm)) (And.right (a := p < _) (by assumption)) (by assumption)
    | exact hret _ _ _ _ _ _ _ _ _ _ _ (by k_asm) (undup3 (by k_asm)) (And.right (a := p < _) (And.right (a := _ < _) (by assumption))) (by assumption)
end

theorem off04 : True := by
  w_top off
  trivial
section
variable {prog : Program} {w : World} {A : Around} {E : Value → Shared → Prop} {s : Shared} {h₀ : Heap} {L D : Addr} {news : List (Addr × Obj)}
/-- the item of a written tuple at a place that lies in it -/
theorem menu_at {value slice : PySem.Expr} {vs : List Value} {n : Nat} {k : Int} {u : Tok} {Q : Value → Shared → Prop} (N : News h₀ L s.heap news) (hm : (D, tupO vs n) ∈ news) (h0 : 0 ≤ k) (hk : k < vs.length) (hl : vs.length ≤ 100)
    (hs : subscripted slice false (.ref D) (.int k u) = operate [.ref D, .int k u] (getItem (.ref D) (.int k u)))
    (h : ∀ v ∈ vs, Q v s) : wpAny (model prog w) A (subscriptTail value slice (.ref D) (.int k u)) Q E s := by
  have hj : k.toNat < vs.length := by omega
  refine item_tupleT (N.isTup hm) (by omega) (by omega) (j := k.toNat) ?_ (List.getElem?_eq_getElem hj) (h _ (List.getElem_mem hj)) hs
  unfold seqIndex?
  simp only [if_neg (show ¬ k < 0 by omega)]
  have : (decide (0 ≤ k) && decide (k < (vs.length : Int))) = true := by simp; omega
  rw [this]; rfl
def Are : List Value → List (Option Str) → Prop
  | [], [] => True
  | v :: vs, o :: os => (∃ t, v = pv o t) ∧ Are vs os
  | _, _ => False
theorem Are.mem : ∀ {vs : List Value} {os : List (Option Str)}, Are vs os → ∀ v ∈ vs, ∃ o ∈ os, ∃ t, v = pv o t
  | [], _, _, _, hv => nomatch hv
  | _ :: _, [], h, _, _ => h.elim
  | x :: vs, o :: os, h, v, hv => by
    rcases List.mem_cons.mp hv with e | hv
    · subst e; exact ⟨o, .head _, h.1⟩
    · obtain ⟨o', h1, h2⟩ := Are.mem h.2 v hv
      exact ⟨o', .tail _ h1, h2⟩
def AreS : List Value → List Str → Prop
  | [], [] => True
  | v :: vs, o :: os => (∃ t, v = .str o t) ∧ AreS vs os
  | _, _ => False
theorem AreS.mem : ∀ {vs : List Value} {os : List Str}, AreS vs os → ∀ v ∈ vs, ∃ o ∈ os, ∃ t, v = .str o t
  | [], _, _, _, hv => nomatch hv
  | _ :: _, [], h, _, _ => h.elim
  | x :: vs, o :: os, h, v, hv => by
    rcases List.mem_cons.mp hv with e | hv
    · subst e; exact ⟨o, .head _, h.1⟩
    · obtain ⟨o', h1, h2⟩ := AreS.mem h.2 v hv
      exact ⟨o', .tail _ h1, h2⟩
theorem menu_pv {value slice : PySem.Expr} {vs : List Value} {n : Nat} {os : List (Option Str)} {k : Int} {u : Tok} {Q : Value → Shared → Prop} (N : News h₀ L s.heap news) (hm : (D, tupO vs n) ∈ news) (hv : Are vs os) (h0 : 0 ≤ k) (hk : k < vs.length) (hl : vs.length ≤ 100)
    (hs : subscripted slice false (.ref D) (.int k u) = operate [.ref D, .int k u] (getItem (.ref D) (.int k u)))
    (h : ∀ o t, o ∈ os → Q (pv o t) s) : wpAny (model prog w) A (subscriptTail value slice (.ref D) (.int k u)) Q E s :=
  menu_at N hm h0 hk hl hs fun v hm' => by
    obtain ⟨o, ho, t, e⟩ := hv.mem v hm'
    rw [e]; exact h o t ho
theorem menu_str {value slice : PySem.Expr} {vs : List Value} {n : Nat} {os : List Str} {k : Int} {u : Tok} {Q : Value → Shared → Prop} (N : News h₀ L s.heap news) (hm : (D, tupO vs n) ∈ news) (hv : AreS vs os) (h0 : 0 ≤ k) (hk : k < vs.length) (hl : vs.length ≤ 100)
    (hs : subscripted slice false (.ref D) (.int k u) = operate [.ref D, .int k u] (getItem (.ref D) (.int k u)))
    (h : ∀ o t, o ∈ os → Q (.str o t) s) : wpAny (model prog w) A (subscriptTail value slice (.ref D) (.int k u)) Q E s :=
  menu_at N hm h0 hk hl hs fun v hm' => by
    obtain ⟨o, ho, t, e⟩ := hv.mem v hm'
    rw [e]; exact h o t ho
end
def langs : List Str := [Str.ofString "en", Str.ofString "de", Str.ofString "zh", Str.ofString "fra"]
def terrs : List (Option Str) := [none, some (Str.ofString "US"), some (Str.ofString "150"), some (Str.ofString ""), some (Str.ofString "AT")]
def scripts : List (Option Str) := [none, some (Str.ofString "Latn"), some (Str.ofString "Hans"), some (Str.ofString "")]
def variants : List (Option Str) := [none, some (Str.ofString "POSIX"), some (Str.ofString "1901"), some (Str.ofString "")]
def modifiers : List (Option Str) := [none, some (Str.ofString "euro"), some (Str.ofString "x@y"), some (Str.ofString "")]
theorem fmod_lo (x : Int) (n : Int) (h : 0 < n) : 0 ≤ x.fmod n := Int.fmod_nonneg_of_pos x h
theorem fmod_hi (x : Int) (n : Int) (h : 0 < n) : x.fmod n < n := Int.fmod_lt_of_pos x h
local macro_rules | `(tactic| walk_at "subscriptTail Tuple") => `(tactic| (k_here; (with_reducible show wpAny _ _ (subscriptTail (PySem.Expr.Tuple _ _ _) _ (Value.ref _) (Value.int _ _)) _ _ _); k_dflt (first | (refine' menu_str (os := langs) ?N ?m ?v ?a ?b ?l ?s ?_; (case N => k_asm); (case m => k_mem); (case v => exact ⟨⟨_, rfl⟩, ⟨_, rfl⟩, ⟨_, rfl⟩, ⟨_, rfl⟩, trivial⟩); (case a => exact fmod_lo _ _ (by decide)); (case b => exact fmod_hi _ _ (by decide)); (case l => exact Nat.le_of_ble_eq_true rfl); (case s => with_unfolding_all rfl)) | (refine' menu_pv (os := terrs) ?N ?m ?v ?a ?b ?l ?s ?_; (case N => k_asm); (case m => k_mem); (case v => exact ⟨⟨0, (pv_none _).symm⟩, ⟨_, (pv_some _ _).symm⟩, ⟨_, (pv_some _ _).symm⟩, ⟨_, (pv_some _ _).symm⟩, ⟨_, (pv_some _ _).symm⟩, trivial⟩); (case a => exact fmod_lo _ _ (by decide)); (case b => exact fmod_hi _ _ (by decide)); (case l => exact Nat.le_of_ble_eq_true rfl); (case s => with_unfolding_all rfl)) | (refine' menu_pv (os := scripts) ?N ?m ?v ?a ?b ?l ?s ?_; (case N => k_asm); (case m => k_mem); (case v => exact ⟨⟨0, (pv_none _).symm⟩, ⟨_, (pv_some _ _).symm⟩, ⟨_, (pv_some _ _).symm⟩, ⟨_, (pv_some _ _).symm⟩, trivial⟩); (case a => exact fmod_lo _ _ (by decide)); (case b => exact fmod_hi _ _ (by decide)); (case l => exact Nat.le_of_ble_eq_true rfl); (case s => with_unfolding_all rfl)) | (refine' menu_pv (os := variants) ?N ?m ?v ?a ?b ?l ?s ?_; (case N => k_asm); (case m => k_mem); (case v => exact ⟨⟨0, (pv_none _).symm⟩, ⟨_, (pv_some _ _).symm⟩, ⟨_, (pv_some _ _).symm⟩, ⟨_, (pv_some _ _).symm⟩, trivial⟩); (case a => exact fmod_lo _ _ (by decide)); (case b => exact fmod_hi _ _ (by decide)); (case l => exact Nat.le_of_ble_eq_true rfl); (case s => with_unfolding_all rfl)) | (refine' menu_pv (os := modifiers) ?N ?m ?v ?a ?b ?l ?s ?_; (case N => k_asm); (case m => k_mem); (case v => exact ⟨⟨0, (pv_none _).symm⟩, ⟨_, (pv_some _ _).symm⟩, ⟨_, (pv_some _ _).symm⟩, ⟨_, (pv_some _ _).symm⟩, trivial⟩); (case a => exact fmod_lo _ _ (by decide)); (case b => exact fmod_hi _ _ (by decide)); (case l => exact Nat.le_of_ble_eq_true rfl); (case s => with_unfolding_all rfl)) ); intro o' t' hin'))
section
variable {w : World} {dp un : Nat} {gd : Option (List Code)} {cn : Str} {cs : Scope} {a : Addr} {ccd : Value} {cl : List (Str × Addr)} {outer : List Env} {A₀ : Around} {base h₀ : Heap} {L : Addr} {m mg mb : Str → Option Value} {mean : ExcName → Option Value} {s : Shared} {Q E : Value → Shared → Prop} {news : List (Addr × Obj)}
theorem parts {x : Int} {tk : Tok} (hx : 0 ≤ x) (B : Below A₀ base outer h₀) (F : Fr h₀ L s.heap m) (X : (Mine.hd.heap_39 w.params).In h₀) (N : News h₀ L s.heap (news)) (T : Top Mine.hd.view_39 (looseW Mine.hd.view_39 [Str.ofString "Locale", Str.ofString "parse_locale", Str.ofString "get_locale_identifier"]) mean mg mb h₀) (hk : cs.kind = .function) (hd : dp + 4 < recursionLimit) (hu : un + 60 < cLine)
   (hret : ∀ (D : Addr) (n : Nat) (l : Str) (o1 o2 o3 o4 : Option Str) (t0 t1 t2 t3 t4 : Tok) (h' : Heap) (tk' : Nat), l ∈ langs → o1 ∈ terrs → o2 ∈ scripts → o3 ∈ variants → o4 ∈ modifiers →
      Fr h₀ L h' m → News h₀ L h' ((D, tupO [.str l t0, pv o1 t1, pv o2 t2, pv o3 t3, pv o4 t4] n) :: news) → AllLt D news → Q (.ref D) { s with heap := h', toks := tk' }) :
   wpAny (model PySem.Challenge.rw_bd5005_01.row.prog w) (ktrTop dp un gd cn cs L a ccd cl outer) (call (.ref 203) [.int x tk]) Q E s := by
  (refine wpAny_call ?_; k_dflt ktr_enter; k_steps)
  exact hret _ _ _ _ _ _ _ _ _ _ _ _ _ _ (by assumption) (by assumption) (by assumption) (by assumption) (by assumption) (by k_asm) (undup1 (undup1 (undup1 (undup1 (undup1 (by k_asm)))))) (by have h := ‹_ < _ ∧ _ < _ ∧ _ < _ ∧ _ < _ ∧ _ < _ ∧ AllLt _ _›; exact h.2.2.2.2.2)
end

theorem off05 : True := by
  w_top off
  trivial
def keyOk (k : Str) : Prop := k ∈ [Str.ofString "language", Str.ofString "territory", Str.ofString "script", Str.ofString "variant", Str.ofString "modifier"]
theorem keyOk.len {k : Str} (h : keyOk k) : k.length ≤ 1000 := by
  simp only [keyOk, List.mem_cons, List.not_mem_nil, or_false] at h
  rcases h with rfl | rfl | rfl | rfl | rfl <;> decide +kernel
theorem keyOk.cut {k : Str} (h : keyOk k) : (Txt.slice k none (some 2) == Str.ofString "__") = false := by
  simp only [keyOk, List.mem_cons, List.not_mem_nil, or_false] at h
  rcases h with rfl | rfl | rfl | rfl | rfl <;> decide +kernel
section
variable {w : World} {dp un : Nat} {gd : Option (List Code)} {cn : Str} {cs : Scope} {a : Addr} {ccd : Value} {cl : List (Str × Addr)} {outer : List Env} {A₀ : Around} {base h₀ : Heap} {L : Addr} {m mg mb : Str → Option Value} {mean : ExcName → Option Value} {s : Shared} {Q E : Value → Shared → Prop} {news : List (Addr × Obj)}
theorem pename {k : Str} {tk : Tok} (hk2 : keyOk k) (B : Below A₀ base outer h₀) (F : Fr h₀ L s.heap m) (X : (Mine.hd.heap_39 w.params).In h₀) (N : News h₀ L s.heap (news)) (T : Top Mine.hd.view_39 (looseW Mine.hd.view_39 [Str.ofString "Locale", Str.ofString "parse_locale", Str.ofString "get_locale_identifier"]) mean mg mb h₀) (hk : cs.kind = .function) (hd : dp + 4 < recursionLimit) (hu : un + 60 < cLine)
   (hret : ∀ (t' : Tok) (h' : Heap) (tk' : Nat), Fr h₀ L h' m → News h₀ L h' news → Q (.str k t') { s with heap := h', toks := tk' }) :
   wpAny (model PySem.Challenge.rw_bd5005_01.row.prog w) (ktrTop dp un gd cn cs L a ccd cl outer) (call (.ref 28) [.str k tk]) Q E s := by
  have hlen := hk2.len
  have hcut := hk2.cut
  (refine wpAny_call ?_; k_dflt ktr_enter; k_steps)
  all_goals first
    | exact hret _ _ _ (by k_asm) (by k_asm)
    | (exfalso; simp_all; done)
end

theorem off06 : True := by
  w_top off
  trivial
/-- every object stands as it stood -/
def Kp (h h' : Heap) : Prop := ∀ b o, h.get? b = some o → h'.get? b = some o
section
variable {prog : Program} {w : World} {A A₀ : Around} {s : Shared} {K : Frag} {L x C dx : Addr} {base h₀ h h' g : Heap} {m mg mb : Str → Option Value} {news : List (Addr × Obj)} {p : Program} {loose : List Str} {mean : ExcName → Option Value}
theorem fr_kp (F : Fr h₀ L h m) (k : Kp h h') : Fr h₀ L h' m := ⟨F.ns.keeps k, fun b o e => k b o (F.keep b o e), F.above⟩
theorem news_kp (N : News h₀ L h news) (k : Kp h h') : News h₀ L h' news := fun p hp => ⟨k _ _ (N p hp).1, (N p hp).2.1, (N p hp).2.2⟩
theorem kp_fr (F : Fr h L h' m) : Kp h h' := F.keep
theorem nil_of (_F : Fr h₀ L h m) : News h₀ L h [] := News.nil
theorem InstAt.of_base {od : Obj} {sl : Array (Option Value)} (F : Fr g L h m) (h1 : g.get? x = some ⟨.ref C, some dx, .plain, sl⟩) (h2 : g.get? dx = some od) :
    InstAt h x ⟨.ref C, some dx, .plain, sl⟩ C (some od) := ⟨F.keep _ _ h1, rfl, rfl, F.keep _ _ h2⟩
theorem code_def0 {env : Env} {outer : List Env} {R : Result → Shared → Prop} {name qual : Str} {params : Arguments} {body : List Stmt} {scope : Scope} {dV kV doc pm cdv ct oc : Value} {an od : Option Addr} {osl : Array (Option Value)} {f : Addr} {args : Args} {binds : List (Str × Value)}
    (B : Below A₀ base outer h₀) (F : Fr h₀ L s.heap m) (X₀ : K.In h₀) (T : Top p loose mean mg mb h₀) (hA : A.frames = some (env :: outer)) (hf : env.frame = some L) (hke : env.scope.kind = .function)
    (ho : K.lookup f = some ⟨oc, od, .func (fnOf name qual params body scope dV kV doc pm an cdv ct), osl⟩) (hcd : codeIn K cdv qual = true) (hroom : A.depth < recursionLimit)
    (hbind : BindsTo s (fnOf name qual params body scope dV kV doc pm an cdv ct) args binds) (hloc : ∀ y ∈ binds, scope.names.lookup y.1 = some .local)
    (h : ∀ L' h₁, Fr s.heap L' h₁ (fun y => binds.reverse.lookup y) → Below A base (env :: outer) s.heap → K.In s.heap → Top p loose mean mg mb s.heap →
      wpAny (model prog w) (A.deeper (envOf qual scope L' f cdv)) (execs body (envOf qual scope L' f cdv))
        (fun fl s' => R (.ok (.ret (match fl with | .ret v => v | _ => .none))) s')
        (fun e s' => wpAny (model prog w) (A.deeper (envOf qual scope L' f cdv)) (leaving (envOf qual scope L' f cdv) e) (fun _ s'' => R (.error e) s'') (fun e' s'' => R (.error e') s'') s')
        { s with heap := h₁, toks := s.toks + binds.length })
    (hco : scope.isCoroutine = false) (hgen : scope.isGenerator = false) (hk : scope.kind = .function)
    (hcell : ∀ x ∈ scope.names, x.2 ≠ .cell) : codeAny (model prog w) A (.call (.ref f) args) R s := by
  have X := X₀.keeps F.keep
  have T' := T.keeps F.keep
  have B₁ := pushX B F hf hke
  refine codeAny_call_def (fd := fnOf name qual params body scope dV kV doc pm an cdv ct) (body := body) (binds := binds) hroom (X _ _ ho) rfl T'.nolimit (codeRec_of X hcd) rfl hbind hcell hloc (fun h₁ hns hk₁ => ?_) hco hgen hk
  exact h s.heap.objs.size h₁ ⟨hns, hk₁, Nat.le_refl _⟩ ⟨hA, fun b o e => F.keep b o (B.stays b o e), B₁.frames⟩ X T'
end
local macro_rules | `(tactic| ktr_enter) => `(tactic| (refine' code_def0 ?k1 ?k2 ?k3 ?k5 ?kA ?kF ?kK ?k6 ?k7 ?k8 ?k9 ?kB ?_ ?c2 ?c3 ?c4 ?c5; (case kA => exact rfl); (case kF => exact rfl); (case kK => first | assumption | exact rfl); (case k1 => k_asm); (case k2 => k_asm); (case k3 => k_asm); (case k5 => k_asm); (case k6 => k_is); (case k7 => k_is); (case k8 => ktr_room); (case k9 => first | exact BindsTo.of_eq rfl | exact binds_K (by k_in) rfl (by k_is) rfl rfl rfl); (case c5 => decide); (case kB => exact locs rfl); (case c2 => exact rfl); (case c3 => exact rfl); (case c4 => exact rfl); k_whole; intro L' h' F' B' X' T'; have N' := nil_of F'; (try dsimp only); (try k_lift B'); (try k_fold)))
local macro_rules | `(tactic| k_inst) => `(tactic| (refine' InstAt.of_base ?F ?h1 ?h2; (case F => k_asm); (case h1 => assumption); (case h2 => assumption)))
section
variable {s : Shared} {Q : Value → Shared → Prop} {h' : Heap} {tk : Nat}
theorem ret_bool {b b' : Bool} (hret : ∀ (_ : Tok) (h' : Heap) (tk' : Nat), Kp s.heap h' → Q (.bool b) { s with heap := h', toks := tk' }) (e : b' = b) (k : Kp s.heap h') : Q (.bool b') { s with heap := h', toks := tk } := by
  subst e; exact hret 0 _ _ k
theorem ret_str {x y : Str} {u : Tok} (hret : ∀ (t : Tok) (h' : Heap) (tk' : Nat), Kp s.heap h' → Q (.str x t) { s with heap := h', toks := tk' }) (e : y = x) (k : Kp s.heap h') : Q (.str y u) { s with heap := h', toks := tk } := by
  subst e; exact hret _ _ _ k
end
theorem gen_toks {α : Type} {M : Model} {A : Around} {t : Sem α} {Q : α → Shared → Prop} {E : Value → Shared → Prop} {h : Heap} {g : Array GenState} {d : Drawn} {os : OsState} {x y : Nat}
    (k : ∀ tk, wpAny M A t Q E ⟨h, g, d, tk, os⟩) : wpAny M A t Q E ⟨h, g, d, x + y, os⟩ := k _
local macro_rules | `(tactic| walk_at "execs cons") => `(tactic| (k_here; with_reducible refine gen_toks ?_; intro tk'))
local macro_rules | `(tactic| walk_at "execs nil") => `(tactic| (k_here; with_reducible refine gen_toks ?_; intro tk'))

theorem off07 : True := by
  w_top off
  trivial
theorem kind_hasattr : builtinKind "hasattr" = none := by decide +kernel
theorem plain_hasattr : plainId "hasattr" = true := by decide +kernel
theorem entry_hasattr : entryFor table "hasattr" = some Builtin.«hasattr» := entryFor_of_tree (by kernel_rfl)
theorem args_hasattr (a b : Value) : argsOk "hasattr" ⟨[a, b], []⟩ := by unfold argsOk; kernel_rfl
section
variable {prog : Program} {w : World} {A : Around} {E : Value → Shared → Prop} {s : Shared} {K : Frag} {x C dx L : Addr} {ox od : Obj} {name : Str} {h₀ : Heap} {m : Str → Option Value} {es : List DictEntry} {n : Nat} {Q : Value → Shared → Prop} {t : Tok}
theorem hasattr_miss_str {y : Str} {u : Tok} (hmiss : typeLookup (.type "str") name = pure none) (hA : A.handled = none) (hsz : name.length + 100 ≤ sizeLine) (h : ∀ h' tk, Kp s.heap h' → Q (.bool false) { s with heap := h', toks := tk }) :
    wpAny (model prog w) A (call (.builtin "hasattr") [.str y u, .str name t]) Q E s := by
  refine Calls.call_function_entry kind_hasattr plain_hasattr entry_hasattr (args_hasattr _ _) ?_
  obtain ⟨hp, g, d, tk, os⟩ := s
  have hT : ∀ s' : Shared, s'.TypeIs (.str y u) "str" := fun _ => rfl
  have hA' : A.in1.handled = none := hA
  have f1 := sub_AttributeError
  have f3 := F.slot_str_getattribute.lookup
  have f4 := F.slot_str_getattribute.bind (.str y u)
  have f5 := am_str_getattr_none
  unfold Builtin.«hasattr»
  refine wpAny_bind (wpAny_of_eq (a := [.str y u, .str name t]) (by first | rfl | kernel_rfl) ?_)
  dsimp only
  refine wpAny_bind (wpAny_of_eq (a := ()) (by first | rfl | kernel_rfl) ?_)
  repeat (any_goals (first | assumption | ((with_reducible show wpAny _ _ (call (Value.builtin "object.__getattribute__") _ _) _ _ _); refine call_meets F.slot_str_getattribute (hT _) F.entry_object_getattribute (F.args_object_getattribute_2 _ _) (meets_getattribute_miss_str y u name _ hmiss hsz) ⟨hA, fun h' tk' e hx => ?_⟩) | wp_step))
  obtain ⟨t', u', he⟩ := hx.there
  show wpAny _ _ (getattributeRaised _ _ _ _ _ _ _) _ _ _
  unfold getattributeRaised
  repeat (any_goals (first | assumption | wp_step))
  all_goals exact ⟨_, rfl, h _ _ hx.keeps⟩
theorem hasattr_miss_none (hmiss : typeLookup (.type "NoneType") name = pure none) (hA : A.handled = none) (hsz : name.length + 100 ≤ sizeLine) (h : ∀ h' tk, Kp s.heap h' → Q (.bool false) { s with heap := h', toks := tk }) :
    wpAny (model prog w) A (call (.builtin "hasattr") [.none, .str name t]) Q E s := by
  refine Calls.call_function_entry kind_hasattr plain_hasattr entry_hasattr (args_hasattr _ _) ?_
  obtain ⟨hp, g, d, tk, os⟩ := s
  have hT : ∀ s' : Shared, s'.TypeIs (.none) "NoneType" := fun _ => rfl
  have hA' : A.in1.handled = none := hA
  have f1 := sub_AttributeError
  have f3 := F.slot_NoneType_getattribute.lookup
  have f4 := F.slot_NoneType_getattribute.bind (.none)
  have f5 := am_none_getattr_none
  unfold Builtin.«hasattr»
  refine wpAny_bind (wpAny_of_eq (a := [.none, .str name t]) (by first | rfl | kernel_rfl) ?_)
  dsimp only
  refine wpAny_bind (wpAny_of_eq (a := ()) (by first | rfl | kernel_rfl) ?_)
  repeat (any_goals (first | assumption | ((with_reducible show wpAny _ _ (call (Value.builtin "object.__getattribute__") _ _) _ _ _); refine call_meets F.slot_NoneType_getattribute (hT _) F.entry_object_getattribute (F.args_object_getattribute_2 _ _) (meets_getattribute_miss_none name _ hmiss hsz) ⟨hA, fun h' tk' e hx => ?_⟩) | wp_step))
  obtain ⟨t', u', he⟩ := hx.there
  show wpAny _ _ (getattributeRaised _ _ _ _ _ _ _) _ _ _
  unfold getattributeRaised
  repeat (any_goals (first | assumption | wp_step))
  all_goals exact ⟨_, rfl, h _ _ hx.keeps⟩
end

theorem off08 : True := by
  w_top off
  trivial
section
variable {prog : Program} {w : World} {A : Around} {E : Value → Shared → Prop} {s : Shared} {K : Frag} {x C dx L : Addr} {ox od : Obj} {name : Str} {h₀ : Heap} {m : Str → Option Value} {es : List DictEntry} {n : Nat} {Q : Value → Shared → Prop} {t : Tok}
theorem handed_pv {o : Option Str} {u : Tok} : handedIn (pv o u) = true := by
  cases o with
  | none => rw [pv_none]; rfl
  | some y => rw [pv_some]; rfl
theorem handed_str {y : Str} {u : Tok} : handedIn (.str y u) = true := rfl
/-- an object's lookup through the everyday hook gives what stands there, and leaves the state as it was -/
theorem hook_told {r : Value} (X : K.In s.heap) (I : InstAt s.heap x ox C (some od)) (told : findObj K C (some od) name = some (.value r)) :
    codeAny (model prog w) A (.builtin "proto.getattr_hooked" ⟨[.ref x, .str name t], []⟩) (fun fin z => fin = .ok (.ret r) ∧ z = s) s := by
  refine codeAny_builtin F.plainObj_entry_getattr_hooked ?_
  unfold Builtin.«proto.getattr_hooked»
  refine wpAny_bind (wpAny_pure ?_)
  refine wpAny_bind (Looks.here (I.type) ?_)
  refine wpAny_bind (Looks.here (looks_find X I told) ?_)
  exact wpAny_pure ⟨rfl, rfl⟩
/-- a value that stands on a plain object of a class, asked for by name, whether the error would be filled in or not -/
theorem by_told {fill expr : Bool} {r : Value} (X : K.In s.heap) (I : InstAt s.heap x ox C (some od)) (plain : findIn K (.ref C) "__getattribute__" = some (some (.builtin "object.__getattribute__")))
    (told : findObj K C (some od) name = some (.value r)) (out : handedIn r = true) (hQ : Q r s) : wpAny (model prog w) A (getAttrBy (.ref x) (.str name t) fill expr) Q E s := by
  have road : wpAny (model prog w) A (getAttrEveryday (.ref x) (.str name t) fill) Q E s := by
    unfold getAttrEveryday
    refine wpAny_bind (wpAny_onRaise (wpAny_runValue (codeAny_mono (hook_told X I told) ?_)))
    rintro _ _ ⟨rfl, rfl⟩
    show wpAny _ _ (handedOut r) _ _ _
    rw [handedOut_of out]
    exact wpAny_pure hQ
  unfold getAttrBy
  refine wpAny_holding (wpAny_bind (Looks.here I.type (wpAny_bind (Looks.here (looks_findIn X plain) ?_))))
  exact road
theorem hasattr_inst {v : Value} {attr : Option Value} (F : Fr h₀ L s.heap m) (X₀ : K.In h₀) (I : InstAt s.heap x ox C (some (dictOf es n))) (hg : plainGet K C name = true) (hh : hasDictIn K C = true)
    (ha : findIn K (.ref C) name = some attr) (hn : noGet K attr = true) (hl : getL name es = some (some v)) (hv : handedIn v = true) (hm : subIn K (.ref C) (.type "module") = some false) (h : Q (.bool true) s) :
    wpAny (model prog w) A (call (.builtin "hasattr") [.ref x, .str name t]) Q E s := by
  have X := X₀.keeps F.keep
  refine Calls.call_function_entry kind_hasattr plain_hasattr entry_hasattr (args_hasattr _ _) ?_
  have L0 := I.type (M := model prog w)
  have L1 := looks_subIn (M := model prog w) X hm
  unfold Builtin.«hasattr»
  refine wpAny_bind (wpAny_of_eq (a := [.ref x, .str name t]) (by first | rfl | kernel_rfl) ?_)
  dsimp only
  refine wpAny_bind (wpAny_of_eq (a := ()) (by first | rfl | kernel_rfl) ?_)
  rw [if_neg (by intro e; cases e)]
  refine wpAny_bind (L0.here ?_)
  dsimp only
  refine wpAny_bind ?_
  refine wpAny_bind (wpAny_of_eq (a := some name) (by first | rfl | kernel_rfl) ?_)
  have L2 : Looks (model prog w) s.heap (isInstance (.ref x) (.type "module")) false := L0.andThen L1
  dsimp only
  refine wpAny_bind (L2.here ?_)
  simp only [Bool.not_false, if_true]
  refine wpAny_pure ?_
  rw [if_neg (by decide)]
  refine wpAny_bind ?_
  unfold getAttrBy?
  refine wpAny_bind (wpAny_attempt ?_)
  refine by_told X I (plainGet_of hg).1 (findObj_own hh ha hn (by show lookIn name (dictOf es n) = _; rw [lookIn_dict, hl])) hv ?_
  exact wpAny_pure (wpAny_pure ⟨_, rfl, h⟩)
end
local macro_rules | `(tactic| walk_at "call builtin:hasattr") => `(tactic| (k_here; (with_reducible show wpAny _ _ (call (Value.builtin _) [Value.ref _, Value.str _ _]) _ _ _); k_dflt (refine' hasattr_inst ?k1 ?k2 ?k3 ?k4 ?k5 ?k6 ?k7 ?k8 ?k9 ?k10 ?_; (case k1 => k_asm); (case k2 => k_asm); (case k3 => k_inst); (case k4 => k_is); (case k5 => k_is); (case k6 => k_is); (case k7 => k_is); (case k8 => k_get); (case k9 => k_handed); (case k10 => k_is); k_whole)))
local macro_rules | `(tactic| k_handed) => `(tactic| first | exact handed_pv | exact handed_str)

theorem off09 : True := by
  w_top off
  trivial
local macro_rules | `(tactic| walk_at "call ref") => `(tactic| (k_here; (with_reducible show wpAny _ _ (call (Value.ref 28) _) _ _ _); k_dflt (refine' pename ?kp ?k1 ?k2 ?k3 ?k4 ?k5 ?kK ?kd ?ku  ?_; (case kp => first | (simp only [keyOk, List.mem_cons, List.not_mem_nil, or_false, true_or, or_true]; done)); (case k1 => k_asm); (case k2 => k_asm); (case k3 => k_asm); (case k4 => k_asm); (case k5 => k_asm); (case kK => first | assumption | exact rfl); (case kd => ktr_room); (case ku => ktr_units);  k_whole); intro t' h' tk' F' N'; (try dsimp only); (try k_sweep); (try k_fold)))
section
variable {w : World} {dp un : Nat} {gd : Option (List Code)} {cn : Str} {cs : Scope} {a : Addr} {ccd : Value} {cl : List (Str × Addr)} {outer : List Env} {A₀ : Around} {base h₀ : Heap} {L : Addr} {m mg mb : Str → Option Value} {mean : ExcName → Option Value} {s : Shared} {Q E : Value → Shared → Prop} {news : List (Addr × Obj)}
theorem eqL {x dx y dy : Addr} {t0 t1 t2 t3 t4 t5 u0 u1 u2 u3 u4 u5 tl ul tx1 tx2 tx3 tx4 ty1 ty2 ty3 ty4 : Tok} {l l' : Str} {o1 o2 o3 o4 p1 p2 p3 p4 : Option Str} {vd vd' : Value}
   (B : Below A₀ base outer h₀) (F : Fr h₀ L s.heap m) (X : (Mine.hd.heap_39 w.params).In h₀) (T : Top Mine.hd.view_39 (looseW Mine.hd.view_39 [Str.ofString "Locale", Str.ofString "parse_locale", Str.ofString "get_locale_identifier"]) mean mg mb h₀) (hk : cs.kind = .function) (hd : dp + 8 < recursionLimit) (hu : un + 100 < cLine)
   (hx : s.heap.get? x = some (instObj 177 dx)) (hdx : s.heap.get? dx = some (dictOf (locD w.params t0 t1 t2 t3 t4 t5 (.str l tl) (pv o1 tx1) (pv o2 tx2) (pv o3 tx3) (pv o4 tx4) vd) 6))
   (hy : s.heap.get? y = some (instObj 177 dy)) (hdy : s.heap.get? dy = some (dictOf (locD w.params u0 u1 u2 u3 u4 u5 (.str l' ul) (pv p1 ty1) (pv p2 ty2) (pv p3 ty3) (pv p4 ty4) vd') 6))
   (hret : ∀ (t' : Tok) (h' : Heap) (tk' : Nat), Kp s.heap h' → Q (.bool (decide (l = l' ∧ o1 = p1 ∧ o2 = p2 ∧ o3 = p3 ∧ o4 = p4))) { s with heap := h', toks := tk' }) :
   wpAny (model PySem.Challenge.rw_bd5005_01.row.prog w) (ktrTop dp un gd cn cs L a ccd cl outer) (call (.ref 81) [.ref x, .ref y]) Q E s := by
  (refine wpAny_call ?_; k_dflt ktr_enter; k_steps)
  all_goals refine ret_bool hret ?_ (kp_fr (by k_asm))
  all_goals (simp_all; done)
end

theorem off10 : True := by
  w_top off
  trivial
theorem lang_miss_str : typeLookup (.type "str") (Str.ofString "language") = pure none := am_miss_of_fast (by decide +kernel)
theorem lang_miss_none : typeLookup (.type "NoneType") (Str.ofString "language") = pure none := am_miss_of_fast (by decide +kernel)
local macro_rules | `(tactic| walk_at "call builtin:hasattr") => `(tactic| (k_here; (with_reducible show wpAny _ _ (call (Value.builtin _) [Value.str _ _, Value.str _ _]) _ _ _); k_dflt (refine' hasattr_miss_str ?k1 ?k2 ?k3 ?_; (case k1 => exact lang_miss_str); (case k2 => exact rfl); (case k3 => decide +kernel)); intro h' tk' kp'; have F' := fr_kp (by k_asm) kp'; have N' := news_kp (by k_asm) kp'; (try dsimp only); (try k_sweep); (try k_fold)))
local macro_rules | `(tactic| walk_at "call builtin:hasattr") => `(tactic| (k_here; (with_reducible show wpAny _ _ (call (Value.builtin _) [Value.none, Value.str _ _]) _ _ _); k_dflt (refine' hasattr_miss_none ?k1 ?k2 ?k3 ?_; (case k1 => exact lang_miss_none); (case k2 => exact rfl); (case k3 => decide +kernel)); intro h' tk' kp'; have F' := fr_kp (by k_asm) kp'; have N' := news_kp (by k_asm) kp'; (try dsimp only); (try k_sweep); (try k_fold)))
section
variable {w : World} {dp un : Nat} {gd : Option (List Code)} {cn : Str} {cs : Scope} {a : Addr} {ccd : Value} {cl : List (Str × Addr)} {outer : List Env} {A₀ : Around} {base h₀ : Heap} {L : Addr} {m mg mb : Str → Option Value} {mean : ExcName → Option Value} {s : Shared} {Q E : Value → Shared → Prop} {news : List (Addr × Obj)}
theorem eqS {x : Addr} {y : Str} {u : Tok} (B : Below A₀ base outer h₀) (F : Fr h₀ L s.heap m) (X : (Mine.hd.heap_39 w.params).In h₀) (T : Top Mine.hd.view_39 (looseW Mine.hd.view_39 [Str.ofString "Locale", Str.ofString "parse_locale", Str.ofString "get_locale_identifier"]) mean mg mb h₀) (hk : cs.kind = .function) (hd : dp + 8 < recursionLimit) (hu : un + 100 < cLine) (hret : ∀ (t' : Tok) (h' : Heap) (tk' : Nat), Kp s.heap h' → Q (.bool false) { s with heap := h', toks := tk' }) :
   wpAny (model PySem.Challenge.rw_bd5005_01.row.prog w) (ktrTop dp un gd cn cs L a ccd cl outer) (call (.ref 81) [.ref x, .str y u]) Q E s := by
  (refine wpAny_call ?_; k_dflt ktr_enter; k_steps)
  all_goals exact ret_bool hret rfl (kp_fr (by k_asm))
theorem eqN {x : Addr} (B : Below A₀ base outer h₀) (F : Fr h₀ L s.heap m) (X : (Mine.hd.heap_39 w.params).In h₀) (T : Top Mine.hd.view_39 (looseW Mine.hd.view_39 [Str.ofString "Locale", Str.ofString "parse_locale", Str.ofString "get_locale_identifier"]) mean mg mb h₀) (hk : cs.kind = .function) (hd : dp + 8 < recursionLimit) (hu : un + 100 < cLine) (hret : ∀ (t' : Tok) (h' : Heap) (tk' : Nat), Kp s.heap h' → Q (.bool false) { s with heap := h', toks := tk' }) :
   wpAny (model PySem.Challenge.rw_bd5005_01.row.prog w) (ktrTop dp un gd cn cs L a ccd cl outer) (call (.ref 81) [.ref x, .none]) Q E s := by
  (refine wpAny_call ?_; k_dflt ktr_enter; k_steps)
  all_goals exact ret_bool hret rfl (kp_fr (by k_asm))
end

theorem off11 : True := by
  w_top off
  trivial
local macro_rules | `(tactic| walk_at "call ref") => `(tactic| (k_here; (with_reducible show wpAny _ _ (call (Value.ref 81) [Value.ref _, Value.ref _]) _ _ _); k_dflt (refine' eqL ?k1 ?k2 ?k3 ?k5 ?kK ?kd ?ku ?z1 ?z2 ?z3 ?z4 ?_; (case k1 => k_asm); (case k2 => k_asm); (case k3 => k_asm); (case k5 => k_asm); (case kK => first | assumption | exact rfl); (case kd => ktr_room); (case ku => ktr_units); (case z1 => exact Fr.keep (by k_asm) _ _ (by assumption)); (case z2 => exact Fr.keep (by k_asm) _ _ (by assumption)); (case z3 => exact Fr.keep (by k_asm) _ _ (by assumption)); (case z4 => exact Fr.keep (by k_asm) _ _ (by assumption)); k_whole); intro t' h' tk' kp'; have F' := fr_kp (by k_asm) kp'; have N' := news_kp (by k_asm) kp'; clear kp'; (try dsimp only); (try k_sweep); (try k_fold)))
local macro_rules | `(tactic| walk_at "call ref") => `(tactic| (k_here; (with_reducible show wpAny _ _ (call (Value.ref 81) [Value.ref _, Value.str _ _]) _ _ _); k_dflt (refine' eqS ?k1 ?k2 ?k3 ?k5 ?kK ?kd ?ku  ?_; (case k1 => k_asm); (case k2 => k_asm); (case k3 => k_asm); (case k5 => k_asm); (case kK => first | assumption | exact rfl); (case kd => ktr_room); (case ku => ktr_units);  k_whole); intro t' h' tk' kp'; have F' := fr_kp (by k_asm) kp'; have N' := news_kp (by k_asm) kp'; clear kp'; (try dsimp only); (try k_sweep); (try k_fold)))
local macro_rules | `(tactic| walk_at "call ref") => `(tactic| (k_here; (with_reducible show wpAny _ _ (call (Value.ref 81) [Value.ref _, Value.none]) _ _ _); k_dflt (refine' eqN ?k1 ?k2 ?k3 ?k5 ?kK ?kd ?ku  ?_; (case k1 => k_asm); (case k2 => k_asm); (case k3 => k_asm); (case k5 => k_asm); (case kK => first | assumption | exact rfl); (case kd => ktr_room); (case ku => ktr_units);  k_whole); intro t' h' tk' kp'; have F' := fr_kp (by k_asm) kp'; have N' := news_kp (by k_asm) kp'; clear kp'; (try dsimp only); (try k_sweep); (try k_fold)))
section
variable {w : World} {dp un : Nat} {gd : Option (List Code)} {cn : Str} {cs : Scope} {a : Addr} {ccd : Value} {cl : List (Str × Addr)} {outer : List Env} {A₀ : Around} {base h₀ : Heap} {L : Addr} {m mg mb : Str → Option Value} {mean : ExcName → Option Value} {s : Shared} {Q E : Value → Shared → Prop} {news : List (Addr × Obj)}
theorem neL {x dx y dy : Addr} {t0 t1 t2 t3 t4 t5 u0 u1 u2 u3 u4 u5 tl ul tx1 tx2 tx3 tx4 ty1 ty2 ty3 ty4 : Tok} {l l' : Str} {o1 o2 o3 o4 p1 p2 p3 p4 : Option Str} {vd vd' : Value}
   (B : Below A₀ base outer h₀) (F : Fr h₀ L s.heap m) (X : (Mine.hd.heap_39 w.params).In h₀) (T : Top Mine.hd.view_39 (looseW Mine.hd.view_39 [Str.ofString "Locale", Str.ofString "parse_locale", Str.ofString "get_locale_identifier"]) mean mg mb h₀) (hk : cs.kind = .function) (hd : dp + 12 < recursionLimit) (hu : un + 140 < cLine)
   (hx : s.heap.get? x = some (instObj 177 dx)) (hdx : s.heap.get? dx = some (dictOf (locD w.params t0 t1 t2 t3 t4 t5 (.str l tl) (pv o1 tx1) (pv o2 tx2) (pv o3 tx3) (pv o4 tx4) vd) 6))
   (hy : s.heap.get? y = some (instObj 177 dy)) (hdy : s.heap.get? dy = some (dictOf (locD w.params u0 u1 u2 u3 u4 u5 (.str l' ul) (pv p1 ty1) (pv p2 ty2) (pv p3 ty3) (pv p4 ty4) vd') 6))
   (hret : ∀ (t' : Tok) (h' : Heap) (tk' : Nat), Kp s.heap h' → Q (.bool (!decide (l = l' ∧ o1 = p1 ∧ o2 = p2 ∧ o3 = p3 ∧ o4 = p4))) { s with heap := h', toks := tk' }) :
   wpAny (model PySem.Challenge.rw_bd5005_01.row.prog w) (ktrTop dp un gd cn cs L a ccd cl outer) (call (.ref 88) [.ref x, .ref y]) Q E s := by
  (refine wpAny_call ?_; k_dflt ktr_enter; k_steps)
  all_goals exact ret_bool hret rfl (kp_fr (by k_asm))
theorem neS {x dx : Addr} {y : Str} {u : Tok} {t0 t1 t2 t3 t4 t5 : Tok} {v0 v1 v2 v3 v4 vd : Value} (B : Below A₀ base outer h₀) (F : Fr h₀ L s.heap m) (X : (Mine.hd.heap_39 w.params).In h₀) (T : Top Mine.hd.view_39 (looseW Mine.hd.view_39 [Str.ofString "Locale", Str.ofString "parse_locale", Str.ofString "get_locale_identifier"]) mean mg mb h₀) (hk : cs.kind = .function) (hd : dp + 12 < recursionLimit) (hu : un + 140 < cLine)
   (hx : s.heap.get? x = some (instObj 177 dx)) (hdx : s.heap.get? dx = some (dictOf (locD w.params t0 t1 t2 t3 t4 t5 v0 v1 v2 v3 v4 vd) 6)) (hret : ∀ (t' : Tok) (h' : Heap) (tk' : Nat), Kp s.heap h' → Q (.bool true) { s with heap := h', toks := tk' }) :
   wpAny (model PySem.Challenge.rw_bd5005_01.row.prog w) (ktrTop dp un gd cn cs L a ccd cl outer) (call (.ref 88) [.ref x, .str y u]) Q E s := by
  (refine wpAny_call ?_; k_dflt ktr_enter; k_steps)
  all_goals exact ret_bool hret rfl (kp_fr (by k_asm))
theorem neN {x dx : Addr} {t0 t1 t2 t3 t4 t5 : Tok} {v0 v1 v2 v3 v4 vd : Value} (B : Below A₀ base outer h₀) (F : Fr h₀ L s.heap m) (X : (Mine.hd.heap_39 w.params).In h₀) (T : Top Mine.hd.view_39 (looseW Mine.hd.view_39 [Str.ofString "Locale", Str.ofString "parse_locale", Str.ofString "get_locale_identifier"]) mean mg mb h₀) (hk : cs.kind = .function) (hd : dp + 12 < recursionLimit) (hu : un + 140 < cLine)
   (hx : s.heap.get? x = some (instObj 177 dx)) (hdx : s.heap.get? dx = some (dictOf (locD w.params t0 t1 t2 t3 t4 t5 v0 v1 v2 v3 v4 vd) 6)) (hret : ∀ (t' : Tok) (h' : Heap) (tk' : Nat), Kp s.heap h' → Q (.bool true) { s with heap := h', toks := tk' }) :
   wpAny (model PySem.Challenge.rw_bd5005_01.row.prog w) (ktrTop dp un gd cn cs L a ccd cl outer) (call (.ref 88) [.ref x, .none]) Q E s := by
  (refine wpAny_call ?_; k_dflt ktr_enter; k_steps)
  all_goals exact ret_bool hret rfl (kp_fr (by k_asm))
end

theorem off12 : True := by
  w_top off
  trivial
def bodyOf (n : Nat) : List Stmt := match PySem.Challenge.pw_bd5005_01.main.body.drop n with
  | .FunctionDef _ _ b _ _ _ _ _ _ _ :: _ => b
  | _ => []
def scopeOf (n : Nat) : PySem.Scope := match PySem.Challenge.pw_bd5005_01.main.body.drop n with
  | .FunctionDef _ _ _ _ _ _ sc _ _ _ :: _ => sc
  | _ => default
theorem lookup_mem {y : Str} {v : Value} : ∀ {l : List (Str × Value)}, l.lookup y = some v → (y, v) ∈ l
  | (k, u) :: r, h => by
    rw [List.lookup_cons] at h
    cases q : y == k with
    | true => rw [q] at h; obtain rfl := Option.some.inj h; rw [beq_iff_eq.mp q]; exact .head _
    | false => rw [q] at h; exact .tail _ (lookup_mem h)
def names (kvs : List (Str × Value)) (m : Str → Option Value) (y : Str) : Option Value := match kvs.lookup y with
  | some v => some v
  | none => m y
theorem fr_kv {g h : Heap} {L : Addr} {m : Str → Option Value} (kvs : List (Str × Value)) (F : Fr g L h m) (e : ∀ p ∈ kvs, m p.1 = some p.2) : Fr g L h (names kvs m) := by
  have q : names kvs m = m := by
    funext y
    unfold names
    split
    · rename_i v hv; exact (e _ (lookup_mem hv)).symm
    · rfl
  rw [q]; exact F
/-- a part of a locale, as an item of a list -/
def pvKind : ItemKind (Option Str) := ⟨fun o v => (∀ x, o = some x → x.length ≤ 1000) ∧ ∃ t, v = pv o t, fun v => match v with | .none => some none | .str x _ => some (some x) | _ => none, fun o v h => by
  obtain ⟨_, t, rfl⟩ := h
  cases o with
  | none => rw [pv_none]
  | some x => rw [pv_some]⟩
def pvData (o : Option Str) : PyData := match o with
  | none => .none
  | some x => .str x
theorem pv_carried (o : Option Str) (t : Tok) : Carried (pv o t) (pvData o) := by
  cases o with
  | none => rw [pv_none]; exact .none
  | some x => rw [pv_some]; exact .str x t
/-- the texts of the parts that are there -/
def there (os : List (Option Str)) : List Str := os.filterMap fun o => if tr o then o else none
theorem strs_there : ∀ {os : List (Option Str)} {ys : List Value}, CarriedAll ys ((os.filter tr).map pvData) → StrsAre ys (there os)
  | [], _, h => by cases h; exact .nil
  | o :: os, ys, h => by
    cases o with
    | none =>
      exact strs_there (os := os) h
    | some x =>
      by_cases q : tr (some x) = true
      · have e1 : (some x :: os).filter tr = some x :: os.filter tr := List.filter_cons_of_pos q
        have e2 : there (some x :: os) = x :: there os := by unfold there; rw [List.filterMap_cons, if_pos q]
        rw [e1] at h; rw [e2]
        cases h with
        | cons a b => cases a; exact .cons x _ (strs_there b)
      · have e1 : (some x :: os).filter tr = os.filter tr := List.filter_cons_of_neg q
        have e2 : there (some x :: os) = there os := by unfold there; rw [List.filterMap_cons, if_neg q]
        rw [e1] at h; rw [e2]; exact strs_there h
theorem there_weight : ∀ {os : List (Option Str)}, (∀ o ∈ os, ∀ x, o = some x → x.length ≤ 1000) → ((there os).map (·.length)).sum ≤ 1000 * os.length ∧ (there os).length ≤ os.length
  | [], _ => ⟨Nat.le_refl _, Nat.le_refl _⟩
  | o :: os, h => by
    obtain ⟨a, b⟩ := there_weight (os := os) fun o ho => h o (.tail _ ho)
    cases o with
    | none =>
      have e : there (none :: os) = there os := rfl
      rw [e, List.length_cons]; omega
    | some x =>
      have hx := h _ (.head _) x rfl
      by_cases q : tr (some x) = true
      · have e2 : there (some x :: os) = x :: there os := by unfold there; rw [List.filterMap_cons, if_pos q]
        rw [e2, List.map_cons, List.sum_cons, List.length_cons, List.length_cons]; omega
      · have e2 : there (some x :: os) = there os := by unfold there; rw [List.filterMap_cons, if_neg q]
        rw [e2, List.length_cons]; omega
theorem isTrue_name {prog : Program} {w : World} {A : Around} {s : Shared} {E : Value → Shared → Prop} {env : Env} {x : Str} {p : Pos} {Q : Bool → Shared → Prop}
    (h : wpAny (model prog w) A (eval (.Name x p) env) (fun u s' => wpAny (model prog w) A (truthy u) Q E s') E s) : wpAny (model prog w) A (isTrue (.Name x p) env (eval (.Name x p) env)) Q E s := by
  show wpAny _ _ (eval (.Name x p) env >>= fun v => standAt (PySem.Expr.Name x p).pos >>= fun _ => holding [v] (truthy v)) _ _ _
  exact wpAny_bind (wpAny_mono h (fun u s' h' => wpAny_bind (wpAny_standAt (wpAny_holding h'))) fun _ _ e => e)
theorem join_len {sep : Str} {xs : List Str} {a b : Nat} (h1 : (xs.map (·.length)).sum ≤ a) (h2 : xs.length ≤ b) (h3 : sep.length ≤ 16) : (Txt.join sep xs).length ≤ a + b * 16 := by
  have e : Txt.join sep xs = Str.join sep xs := StrLaws.glued_eq_join sep xs
  rw [e]
  have q := StrLaws.join_length_le sep xs
  have r : xs.length * sep.length ≤ b * 16 := Nat.mul_le_mul h2 h3
  omega
local macro_rules | `(tactic| walk_at "formatField str") => `(tactic| (k_here; (with_reducible show wpAny _ _ (formatField (Value.str _ _) _) _ _ _); k_dflt (refine' PySem.SB.field_str ?a ?b; (case b => (rw [sizeLine_eq]; omega))); intro t' k'))
local macro_rules | `(tactic| walk_at "call builtin:str.join") => `(tactic| (k_here; (with_reducible show wpAny _ _ (call (Value.builtin _) [Value.str _ _, Value.ref _]) _ _ _); k_dflt (refine' join_listW ?a ?b ?c ?d ?_; (case a => assumption); (case b => assumption); (case c => assumption); (case d => (simp only [List.length_cons, List.length_nil] at *; omega))); intro t' k'))
/-- what get_locale_identifier makes of five parts -/
def gliF (l : Str) (o1 o2 o3 o4 : Option Str) (sep : Str) : Str := match o4 with
  | none => Txt.join sep (there [some l, o2, o1, o3])
  | some x => if x.length = 0 then Txt.join sep (there [some l, o2, o1, o3]) else Txt.join sep (there [some l, o2, o1, o3]) ++ Str.ofString "@" ++ x
theorem ret_flow {s : Shared} {g h' : Heap} {tk : Nat} {Q : Flow → Shared → Prop} {x y : Str} {u : Tok} (hret : ∀ (t : Tok) (h' : Heap) (tk' : Nat), Kp g h' → Q (.ret (.str x t)) { s with heap := h', toks := tk' }) (e : y = x) (k : Kp g h') : Q (.ret (.str y u)) { s with heap := h', toks := tk } := by
  subst e; exact hret _ _ _ k
section
variable {w : World} {A A₀ : Around} {base g : Heap} {L : Addr} {m mg mb : Str → Option Value} {mean : ExcName → Option Value} {s : Shared} {Q : Flow → Shared → Prop} {E : Value → Shared → Prop} {outer : List Env}
theorem gli_tail {l sep : Str} {o1 o2 o3 o4 : Option Str} {t0 t1 t2 t3 t4 tk : Tok} (B : Below A₀ base outer g) (F : Fr g L s.heap m) (X : (Mine.hd.heap_39 w.params).In g)
   (T : Top Mine.hd.view_39 (looseW Mine.hd.view_39 [Str.ofString "Locale", Str.ofString "parse_locale", Str.ofString "get_locale_identifier"]) mean mg mb g)
   (hA : A.handled = none) (hl : l.length ≤ 1000) (ho1 : ∀ x, o1 = some x → x.length ≤ 1000) (ho2 : ∀ x, o2 = some x → x.length ≤ 1000) (ho3 : ∀ x, o3 = some x → x.length ≤ 1000) (ho4 : ∀ x, o4 = some x → x.length ≤ 1000) (hs : sep.length ≤ 16) (m0 : m (Str.ofString "lang") = some (.str l t0)) (m1 : m (Str.ofString "territory") = some (pv o1 t1)) (m2 : m (Str.ofString "script") = some (pv o2 t2)) (m3 : m (Str.ofString "variant") = some (pv o3 t3)) (m4 : m (Str.ofString "modifier") = some (pv o4 t4)) (m5 : m (Str.ofString "sep") = some (.str sep tk))
   (hret : ∀ (t' : Tok) (h' : Heap) (tk' : Nat), Kp g h' → Q (.ret (.str (gliF l o1 o2 o3 o4 sep) t')) { s with heap := h', toks := tk' }) :
   wpAny (model PySem.Challenge.rw_bd5005_01.row.prog w) A (execs ((bodyOf 6).drop 2) (envOf (Str.ofString "get_locale_identifier") (scopeOf 6) L 195 (.ref 194))) Q E s := by
  unfold bodyOf scopeOf PySem.Challenge.pw_bd5005_01
  dsimp only [List.drop]
  replace F := fr_kv [(Str.ofString "lang", .str l t0), (Str.ofString "territory", pv o1 t1), (Str.ofString "script", pv o2 t2), (Str.ofString "variant", pv o3 t3), (Str.ofString "modifier", pv o4 t4), (Str.ofString "sep", .str sep tk)] F (by
    intro p hp
    simp only [List.mem_cons, List.not_mem_nil, or_false] at hp
    rcases hp with rfl | rfl | rfl | rfl | rfl | rfl <;> assumption)
  clear m0 m1 m2 m3 m4 m5
  have N' := nil_of F
  k_steps
  refine srcC_tupleD (K := pvKind) (as := [some l, o2, o1, o3]) (pz := tr) (d := pvData) hA (News.isTup (by k_asm) (by k_mem)) (.cons ⟨fun x e => Option.some.inj e ▸ hl, _, (pv_some _ _).symm⟩ (.cons ⟨ho2, _, rfl⟩ (.cons ⟨ho1, _, rfl⟩ (.cons ⟨ho3, _, rfl⟩ .nil)))) (by k_asm) (by k_asm) ?_ ?_ ?_ (Nat.le_of_ble_eq_true rfl)
  · intro C o v s₂ m₂ E' hv hn hm htk
    obtain ⟨hx, t, rfl⟩ := hv
    rw [List.forIn_cons]
    refine wpAny_bind (wpAny_bind ?_)
    refine isTrue_name (wpAny_Name (wpAny_loadName_local rfl rfl hn hm (truthy_pv (fun x e => Nat.le_trans (hx x e) (Nat.le_of_ble_eq_true rfl)) fun tk => wpAny_pure ?_)) (by decide))
    exact wpAny_pure ⟨rfl, _, _, rfl, fun _ _ e => e⟩
  · intro C o v s₂ m₂ E' hv hp hn hm htk
    obtain ⟨_, t, rfl⟩ := hv
    exact wpAny_Name (wpAny_loadName_local rfl rfl hn hm ⟨pv_carried _ _, _, _, rfl, fun _ _ e => e⟩) (by decide)
  · intro D ys h' tk' F N hD hl' hpl hc
    have hys := strs_there hc
    have hw := there_weight (os := [some l, o2, o1, o3]) (by
      intro o ho x e
      simp only [List.mem_cons, List.not_mem_nil, or_false] at ho
      rcases ho with rfl | rfl | rfl | rfl
      · exact Option.some.inj e ▸ hl
      · exact ho2 x e
      · exact ho1 x e
      · exact ho3 x e)
    have hw1 := hw.1
    have hw2 := hw.2
    have hj := join_len hw1 hw2 hs
    simp only [List.length_cons, List.length_nil] at hj
    clear hw
    cases o4 with
    | none =>
      simp only [pv_none] at *
      k_steps
      all_goals exact ret_flow hret rfl (kp_fr (by k_asm))
    | some x4 =>
      have hx4 := ho4 _ rfl
      simp only [pv_some] at *
      k_steps
      all_goals refine ret_flow hret ?_ (kp_fr (by k_asm))
      · simp only [gliF]
        rw [if_neg (by omega), Str.empty_append]
      · simp only [gliF]
        rw [if_pos (by omega)]
end

theorem off13 : True := by
  w_top off
  trivial
/-- what a slice with the step one picks out of a tuple, and whether it is the whole -/
def tpick (items : List Value) (lo hi : Option Int) : List Value × Bool :=
  let n : Int := items.length
  let ab := Builtin.Slice.sliceAdjust lo hi 1 n
  let k := Builtin.Slice.slicePlaces ab.1 ab.2 1
  ((List.range k).filterMap fun (i : Nat) => items[(ab.1 + (i : Int) * 1).toNat]?, ab.1 == 0 && (1 : Int) == 1 && k == items.length)
/-- a slice's first place, its number of places, whether it is the whole, whether the first place is no negative number -/
def tb (lo hi : Option Int) (c : Nat) : Nat × Nat × Bool × Bool :=
  let ab := Builtin.Slice.sliceAdjust lo hi 1 (c : Int)
  let k := Builtin.Slice.slicePlaces ab.1 ab.2 1
  (ab.1.toNat, k, ab.1 == 0 && (1 : Int) == 1 && k == c, decide (0 ≤ ab.1))
theorem tpick_of {items zs : List Value} {lo hi : Option Int} {c a k : Nat} (hl : items.length = c) (e : tb lo hi c = (a, k, false, true)) (ez : (items.drop a).take k = zs) : tpick items lo hi = (zs, false) := by
  subst hl
  have e1 := congrArg (·.1) e
  have e2 := congrArg (·.2.1) e
  have e3 := congrArg (·.2.2.1) e
  have e4 := congrArg (·.2.2.2) e
  simp only [tb, decide_eq_true_eq] at e1 e2 e3 e4
  unfold tpick
  simp only [e3]
  rw [← ez, e2]
  have q := pick_run items.toArray a k
  rw [List.filterMap_map] at q
  have f : (fun (i : Nat) => items[((Builtin.Slice.sliceAdjust lo hi 1 (items.length : Int)).1 + (i : Int) * 1).toNat]?) = ((fun x => items.toArray[x]?) ∘ fun x => a + x) := by
    funext i
    have : ((Builtin.Slice.sliceAdjust lo hi 1 (items.length : Int)).1 + (i : Int) * 1).toNat = a + i := by omega
    rw [this]
    simp only [Function.comp, List.getElem?_toArray]
  rw [f, q]
theorem twhole_of {items : List Value} {lo hi : Option Int} {c : Nat} (hl : items.length = c) (e : (tb lo hi c).2.2.1 = true) : (tpick items lo hi).2 = true := by
  subst hl
  exact e
section
variable {prog : Program} {w : World} {A : Around} {E : Value → Shared → Prop} {s : Shared} {h₀ g : Heap} {L t sl : Addr} {m : Str → Option Value} {news : List (Addr × Obj)} {vl vu : Value} {lo hi : Option Int} {items zs : List Value} {n : Nat}
theorem slicePart_is {v : Value} {k : Option Int} {Q : Option Int → Shared → Prop} (p : IsPart v k) (h : Q k s) : wpAny (model prog w) A (Builtin.Slice.slicePartIndex v) Q E s := by
  cases p with
  | none => exact slicePart_none h
  | int i t => exact slicePart_int h
theorem sliceApplied_is {N : Nat} {Q : Int × Int × Nat → Shared → Prop} (hs : s.heap.IsSliceOf sl vl vu .none) (pl : IsPart vl lo) (pu : IsPart vu hi)
    (h : Q ((Builtin.Slice.sliceAdjust lo hi 1 (N : Int)).1, 1, Builtin.Slice.slicePlaces (Builtin.Slice.sliceAdjust lo hi 1 (N : Int)).1 (Builtin.Slice.sliceAdjust lo hi 1 (N : Int)).2 1) s) :
    wpAny (model prog w) A (Builtin.Slice.sliceApplied (.ref sl) (pure (N : Int))) Q E s := by
  obtain ⟨os, hos, hcs, hds⟩ := id hs
  unfold Builtin.Slice.sliceApplied Builtin.Slice.sliceFields
  refine wpAny_bind (wpAny_bind (wpAny_field hos hds (x := vl) rfl (wpAny_bind (wpAny_field hos hds (x := vu) rfl (wpAny_bind (wpAny_field hos hds (x := .none) rfl (wpAny_pure ?_)))))))
  refine wpAny_bind (slicePart_none ?_)
  show wpAny _ _ (if ((1 : Int) == 0) = true then _ else _) _ _ s
  rw [if_neg (by decide)]
  refine wpAny_bind (slicePart_is pl (wpAny_bind (slicePart_is pu (wpAny_bind (wpAny_pure ?_)))))
  exact wpAny_pure h
theorem getItem_tup_part {Q : Value → Shared → Prop} (ht : IsTup s.heap t items.toArray) (hs : s.heap.IsSliceOf sl vl vu .none) (pl : IsPart vl lo) (pu : IsPart vu hi) (e : tpick items lo hi = (zs, false)) (hz : zs.length ≤ sizeLine)
    (h : Q (.ref s.heap.objs.size) { s with heap := s.heap.push { cls := .type "tuple", data := .seq zs.toArray } }) : wpAny (model prog w) A (getItem (.ref t) (.ref sl)) Q E s := by
  have hsz : sizeOk (.seq zs.toArray) := by
    show zs.toArray.size ≤ sizeLine
    rw [List.size_toArray]; exact hz
  obtain ⟨os, hos, hcs, hds⟩ := id hs
  have hTs : s.TypeIs (.ref sl) "slice" := ⟨os, hos, hcs⟩
  unfold getItem
  try with_reducible refine wpAny_holding ?_
  first | refine wpAny_bind (wpAny_pure ?_) | skip
  refine wpAny_bind (wpAny_sequenceKey ht.typeIs (by decide) ?_)
  refine wpAny_bind (wpAny_callSpecial?_slot (name := Str.ofString "__getitem__") ht.typeIs slot_tuple_getitem
    (wpAny_call_entry slot_tuple_getitem ht.typeIs entry_tuple_getitem ?_ (args_tuple_getitem _ _)))
  show wpAny _ _ (Builtin.Tuple.tupleItemsOf (.ref t) >>= _) _ _ s
  refine wpAny_bind (tupleItemsOf_ ht ?_)
  refine wpAny_bind (wpAny_typeOf hTs ?_)
  rw [if_pos (by decide)]
  refine wpAny_bind (sliceApplied_is hs pl pu ?_)
  have e1 := congrArg Prod.fst e
  have e2 := congrArg Prod.snd e
  simp only [tpick, List.size_toArray] at e1 e2 ⊢
  rw [if_neg (by rw [e2]; exact Bool.false_ne_true)]
  have e3 : ((List.range (Builtin.Slice.slicePlaces (Builtin.Slice.sliceAdjust lo hi 1 (items.length : Int)).1 (Builtin.Slice.sliceAdjust lo hi 1 (items.length : Int)).2 1)).filterMap fun (k : Nat) => items.toArray[((Builtin.Slice.sliceAdjust lo hi 1 (items.length : Int)).1 + (k : Int) * 1).toNat]?).toArray = zs.toArray := by
    rw [← e1]; simp only [List.getElem?_toArray]
  rw [e3]
  first
    | exact wpAny_bind (m := Builtin.Tuple.tupleExact _) (wpAny_newObj_type (wpAny_pure ⟨_, rfl, wpAny_pure h⟩) hsz)
    | exact wpAny_bind (m := Builtin.Tuple.tupleExact _) (wpAny_newObj_type (wpAny_bind (wpAny_pure (wpAny_pure ⟨_, rfl, wpAny_pure h⟩))) hsz)
    | exact wpAny_bind (wpAny_bind (m := Builtin.Tuple.tupleExact _) (wpAny_newObj_type (wpAny_pure (wpAny_pure ⟨_, rfl, wpAny_pure h⟩)) hsz))
    | exact wpAny_bind (wpAny_bind (m := Builtin.Tuple.tupleExact _) (wpAny_newObj_type (wpAny_pure ⟨_, rfl, wpAny_pure h⟩) hsz))
theorem getItem_tup_whole {Q : Value → Shared → Prop} (ht : IsTup s.heap t items.toArray) (hs : s.heap.IsSliceOf sl vl vu .none) (pl : IsPart vl lo) (pu : IsPart vu hi) (e : (tpick items lo hi).2 = true)
    (h : Q (.ref t) s) : wpAny (model prog w) A (getItem (.ref t) (.ref sl)) Q E s := by
  obtain ⟨os, hos, hcs, hds⟩ := id hs
  have hTs : s.TypeIs (.ref sl) "slice" := ⟨os, hos, hcs⟩
  unfold getItem
  try with_reducible refine wpAny_holding ?_
  first | refine wpAny_bind (wpAny_pure ?_) | skip
  refine wpAny_bind (wpAny_sequenceKey ht.typeIs (by decide) ?_)
  refine wpAny_bind (wpAny_callSpecial?_slot (name := Str.ofString "__getitem__") ht.typeIs slot_tuple_getitem
    (wpAny_call_entry slot_tuple_getitem ht.typeIs entry_tuple_getitem ?_ (args_tuple_getitem _ _)))
  show wpAny _ _ (Builtin.Tuple.tupleItemsOf (.ref t) >>= _) _ _ s
  refine wpAny_bind (tupleItemsOf_ ht ?_)
  refine wpAny_bind (wpAny_typeOf hTs ?_)
  rw [if_pos (by decide)]
  refine wpAny_bind (sliceApplied_is hs pl pu ?_)
  have e2 := e
  simp only [tpick, List.size_toArray] at e2 ⊢
  rw [if_pos e2]
  refine wpAny_bind (m := Builtin.Tuple.tupleIsExact _) ?_
  unfold Builtin.Tuple.tupleIsExact
  refine wpAny_bind (wpAny_typeOf ht.typeIs (wpAny_pure ?_))
  rw [if_pos (by decide)]
  exact wpAny_bind (wpAny_rule (wpAny_pure ⟨_, rfl, wpAny_pure h⟩))
theorem tslice_part {value slice : PySem.Expr} {Q : Value → Shared → Prop} (F : Fr h₀ L s.heap m) (N : News h₀ L s.heap news) (ht : IsTup s.heap t items.toArray) (pl : IsPart vl lo) (pu : IsPart vu hi) (e : tpick items lo hi = (zs, false)) (hz : zs.length ≤ sizeLine)
    (hs : subscripted slice false (.ref t) (.ref s.heap.objs.size) = operate [.ref s.heap.objs.size, .ref t] (getItem (.ref t) (.ref s.heap.objs.size))) (hg : ∀ r, letTemporaryGo value (.ref t) r = pure ())
    (h : ∀ D h', Fr h₀ L h' m → News h₀ L h' ((D, tupO zs 0) :: news) → (∀ p ∈ news, p.1 < D) → Q (.ref D) { s with heap := h' }) :
    wpAny (model prog w) A (subscriptTail value slice (.ref t) (.ref s.heap.objs.size)) Q E { s with heap := s.heap.push { cls := .type "slice", data := .fields #[vl, vu, .none] } } := by
  have ht' : IsTup (s.heap.push { cls := .type "slice", data := .fields #[vl, vu, .none] }) t items.toArray := ht.keeps fun _ _ e => Heap.get?_push_of_some _ e
  refine subscriptTail_ops (s := { s with heap := s.heap.push { cls := .type "slice", data := .fields #[vl, vu, .none] } }) ht'.typeIs slot_tuple_getitem.lookup
    (getItem_tup_part ht' (Heap.IsSliceOf.new ..) pl pu e hz ?_) hs hg
  have N1 := News.push (F.push { cls := .type "slice", data := .fields #[vl, vu, .none] }) (N.grown fun _ _ e => Heap.get?_push_of_some _ e) { cls := .type "tuple", data := .seq zs.toArray }
  exact h _ _ ((F.push _).push _) N1 (fun p hp => by rw [Heap.size_push]; exact Nat.lt_succ_of_lt (Heap.lt_size (N p hp).1))
theorem tslice_whole {value slice : PySem.Expr} {Q : Value → Shared → Prop} (F : Fr h₀ L s.heap m) (N : News h₀ L s.heap news) (ht : IsTup s.heap t items.toArray) (pl : IsPart vl lo) (pu : IsPart vu hi) (e : (tpick items lo hi).2 = true)
    (hs : subscripted slice false (.ref t) (.ref s.heap.objs.size) = operate [.ref s.heap.objs.size, .ref t] (getItem (.ref t) (.ref s.heap.objs.size))) (hg : ∀ r, letTemporaryGo value (.ref t) r = pure ())
    (h : ∀ h', Fr h₀ L h' m → News h₀ L h' news → Q (.ref t) { s with heap := h' }) :
    wpAny (model prog w) A (subscriptTail value slice (.ref t) (.ref s.heap.objs.size)) Q E { s with heap := s.heap.push { cls := .type "slice", data := .fields #[vl, vu, .none] } } := by
  have ht' : IsTup (s.heap.push { cls := .type "slice", data := .fields #[vl, vu, .none] }) t items.toArray := ht.keeps fun _ _ e => Heap.get?_push_of_some _ e
  exact subscriptTail_ops (s := { s with heap := s.heap.push { cls := .type "slice", data := .fields #[vl, vu, .none] } }) ht'.typeIs slot_tuple_getitem.lookup
    (getItem_tup_whole ht' (Heap.IsSliceOf.new ..) pl pu e (h _ (F.push _) (N.grown fun _ _ e => Heap.get?_push_of_some _ e))) hs hg
theorem tup_base {od : Option Addr} {slt : Array (Option Value)} {arr : Array Value} (F : Fr g L s.heap m) (h : g.get? t = some { cls := .type "tuple", dict := od, data := .seq arr n, slots := slt }) : IsTup s.heap t arr := ⟨_, F.keep _ _ h, rfl, _, rfl⟩
theorem noFill_tuple_mul : fillsNumberSlot (.type "tuple") "mul" = pure false :=
  PySem.fillsNumberSlot_seq (id := "tuple.__mul__") (r := some (.builtin "tuple.__rmul__")) PySem.F.slot_tuple_mul.lookup (by decide +kernel) PySem.F.slot_tuple_rmul.lookup (by decide +kernel)
theorem repeat_tuple : seqRepeat? (.type "tuple") = pure (some (.builtin "tuple.__mul__")) := by
  unfold seqRepeat?
  rw [PySem.seqSlot_of (T := "tuple") (name := "__mul__") (id := "tuple.__mul__") PySem.F.slot_tuple_mul.lookup (by decide +kernel), PySem.seqSlot_of (T := "tuple") (name := "__rmul__") (id := "tuple.__rmul__") PySem.F.slot_tuple_rmul.lookup (by decide +kernel)]
  rfl
theorem int_rmul_tuple (x : Int) (u : Tok) (l : Addr) (its : Array Value) (n : Nat) (d : Option Addr) (sl : Array (Option Value)) :
    Meets (Builtin.«int.__rmul__» ⟨[.int x u, .ref l], []⟩) (fun _ R s => s.heap.get? l = some { cls := .type "tuple", dict := d, data := .seq its n, slots := sl } ∧ R (.ok (.ret Value.notImplemented)) s) :=
  .of_wp fun prog w A R s h => by obtain ⟨hp, g, d, tk, os⟩ := s; obtain ⟨hl, h⟩ := h; wp_walk; exact ⟨_, rfl, h⟩
theorem tuple_mul_0 (l : Addr) (v : Value) (n : Nat) (d : Option Addr) (sl : Array (Option Value)) (u : Tok) :
    Meets (Builtin.«tuple.__mul__» ⟨[.ref l, .int 0 u], []⟩) (fun _ R s => s.heap.get? l = some { cls := .type "tuple", dict := d, data := .seq #[v] n, slots := sl } ∧ R (.ok (.ret (.ref s.heap.objs.size))) { s with heap := s.heap.push { cls := .type "tuple", data := .seq #[] } }) :=
  .of_wp fun prog w A R s h => by obtain ⟨hp, g, d, tk, os⟩ := s; obtain ⟨hl, h⟩ := h; wp_walk; exact ⟨_, rfl, h⟩
theorem tuple_mul_1 (l : Addr) (v : Value) (n : Nat) (d : Option Addr) (sl : Array (Option Value)) (u : Tok) :
    Meets (Builtin.«tuple.__mul__» ⟨[.ref l, .int 1 u], []⟩) (fun _ R s => s.heap.get? l = some { cls := .type "tuple", dict := d, data := .seq #[v] n, slots := sl } ∧ R (.ok (.ret (.ref l))) s) :=
  .of_wp fun prog w A R s h => by obtain ⟨hp, g, d, tk, os⟩ := s; obtain ⟨hl, h⟩ := h; wp_walk; exact ⟨_, rfl, h⟩
theorem tuple_mul_2 (l : Addr) (v : Value) (n : Nat) (d : Option Addr) (sl : Array (Option Value)) (u : Tok) :
    Meets (Builtin.«tuple.__mul__» ⟨[.ref l, .int 2 u], []⟩) (fun _ R s => s.heap.get? l = some { cls := .type "tuple", dict := d, data := .seq #[v] n, slots := sl } ∧ R (.ok (.ret (.ref s.heap.objs.size))) { s with heap := s.heap.push { cls := .type "tuple", data := .seq #[v, v] } }) :=
  .of_wp fun prog w A R s h => by obtain ⟨hp, g, d, tk, os⟩ := s; obtain ⟨hl, h⟩ := h; wp_walk; exact ⟨_, rfl, h⟩
theorem tuple_mul_3 (l : Addr) (v : Value) (n : Nat) (d : Option Addr) (sl : Array (Option Value)) (u : Tok) :
    Meets (Builtin.«tuple.__mul__» ⟨[.ref l, .int 3 u], []⟩) (fun _ R s => s.heap.get? l = some { cls := .type "tuple", dict := d, data := .seq #[v] n, slots := sl } ∧ R (.ok (.ret (.ref s.heap.objs.size))) { s with heap := s.heap.push { cls := .type "tuple", data := .seq #[v, v, v] } }) :=
  .of_wp fun prog w A R s h => by obtain ⟨hp, g, d, tk, os⟩ := s; obtain ⟨hl, h⟩ := h; wp_walk; exact ⟨_, rfl, h⟩
theorem tuple_mul_4 (l : Addr) (v : Value) (n : Nat) (d : Option Addr) (sl : Array (Option Value)) (u : Tok) :
    Meets (Builtin.«tuple.__mul__» ⟨[.ref l, .int 4 u], []⟩) (fun _ R s => s.heap.get? l = some { cls := .type "tuple", dict := d, data := .seq #[v] n, slots := sl } ∧ R (.ok (.ret (.ref s.heap.objs.size))) { s with heap := s.heap.push { cls := .type "tuple", data := .seq #[v, v, v, v] } }) :=
  .of_wp fun prog w A R s h => by obtain ⟨hp, g, d, tk, os⟩ := s; obtain ⟨hl, h⟩ := h; wp_walk; exact ⟨_, rfl, h⟩
theorem tmul_of {k : Int} {u : Tok} {v : Value} {Q : Value → Shared → Prop} {c : Int} (hk : k = c) (F : Fr h₀ L s.heap m) (N : News h₀ L s.heap news) (ht : (t, tupO [v] n) ∈ news)
    (mt : Meets (Builtin.«tuple.__mul__» ⟨[.ref t, .int c u], []⟩) (fun _ R s => s.heap.get? t = some (tupO [v] n) ∧ R (.ok (.ret (.ref s.heap.objs.size))) { s with heap := s.heap.push { cls := .type "tuple", data := .seq zs.toArray } }))
    (h : ∀ D h', Fr h₀ L h' m → News h₀ L h' ((D, tupO zs 0) :: news) → (∀ p ∈ news, p.1 < D) → Q (.ref D) { s with heap := h' }) : wpAny (model prog w) A (binaryOp .Mult (.ref t) (.int k u)) Q E s := by
  subst hk
  have ho := (N _ ht).1
  exact wpAny_binaryOp_repeat_ref (T := "tuple") (U := "int") (by decide) ⟨_, ho, rfl⟩ (fun s' => typeIs_int s' k u) noFill_tuple_mul PySem.F.fills_int_mul PySem.F.slot_int_rmul repeat_tuple PySem.F.slot_int_index.lookup
    (PySem.call_meets PySem.F.slot_int_rmul (typeIs_int s k u) PySem.F.entry_int_rmul (PySem.F.args_int_rmul_2 _ _) (int_rmul_tuple k u t [v].toArray n none #[])
      ⟨ho, rfl, ⟨_, ho, rfl⟩, PySem.call_meets PySem.F.slot_tuple_mul ⟨_, ho, rfl⟩ PySem.F.entry_tuple_mul (PySem.F.args_tuple_mul_2 _ _) mt
        ⟨ho, h _ _ (F.push _) (News.push F N _) fun p hp => Heap.lt_size (N p hp).1⟩⟩)
theorem tmul_same {k : Int} {u : Tok} {v : Value} {Q : Value → Shared → Prop} (hk : k = 1) (N : News h₀ L s.heap news) (ht : (t, tupO [v] n) ∈ news)
    (h : Q (.ref t) s) : wpAny (model prog w) A (binaryOp .Mult (.ref t) (.int k u)) Q E s := by
  subst hk
  have ho := (N _ ht).1
  exact wpAny_binaryOp_repeat_ref (T := "tuple") (U := "int") (by decide) ⟨_, ho, rfl⟩ (fun s' => typeIs_int s' 1 u) noFill_tuple_mul PySem.F.fills_int_mul PySem.F.slot_int_rmul repeat_tuple PySem.F.slot_int_index.lookup
    (PySem.call_meets PySem.F.slot_int_rmul (typeIs_int s 1 u) PySem.F.entry_int_rmul (PySem.F.args_int_rmul_2 _ _) (int_rmul_tuple 1 u t [v].toArray n none #[])
      ⟨ho, rfl, ⟨_, ho, rfl⟩, PySem.call_meets PySem.F.slot_tuple_mul ⟨_, ho, rfl⟩ PySem.F.entry_tuple_mul (PySem.F.args_tuple_mul_2 _ _) (tuple_mul_1 t v n none #[] u) ⟨ho, h⟩⟩)
end
local macro_rules | `(tactic| is_tup) => `(tactic| first | exact News.isTup (by k_asm) (by k_mem) | exact tup_base (by k_asm) (by assumption))
local macro_rules | `(tactic| walk_at "subscriptTail Name Slice ref ref") => `(tactic| (k_here; (with_reducible show wpAny _ _ (subscriptTail _ (PySem.Expr.Slice _ _ none _) (Value.ref _) (Value.ref _)) _ _ _); k_dflt (first | (refine' tslice_whole ?F ?N ?t ?p ?q (twhole_of ?hl ?e) ?s ?g ?_; (case F => k_asm); (case N => k_asm); (case t => is_tup); (case p => kmk_part); (case q => kmk_part); (case hl => ((simp only [List.length_cons, List.length_nil, Nat.reduceAdd]); exact rfl)); (case e => decide); (case s => with_unfolding_all rfl); (case g => kmk_pure); k_whole; intro h' F' N'; (try k_sweep)) | (refine' tslice_part ?F ?N ?t ?p ?q (tpick_of ?hl ?e ?ez) ?z ?s ?g ?_; (case F => k_asm); (case N => k_asm); (case t => is_tup); (case p => kmk_part); (case q => kmk_part); (case hl => ((simp only [List.length_cons, List.length_nil, Nat.reduceAdd]); exact rfl)); (case e => exact rfl); (case ez => kl_lit); (case z => exact Nat.le_of_ble_eq_true rfl); (case s => with_unfolding_all rfl); (case g => kmk_pure); k_whole; intro D' h' F' N' l1; (try k_lt l1); (try k_sweep)))))
local macro_rules | `(tactic| walk_at "subscriptTail") => `(tactic| (k_here; (with_reducible show wpAny _ _ (subscriptTail _ (PySem.Expr.Slice _ _ none _) (Value.ref _) (Value.ref _)) _ _ _); k_dflt (first | (refine' tslice_whole ?F ?N ?t ?p ?q (twhole_of ?hl ?e) ?s ?g ?_; (case F => k_asm); (case N => k_asm); (case t => is_tup); (case p => kmk_part); (case q => kmk_part); (case hl => ((simp only [List.length_cons, List.length_nil, Nat.reduceAdd]); exact rfl)); (case e => decide); (case s => with_unfolding_all rfl); (case g => kmk_pure); k_whole; intro h' F' N'; (try k_sweep)) | (refine' tslice_part ?F ?N ?t ?p ?q (tpick_of ?hl ?e ?ez) ?z ?s ?g ?_; (case F => k_asm); (case N => k_asm); (case t => is_tup); (case p => kmk_part); (case q => kmk_part); (case hl => ((simp only [List.length_cons, List.length_nil, Nat.reduceAdd]); exact rfl)); (case e => exact rfl); (case ez => kl_lit); (case z => exact Nat.le_of_ble_eq_true rfl); (case s => with_unfolding_all rfl); (case g => kmk_pure); k_whole; intro D' h' F' N' l1; (try k_lt l1); (try k_sweep)))))
local macro_rules | `(tactic| walk_at "binaryOp Mult ref int") => `(tactic| (k_here; (with_reducible show wpAny _ _ (binaryOp Operator.Mult (Value.ref _) (Value.int _ _)) _ _ _); k_dflt (first | (refine' tmul_same ?k ?N ?t ?_; (case k => decide); (case N => k_asm); (case t => k_mem); k_whole) | (refine' tmul_of (c := 0) ?k ?F ?N ?t (tuple_mul_0 _ _ _ _ _ _) ?_; (case k => decide); (case F => k_asm); (case N => k_asm); (case t => k_mem); k_whole; intro D' h' F' N' l1; (try k_lt l1); (try k_sweep)) | (refine' tmul_of (c := 2) ?k ?F ?N ?t (tuple_mul_2 _ _ _ _ _ _) ?_; (case k => decide); (case F => k_asm); (case N => k_asm); (case t => k_mem); k_whole; intro D' h' F' N' l1; (try k_lt l1); (try k_sweep)) | (refine' tmul_of (c := 3) ?k ?F ?N ?t (tuple_mul_3 _ _ _ _ _ _) ?_; (case k => decide); (case F => k_asm); (case N => k_asm); (case t => k_mem); k_whole; intro D' h' F' N' l1; (try k_lt l1); (try k_sweep)) | (refine' tmul_of (c := 4) ?k ?F ?N ?t (tuple_mul_4 _ _ _ _ _ _) ?_; (case k => decide); (case F => k_asm); (case N => k_asm); (case t => k_mem); k_whole; intro D' h' F' N' l1; (try k_lt l1); (try k_sweep)))))
local macro_rules | `(tactic| kun_tup) => `(tactic| exact tup_base (by k_asm) (by assumption))
local macro_rules | `(tactic| walk_at "call type:tuple") => `(tactic| (k_here; (with_reducible show wpAny _ _ (call (Value.type _) [Value.ref _]) _ _ _); k_dflt (refine' PySem.call_tuple_same ?t ?_; (case t => is_tup); k_whole)))
section
variable {prog : Program} {w : World} {A : Around} {E : Value → Shared → Prop} {s : Shared} {t : Addr} {items : List Value}
theorem len_tup {c : Nat} {Q : Value → Shared → Prop} (ht : IsTup s.heap t items.toArray) (e : items.length = c) (hc : c < 2 ^ 62) (h : Q (.int (c : Int) (s.toks + 1)) { s with toks := s.toks + 1 + 1 }) : wpAny (model prog w) A (call (.builtin "len") [.ref t]) Q E s := by
  subst e
  refine len_tuple ht (by rw [List.size_toArray]; omega) ?_
  rw [List.size_toArray]; exact h
end
local macro_rules | `(tactic| walk_at "call builtin:len") => `(tactic| (k_here; (with_reducible show wpAny _ _ (call (Value.builtin _) [Value.ref _]) _ _ _); k_dflt (refine' len_tup ?t ?e ?f ?_; (case t => is_tup); (case e => ((simp only [List.length_cons, List.length_nil, Nat.reduceAdd]); exact rfl)); (case f => decide); k_whole); (try simp only [Int.cast_ofNat_Int])))
local macro_rules | `(tactic| walk_at "binaryOp Add ref ref") => `(tactic| (k_here; k_dflt (first | (refine' kde_addT1 ?k1 ?k2 ?k3 ?k4 ?k5 ?k6 ?k7 ?_; (case k1 => k_asm); (case k2 => k_asm); (case k3 => is_tup); (case k4 => is_tup); (case k5 => exact List.cons_ne_nil _ _); (case k6 => exact rfl); (case k7 => exact Nat.le_of_ble_eq_true rfl); k_whole) | (refine' kde_addT0 ?k1 ?k2 ?k3 ?k4 ?k5 ?k7 ?_; (case k1 => k_asm); (case k2 => k_asm); (case k3 => is_tup); (case k4 => is_tup); (case k5 => exact rfl); (case k7 => exact Nat.le_of_ble_eq_true rfl); k_whole) | (refine' kde_addT ?k1 ?k2 ?k3 ?k4 ?k5 ?k6 ?k7 ?k8 ?_; (case k1 => k_asm); (case k2 => k_asm); (case k3 => is_tup); (case k4 => is_tup); (case k5 => exact List.cons_ne_nil _ _); (case k6 => exact List.cons_ne_nil _ _); (case k7 => exact Nat.le_of_ble_eq_true rfl); (case k8 => kun_lit); k_whole; intro D' h' F' N' l1; (try k_lt l1); (try k_sweep)))))
abbrev listO (vs : List Value) (n : Nat) : Obj := listOf vs.toArray n
theorem lst_base {s : Shared} {g : Heap} {L t : Addr} {m : Str → Option Value} {arr : Array Value} {n : Nat} (F : Fr g L s.heap m) (h : g.get? t = some (listOf arr n)) : s.heap.IsList t arr := ⟨_, F.keep _ _ h, rfl, _, rfl⟩
local macro_rules | `(tactic| kmk_list) => `(tactic| exact lst_base (by k_asm) (by assumption))

theorem off14 : True := by
  w_top off
  trivial
local macro_rules | `(tactic| walk_at "execs cons") => `(tactic| (k_here; (with_reducible show wpAny _ _ (execs [PySem.Stmt.Assign [PySem.Expr.Name (Str.ofString "ret") _] _ _, _] _) _ _ _); k_dflt (refine' gli_tail ?B ?F ?X ?T ?hA ?hl ?o1 ?o2 ?o3 ?o4 ?hs ?m0 ?m1 ?m2 ?m3 ?m4 ?m5 ?hret; (case B => k_asm); (case F => k_asm); (case X => k_asm); (case T => k_asm); (case m0 => exact rfl); (case m1 => first | exact rfl | exact congrArg some (pv_none 0).symm); (case m2 => first | exact rfl | exact congrArg some (pv_none 0).symm); (case m3 => first | exact rfl | exact congrArg some (pv_none 0).symm); (case m4 => first | exact rfl | exact congrArg some (pv_none 0).symm); (case m5 => exact rfl); (case hA => exact rfl); (case hl => assumption); (case o1 => first | assumption | exact fun _ e => nomatch e); (case o2 => first | assumption | exact fun _ e => nomatch e); (case o3 => first | assumption | exact fun _ e => nomatch e); (case o4 => first | assumption | exact fun _ e => nomatch e); (case hs => assumption)); intro t' h' tk' kp'))
section
variable {w : World} {dp un : Nat} {gd : Option (List Code)} {cn : Str} {cs : Scope} {a : Addr} {ccd : Value} {cl : List (Str × Addr)} {outer : List Env} {A₀ : Around} {base h₀ : Heap} {L : Addr} {m mg mb : Str → Option Value} {mean : ExcName → Option Value} {s : Shared} {Q E : Value → Shared → Prop} {news : List (Addr × Obj)}
theorem gliT1 {t : Addr} {n : Nat} {l sep : Str} {t0 tk : Tok} (B : Below A₀ base outer h₀) (F : Fr h₀ L s.heap m) (X : (Mine.hd.heap_39 w.params).In h₀) (T : Top Mine.hd.view_39 (looseW Mine.hd.view_39 [Str.ofString "Locale", Str.ofString "parse_locale", Str.ofString "get_locale_identifier"]) mean mg mb h₀) (hk : cs.kind = .function) (hd : dp + 4 < recursionLimit) (hu : un + 60 < cLine) (hl : l.length ≤ 1000) (hs : sep.length ≤ 16)
   (ht : s.heap.get? t = some (tupO [.str l t0] n))
   (hret : ∀ (t' : Tok) (h' : Heap) (tk' : Nat), Kp s.heap h' → Q (.str (gliF l none none none none (sep)) t') { s with heap := h', toks := tk' }) :
   wpAny (model PySem.Challenge.rw_bd5005_01.row.prog w) (ktrTop dp un gd cn cs L a ccd cl outer) (call (.ref 195) [.ref t, .str sep tk]) Q E s := by
  (refine wpAny_call ?_; k_dflt ktr_enter; k_steps)
  all_goals exact hret _ _ _ (by assumption)
theorem gliT2 {t : Addr} {n : Nat} {l sep : Str} {o1 : Option Str} {t0 t1 tk : Tok} (B : Below A₀ base outer h₀) (F : Fr h₀ L s.heap m) (X : (Mine.hd.heap_39 w.params).In h₀) (T : Top Mine.hd.view_39 (looseW Mine.hd.view_39 [Str.ofString "Locale", Str.ofString "parse_locale", Str.ofString "get_locale_identifier"]) mean mg mb h₀) (hk : cs.kind = .function) (hd : dp + 4 < recursionLimit) (hu : un + 60 < cLine) (hl : l.length ≤ 1000) (ho1 : ∀ x, o1 = some x → x.length ≤ 1000) (hs : sep.length ≤ 16)
   (ht : s.heap.get? t = some (tupO [.str l t0, pv o1 t1] n))
   (hret : ∀ (t' : Tok) (h' : Heap) (tk' : Nat), Kp s.heap h' → Q (.str (gliF l o1 none none none (sep)) t') { s with heap := h', toks := tk' }) :
   wpAny (model PySem.Challenge.rw_bd5005_01.row.prog w) (ktrTop dp un gd cn cs L a ccd cl outer) (call (.ref 195) [.ref t, .str sep tk]) Q E s := by
  (refine wpAny_call ?_; k_dflt ktr_enter; k_steps)
  all_goals exact hret _ _ _ (by assumption)
theorem gliT3 {t : Addr} {n : Nat} {l sep : Str} {o1 o2 : Option Str} {t0 t1 t2 tk : Tok} (B : Below A₀ base outer h₀) (F : Fr h₀ L s.heap m) (X : (Mine.hd.heap_39 w.params).In h₀) (T : Top Mine.hd.view_39 (looseW Mine.hd.view_39 [Str.ofString "Locale", Str.ofString "parse_locale", Str.ofString "get_locale_identifier"]) mean mg mb h₀) (hk : cs.kind = .function) (hd : dp + 4 < recursionLimit) (hu : un + 60 < cLine) (hl : l.length ≤ 1000) (ho1 : ∀ x, o1 = some x → x.length ≤ 1000) (ho2 : ∀ x, o2 = some x → x.length ≤ 1000) (hs : sep.length ≤ 16)
   (ht : s.heap.get? t = some (tupO [.str l t0, pv o1 t1, pv o2 t2] n))
   (hret : ∀ (t' : Tok) (h' : Heap) (tk' : Nat), Kp s.heap h' → Q (.str (gliF l o1 o2 none none (sep)) t') { s with heap := h', toks := tk' }) :
   wpAny (model PySem.Challenge.rw_bd5005_01.row.prog w) (ktrTop dp un gd cn cs L a ccd cl outer) (call (.ref 195) [.ref t, .str sep tk]) Q E s := by
  (refine wpAny_call ?_; k_dflt ktr_enter; k_steps)
  all_goals exact hret _ _ _ (by assumption)
theorem gliT4 {t : Addr} {n : Nat} {l sep : Str} {o1 o2 o3 : Option Str} {t0 t1 t2 t3 tk : Tok} (B : Below A₀ base outer h₀) (F : Fr h₀ L s.heap m) (X : (Mine.hd.heap_39 w.params).In h₀) (T : Top Mine.hd.view_39 (looseW Mine.hd.view_39 [Str.ofString "Locale", Str.ofString "parse_locale", Str.ofString "get_locale_identifier"]) mean mg mb h₀) (hk : cs.kind = .function) (hd : dp + 4 < recursionLimit) (hu : un + 60 < cLine) (hl : l.length ≤ 1000) (ho1 : ∀ x, o1 = some x → x.length ≤ 1000) (ho2 : ∀ x, o2 = some x → x.length ≤ 1000) (ho3 : ∀ x, o3 = some x → x.length ≤ 1000) (hs : sep.length ≤ 16)
   (ht : s.heap.get? t = some (tupO [.str l t0, pv o1 t1, pv o2 t2, pv o3 t3] n))
   (hret : ∀ (t' : Tok) (h' : Heap) (tk' : Nat), Kp s.heap h' → Q (.str (gliF l o1 o2 o3 none (sep)) t') { s with heap := h', toks := tk' }) :
   wpAny (model PySem.Challenge.rw_bd5005_01.row.prog w) (ktrTop dp un gd cn cs L a ccd cl outer) (call (.ref 195) [.ref t, .str sep tk]) Q E s := by
  (refine wpAny_call ?_; k_dflt ktr_enter; k_steps)
  all_goals exact hret _ _ _ (by assumption)
theorem gliT5 {t : Addr} {n : Nat} {l sep : Str} {o1 o2 o3 o4 : Option Str} {t0 t1 t2 t3 t4 tk : Tok} (B : Below A₀ base outer h₀) (F : Fr h₀ L s.heap m) (X : (Mine.hd.heap_39 w.params).In h₀) (T : Top Mine.hd.view_39 (looseW Mine.hd.view_39 [Str.ofString "Locale", Str.ofString "parse_locale", Str.ofString "get_locale_identifier"]) mean mg mb h₀) (hk : cs.kind = .function) (hd : dp + 4 < recursionLimit) (hu : un + 60 < cLine) (hl : l.length ≤ 1000) (ho1 : ∀ x, o1 = some x → x.length ≤ 1000) (ho2 : ∀ x, o2 = some x → x.length ≤ 1000) (ho3 : ∀ x, o3 = some x → x.length ≤ 1000) (ho4 : ∀ x, o4 = some x → x.length ≤ 1000) (hs : sep.length ≤ 16)
   (ht : s.heap.get? t = some (tupO [.str l t0, pv o1 t1, pv o2 t2, pv o3 t3, pv o4 t4] n))
   (hret : ∀ (t' : Tok) (h' : Heap) (tk' : Nat), Kp s.heap h' → Q (.str (gliF l o1 o2 o3 o4 (sep)) t') { s with heap := h', toks := tk' }) :
   wpAny (model PySem.Challenge.rw_bd5005_01.row.prog w) (ktrTop dp un gd cn cs L a ccd cl outer) (call (.ref 195) [.ref t, .str sep tk]) Q E s := by
  (refine wpAny_call ?_; k_dflt ktr_enter; k_steps)
  all_goals exact hret _ _ _ (by assumption)
theorem gliT6 {t : Addr} {n : Nat} {l sep e1 : Str} {o1 o2 o3 o4 : Option Str} {t0 t1 t2 t3 t4 t5 tk : Tok} (B : Below A₀ base outer h₀) (F : Fr h₀ L s.heap m) (X : (Mine.hd.heap_39 w.params).In h₀) (T : Top Mine.hd.view_39 (looseW Mine.hd.view_39 [Str.ofString "Locale", Str.ofString "parse_locale", Str.ofString "get_locale_identifier"]) mean mg mb h₀) (hk : cs.kind = .function) (hd : dp + 4 < recursionLimit) (hu : un + 60 < cLine) (hl : l.length ≤ 1000) (ho1 : ∀ x, o1 = some x → x.length ≤ 1000) (ho2 : ∀ x, o2 = some x → x.length ≤ 1000) (ho3 : ∀ x, o3 = some x → x.length ≤ 1000) (ho4 : ∀ x, o4 = some x → x.length ≤ 1000) (hs : sep.length ≤ 16)
   (ht : s.heap.get? t = some (tupO [.str l t0, pv o1 t1, pv o2 t2, pv o3 t3, pv o4 t4, .str e1 t5] n))
   (hret : ∀ (t' : Tok) (h' : Heap) (tk' : Nat), Kp s.heap h' → Q (.str (gliF l o1 o2 o3 o4 (sep)) t') { s with heap := h', toks := tk' }) :
   wpAny (model PySem.Challenge.rw_bd5005_01.row.prog w) (ktrTop dp un gd cn cs L a ccd cl outer) (call (.ref 195) [.ref t, .str sep tk]) Q E s := by
  (refine wpAny_call ?_; k_dflt ktr_enter; k_steps)
  all_goals exact hret _ _ _ (by assumption)
theorem gliT7 {t : Addr} {n : Nat} {l sep e1 e2 : Str} {o1 o2 o3 o4 : Option Str} {t0 t1 t2 t3 t4 t5 t6 tk : Tok} (B : Below A₀ base outer h₀) (F : Fr h₀ L s.heap m) (X : (Mine.hd.heap_39 w.params).In h₀) (T : Top Mine.hd.view_39 (looseW Mine.hd.view_39 [Str.ofString "Locale", Str.ofString "parse_locale", Str.ofString "get_locale_identifier"]) mean mg mb h₀) (hk : cs.kind = .function) (hd : dp + 4 < recursionLimit) (hu : un + 60 < cLine) (hl : l.length ≤ 1000) (ho1 : ∀ x, o1 = some x → x.length ≤ 1000) (ho2 : ∀ x, o2 = some x → x.length ≤ 1000) (ho3 : ∀ x, o3 = some x → x.length ≤ 1000) (ho4 : ∀ x, o4 = some x → x.length ≤ 1000) (hs : sep.length ≤ 16)
   (ht : s.heap.get? t = some (tupO [.str l t0, pv o1 t1, pv o2 t2, pv o3 t3, pv o4 t4, .str e1 t5, .str e2 t6] n))
   (hret : ∀ (t' : Tok) (h' : Heap) (tk' : Nat), Kp s.heap h' → Q (.str (gliF l o1 o2 o3 o4 (sep)) t') { s with heap := h', toks := tk' }) :
   wpAny (model PySem.Challenge.rw_bd5005_01.row.prog w) (ktrTop dp un gd cn cs L a ccd cl outer) (call (.ref 195) [.ref t, .str sep tk]) Q E s := by
  (refine wpAny_call ?_; k_dflt ktr_enter; k_steps)
  all_goals exact hret _ _ _ (by assumption)
theorem gliL1 {t : Addr} {n : Nat} {l sep : Str} {t0 tk : Tok} (B : Below A₀ base outer h₀) (F : Fr h₀ L s.heap m) (X : (Mine.hd.heap_39 w.params).In h₀) (T : Top Mine.hd.view_39 (looseW Mine.hd.view_39 [Str.ofString "Locale", Str.ofString "parse_locale", Str.ofString "get_locale_identifier"]) mean mg mb h₀) (hk : cs.kind = .function) (hd : dp + 4 < recursionLimit) (hu : un + 60 < cLine) (hl : l.length ≤ 1000) (hs : sep.length ≤ 16)
   (ht : s.heap.get? t = some (listO [.str l t0] n))
   (hret : ∀ (t' : Tok) (h' : Heap) (tk' : Nat), Kp s.heap h' → Q (.str (gliF l none none none none (sep)) t') { s with heap := h', toks := tk' }) :
   wpAny (model PySem.Challenge.rw_bd5005_01.row.prog w) (ktrTop dp un gd cn cs L a ccd cl outer) (call (.ref 195) [.ref t, .str sep tk]) Q E s := by
  (refine wpAny_call ?_; k_dflt ktr_enter; k_steps)
  all_goals exact hret _ _ _ (by assumption)
theorem gliL2 {t : Addr} {n : Nat} {l sep : Str} {o1 : Option Str} {t0 t1 tk : Tok} (B : Below A₀ base outer h₀) (F : Fr h₀ L s.heap m) (X : (Mine.hd.heap_39 w.params).In h₀) (T : Top Mine.hd.view_39 (looseW Mine.hd.view_39 [Str.ofString "Locale", Str.ofString "parse_locale", Str.ofString "get_locale_identifier"]) mean mg mb h₀) (hk : cs.kind = .function) (hd : dp + 4 < recursionLimit) (hu : un + 60 < cLine) (hl : l.length ≤ 1000) (ho1 : ∀ x, o1 = some x → x.length ≤ 1000) (hs : sep.length ≤ 16)
   (ht : s.heap.get? t = some (listO [.str l t0, pv o1 t1] n))
   (hret : ∀ (t' : Tok) (h' : Heap) (tk' : Nat), Kp s.heap h' → Q (.str (gliF l o1 none none none (sep)) t') { s with heap := h', toks := tk' }) :
   wpAny (model PySem.Challenge.rw_bd5005_01.row.prog w) (ktrTop dp un gd cn cs L a ccd cl outer) (call (.ref 195) [.ref t, .str sep tk]) Q E s := by
  (refine wpAny_call ?_; k_dflt ktr_enter; k_steps)
  all_goals exact hret _ _ _ (by assumption)
theorem gliL3 {t : Addr} {n : Nat} {l sep : Str} {o1 o2 : Option Str} {t0 t1 t2 tk : Tok} (B : Below A₀ base outer h₀) (F : Fr h₀ L s.heap m) (X : (Mine.hd.heap_39 w.params).In h₀) (T : Top Mine.hd.view_39 (looseW Mine.hd.view_39 [Str.ofString "Locale", Str.ofString "parse_locale", Str.ofString "get_locale_identifier"]) mean mg mb h₀) (hk : cs.kind = .function) (hd : dp + 4 < recursionLimit) (hu : un + 60 < cLine) (hl : l.length ≤ 1000) (ho1 : ∀ x, o1 = some x → x.length ≤ 1000) (ho2 : ∀ x, o2 = some x → x.length ≤ 1000) (hs : sep.length ≤ 16)
   (ht : s.heap.get? t = some (listO [.str l t0, pv o1 t1, pv o2 t2] n))
   (hret : ∀ (t' : Tok) (h' : Heap) (tk' : Nat), Kp s.heap h' → Q (.str (gliF l o1 o2 none none (sep)) t') { s with heap := h', toks := tk' }) :
   wpAny (model PySem.Challenge.rw_bd5005_01.row.prog w) (ktrTop dp un gd cn cs L a ccd cl outer) (call (.ref 195) [.ref t, .str sep tk]) Q E s := by
  (refine wpAny_call ?_; k_dflt ktr_enter; k_steps)
  all_goals exact hret _ _ _ (by assumption)
theorem gliL4 {t : Addr} {n : Nat} {l sep : Str} {o1 o2 o3 : Option Str} {t0 t1 t2 t3 tk : Tok} (B : Below A₀ base outer h₀) (F : Fr h₀ L s.heap m) (X : (Mine.hd.heap_39 w.params).In h₀) (T : Top Mine.hd.view_39 (looseW Mine.hd.view_39 [Str.ofString "Locale", Str.ofString "parse_locale", Str.ofString "get_locale_identifier"]) mean mg mb h₀) (hk : cs.kind = .function) (hd : dp + 4 < recursionLimit) (hu : un + 60 < cLine) (hl : l.length ≤ 1000) (ho1 : ∀ x, o1 = some x → x.length ≤ 1000) (ho2 : ∀ x, o2 = some x → x.length ≤ 1000) (ho3 : ∀ x, o3 = some x → x.length ≤ 1000) (hs : sep.length ≤ 16)
   (ht : s.heap.get? t = some (listO [.str l t0, pv o1 t1, pv o2 t2, pv o3 t3] n))
   (hret : ∀ (t' : Tok) (h' : Heap) (tk' : Nat), Kp s.heap h' → Q (.str (gliF l o1 o2 o3 none (sep)) t') { s with heap := h', toks := tk' }) :
   wpAny (model PySem.Challenge.rw_bd5005_01.row.prog w) (ktrTop dp un gd cn cs L a ccd cl outer) (call (.ref 195) [.ref t, .str sep tk]) Q E s := by
  (refine wpAny_call ?_; k_dflt ktr_enter; k_steps)
  all_goals exact hret _ _ _ (by assumption)
theorem gliL5 {t : Addr} {n : Nat} {l sep : Str} {o1 o2 o3 o4 : Option Str} {t0 t1 t2 t3 t4 tk : Tok} (B : Below A₀ base outer h₀) (F : Fr h₀ L s.heap m) (X : (Mine.hd.heap_39 w.params).In h₀) (T : Top Mine.hd.view_39 (looseW Mine.hd.view_39 [Str.ofString "Locale", Str.ofString "parse_locale", Str.ofString "get_locale_identifier"]) mean mg mb h₀) (hk : cs.kind = .function) (hd : dp + 4 < recursionLimit) (hu : un + 60 < cLine) (hl : l.length ≤ 1000) (ho1 : ∀ x, o1 = some x → x.length ≤ 1000) (ho2 : ∀ x, o2 = some x → x.length ≤ 1000) (ho3 : ∀ x, o3 = some x → x.length ≤ 1000) (ho4 : ∀ x, o4 = some x → x.length ≤ 1000) (hs : sep.length ≤ 16)
   (ht : s.heap.get? t = some (listO [.str l t0, pv o1 t1, pv o2 t2, pv o3 t3, pv o4 t4] n))
   (hret : ∀ (t' : Tok) (h' : Heap) (tk' : Nat), Kp s.heap h' → Q (.str (gliF l o1 o2 o3 o4 (sep)) t') { s with heap := h', toks := tk' }) :
   wpAny (model PySem.Challenge.rw_bd5005_01.row.prog w) (ktrTop dp un gd cn cs L a ccd cl outer) (call (.ref 195) [.ref t, .str sep tk]) Q E s := by
  (refine wpAny_call ?_; k_dflt ktr_enter; k_steps)
  all_goals exact hret _ _ _ (by assumption)
theorem gliL6 {t : Addr} {n : Nat} {l sep e1 : Str} {o1 o2 o3 o4 : Option Str} {t0 t1 t2 t3 t4 t5 tk : Tok} (B : Below A₀ base outer h₀) (F : Fr h₀ L s.heap m) (X : (Mine.hd.heap_39 w.params).In h₀) (T : Top Mine.hd.view_39 (looseW Mine.hd.view_39 [Str.ofString "Locale", Str.ofString "parse_locale", Str.ofString "get_locale_identifier"]) mean mg mb h₀) (hk : cs.kind = .function) (hd : dp + 4 < recursionLimit) (hu : un + 60 < cLine) (hl : l.length ≤ 1000) (ho1 : ∀ x, o1 = some x → x.length ≤ 1000) (ho2 : ∀ x, o2 = some x → x.length ≤ 1000) (ho3 : ∀ x, o3 = some x → x.length ≤ 1000) (ho4 : ∀ x, o4 = some x → x.length ≤ 1000) (hs : sep.length ≤ 16)
   (ht : s.heap.get? t = some (listO [.str l t0, pv o1 t1, pv o2 t2, pv o3 t3, pv o4 t4, .str e1 t5] n))
   (hret : ∀ (t' : Tok) (h' : Heap) (tk' : Nat), Kp s.heap h' → Q (.str (gliF l o1 o2 o3 o4 (sep)) t') { s with heap := h', toks := tk' }) :
   wpAny (model PySem.Challenge.rw_bd5005_01.row.prog w) (ktrTop dp un gd cn cs L a ccd cl outer) (call (.ref 195) [.ref t, .str sep tk]) Q E s := by
  (refine wpAny_call ?_; k_dflt ktr_enter; k_steps)
  all_goals exact hret _ _ _ (by assumption)
theorem gliL7 {t : Addr} {n : Nat} {l sep e1 e2 : Str} {o1 o2 o3 o4 : Option Str} {t0 t1 t2 t3 t4 t5 t6 tk : Tok} (B : Below A₀ base outer h₀) (F : Fr h₀ L s.heap m) (X : (Mine.hd.heap_39 w.params).In h₀) (T : Top Mine.hd.view_39 (looseW Mine.hd.view_39 [Str.ofString "Locale", Str.ofString "parse_locale", Str.ofString "get_locale_identifier"]) mean mg mb h₀) (hk : cs.kind = .function) (hd : dp + 4 < recursionLimit) (hu : un + 60 < cLine) (hl : l.length ≤ 1000) (ho1 : ∀ x, o1 = some x → x.length ≤ 1000) (ho2 : ∀ x, o2 = some x → x.length ≤ 1000) (ho3 : ∀ x, o3 = some x → x.length ≤ 1000) (ho4 : ∀ x, o4 = some x → x.length ≤ 1000) (hs : sep.length ≤ 16)
   (ht : s.heap.get? t = some (listO [.str l t0, pv o1 t1, pv o2 t2, pv o3 t3, pv o4 t4, .str e1 t5, .str e2 t6] n))
   (hret : ∀ (t' : Tok) (h' : Heap) (tk' : Nat), Kp s.heap h' → Q (.str (gliF l o1 o2 o3 o4 (sep)) t') { s with heap := h', toks := tk' }) :
   wpAny (model PySem.Challenge.rw_bd5005_01.row.prog w) (ktrTop dp un gd cn cs L a ccd cl outer) (call (.ref 195) [.ref t, .str sep tk]) Q E s := by
  (refine wpAny_call ?_; k_dflt ktr_enter; k_steps)
  all_goals exact hret _ _ _ (by assumption)
theorem gliD5 {t : Addr} {n : Nat} {l : Str} {o1 o2 o3 o4 : Option Str} {t0 t1 t2 t3 t4 : Tok} (B : Below A₀ base outer h₀) (F : Fr h₀ L s.heap m) (X : (Mine.hd.heap_39 w.params).In h₀) (T : Top Mine.hd.view_39 (looseW Mine.hd.view_39 [Str.ofString "Locale", Str.ofString "parse_locale", Str.ofString "get_locale_identifier"]) mean mg mb h₀) (hk : cs.kind = .function) (hd : dp + 4 < recursionLimit) (hu : un + 60 < cLine) (hl : l.length ≤ 1000) (ho1 : ∀ x, o1 = some x → x.length ≤ 1000) (ho2 : ∀ x, o2 = some x → x.length ≤ 1000) (ho3 : ∀ x, o3 = some x → x.length ≤ 1000) (ho4 : ∀ x, o4 = some x → x.length ≤ 1000)
   (ht : s.heap.get? t = some (tupO [.str l t0, pv o1 t1, pv o2 t2, pv o3 t3, pv o4 t4] n))
   (hret : ∀ (t' : Tok) (h' : Heap) (tk' : Nat), Kp s.heap h' → Q (.str (gliF l o1 o2 o3 o4 (Str.ofString "_")) t') { s with heap := h', toks := tk' }) :
   wpAny (model PySem.Challenge.rw_bd5005_01.row.prog w) (ktrTop dp un gd cn cs L a ccd cl outer) (call (.ref 195) [.ref t]) Q E s := by
  have hs : (Str.ofString "_").length ≤ 16 := by decide +kernel
  (refine wpAny_call ?_; k_dflt ktr_enter; k_steps)
  all_goals exact hret _ _ _ (by assumption)
end

theorem off15 : True := by
  w_top off
  trivial
/-- what _law_written adds for a part -/
def addP (sep d : Str) (o : Option Str) : Str := match o with
  | none => d
  | some x => if x = Str.ofString "" then d else d ++ (sep ++ x)
def ifOf (n k : Nat) : Stmt := match (bodyOf n).drop k with
  | .For _ _ [b] _ _ :: _ => b
  | _ => default
theorem names_eq {m : Str → Option Value} {kvs : List (Str × Value)} (e : ∀ p ∈ kvs, m p.1 = some p.2) : names kvs m = m := by
  funext y
  unfold names
  split
  · rename_i v hv; exact (e _ (lookup_mem hv)).symm
  · rfl
theorem addP_len {sep d : Str} {o : Option Str} (ho : ∀ x, o = some x → x.length ≤ 1000) (hs : sep.length ≤ 16) : (addP sep d o).length ≤ d.length + 1016 := by
  cases o with
  | none => show d.length ≤ _; omega
  | some x =>
    have hx := ho x rfl
    unfold addP
    dsimp only
    split
    · omega
    · simp only [Str.length_append]; omega
section
variable {w : World} {A A₀ : Around} {base g : Heap} {L : Addr} {m mg mb : Str → Option Value} {mean : ExcName → Option Value} {s : Shared} {Q : Flow → Shared → Prop} {E : Value → Shared → Prop} {outer : List Env} {news : List (Addr × Obj)}
theorem written_if {d sep : Str} {o : Option Str} {t0 t1 t2 : Tok} (B : Below A₀ base outer g) (F : Fr g L s.heap m) (N : News g L s.heap news) (X : (Mine.hd.heap_39 w.params).In g)
   (T : Top Mine.hd.view_39 (looseW Mine.hd.view_39 [Str.ofString "Locale", Str.ofString "parse_locale", Str.ofString "get_locale_identifier"]) mean mg mb g)
   (ho : ∀ x, o = some x → x.length ≤ 1000) (hd : d.length ≤ 10000) (hs : sep.length ≤ 16)
   (m0 : m (Str.ofString "part") = some (pv o t0)) (m1 : m (Str.ofString "told") = some (.str d t1)) (m2 : m (Str.ofString "sep") = some (.str sep t2))
   (hret : ∀ (t' : Tok) (h' : Heap) (tk' : Nat), (addP sep d o).length ≤ d.length + 1016 → Fr g L h' (fun y => if y = Str.ofString "told" then some (.str (addP sep d o) t') else m y) → News g L h' news → Q .next { s with heap := h', toks := tk' }) :
   wpAny (model PySem.Challenge.rw_bd5005_01.row.prog w) A (exec (ifOf 13 2) (envOf (Str.ofString "_law_written") (scopeOf 13) L 231 (.ref 230))) Q E s := by
  have kv : ∀ p ∈ [(Str.ofString "part", pv o t0), (Str.ofString "told", .str d t1), (Str.ofString "sep", .str sep t2)], m p.1 = some p.2 := by
    intro p hp
    simp only [List.mem_cons, List.not_mem_nil, or_false] at hp
    rcases hp with rfl | rfl | rfl <;> assumption
  unfold ifOf bodyOf scopeOf PySem.Challenge.pw_bd5005_01
  dsimp only [List.drop]
  have mt : m = fun y => if y = Str.ofString "told" then some (.str d t1) else m y := by
    funext y
    by_cases e : y = Str.ofString "told"
    · rw [if_pos e, e, m1]
    · rw [if_neg e]
  have hlen := addP_len (d := d) ho hs
  clear m0 m1 m2
  replace F := fr_kv _ F kv
  have ne := names_eq kv
  clear kv
  cases o with
  | none =>
    simp only [pv_none] at *
    k_steps
    rw [ne] at F
    exact hret t1 _ _ hlen (by rw [show addP sep d none = d from rfl, ← mt]; exact F) N
  | some x =>
    have hx := ho x rfl
    simp only [pv_some] at *
    k_steps
    · rename_i h1 _ _ _ _ _ _ _ _ F1 N1 _
      have e : addP sep d (some x) = d ++ (sep ++ x) := by
        unfold addP; dsimp only; rw [if_neg (by simpa using h1)]
      rw [ne, ← e] at F1
      exact hret _ _ _ hlen F1 N1
    · rename_i h1 _
      have e : addP sep d (some x) = d := by
        unfold addP; dsimp only; rw [if_pos (by simpa using h1)]
      rw [ne] at F
      exact hret t1 _ _ hlen (by rw [e, ← mt]; exact F) N
end

theorem off16 : True := by
  w_top off
  trivial
local macro_rules | `(tactic| walk_at "exec If") => `(tactic| (k_here; (with_reducible show wpAny _ _ (exec (PySem.Stmt.If _ [PySem.Stmt.AugAssign (PySem.Expr.Name (Str.ofString "told") _) _ _ _] _ _) (envOf (Str.ofString "_law_written") _ _ _ _)) _ _ _); k_dflt (refine' written_if ?B ?F ?N ?X ?T ?o ?d ?s ?m0 ?m1 ?m2 ?_; (case B => k_asm); (case F => k_asm); (case N => k_asm); (case X => k_asm); (case T => k_asm); (case m0 => exact rfl); (case m1 => exact rfl); (case m2 => exact rfl); (case s => assumption); (case o => first | assumption | exact fun _ e => nomatch e); (case d => omega); k_whole); intro t' h' tk' hlen' F' N'; (try k_sweep)))
/-- what _law_written adds for a modifier -/
def addM (d : Str) (o : Option Str) : Str := match o with
  | none => d
  | some x => if x = Str.ofString "" then d else d ++ Str.ofString "@" ++ x
def writtenF (l : Str) (o1 o2 o3 o4 : Option Str) (sep : Str) : Str := addM (addP sep (addP sep (addP sep l o2) o1) o3) o4
theorem addM_no {d : Str} {o : Option Str} (h : o.isSome = false) : d = addM d o := by
  cases o with
  | none => rfl
  | some x => cases h
theorem addM_nil {d : Str} {o : Option Str} (h : o = some (Str.ofString "")) : d = addM d o := by
  subst h; unfold addM; dsimp only; rw [if_pos rfl]
theorem addM_some {d : Str} {x : Str} (h : ¬ some x = some (Str.ofString "")) : d ++ Str.ofString "@" ++ x = addM d (some x) := by
  unfold addM; dsimp only; rw [if_neg fun e => h (by rw [e])]
section
variable {w : World} {dp un : Nat} {gd : Option (List Code)} {cn : Str} {cs : Scope} {a : Addr} {ccd : Value} {cl : List (Str × Addr)} {outer outer' : List Env} {A₀ : Around} {base g : Heap} {L L₁ : Addr} {m mg mb : Str → Option Value} {mean : ExcName → Option Value} {s : Shared} {Q : Flow → Shared → Prop} {E : Value → Shared → Prop}
theorem written_tail {l sep : Str} {o1 o2 o3 o4 : Option Str} {t0 t1 t2 t3 t4 tk : Tok} (B : Below A₀ base outer' g) (F : Fr g L₁ s.heap m) (X : (Mine.hd.heap_39 w.params).In g)
   (T : Top Mine.hd.view_39 (looseW Mine.hd.view_39 [Str.ofString "Locale", Str.ofString "parse_locale", Str.ofString "get_locale_identifier"]) mean mg mb g)
   (hl : l.length ≤ 1000) (ho1 : ∀ x, o1 = some x → x.length ≤ 1000) (ho2 : ∀ x, o2 = some x → x.length ≤ 1000) (ho3 : ∀ x, o3 = some x → x.length ≤ 1000) (ho4 : ∀ x, o4 = some x → x.length ≤ 1000) (hs : sep.length ≤ 16)
   (m0 : m (Str.ofString "language") = some (.str l t0)) (m1 : m (Str.ofString "territory") = some (pv o1 t1)) (m2 : m (Str.ofString "script") = some (pv o2 t2)) (m3 : m (Str.ofString "variant") = some (pv o3 t3)) (m4 : m (Str.ofString "modifier") = some (pv o4 t4)) (m5 : m (Str.ofString "sep") = some (.str sep tk))
   (hret : ∀ (t' : Tok) (h' : Heap) (tk' : Nat), Kp g h' → Q (.ret (.str (writtenF l o1 o2 o3 o4 sep) t')) { s with heap := h', toks := tk' }) :
   wpAny (model PySem.Challenge.rw_bd5005_01.row.prog w) ((ktrTop dp un gd cn cs L a ccd cl outer).deeper (envOf (Str.ofString "_law_written") (scopeOf 13) L₁ 231 (.ref 230))) (execs ((bodyOf 13).drop 1) (envOf (Str.ofString "_law_written") (scopeOf 13) L₁ 231 (.ref 230))) Q
     (fun e s' => wpAny (model PySem.Challenge.rw_bd5005_01.row.prog w) ((ktrTop dp un gd cn cs L a ccd cl outer).deeper (envOf (Str.ofString "_law_written") (scopeOf 13) L₁ 231 (.ref 230))) (leaving (envOf (Str.ofString "_law_written") (scopeOf 13) L₁ 231 (.ref 230)) e) (fun _ s'' => E e s'') (fun e' s'' => E e' s'') s') s := by
  unfold bodyOf scopeOf PySem.Challenge.pw_bd5005_01
  dsimp only [List.drop]
  replace F := fr_kv [(Str.ofString "language", .str l t0), (Str.ofString "territory", pv o1 t1), (Str.ofString "script", pv o2 t2), (Str.ofString "variant", pv o3 t3), (Str.ofString "modifier", pv o4 t4), (Str.ofString "sep", .str sep tk)] F (by
    intro p hp
    simp only [List.mem_cons, List.not_mem_nil, or_false] at hp
    rcases hp with rfl | rfl | rfl | rfl | rfl | rfl <;> assumption)
  clear m0 m1 m2 m3 m4 m5
  have N' := nil_of F
  have hl' : l.length ≤ 10000 := by omega
  k_steps
  · exact ret_flow hret (addM_nil (by assumption)) (kp_fr (by k_asm))
  · cases o4 with
    | none => exfalso; simp_all
    | some x =>
      have hx := ho4 x rfl
      simp only [pv_some] at *
      k_steps
      all_goals exact ret_flow hret (addM_some (by assumption)) (kp_fr (by k_asm))
  · exact ret_flow hret (addM_no (by assumption)) (kp_fr (by k_asm))
end

theorem off17 : True := by
  w_top off
  trivial
local macro_rules | `(tactic| walk_at "execs cons") => `(tactic| (k_here; (with_reducible show wpAny _ _ (execs [PySem.Stmt.Assign [PySem.Expr.Name (Str.ofString "told") _] _ _, _, _] (envOf (Str.ofString "_law_written") _ _ _ _)) _ _ _); k_dflt (refine' written_tail ?B ?F ?X ?T ?hl ?o1 ?o2 ?o3 ?o4 ?hs ?m0 ?m1 ?m2 ?m3 ?m4 ?m5 ?hret; (case B => k_asm); (case F => k_asm); (case X => k_asm); (case T => k_asm); (case m0 => exact rfl); (case m1 => first | exact rfl | exact congrArg some (pv_none 0).symm); (case m2 => first | exact rfl | exact congrArg some (pv_none 0).symm); (case m3 => first | exact rfl | exact congrArg some (pv_none 0).symm); (case m4 => first | exact rfl | exact congrArg some (pv_none 0).symm); (case m5 => exact rfl); (case hl => assumption); (case o1 => first | assumption | exact fun _ e => nomatch e); (case o2 => first | assumption | exact fun _ e => nomatch e); (case o3 => first | assumption | exact fun _ e => nomatch e); (case o4 => first | assumption | exact fun _ e => nomatch e); (case hs => assumption)); intro t' h' tk' kp'))
section
variable {w : World} {dp un : Nat} {gd : Option (List Code)} {cn : Str} {cs : Scope} {a : Addr} {ccd : Value} {cl : List (Str × Addr)} {outer : List Env} {A₀ : Around} {base h₀ : Heap} {L : Addr} {m mg mb : Str → Option Value} {mean : ExcName → Option Value} {s : Shared} {Q E : Value → Shared → Prop} {news : List (Addr × Obj)}
theorem writtenT1 {t : Addr} {n : Nat} {l sep : Str} {t0 tk : Tok} (B : Below A₀ base outer h₀) (F : Fr h₀ L s.heap m) (X : (Mine.hd.heap_39 w.params).In h₀) (T : Top Mine.hd.view_39 (looseW Mine.hd.view_39 [Str.ofString "Locale", Str.ofString "parse_locale", Str.ofString "get_locale_identifier"]) mean mg mb h₀) (hk : cs.kind = .function) (hd : dp + 4 < recursionLimit) (hu : un + 60 < cLine) (hl : l.length ≤ 1000) (hs : sep.length ≤ 16)
   (ht : s.heap.get? t = some (tupO [.str l t0] n))
   (hret : ∀ (t' : Tok) (h' : Heap) (tk' : Nat), Kp s.heap h' → Q (.str (writtenF l none none none none (sep)) t') { s with heap := h', toks := tk' }) :
   wpAny (model PySem.Challenge.rw_bd5005_01.row.prog w) (ktrTop dp un gd cn cs L a ccd cl outer) (call (.ref 231) [.ref t, .str sep tk]) Q E s := by
  (refine wpAny_call ?_; k_dflt ktr_enter; k_steps)
  all_goals exact hret _ _ _ (by assumption)
theorem writtenT2 {t : Addr} {n : Nat} {l sep : Str} {o1 : Option Str} {t0 t1 tk : Tok} (B : Below A₀ base outer h₀) (F : Fr h₀ L s.heap m) (X : (Mine.hd.heap_39 w.params).In h₀) (T : Top Mine.hd.view_39 (looseW Mine.hd.view_39 [Str.ofString "Locale", Str.ofString "parse_locale", Str.ofString "get_locale_identifier"]) mean mg mb h₀) (hk : cs.kind = .function) (hd : dp + 4 < recursionLimit) (hu : un + 60 < cLine) (hl : l.length ≤ 1000) (ho1 : ∀ x, o1 = some x → x.length ≤ 1000) (hs : sep.length ≤ 16)
   (ht : s.heap.get? t = some (tupO [.str l t0, pv o1 t1] n))
   (hret : ∀ (t' : Tok) (h' : Heap) (tk' : Nat), Kp s.heap h' → Q (.str (writtenF l o1 none none none (sep)) t') { s with heap := h', toks := tk' }) :
   wpAny (model PySem.Challenge.rw_bd5005_01.row.prog w) (ktrTop dp un gd cn cs L a ccd cl outer) (call (.ref 231) [.ref t, .str sep tk]) Q E s := by
  (refine wpAny_call ?_; k_dflt ktr_enter; k_steps)
  all_goals exact hret _ _ _ (by assumption)
theorem writtenT3 {t : Addr} {n : Nat} {l sep : Str} {o1 o2 : Option Str} {t0 t1 t2 tk : Tok} (B : Below A₀ base outer h₀) (F : Fr h₀ L s.heap m) (X : (Mine.hd.heap_39 w.params).In h₀) (T : Top Mine.hd.view_39 (looseW Mine.hd.view_39 [Str.ofString "Locale", Str.ofString "parse_locale", Str.ofString "get_locale_identifier"]) mean mg mb h₀) (hk : cs.kind = .function) (hd : dp + 4 < recursionLimit) (hu : un + 60 < cLine) (hl : l.length ≤ 1000) (ho1 : ∀ x, o1 = some x → x.length ≤ 1000) (ho2 : ∀ x, o2 = some x → x.length ≤ 1000) (hs : sep.length ≤ 16)
   (ht : s.heap.get? t = some (tupO [.str l t0, pv o1 t1, pv o2 t2] n))
   (hret : ∀ (t' : Tok) (h' : Heap) (tk' : Nat), Kp s.heap h' → Q (.str (writtenF l o1 o2 none none (sep)) t') { s with heap := h', toks := tk' }) :
   wpAny (model PySem.Challenge.rw_bd5005_01.row.prog w) (ktrTop dp un gd cn cs L a ccd cl outer) (call (.ref 231) [.ref t, .str sep tk]) Q E s := by
  (refine wpAny_call ?_; k_dflt ktr_enter; k_steps)
  all_goals exact hret _ _ _ (by assumption)
theorem writtenT4 {t : Addr} {n : Nat} {l sep : Str} {o1 o2 o3 : Option Str} {t0 t1 t2 t3 tk : Tok} (B : Below A₀ base outer h₀) (F : Fr h₀ L s.heap m) (X : (Mine.hd.heap_39 w.params).In h₀) (T : Top Mine.hd.view_39 (looseW Mine.hd.view_39 [Str.ofString "Locale", Str.ofString "parse_locale", Str.ofString "get_locale_identifier"]) mean mg mb h₀) (hk : cs.kind = .function) (hd : dp + 4 < recursionLimit) (hu : un + 60 < cLine) (hl : l.length ≤ 1000) (ho1 : ∀ x, o1 = some x → x.length ≤ 1000) (ho2 : ∀ x, o2 = some x → x.length ≤ 1000) (ho3 : ∀ x, o3 = some x → x.length ≤ 1000) (hs : sep.length ≤ 16)
   (ht : s.heap.get? t = some (tupO [.str l t0, pv o1 t1, pv o2 t2, pv o3 t3] n))
   (hret : ∀ (t' : Tok) (h' : Heap) (tk' : Nat), Kp s.heap h' → Q (.str (writtenF l o1 o2 o3 none (sep)) t') { s with heap := h', toks := tk' }) :
   wpAny (model PySem.Challenge.rw_bd5005_01.row.prog w) (ktrTop dp un gd cn cs L a ccd cl outer) (call (.ref 231) [.ref t, .str sep tk]) Q E s := by
  (refine wpAny_call ?_; k_dflt ktr_enter; k_steps)
  all_goals exact hret _ _ _ (by assumption)
theorem writtenT5 {t : Addr} {n : Nat} {l sep : Str} {o1 o2 o3 o4 : Option Str} {t0 t1 t2 t3 t4 tk : Tok} (B : Below A₀ base outer h₀) (F : Fr h₀ L s.heap m) (X : (Mine.hd.heap_39 w.params).In h₀) (T : Top Mine.hd.view_39 (looseW Mine.hd.view_39 [Str.ofString "Locale", Str.ofString "parse_locale", Str.ofString "get_locale_identifier"]) mean mg mb h₀) (hk : cs.kind = .function) (hd : dp + 4 < recursionLimit) (hu : un + 60 < cLine) (hl : l.length ≤ 1000) (ho1 : ∀ x, o1 = some x → x.length ≤ 1000) (ho2 : ∀ x, o2 = some x → x.length ≤ 1000) (ho3 : ∀ x, o3 = some x → x.length ≤ 1000) (ho4 : ∀ x, o4 = some x → x.length ≤ 1000) (hs : sep.length ≤ 16)
   (ht : s.heap.get? t = some (tupO [.str l t0, pv o1 t1, pv o2 t2, pv o3 t3, pv o4 t4] n))
   (hret : ∀ (t' : Tok) (h' : Heap) (tk' : Nat), Kp s.heap h' → Q (.str (writtenF l o1 o2 o3 o4 (sep)) t') { s with heap := h', toks := tk' }) :
   wpAny (model PySem.Challenge.rw_bd5005_01.row.prog w) (ktrTop dp un gd cn cs L a ccd cl outer) (call (.ref 231) [.ref t, .str sep tk]) Q E s := by
  (refine wpAny_call ?_; k_dflt ktr_enter; k_steps)
  all_goals exact hret _ _ _ (by assumption)
theorem writtenT6 {t : Addr} {n : Nat} {l sep e1 : Str} {o1 o2 o3 o4 : Option Str} {t0 t1 t2 t3 t4 t5 tk : Tok} (B : Below A₀ base outer h₀) (F : Fr h₀ L s.heap m) (X : (Mine.hd.heap_39 w.params).In h₀) (T : Top Mine.hd.view_39 (looseW Mine.hd.view_39 [Str.ofString "Locale", Str.ofString "parse_locale", Str.ofString "get_locale_identifier"]) mean mg mb h₀) (hk : cs.kind = .function) (hd : dp + 4 < recursionLimit) (hu : un + 60 < cLine) (hl : l.length ≤ 1000) (ho1 : ∀ x, o1 = some x → x.length ≤ 1000) (ho2 : ∀ x, o2 = some x → x.length ≤ 1000) (ho3 : ∀ x, o3 = some x → x.length ≤ 1000) (ho4 : ∀ x, o4 = some x → x.length ≤ 1000) (hs : sep.length ≤ 16)
   (ht : s.heap.get? t = some (tupO [.str l t0, pv o1 t1, pv o2 t2, pv o3 t3, pv o4 t4, .str e1 t5] n))
   (hret : ∀ (t' : Tok) (h' : Heap) (tk' : Nat), Kp s.heap h' → Q (.str (writtenF l o1 o2 o3 o4 (sep)) t') { s with heap := h', toks := tk' }) :
   wpAny (model PySem.Challenge.rw_bd5005_01.row.prog w) (ktrTop dp un gd cn cs L a ccd cl outer) (call (.ref 231) [.ref t, .str sep tk]) Q E s := by
  (refine wpAny_call ?_; k_dflt ktr_enter; k_steps)
  all_goals exact hret _ _ _ (by assumption)
theorem writtenT7 {t : Addr} {n : Nat} {l sep e1 e2 : Str} {o1 o2 o3 o4 : Option Str} {t0 t1 t2 t3 t4 t5 t6 tk : Tok} (B : Below A₀ base outer h₀) (F : Fr h₀ L s.heap m) (X : (Mine.hd.heap_39 w.params).In h₀) (T : Top Mine.hd.view_39 (looseW Mine.hd.view_39 [Str.ofString "Locale", Str.ofString "parse_locale", Str.ofString "get_locale_identifier"]) mean mg mb h₀) (hk : cs.kind = .function) (hd : dp + 4 < recursionLimit) (hu : un + 60 < cLine) (hl : l.length ≤ 1000) (ho1 : ∀ x, o1 = some x → x.length ≤ 1000) (ho2 : ∀ x, o2 = some x → x.length ≤ 1000) (ho3 : ∀ x, o3 = some x → x.length ≤ 1000) (ho4 : ∀ x, o4 = some x → x.length ≤ 1000) (hs : sep.length ≤ 16)
   (ht : s.heap.get? t = some (tupO [.str l t0, pv o1 t1, pv o2 t2, pv o3 t3, pv o4 t4, .str e1 t5, .str e2 t6] n))
   (hret : ∀ (t' : Tok) (h' : Heap) (tk' : Nat), Kp s.heap h' → Q (.str (writtenF l o1 o2 o3 o4 (sep)) t') { s with heap := h', toks := tk' }) :
   wpAny (model PySem.Challenge.rw_bd5005_01.row.prog w) (ktrTop dp un gd cn cs L a ccd cl outer) (call (.ref 231) [.ref t, .str sep tk]) Q E s := by
  (refine wpAny_call ?_; k_dflt ktr_enter; k_steps)
  all_goals exact hret _ _ _ (by assumption)
end

theorem off18 : True := by
  w_top off
  trivial
def bodyOfM (c n : Nat) : List Stmt := match PySem.Challenge.pw_bd5005_01.main.body.drop c with
  | .ClassDef _ _ _ b .. :: _ => (match b.drop n with
    | .FunctionDef _ _ b _ _ _ _ _ _ _ :: _ => b
    | _ => [])
  | _ => []
def scopeOfM (c n : Nat) : PySem.Scope := match PySem.Challenge.pw_bd5005_01.main.body.drop c with
  | .ClassDef _ _ _ b .. :: _ => (match b.drop n with
    | .FunctionDef _ _ _ _ _ _ sc _ _ _ :: _ => sc
    | _ => default)
  | _ => default
def ifOfM (c n k j : Nat) : Stmt := match (bodyOfM c n).drop k with
  | .For _ _ b _ _ :: _ => (match b.drop j with
    | s :: _ => s
    | _ => default)
  | _ => default
abbrev apo : Str := Str.ofString "'"
/-- a text whose repr is itself in apostrophes -/
def plainRepr (x : Str) : Prop := reprText x = apo ++ x ++ apo
/-- what __repr__ adds for a part -/
def addR (k : Str) (o : Option Str) : List Str := match o with
  | none => []
  | some x => [k ++ Str.ofString "=" ++ (apo ++ x ++ apo)]
theorem addR_le {k : Str} {o : Option Str} {xs : List Str} (hk : k.length ≤ 1000) (ho : ∀ x, o = some x → x.length ≤ 1000 ∧ plainRepr x) :
    ((xs ++ addR k o).map (·.length)).sum ≤ (xs.map (·.length)).sum + 2005 ∧ (xs ++ addR k o).length ≤ xs.length + 1 := by
  rw [List.map_append, List.sum_append, List.length_append]
  cases o with
  | none => exact ⟨Nat.add_le_add_left (Nat.zero_le _) _, Nat.add_le_add_left (Nat.zero_le _) _⟩
  | some x =>
    have hx := (ho x rfl).1
    refine ⟨Nat.add_le_add_left ?_ _, Nat.le_refl _⟩
    show (k ++ Str.ofString "=" ++ (apo ++ x ++ apo)).length + 0 ≤ 2005
    simp only [Str.length_append]
    show k.length + 1 + (1 + x.length + 1) + 0 ≤ 2005
    omega
section
variable {prog : Program} {w : World} {A : Around} {E : Value → Shared → Prop} {s : Shared} {x : Str} {t : Tok}
theorem pyReprObj_q {Q : Value → Shared → Prop} (hq : plainRepr x) (hx : x.length ≤ 1000) (h : ∀ t' tk, (apo ++ x ++ apo).length ≤ 1002 → Q (.str (apo ++ x ++ apo) t') { s with toks := tk }) : wpAny (model prog w) A (pyReprObj (.str x t)) Q E s := by
  have hlen : (apo ++ x ++ apo).length ≤ 1002 := by simp only [Str.length_append]; show 1 + x.length + 1 ≤ _; omega
  refine pyReprObj_str ?_ ?_
  · rw [hq]; exact h _ _ hlen
  · rw [hq, sizeLine_eq]; omega
end
local macro_rules | `(tactic| walk_at "pyReprObj str") => `(tactic| (k_here; k_dflt (refine' pyReprObj_q ?q ?x ?_; (case q => assumption); (case x => assumption)); intro t' tk' hlen'))
section
variable {w : World} {A A₀ : Around} {base g : Heap} {L P : Addr} {m mg mb : Str → Option Value} {mean : ExcName → Option Value} {s : Shared} {Q : Flow → Shared → Prop} {E : Value → Shared → Prop} {outer : List Env} {news : List (Addr × Obj)}
theorem repr_if {news' : Obj → List (Addr × Obj)} {k : Str} {o : Option Str} {t0 t1 : Tok} {ws : List Value} {xs : List Str} {c : Nat} (B : Below A₀ base outer g) (F : Fr g L s.heap m) (N : News g L s.heap news) (X : (Mine.hd.heap_39 w.params).In g)
   (T : Top Mine.hd.view_39 (looseW Mine.hd.view_39 [Str.ofString "Locale", Str.ofString "parse_locale", Str.ofString "get_locale_identifier"]) mean mg mb g)
   (ho : ∀ x, o = some x → x.length ≤ 1000 ∧ plainRepr x) (hk : k.length ≤ 1000) (hP : (P, listOf ws.toArray c) ∈ news) (hup : ∀ o', Upd P (listOf ws.toArray c) o' news (news' o')) (hsame : news' (listOf ws.toArray c) = news) (hws : StrsAre ws xs) (hl : ws.length ≤ 1000)
   (m0 : m (Str.ofString "value") = some (pv o t0)) (m1 : m (Str.ofString "key") = some (.str k t1)) (m2 : m (Str.ofString "parameters") = some (.ref P))
   (hret : ∀ (ws' : List Value) (c' : Nat) (h' : Heap) (tk' : Nat), ws'.length ≤ ws.length + 1 → ((xs ++ addR k o).map (·.length)).sum ≤ (xs.map (·.length)).sum + 2005 → (xs ++ addR k o).length ≤ xs.length + 1 → StrsAre ws' (xs ++ addR k o) → Fr g L h' m → News g L h' (news' (listOf ws'.toArray c')) → Q .next { s with heap := h', toks := tk' }) :
   wpAny (model PySem.Challenge.rw_bd5005_01.row.prog w) A (exec (ifOfM 4 4 1 1) (envOf (Str.ofString "Locale.__repr__") (scopeOfM 4 4) L 95 (.ref 94))) Q E s := by
  have hb := addR_le (xs := xs) hk ho
  have kv : ∀ p ∈ [(Str.ofString "value", pv o t0), (Str.ofString "key", .str k t1), (Str.ofString "parameters", .ref P)], m p.1 = some p.2 := by
    intro p hp
    simp only [List.mem_cons, List.not_mem_nil, or_false] at hp
    rcases hp with rfl | rfl | rfl <;> assumption
  unfold ifOfM bodyOfM scopeOfM PySem.Challenge.pw_bd5005_01
  dsimp only [List.drop]
  clear m0 m1 m2
  replace F := fr_kv _ F kv
  have ne := names_eq kv
  clear kv
  cases o with
  | none =>
    simp only [pv_none] at *
    k_steps
    rw [ne] at F
    exact hret ws c _ _ (by omega) hb.1 hb.2 (by rw [show xs ++ addR k none = xs from List.append_nil xs]; exact hws) F (by rw [hsame]; exact N)
  | some x =>
    obtain ⟨hx, hq⟩ := ho x rfl
    simp only [pv_some] at *
    k_steps
    refine append_K (by k_asm) (by k_asm) (hup _) (fun h' F' N' => ?_) (by rw [List.size_toArray, sizeLine_eq]; omega)
    rw [List.push_toArray] at N'
    rw [ne] at F'
    clear F N
    k_steps
    have e : addR k (some x) = [Str.empty ++ k ++ Str.ofString "=" ++ (apo ++ x ++ apo)] := by rw [Str.empty_append]; rfl
    exact hret _ _ _ _ (by rw [List.length_append]; exact Nat.le_refl _) hb.1 hb.2 (by rw [e]; exact StrsAre.append' hws (.cons _ _ .nil)) F' N'
end

theorem off19 : True := by
  w_top off
  trivial
section
variable {prog : Program} {w : World} {A : Around} {E : Value → Shared → Prop} {s : Shared} {x : Str} {t : Tok} {Q : Value → Shared → Prop}
theorem join_listL {D : Addr} {ws : List Value} {ys : List Str} (hl : s.heap.IsList D ws.toArray) (hi : StrsAre ws ys) (hsep : x.length ≤ 16) (hw : (ys.map (·.length)).sum + ys.length ≤ 1048576)
    (h : ∀ t' k, (Txt.join x ys).length ≤ (ys.map (·.length)).sum + ys.length * 16 → Q (.str (Txt.join x ys) t') { s with toks := k }) : wpAny (model prog w) A (call (.builtin "str.join") [.str x t, .ref D]) Q E s :=
  join_listW hl (by simpa using hi) hsep hw fun t' k => h t' k (join_len (Nat.le_refl _) (Nat.le_refl _) hsep)
end
local macro_rules | `(tactic| walk_at "exec If") => `(tactic| (k_here; (with_reducible show wpAny _ _ (exec (PySem.Stmt.If _ _ _ _) (envOf (Str.ofString "Locale.__repr__") _ _ _ _)) _ _ _); k_dflt (refine' repr_if ?B ?F ?N ?X ?T ?o ?k ?P ?up ?same ?ws ?l ?m0 ?m1 ?m2 ?_; (case B => k_asm); (case F => k_asm); (case N => k_asm); (case X => k_asm); (case T => k_asm); (case m0 => exact rfl); (case m1 => exact rfl); (case m2 => exact rfl); (case P => k_mem); (case up => (intro o'; k_upd)); (case same => exact rfl); (case ws => first | assumption | exact StrsAre.cons _ _ .nil); (case l => first | exact Nat.le_of_ble_eq_true rfl | omega); (case k => decide +kernel); (case o => assumption); k_whole); intro ws' c' h' tk' hl' hs1' hs2' hws' F' N'; (try simp only [List.length_cons, List.length_nil, List.map_cons, List.map_nil, List.sum_cons, List.sum_nil] at hl' hs1' hs2'); (try dsimp only at N'); (try k_sweep)))
local macro_rules | `(tactic| walk_at "call builtin:str.join") => `(tactic| (k_here; (with_reducible show wpAny _ _ (call (Value.builtin _) [Value.str _ _, Value.ref _]) _ _ _); k_dflt (refine' join_listL ?a ?b ?c ?d ?_; (case a => exact News.isList (by k_asm) (by k_mem)); (case b => assumption); (case c => decide +kernel); (case d => omega)); intro t' k' hj'))
/-- what __repr__ gives back -/
def reprF (l : Str) (o1 o2 o3 o4 : Option Str) : Str := Str.ofString "Locale(" ++ (apo ++ l ++ apo) ++
  Txt.join (Str.ofString ", ") ([Str.ofString ""] ++ addR (Str.ofString "territory") o1 ++ addR (Str.ofString "script") o2 ++ addR (Str.ofString "variant") o3 ++ addR (Str.ofString "modifier") o4) ++ Str.ofString ")"
section
variable {w : World} {dp un : Nat} {gd : Option (List Code)} {cn : Str} {cs : Scope} {a : Addr} {ccd : Value} {cl : List (Str × Addr)} {outer : List Env} {A₀ : Around} {base h₀ : Heap} {L : Addr} {m mg mb : Str → Option Value} {mean : ExcName → Option Value} {s : Shared} {Q E : Value → Shared → Prop} {news : List (Addr × Obj)}
theorem reprL {x dx : Addr} {t0 t1 t2 t3 t4 t5 tl tx1 tx2 tx3 tx4 : Tok} {l : Str} {o1 o2 o3 o4 : Option Str} {vd : Value}
   (B : Below A₀ base outer h₀) (F : Fr h₀ L s.heap m) (X : (Mine.hd.heap_39 w.params).In h₀) (T : Top Mine.hd.view_39 (looseW Mine.hd.view_39 [Str.ofString "Locale", Str.ofString "parse_locale", Str.ofString "get_locale_identifier"]) mean mg mb h₀) (hk : cs.kind = .function) (hd : dp + 8 < recursionLimit) (hu : un + 100 < cLine) (hl : l.length ≤ 1000) (hq : plainRepr l) (ho1 : ∀ x, o1 = some x → x.length ≤ 1000 ∧ plainRepr x) (ho2 : ∀ x, o2 = some x → x.length ≤ 1000 ∧ plainRepr x) (ho3 : ∀ x, o3 = some x → x.length ≤ 1000 ∧ plainRepr x) (ho4 : ∀ x, o4 = some x → x.length ≤ 1000 ∧ plainRepr x)
   (hx : s.heap.get? x = some (instObj 177 dx)) (hdx : s.heap.get? dx = some (dictOf (locD w.params t0 t1 t2 t3 t4 t5 (.str l tl) (pv o1 tx1) (pv o2 tx2) (pv o3 tx3) (pv o4 tx4) vd) 6))
   (hret : ∀ (t' : Tok) (h' : Heap) (tk' : Nat), Kp s.heap h' → Q (.str (reprF l o1 o2 o3 o4) t') { s with heap := h', toks := tk' }) :
   wpAny (model PySem.Challenge.rw_bd5005_01.row.prog w) (ktrTop dp un gd cn cs L a ccd cl outer) (call (.ref 95) [.ref x]) Q E s := by
  have he : (Str.ofString "").length = 0 := by decide +kernel
  (refine wpAny_call ?_; k_dflt ktr_enter; k_steps)
  all_goals refine ret_str (s := s) (Q := Q) hret ?_ (kp_fr (by k_asm))
  all_goals rw [Str.empty_append]; rfl
end

theorem off20 : True := by
  w_top off
  trivial
theorem nA (I a b : Nat) (h : a ≠ b) : I + a ≠ I + b := by omega
theorem nB (l I k : Nat) (h : l < I) : l ≠ I + k := by omega
section
variable {prog : Program} {w : World} {A : Around} {E : Value → Shared → Prop} {s : Shared}

/-- one step of a tuple's iterator: the member that stands there, or the end -/
theorem tup_step (it l : Addr) (i : Nat) (items : Array Value) :
    Meets (Builtin.«tuple_iterator.__next__» ⟨[.ref it], []⟩) (fun A R s => A.handled = none ∧ s.heap.IsTupleIter it l i ∧ s.heap.IsTuple l items ∧
      (∀ x h', items[i]? = some x → h'.IsTupleIter it l (i + 1) → Heap.SameBut it s.heap h' → R (.ok (.ret x)) { s with heap := h' }) ∧
      (∀ h' e, items[i]? = none → Heap.ExtBut it s.heap h' → (∃ o, h'.get? e = some o ∧ o.cls = .type "StopIteration") → R (.error (.ref e)) { s with heap := h' })) :=
  .of_wp fun prog w A R s h => by
    obtain ⟨hp, g, d, tk, os⟩ := s
    obtain ⟨hh, ⟨⟨c, di, da, sl⟩, ho, hc, hd⟩, ⟨tup, hl, _, _, hm⟩, hQ, hE⟩ := h
    have hh' : A.in1.handled = none := hh
    dsimp only at hc hd
    subst hc hd
    wp_walk using wpAny_field ho rfl (x := .ref l) rfl, wpAny_field ho rfl (x := .int i 0) rfl, wpAny_seqItems hl hm
    rw [Int.toNat_natCast]
    split
    · rename_i x hx
      exact wpAny_bind (wpAny_setField ho rfl Nat.one_lt_two (wpAny_pure ⟨x, rfl, hQ x _ hx ⟨_, Heap.get?_update_self _ ho rfl, rfl, rfl⟩ (Heap.SameBut.update ..)⟩))
    · rename_i hx
      have end' : ∀ h' e, Heap.ExtBut it hp h' → (∃ o, h'.get? e = some o ∧ o.cls = .type "StopIteration") → R (.error (.ref e)) ⟨h', g, d, tk, os⟩ := fun h' e => hE h' e hx
      refine wpAny_bind (wpAny_rule (wpAny_bind (wpAny_setField ho rfl Nat.two_pos ?_)))
      wp_walk
      exact wpAny_raiseNew_none hh' (end' _ _ (((Heap.SameBut.update ..).extBut.push _).push _) ⟨_, Heap.get?_push_size _ rfl, rfl⟩)
theorem tupNext {it l : Addr} {i : Nat} {items : Array Value} {Q : Value → Shared → Prop} (hh : A.handled = none) (hit : s.heap.IsTupleIter it l i) (hl : s.heap.IsTuple l items)
    (hQ : ∀ x h', items[i]? = some x → h'.IsTupleIter it l (i + 1) → Heap.SameBut it s.heap h' → Q x { s with heap := h' })
    (hE : ∀ h' e, items[i]? = none → Heap.ExtBut it s.heap h' → (∃ o, h'.get? e = some o ∧ o.cls = .type "StopIteration") → E (.ref e) { s with heap := h' }) :
    wpAny (model prog w) A (Builtin.SmallTypes.nextOf (.ref it)) Q E s := by
  unfold Builtin.SmallTypes.nextOf
  exact wpAny_bind (wpAny_callSpecial?_slot (name := Str.ofString "__next__") hit.typeIs F.slot_tuple_iterator_next
    (call_meets F.slot_tuple_iterator_next hit.typeIs F.entry_tuple_iterator_next (F.args_tuple_iterator_next_1 _) (tup_step it l i items)
      ⟨hh, hit, hl, fun x h' q1 q2 q3 => wpAny_pure (hQ x h' q1 q2 q3), fun h' e q1 q2 q3 => hE h' e q1 q2 q3⟩))

/-- what stands while a zip of the two tuples l1, l2 is on its way: five objects from I on -/
abbrev ZT (I l1 l2 : Addr) (xs ys : Array Value) (i : Nat) (f0 : Value) (h : Heap) : Prop :=
  IsZip h (I + 4) (I + 2) (I + 3) f0 ∧ IsPair h (I + 2) (.ref I) (.ref (I + 1)) ∧ (∃ a b, IsPair h (I + 3) a b) ∧ h.IsTupleIter I l1 i ∧ h.IsTupleIter (I + 1) l2 i ∧ h.IsTuple l1 xs ∧ h.IsTuple l2 ys

theorem zt_next {I l1 l2 : Addr} {xs ys : Array Value} {i : Nat} {Q : Option Value → Shared → Prop} (hh : A.handled = none) (b1 : l1 < I) (b2 : l2 < I) (hsz : xs.size = ys.size) (Z : ZT I l1 l2 xs ys i .none s.heap)
    (hQ : ∀ x y h', xs[i]? = some x → ys[i]? = some y → ZT I l1 l2 xs ys (i + 1) (rawInt s.heap.objs.size) h' → IsPair h' s.heap.objs.size x y →
      (∀ c o, c ≠ I + 4 → c ≠ I + 3 → c ≠ I → c ≠ I + 1 → s.heap.get? c = some o → h'.get? c = some o) → Q (some (.ref s.heap.objs.size)) { s with heap := h' })
    (hN : ∀ h', xs[i]? = none → (∀ c o, c ≠ I + 4 → c ≠ I + 3 → c ≠ I → c ≠ I + 1 → s.heap.get? c = some o → h'.get? c = some o) → Q none { s with heap := h' }) :
    wpAny (model prog w) A (pyNext (.ref (I + 4))) Q E s := by
  obtain ⟨hz, hTI, ⟨a, b, hTO⟩, h1, h2, hl1, hl2⟩ := Z
  have hT : s.TypeIs (.ref (I + 4)) "zip" := ⟨_, hz, rfl⟩
  have e43 : (I + 3 : Addr) ≠ I + 4 := nA I 3 4 (by decide)
  have e42 : (I + 2 : Addr) ≠ I + 4 := nA I 2 4 (by decide)
  have e41 : (I + 1 : Addr) ≠ I + 4 := nA I 1 4 (by decide)
  have e40 : (I : Addr) ≠ I + 4 := nA I 0 4 (by decide)
  have e23 : (I + 2 : Addr) ≠ I + 3 := nA I 2 3 (by decide)
  have e13 : (I + 1 : Addr) ≠ I + 3 := nA I 1 3 (by decide)
  have e03 : (I : Addr) ≠ I + 3 := nA I 0 3 (by decide)
  have e20 : (I + 2 : Addr) ≠ I := nA I 2 0 (by decide)
  have e21 : (I + 2 : Addr) ≠ I + 1 := nA I 2 1 (by decide)
  have e10 : (I + 1 : Addr) ≠ I := nA I 1 0 (by decide)
  have p4 : (l1 : Addr) ≠ I + 4 := nB l1 I 4 b1
  have p3 : (l1 : Addr) ≠ I + 3 := nB l1 I 3 b1
  have p1 : (l1 : Addr) ≠ I + 1 := nB l1 I 1 b1
  have p0 : (l1 : Addr) ≠ I := nB l1 I 0 b1
  have q4 : (l2 : Addr) ≠ I + 4 := nB l2 I 4 b2
  have q3 : (l2 : Addr) ≠ I + 3 := nB l2 I 3 b2
  have q1 : (l2 : Addr) ≠ I + 1 := nB l2 I 1 b2
  have q0 : (l2 : Addr) ≠ I := nB l2 I 0 b2
  unfold pyNext
  refine wpAny_bind (wpAny_attempt (wpAny_callSpecial?_slot (name := Str.ofString "__next__") hT F.slot_zip_next
    (wpAny_call_entry F.slot_zip_next hT F.entry_zip_next ?_ (F.args_zip_next_1 _))))
  show wpAny _ _ (field (.ref (I + 4)) 2 >>= _) _ _ _
  refine wpAny_bind (wpAny_field hz rfl (x := .bool false) rfl ?_)
  show wpAny _ _ (field (.ref (I + 4)) 3 >>= _) _ _ _
  refine wpAny_bind (wpAny_field hz rfl (x := .ref (I + 2)) rfl ?_)
  refine wpAny_bind (wpAny_seqItems hTI rfl ?_)
  show wpAny _ _ (Builtin.SmallTypes.ownedTupleIsFree (.ref (I + 4)) >>= _) _ _ _
  refine wpAny_bind ?_
  unfold Builtin.SmallTypes.ownedTupleIsFree
  refine wpAny_bind (wpAny_field hz rfl (x := .none) rfl (wpAny_pure ?_))
  simp only [if_true]
  refine wpAny_bind (wpAny_rule ?_)
  refine wpAny_bind (wpAny_field hz rfl (x := .ref (I + 3)) rfl ?_)
  refine wpAny_bind (wpAny_setField_rec hz (by simp) fun h₁ hz₁ hs₁ => ?_)
  replace hz₁ : IsZip h₁ (I + 4) (I + 2) (I + 3) .ellipsis := hz₁
  have k₁ := hs₁.extBut
  refine wpAny_bind ?_
  simp only [List.zipIdx_cons, List.zipIdx_nil, List.forIn_cons, List.forIn_nil]
  refine wpAny_bind (wpAny_bind (wpAny_onRaise ?_))
  show wpAny _ _ (Builtin.SmallTypes.nextOf (.ref I) >>= _) _ _ _
  refine wpAny_bind (tupNext hh (h1.extBut k₁ e40) (hl1.extBut k₁ p4) (fun x h₂ hx h1₂ hs₂ => wpAny_pure ?_) fun h₂ e hx k₂ he => ?_)
  · have k₂ := hs₂.extBut
    have hTO₂ : IsPair h₂ (I + 3) a b := k₂ _ _ e03.symm (k₁ _ _ e43 hTO)
    refine wpAny_bind (wpAny_seqItems hTO₂ rfl ?_)
    refine wpAny_bind (wpAny_updateSeq_pair hTO₂ fun h₃ hTO₃ hs₃ => ?_)
    replace hTO₃ : IsPair h₃ (I + 3) x b := hTO₃
    have k₃ := hs₃.extBut
    refine wpAny_bind (wpAny_letGo (wpAny_pure ?_))
    refine wpAny_bind (wpAny_bind (wpAny_onRaise ?_))
    show wpAny _ _ (Builtin.SmallTypes.nextOf (.ref (I + 1)) >>= _) _ _ _
    have hy : ∃ y, ys[i]? = some y := by
      have hi : i < xs.size := by
        rcases Nat.lt_or_ge i xs.size with q | q
        · exact q
        · rw [Array.getElem?_eq_none q] at hx; cases hx
      exact ⟨ys[i]'(hsz ▸ hi), by simp [hsz ▸ hi]⟩
    obtain ⟨y, hy⟩ := hy
    refine wpAny_bind (tupNext hh (((h2.extBut k₁ e41).extBut k₂ e10).extBut k₃ e13) (((hl2.extBut k₁ q4).extBut k₂ q0).extBut k₃ q3) (fun y' h₄ hy' h2₄ hs₄ => wpAny_pure ?_) fun _ _ hn => absurd (hy.symm.trans hn) (by simp))
    have ey : y' = y := Option.some.inj (hy'.symm.trans hy)
    subst ey
    have k₄ := hs₄.extBut
    have hTO₄ : IsPair h₄ (I + 3) x b := k₄ _ _ e13.symm hTO₃
    refine wpAny_bind (wpAny_seqItems hTO₄ rfl ?_)
    refine wpAny_bind (wpAny_updateSeq_pair hTO₄ fun h₅ hTO₅ hs₅ => ?_)
    replace hTO₅ : IsPair h₅ (I + 3) x y' := hTO₅
    have k₅ := hs₅.extBut
    refine wpAny_bind (wpAny_letGo (wpAny_pure (wpAny_pure ?_)))
    refine wpAny_bind (wpAny_seqItems hTO₅ rfl ?_)
    refine wpAny_bind (wpAny_newTuple ?_)
    have hsz5 : h₅.objs.size = s.heap.objs.size := by rw [hs₅.1, hs₄.1, hs₃.1, hs₂.1, hs₁.1]
    have hz₅ : IsZip h₅ (I + 4) (I + 2) (I + 3) .ellipsis := k₅ _ _ e43.symm (k₄ _ _ e41.symm (k₃ _ _ e43.symm (k₂ _ _ e40.symm hz₁)))
    have hk₅ : ∀ c o, c ≠ I + 4 → c ≠ I + 3 → c ≠ I → c ≠ I + 1 → s.heap.get? c = some o → h₅.get? c = some o := fun c o c1 c2 c3 c4 e =>
      k₅ _ _ c2 (k₄ _ _ c4 (k₃ _ _ c2 (k₂ _ _ c3 (k₁ _ _ c1 e))))
    have h1₅ : h₅.IsTupleIter I l1 (i + 1) := ((h1₂.extBut k₃ e03).extBut k₄ e10.symm).extBut k₅ e03
    have h2₅ : h₅.IsTupleIter (I + 1) l2 (i + 1) := h2₄.extBut k₅ e13
    have zlt : I + 4 < h₅.objs.size := Heap.lt_size hz₅
    show wpAny _ _ (Builtin.SmallTypes.ownedTupleHandOut (.ref (I + 4)) (.ref h₅.objs.size) >>= _) _ _ _
    refine wpAny_bind ?_
    unfold Builtin.SmallTypes.ownedTupleHandOut
    have hz₆ : IsZip (h₅.push { cls := .type "tuple", data := .seq #[x, y'] }) (I + 4) (I + 2) (I + 3) .ellipsis := Heap.get?_push_of_some _ hz₅
    refine wpAny_bind (wpAny_setField_rec hz₆ (by simp) fun h₇ hz₇ hs₇ => ?_)
    replace hz₇ : IsZip h₇ (I + 4) (I + 2) (I + 3) (rawInt h₅.objs.size) := hz₇
    refine wpAny_setField_rec hz₇ (by simp) fun h₈ hz₈ hs₈ => ?_
    replace hz₈ : IsZip h₈ (I + 4) (I + 2) (I + 3) (rawInt h₅.objs.size) := hz₈
    have up : ∀ c o, c ≠ I + 4 → h₅.get? c = some o → h₈.get? c = some o := fun c o c1 e => hs₈.extBut _ _ c1 (hs₇.extBut _ _ c1 (Heap.get?_push_of_some _ e))
    have hT₈ : IsPair h₈ h₅.objs.size x y' := hs₈.extBut _ _ (Nat.ne_of_gt zlt) (hs₇.extBut _ _ (Nat.ne_of_gt zlt) (Heap.get?_push_size _ rfl))
    rw [hsz5] at hz₈ hT₈
    refine wpAny_pure ⟨_, rfl, ?_⟩
    refine wpAny_pure ?_
    show Q (some (.ref h₅.objs.size)) _
    rw [hsz5]
    refine hQ x y' h₈ hx hy ⟨hz₈, up _ _ e42 (hk₅ _ _ e42 e23 e20 e21 hTI), ⟨_, _, up _ _ e43 hTO₅⟩, h1₅.at fun o e => up _ o e40 e, h2₅.at fun o e => up _ o e41 e, hl1.at fun o e => up _ o p4 (hk₅ _ o p4 p3 p0 p1 e), hl2.at fun o e => up _ o q4 (hk₅ _ o q4 q3 q0 q1 e)⟩ hT₈ fun c o c1 c2 c3 c4 e => up c o c1 (hk₅ c o c1 c2 c3 c4 e)
  · obtain ⟨oe, hoe, hce⟩ := he
    have hz₂ : IsZip h₂ (I + 4) (I + 2) (I + 3) .ellipsis := k₂ _ _ e40.symm hz₁
    have hez : e ≠ I + 4 := fun x => by subst x; rw [hz₂] at hoe; cases hoe; simp at hce
    refine wpAny_setField_rec hz₂ (by simp) fun h₃ _ hs₃ => ?_
    refine wpAny_bind (wpAny_isInstance (T := "StopIteration") (b := true) ⟨oe, hs₃.extBut _ _ hez hoe, hce⟩ isSubtype_stop ?_)
    exact wpAny_pure (hN _ hx fun c o c1 _ c3 _ x => hs₃.extBut _ _ c1 (k₂ _ _ c3 (k₁ _ _ c1 x)))

theorem KTurns.zipT {elts : List Expr} {k : Nat} {pos : Pos} {I l1 l2 : Addr} {xs ys : Array Value} (hh : A.handled = none) (b1 : l1 < I) (b2 : l2 < I) (hsz : xs.size = ys.size) :
    KTurns prog w A (.Tuple elts k pos) (I + 4) [I + 4, I + 2, I + 3, I, I + 1, l1, l2] [I + 4, I + 3, I, I + 1] xs.size
      (fun i v h => ∃ T x y, v = .ref T ∧ xs[i]? = some x ∧ ys[i]? = some y ∧ IsPair h T x y)
      (fun i v h => ∃ T x y, v = .ref T ∧ xs[i]? = some x ∧ ys[i]? = some y ∧ IsPair h T x y ∧ ZT I l1 l2 xs ys (i + 1) (rawInt T) h ∧ T ≠ I + 4)
      (fun i h => ZT I l1 l2 xs ys i .none h) where
  sub := fun c hc => by simp at hc ⊢; rcases hc with rfl | rfl | rfl | rfl <;> simp
  frame := fun i h h' hst hk => by
    obtain ⟨hz, hTI, ⟨a, b, hTO⟩, h1, h2, hl1, hl2⟩ := hst
    exact ⟨hk _ (by simp) _ hz, hk _ (by simp) _ hTI, ⟨a, b, hk _ (by simp) _ hTO⟩, h1.at fun o e => hk _ (by simp) o e, h2.at fun o e => hk _ (by simp) o e,
      hl1.at fun o e => hk _ (by simp) o e, hl2.at fun o e => hk _ (by simp) o e⟩
  item := fun i s Q E hi hst hQ => by
    have zl : I + 4 < s.heap.objs.size := Heap.lt_size hst.1
    refine zt_next hh b1 b2 hsz hst (fun x y h' hx hy Z hp hk => ?_) fun h' hx => ?_
    · exact hQ _ h' s.toks ⟨_, x, y, rfl, hx, hy, hp, Z, Nat.ne_of_gt zl⟩ fun c o hc e => hk c o (fun x => hc (by simp [x])) (fun x => hc (by simp [x])) (fun x => hc (by simp [x])) (fun x => hc (by simp [x])) e
    · rw [Array.getElem?_eq_getElem hi] at hx; cases hx
  go := fun i v s Q E hm hQ => by
    obtain ⟨T, x, y, rfl, hx, hy, hp, ⟨hz, hTI, ⟨a, b, hTO⟩, h1, h2, hl1, hl2⟩, hne⟩ := hm
    have e43 : (I + 3 : Addr) ≠ I + 4 := nA I 3 4 (by decide)
    have e42 : (I + 2 : Addr) ≠ I + 4 := nA I 2 4 (by decide)
    have e41 : (I + 1 : Addr) ≠ I + 4 := nA I 1 4 (by decide)
    have e40 : (I : Addr) ≠ I + 4 := nA I 0 4 (by decide)
    have p4 : (l1 : Addr) ≠ I + 4 := nB l1 I 4 b1
    have q4 : (l2 : Addr) ≠ I + 4 := nB l2 I 4 b2
    refine wpAny_letOwnedTupleGo_zip hz fun h' hz' hs' => ?_
    have k := hs'.extBut
    exact hQ h' ⟨T, x, y, rfl, hx, hy, k _ _ hne hp⟩ ⟨hz', k _ _ e42 hTI, ⟨a, b, k _ _ e43 hTO⟩, h1.extBut k e40, h2.extBut k e41, hl1.extBut k p4, hl2.extBut k q4⟩ fun c o hc e => k _ _ (fun x => hc (by simp [x])) e
  done := fun s Q E hst hQ => by
    refine zt_next hh b1 b2 hsz hst (fun x y h' hx => ?_) fun h' hx hk => ?_
    · simp at hx
    · exact hQ h' s.toks fun c o hc e => hk c o (fun x => hc (by simp [x])) (fun x => hc (by simp [x])) (fun x => hc (by simp [x])) (fun x => hc (by simp [x])) e
end
abbrev zt1 (h : Heap) (l1 : Addr) : Heap := h.push { cls := .type "tuple_iterator", data := .fields #[.ref l1, .int 0 0] }
abbrev zt2 (h : Heap) (l1 l2 : Addr) : Heap := (zt1 h l1).push { cls := .type "tuple_iterator", data := .fields #[.ref l2, .int 0 0] }
abbrev zt3 (h : Heap) (l1 l2 : Addr) : Heap := (zt2 h l1 l2).push { cls := .type "tuple", data := .seq #[.ref h.objs.size, .ref (zt1 h l1).objs.size] }
abbrev zt4 (h : Heap) (l1 l2 : Addr) : Heap := (zt3 h l1 l2).push { cls := .type "tuple", data := .seq #[.none, .none] }
abbrev zt5 (h : Heap) (l1 l2 : Addr) : Heap := (zt4 h l1 l2).push { cls := .type "zip", data := .fields #[.none, .bool false, .bool false, .ref (zt2 h l1 l2).objs.size, .ref (zt3 h l1 l2).objs.size] }
theorem zt_made {h : Heap} {l1 l2 : Addr} {xs ys : Array Value} (hl1 : h.IsTuple l1 xs) (hl2 : h.IsTuple l2 ys) :
    (zt4 h l1 l2).objs.size = h.objs.size + 4 ∧ ZT h.objs.size l1 l2 xs ys 0 .none (zt5 h l1 l2) ∧ ∀ c o, h.get? c = some o → (zt5 h l1 l2).get? c = some o := by
  have s1 : (zt1 h l1).objs.size = h.objs.size + 1 := Heap.size_push ..
  have s2 : (zt2 h l1 l2).objs.size = h.objs.size + 2 := by rw [Heap.size_push, s1]
  have s3 : (zt3 h l1 l2).objs.size = h.objs.size + 3 := by rw [Heap.size_push, s2]
  have s4 : (zt4 h l1 l2).objs.size = h.objs.size + 4 := by rw [Heap.size_push, s3]
  have up : ∀ c o, h.get? c = some o → (zt5 h l1 l2).get? c = some o := fun c o e =>
    Heap.get?_push_of_some _ (Heap.get?_push_of_some _ (Heap.get?_push_of_some _ (Heap.get?_push_of_some _ (Heap.get?_push_of_some _ e))))
  have g5 : (zt5 h l1 l2).get? (zt4 h l1 l2).objs.size = some _ := Heap.get?_push_size _ rfl
  have g4 : (zt5 h l1 l2).get? (zt3 h l1 l2).objs.size = some _ := Heap.get?_push_of_some _ (Heap.get?_push_size _ rfl)
  have g3 : (zt5 h l1 l2).get? (zt2 h l1 l2).objs.size = some _ := Heap.get?_push_of_some _ (Heap.get?_push_of_some _ (Heap.get?_push_size _ rfl))
  have g2 : (zt5 h l1 l2).get? (zt1 h l1).objs.size = some _ := Heap.get?_push_of_some _ (Heap.get?_push_of_some _ (Heap.get?_push_of_some _ (Heap.get?_push_size _ rfl)))
  have g1 : (zt5 h l1 l2).get? h.objs.size = some _ := Heap.get?_push_of_some _ (Heap.get?_push_of_some _ (Heap.get?_push_of_some _ (Heap.get?_push_of_some _ (Heap.get?_push_size _ rfl))))
  rw [s2, s3, s4] at g5
  rw [s1, s2] at g3
  rw [s3] at g4
  rw [s1] at g2
  exact ⟨s4, ⟨g5, g3, ⟨_, _, g4⟩, ⟨_, g1, rfl, rfl⟩, ⟨_, g2, rfl, rfl⟩, hl1.at fun o e => up _ o e, hl2.at fun o e => up _ o e⟩, up⟩
theorem iters_new (l1 l2 : Addr) (xs ys : Array Value) :
    Meets (Builtin.«zip.__new__» ⟨[.type "zip", .ref l1, .ref l2], []⟩) (fun _ R s => s.heap.IsTuple l1 xs ∧ s.heap.IsTuple l2 ys ∧
      ∀ h', ZT s.heap.objs.size l1 l2 xs ys 0 .none h' → (∀ c o, s.heap.get? c = some o → h'.get? c = some o) → R (.ok (.ret (.ref (s.heap.objs.size + 4)))) { s with heap := h' }) :=
  .of_wp fun prog w A R s h => by
    obtain ⟨hp, g, d, tk, os⟩ := s; obtain ⟨hl1, hl2, h⟩ := h
    have hsub := sub_zip
    have hL1 : Heap.IsTuple (Shared.heap ⟨hp, g, d, tk, os⟩) l1 xs := hl1
    have hL2 : Heap.IsTuple (Shared.heap ⟨hp.push { cls := .type "tuple_iterator", data := .fields #[.ref l1, .int 0 0] }, g, d, tk, os⟩) l2 ys := Heap.IsTuple.push hl2 _
    wp_walk using wpAny_pyIter_tuple hL1, wpAny_pyIter_tuple hL2
    obtain ⟨e, z, k⟩ := zt_made (h := hp) hl1 hl2
    have q := h _ z k
    rw [← e] at q
    exact ⟨_, rfl, q⟩

section
variable {prog : Program} {w : World} {A : Around} {E : Value → Shared → Prop} {s : Shared} {env : Env} {h₀ : Heap} {body : List Stmt} {Q : Flow → Shared → Prop}

theorem call_zipT {l1 l2 : Addr} {xs ys : Array Value} {Q : Value → Shared → Prop} (hl1 : s.heap.IsTuple l1 xs) (hl2 : s.heap.IsTuple l2 ys)
    (h : ∀ h', ZT s.heap.objs.size l1 l2 xs ys 0 .none h' → (∀ c o, s.heap.get? c = some o → h'.get? c = some o) → Q (.ref (s.heap.objs.size + 4)) { s with heap := h' }) :
    wpAny (model prog w) A (call (.type "zip") [.ref l1, .ref l2]) Q E s :=
  callType_new F.called_zip (by decide) (F.typeCall_zip_2 _ _) (F.newCall_zip_2 _ _) (fun obj => F.args_object_init_3 obj _ _) F.entry_zip_new
    (iters_new l1 l2 xs ys) ⟨hl1, hl2, fun h' z k => ⟨⟨_, z.1, rfl⟩, h h' z k⟩⟩

theorem tup_zip {elts : List Expr} {k : Nat} {pos : Pos} {l1 l2 : Addr} {xs ys : List Value} {n1 n2 : Nat} {m₀ : Str → Option Value} {news : List (Addr × Obj)}
    (hh : A.handled = none) (F : Fr h₀ env.locals s.heap m₀) (N : News h₀ env.locals s.heap news) (hm1 : (l1, tupO xs n1) ∈ news) (hm2 : (l2, tupO ys n2) ∈ news) (hlen : xs.length = ys.length)
    (rest₀ : ∀ I : Addr, (∀ p ∈ news, p.1 < I) → ItemsRest prog w A E h₀ env (.Tuple elts k pos) body Q s [(I + 4, "zip"), (I + 2, "tuple"), (I + 3, "tuple"), (I, "tuple_iterator"), (I + 1, "tuple_iterator")] [(l1, tupO xs n1), (l2, tupO ys n2)] (zipItems xs ys) m₀ news) :
    wpAny (model prog w) A (call (.type "zip") [.ref l1, .ref l2]) (fun xv s₁ => wpAny (model prog w) A (pyIter xv) (fun it s₂ => TurnsAt prog w A h₀ env (.Tuple elts k pos) body Q E it s₂) E s₁) E s := by
  have ax1 := N _ hm1
  have ax2 := N _ hm2
  have lt1 : l1 < s.heap.objs.size := Heap.lt_size ax1.1
  have lt2 : l2 < s.heap.objs.size := Heap.lt_size ax2.1
  have ltL : env.locals < s.heap.objs.size := F.ns.lt
  refine call_zipT (xs := xs.toArray) (ys := ys.toArray) ⟨_, ax1.1, rfl, n1, rfl⟩ ⟨_, ax2.1, rfl, n2, rfl⟩ fun h' z up => ?_
  refine wpAny_pyIter_zip z.1 ?_
  refine ktu_core (tk0 := s.toks) (keep := [(l1, tupO xs n1), (l2, tupO ys n2)]) (KTurns.zipT hh lt1 lt2 (by simpa using hlen)) (by simp [zipItems_length, hlen]) ?_ ?_ ?_ ?_ ?_ ?_ ?_ z (F.keeps up) (N.grown up) (And.intro hm1 (And.intro hm2 trivial)) (rest₀ _ fun p hp => Heap.lt_size (N p hp).1)
  · rintro i v h ⟨T, x, y, rfl, hx, hy, hp⟩
    exact ⟨_, zipItems_get xs ys i (x := x) (y := y) (by simpa using hx) (by simpa using hy), T, 0, rfl, ⟨_, hp, rfl, _, rfl⟩⟩
  · rintro i h ⟨hz, hTI, ⟨a, b, hTO⟩, ⟨o1, ho1, hc1, _⟩, ⟨o2, ho2, hc2, _⟩, _⟩
    obtain ⟨q1, g1, k1⟩ : ∃ o : Obj, h.get? (s.heap.objs.size + 4) = some o ∧ o.cls = .type "zip" := ⟨_, hz, rfl⟩
    obtain ⟨q2, g2, k2⟩ : ∃ o : Obj, h.get? (s.heap.objs.size + 2) = some o ∧ o.cls = .type "tuple" := ⟨_, hTI, rfl⟩
    obtain ⟨q3, g3, k3⟩ : ∃ o : Obj, h.get? (s.heap.objs.size + 3) = some o ∧ o.cls = .type "tuple" := ⟨_, hTO, rfl⟩
    refine ⟨[(s.heap.objs.size + 4, q1), (s.heap.objs.size + 2, q2), (s.heap.objs.size + 3, q3), (s.heap.objs.size, o1), (s.heap.objs.size + 1, o2)], ⟨⟨rfl, k1⟩, ⟨rfl, k2⟩, ⟨rfl, k3⟩, ⟨rfl, hc1⟩, ⟨rfl, hc2⟩, trivial⟩, fun p hp => ?_⟩
    simp only [List.mem_cons, List.not_mem_nil, or_false] at hp
    rcases hp with rfl | rfl | rfl | rfl | rfl
    · exact g1
    · exact g2
    · exact g3
    · exact ho1
    · exact ho2
  · intro b hb
    simp only [List.map_cons, List.map_nil, List.mem_cons, List.not_mem_nil, or_false] at hb
    rcases hb with rfl | rfl | rfl | rfl | rfl
    · exact ⟨by simp, ktu_new F (Nat.le_add_right _ _)⟩
    · exact ⟨by simp, ktu_new F (Nat.le_add_right _ _)⟩
    · exact ⟨by simp, ktu_new F (Nat.le_add_right _ _)⟩
    · exact ⟨by simp, ktu_new F (Nat.le_refl _)⟩
    · exact ⟨by simp, ktu_new F (Nat.le_add_right _ _)⟩
  · intro b hb
    simp only [List.mem_cons, List.not_mem_nil, or_false] at hb
    rcases hb with rfl | rfl | rfl | rfl <;> simp
  · intro b hb
    simp only [List.mem_cons, List.not_mem_nil, or_false] at hb
    rcases hb with rfl | rfl | rfl | rfl | rfl | rfl | rfl
    · exact .inl (by simp)
    · exact .inl (by simp)
    · exact .inl (by simp)
    · exact .inl (by simp)
    · exact .inl (by simp)
    · exact .inr ⟨tupO xs n1, List.mem_cons_self ..⟩
    · exact .inr ⟨tupO ys n2, List.mem_cons_of_mem _ (List.mem_cons_self ..)⟩
  · intro hI
    simp only [List.mem_cons, List.not_mem_nil, or_false] at hI
    rcases hI with e | e | e | e | e | e | e
    · exact nB _ _ 4 ltL e
    · exact nB _ _ 2 ltL e
    · exact nB _ _ 3 ltL e
    · exact nB _ _ 0 ltL e
    · exact nB _ _ 1 ltL e
    · exact ax1.2.1 e.symm
    · exact ax2.2.1 e.symm
  · intro p hp hI
    have hlp := Heap.lt_size (N p hp).1
    simp only [List.mem_cons, List.not_mem_nil, or_false] at hI
    rcases hI with e | e | e | e
    · exact nB _ _ 4 hlp e
    · exact nB _ _ 3 hlp e
    · exact nB _ _ 0 hlp e
    · exact nB _ _ 1 hlp e
end

local macro_rules | `(tactic| walk_at "call type:zip") => `(tactic| (k_here; (with_reducible show wpAny _ _ (call (Value.type _) [Value.ref _, Value.ref _]) (fun xv s₁ => wpAny _ _ (pyIter xv) (fun it s₂ => TurnsAt _ _ _ _ _ _ _ _ _ it s₂) _ s₁) _ _); (rename Fr _ _ _ _ => lF'); (with_unfolding_all refine' tup_zip ?kh lF' ?kN ?k1 ?k2 ?k3 ?_; (case kh => rfl); (case kN => k_asm); (case k1 => k_mem); (case k2 => k_mem); (case k3 => rfl)); clear lF'; intro i' l1; (try k_lt l1)))

theorem off21 : True := by
  w_top off
  trivial
/-- what _law_shown adds for a part -/
def addS (k d : Str) (o : Option Str) : Str := match o with
  | none => d
  | some x => d ++ (Str.ofString ", " ++ k ++ Str.ofString "='" ++ x ++ apo)
theorem addS_len {k d : Str} {o : Option Str} (ho : ∀ x, o = some x → x.length ≤ 1000) (hs : k.length ≤ 1000) : (addS k d o).length ≤ d.length + 2010 := by
  cases o with
  | none => show d.length ≤ _; omega
  | some x =>
    have hx := ho x rfl
    unfold addS
    dsimp only
    simp only [Str.length_append]
    show d.length + (2 + k.length + 2 + x.length + 1) ≤ _
    omega
section
variable {w : World} {A A₀ : Around} {base g : Heap} {L : Addr} {m mg mb : Str → Option Value} {mean : ExcName → Option Value} {s : Shared} {Q : Flow → Shared → Prop} {E : Value → Shared → Prop} {outer : List Env} {news : List (Addr × Obj)}
theorem shown_if {d k : Str} {o : Option Str} {t0 t1 t2 : Tok} (B : Below A₀ base outer g) (F : Fr g L s.heap m) (N : News g L s.heap news) (X : (Mine.hd.heap_39 w.params).In g)
   (T : Top Mine.hd.view_39 (looseW Mine.hd.view_39 [Str.ofString "Locale", Str.ofString "parse_locale", Str.ofString "get_locale_identifier"]) mean mg mb g)
   (ho : ∀ x, o = some x → x.length ≤ 1000) (hd : d.length ≤ 100000) (hs : k.length ≤ 1000)
   (m0 : m (Str.ofString "part") = some (pv o t0)) (m1 : m (Str.ofString "told") = some (.str d t1)) (m2 : m (Str.ofString "name") = some (.str k t2))
   (hret : ∀ (t' : Tok) (h' : Heap) (tk' : Nat), (addS k d o).length ≤ d.length + 2010 → Fr g L h' (fun y => if y = Str.ofString "told" then some (.str (addS k d o) t') else m y) → News g L h' news → Q .next { s with heap := h', toks := tk' }) :
   wpAny (model PySem.Challenge.rw_bd5005_01.row.prog w) A (exec (ifOf 12 1) (envOf (Str.ofString "_law_shown") (scopeOf 12) L 224 (.ref 223))) Q E s := by
  have kv : ∀ p ∈ [(Str.ofString "part", pv o t0), (Str.ofString "told", .str d t1), (Str.ofString "name", .str k t2)], m p.1 = some p.2 := by
    intro p hp
    simp only [List.mem_cons, List.not_mem_nil, or_false] at hp
    rcases hp with rfl | rfl | rfl <;> assumption
  unfold ifOf bodyOf scopeOf PySem.Challenge.pw_bd5005_01
  dsimp only [List.drop]
  have mt : m = fun y => if y = Str.ofString "told" then some (.str d t1) else m y := by
    funext y
    by_cases e : y = Str.ofString "told"
    · rw [if_pos e, e, m1]
    · rw [if_neg e]
  have hlen := addS_len (d := d) ho hs
  clear m0 m1 m2
  replace F := fr_kv _ F kv
  have ne := names_eq kv
  clear kv
  cases o with
  | none =>
    simp only [pv_none] at *
    k_steps
    rw [ne] at F
    exact hret t1 _ _ hlen (by rw [show addS k d none = d from rfl, ← mt]; exact F) N
  | some x =>
    have hx := ho x rfl
    simp only [pv_some] at *
    k_steps
    rename Fr _ _ _ _ => F1
    rename News _ _ _ _ => N1
    rw [ne] at F1
    exact hret _ _ _ hlen F1 N1
end
local macro_rules | `(tactic| walk_at "subscriptTail") => `(tactic| (k_here; (with_reducible show wpAny _ _ (subscriptTail _ _ (Value.ref _) (Value.int _ _)) _ _ _); k_dflt (refine' item_tupleT ?t ?a ?b ?c ?d ?_; (case t => exact tup_base (by k_asm) (by assumption)); (case a => decide); (case b => decide); (case c => exact rfl); (case d => exact rfl); k_whole)))
local macro_rules | `(tactic| walk_at "exec For Tuple Call cons nil") => `(tactic| (k_here; (with_reducible show wpAny _ _ (exec (PySem.Stmt.For (PySem.Expr.Tuple _ _ _) (PySem.Expr.Call (PySem.Expr.Name (Str.ofString "zip") _) _ _ _) _ _ _) _) _ _ _); (rename Fr _ _ _ _ => lF'); (with_unfolding_all refine' For_turns lF' ?_; k_whole)))
local macro_rules | `(tactic| walk_at "exec If") => `(tactic| (k_here; (with_reducible show wpAny _ _ (exec (PySem.Stmt.If _ [PySem.Stmt.AugAssign (PySem.Expr.Name (Str.ofString "told") _) _ _ _] _ _) (envOf (Str.ofString "_law_shown") _ _ _ _)) _ _ _); k_dflt (refine' shown_if ?B ?F ?N ?X ?T ?o ?d ?s ?m0 ?m1 ?m2 ?_; (case B => k_asm); (case F => k_asm); (case N => k_asm); (case X => k_asm); (case T => k_asm); (case m0 => exact rfl); (case m1 => exact rfl); (case m2 => exact rfl); (case s => decide +kernel); (case o => assumption); (case d => omega); k_whole); intro t' h' tk' hlen' F' N'; (try k_sweep)))
def shownF (l : Str) (o1 o2 o3 o4 : Option Str) : Str :=
  addS (Str.ofString "modifier") (addS (Str.ofString "variant") (addS (Str.ofString "script") (addS (Str.ofString "territory") (Str.ofString "Locale('" ++ l ++ apo) o1) o2) o3) o4 ++ Str.ofString ")"
section
variable {w : World} {dp un : Nat} {gd : Option (List Code)} {cn : Str} {cs : Scope} {a : Addr} {ccd : Value} {cl : List (Str × Addr)} {outer : List Env} {A₀ : Around} {base h₀ : Heap} {L : Addr} {m mg mb : Str → Option Value} {mean : ExcName → Option Value} {s : Shared} {Q E : Value → Shared → Prop} {news : List (Addr × Obj)}
theorem shownL {p : Addr} {n : Nat} {t0 t1 t2 t3 t4 : Tok} {l : Str} {o1 o2 o3 o4 : Option Str}
   (B : Below A₀ base outer h₀) (F : Fr h₀ L s.heap m) (X : (Mine.hd.heap_39 w.params).In h₀) (T : Top Mine.hd.view_39 (looseW Mine.hd.view_39 [Str.ofString "Locale", Str.ofString "parse_locale", Str.ofString "get_locale_identifier"]) mean mg mb h₀) (hk : cs.kind = .function) (hd : dp + 4 < recursionLimit) (hu : un + 60 < cLine) (hl : l.length ≤ 1000) (ho1 : ∀ x, o1 = some x → x.length ≤ 1000) (ho2 : ∀ x, o2 = some x → x.length ≤ 1000) (ho3 : ∀ x, o3 = some x → x.length ≤ 1000) (ho4 : ∀ x, o4 = some x → x.length ≤ 1000)
   (hp : s.heap.get? p = some (tupO [.str l t0, pv o1 t1, pv o2 t2, pv o3 t3, pv o4 t4] n))
   (hret : ∀ (t' : Tok) (h' : Heap) (tk' : Nat), Kp s.heap h' → Q (.str (shownF l o1 o2 o3 o4) t') { s with heap := h', toks := tk' }) :
   wpAny (model PySem.Challenge.rw_bd5005_01.row.prog w) (ktrTop dp un gd cn cs L a ccd cl outer) (call (.ref 224) [.ref p]) Q E s := by
  have he : (Str.ofString "Locale('").length = 8 := by decide +kernel
  have he2 : (Str.ofString "'").length = 1 := by decide +kernel
  (refine wpAny_call ?_; k_dflt ktr_enter; k_steps)
  all_goals exact ret_str (s := s) (Q := Q) hret rfl (kp_fr (by k_asm))
end

theorem off22 : True := by
  w_top off
  trivial
theorem str_ext {x y : Str} (h : x.cps = y.cps) : x = y := by cases x; cases y; cases h; rfl
theorem join_fold (sep : Str) : ∀ (xs : List Str) (l : Str), Txt.join sep (l :: xs) = xs.foldl (fun d x => d ++ (sep ++ x)) l := by
  have h : ∀ (xs : List Str) (l : Str), (⟨xs.foldl (fun acc p => acc ++ sep.cps ++ p.cps) l.cps⟩ : Str) = xs.foldl (fun d x => d ++ (sep ++ x)) l := by
    intro xs
    induction xs with
    | nil => intro l; rfl
    | cons x xs ih =>
      intro l
      have e : l.cps ++ sep.cps ++ x.cps = (l ++ (sep ++ x)).cps := Array.append_assoc ..
      rw [List.foldl_cons, List.foldl_cons, e]
      exact ih _
  exact h
theorem fold_pre (sep a : Str) : ∀ (xs : List Str) (d : Str), a ++ xs.foldl (fun d x => d ++ (sep ++ x)) d = xs.foldl (fun d x => d ++ (sep ++ x)) (a ++ d)
  | [], _ => rfl
  | x :: xs, d => by
    rw [List.foldl_cons, List.foldl_cons, fold_pre sep a xs, Str.append_assoc a d]
theorem nil_iff {x : Str} : x = Str.ofString "" ↔ x.length = 0 := by
  constructor
  · intro e; subst e; decide +kernel
  · intro e
    have e' : x.cps.size = 0 := e
    exact str_ext (Array.eq_empty_of_size_eq_zero e')
theorem there_fold (sep : Str) : ∀ (os : List (Option Str)) (d : Str), (there os).foldl (fun d x => d ++ (sep ++ x)) d = os.foldl (addP sep) d
  | [], _ => rfl
  | none :: os, d => there_fold sep os d
  | some x :: os, d => by
    by_cases h : x = Str.ofString ""
    · have e : there (some x :: os) = there os := by
        unfold there
        rw [List.filterMap_cons, if_neg (by unfold tr; dsimp only; rw [nil_iff.mp h]; decide)]
      have e2 : addP sep d (some x) = d := by unfold addP; dsimp only; rw [if_pos h]
      rw [e, List.foldl_cons, e2]
      exact there_fold sep os d
    · have hn : x.length ≠ 0 := fun q => h (nil_iff.mpr q)
      have e : there (some x :: os) = x :: there os := by
        unfold there
        rw [List.filterMap_cons, if_pos (by unfold tr; dsimp only; simpa using hn)]
      have e2 : addP sep d (some x) = d ++ (sep ++ x) := by unfold addP; dsimp only; rw [if_neg h]
      rw [e, List.foldl_cons, List.foldl_cons, e2]
      exact there_fold sep os _
theorem gli_written {l : Str} (hl : tr (some l) = true) (o1 o2 o3 o4 : Option Str) (sep : Str) : gliF l o1 o2 o3 o4 sep = writtenF l o1 o2 o3 o4 sep := by
  have e : there [some l, o2, o1, o3] = l :: there [o2, o1, o3] := by
    unfold there
    rw [List.filterMap_cons, if_pos hl]
  have e2 : Txt.join sep (there [some l, o2, o1, o3]) = addP sep (addP sep (addP sep l o2) o1) o3 := by
    rw [e, join_fold, there_fold]; rfl
  unfold gliF writtenF addM
  rw [e2]
  cases o4 with
  | none => rfl
  | some x =>
    dsimp only
    by_cases h : x.length = 0
    · rw [if_pos h, if_pos (nil_iff.mpr h)]
    · rw [if_neg h, if_neg fun q => h (nil_iff.mp q)]
theorem addS_fold (k d : Str) (o : Option Str) : addS k d o = (addR k o).foldl (fun d x => d ++ (Str.ofString ", " ++ x)) d := by
  cases o with
  | none => rfl
  | some x =>
    show d ++ (Str.ofString ", " ++ k ++ Str.ofString "='" ++ x ++ apo) = d ++ (Str.ofString ", " ++ (k ++ Str.ofString "=" ++ (apo ++ x ++ apo)))
    rw [show Str.ofString "='" = Str.ofString "=" ++ apo by decide +kernel]
    simp only [Str.append_assoc]
theorem repr_shown (l : Str) (o1 o2 o3 o4 : Option Str) : reprF l o1 o2 o3 o4 = shownF l o1 o2 o3 o4 := by
  unfold reprF shownF
  have e : [Str.ofString ""] ++ addR (Str.ofString "territory") o1 ++ addR (Str.ofString "script") o2 ++ addR (Str.ofString "variant") o3 ++ addR (Str.ofString "modifier") o4
      = Str.ofString "" :: (addR (Str.ofString "territory") o1 ++ addR (Str.ofString "script") o2 ++ addR (Str.ofString "variant") o3 ++ addR (Str.ofString "modifier") o4) := rfl
  rw [e, join_fold, fold_pre]
  have e2 : Str.ofString "Locale(" ++ (apo ++ l ++ apo) ++ Str.ofString "" = Str.ofString "Locale('" ++ l ++ apo := by
    rw [show Str.ofString "Locale('" = Str.ofString "Locale(" ++ apo by decide +kernel]
    have z : ∀ x : Str, x ++ Str.ofString "" = x := fun x => str_ext (Array.append_empty)
    rw [z]
    simp only [Str.append_assoc]
  rw [e2]
  simp only [List.foldl_append, addS_fold]
theorem chg_ne (o : Option Str) : ¬ (o = chg o) := by
  cases o with
  | none => exact fun h => nomatch h
  | some x =>
    unfold chg
    dsimp only
    split
    · exact fun h => nomatch h
    · intro h
      have e := congrArg Str.length (Option.some.inj h)
      rw [Str.length_append] at e
      have : (Str.ofString "x").length = 1 := by decide +kernel
      omega
abbrev Good (o : Option Str) : Prop := ∀ x, o = some x → x.length ≤ 1000 ∧ plainRepr x
theorem good_some {x : Str} (h : x.length ≤ 1000 ∧ plainRepr x) : Good (some x) := fun _ e => Option.some.inj e ▸ h
theorem good_none : Good none := fun _ e => nomatch e
theorem langs_good {l : Str} (h : l ∈ langs) : (l.length ≤ 1000 ∧ plainRepr l) ∧ tr (some l) = true := by
  simp only [langs, List.mem_cons, List.not_mem_nil, or_false] at h
  rcases h with rfl | rfl | rfl | rfl <;> exact ⟨⟨by decide +kernel, by unfold plainRepr; decide +kernel⟩, by decide +kernel⟩
theorem terrs_good {o : Option Str} (h : o ∈ terrs) : Good o := by
  simp only [terrs, List.mem_cons, List.not_mem_nil, or_false] at h
  rcases h with rfl | rfl | rfl | rfl | rfl
  · exact good_none
  all_goals exact good_some ⟨by decide +kernel, by unfold plainRepr; decide +kernel⟩
theorem scripts_good {o : Option Str} (h : o ∈ scripts) : Good o := by
  simp only [scripts, List.mem_cons, List.not_mem_nil, or_false] at h
  rcases h with rfl | rfl | rfl | rfl
  · exact good_none
  all_goals exact good_some ⟨by decide +kernel, by unfold plainRepr; decide +kernel⟩
theorem variants_good {o : Option Str} (h : o ∈ variants) : Good o := by
  simp only [variants, List.mem_cons, List.not_mem_nil, or_false] at h
  rcases h with rfl | rfl | rfl | rfl
  · exact good_none
  all_goals exact good_some ⟨by decide +kernel, by unfold plainRepr; decide +kernel⟩
theorem modifiers_good {o : Option Str} (h : o ∈ modifiers) : Good o := by
  simp only [modifiers, List.mem_cons, List.not_mem_nil, or_false] at h
  rcases h with rfl | rfl | rfl | rfl
  · exact good_none
  all_goals exact good_some ⟨by decide +kernel, by unfold plainRepr; decide +kernel⟩

theorem off23 : True := by
  w_top off
  trivial
local macro_rules | `(tactic| walk_at "call ref") => `(tactic| (k_here; (with_reducible show wpAny _ _ (call (Value.ref 195) [Value.ref _]) _ _ _); k_dflt (refine' gliD5 ?k1 ?k2 ?k3 ?k5 ?kK ?kd ?ku ?z1 ?z2 ?z3 ?z4 ?z5 ?zf ?_; (case k1 => k_asm); (case k2 => k_asm); (case k3 => k_asm); (case k5 => k_asm); (case kK => first | assumption | exact rfl); (case kd => ktr_room); (case ku => ktr_units); (case zf => (first | exact News.get (by k_asm) (by k_mem) | exact Fr.keep (by k_asm) _ _ (by assumption))); (case z1 => assumption); (case z2 => assumption); (case z3 => assumption); (case z4 => assumption); (case z5 => assumption); k_whole); intro t' h' tk' kp'; have F' := fr_kp (by k_asm) kp'; have N' := news_kp (by k_asm) kp'; clear kp'; (try dsimp only); (try k_sweep); (try k_fold)))
section
variable {w : World} {dp un : Nat} {gd : Option (List Code)} {cn : Str} {cs : Scope} {a : Addr} {ccd : Value} {cl : List (Str × Addr)} {outer : List Env} {A₀ : Around} {base h₀ : Heap} {L : Addr} {m mg mb : Str → Option Value} {mean : ExcName → Option Value} {s : Shared} {Q E : Value → Shared → Prop} {news : List (Addr × Obj)}
theorem strL {x dx : Addr} {t0 t1 t2 t3 t4 t5 tl tx1 tx2 tx3 tx4 : Tok} {l : Str} {o1 o2 o3 o4 : Option Str} {vd : Value}
   (B : Below A₀ base outer h₀) (F : Fr h₀ L s.heap m) (X : (Mine.hd.heap_39 w.params).In h₀) (T : Top Mine.hd.view_39 (looseW Mine.hd.view_39 [Str.ofString "Locale", Str.ofString "parse_locale", Str.ofString "get_locale_identifier"]) mean mg mb h₀) (hk : cs.kind = .function) (hd : dp + 8 < recursionLimit) (hu : un + 100 < cLine) (hl : l.length ≤ 1000) (ht : tr (some l) = true) (ho1 : ∀ x, o1 = some x → x.length ≤ 1000) (ho2 : ∀ x, o2 = some x → x.length ≤ 1000) (ho3 : ∀ x, o3 = some x → x.length ≤ 1000) (ho4 : ∀ x, o4 = some x → x.length ≤ 1000)
   (hx : s.heap.get? x = some (instObj 177 dx)) (hdx : s.heap.get? dx = some (dictOf (locD w.params t0 t1 t2 t3 t4 t5 (.str l tl) (pv o1 tx1) (pv o2 tx2) (pv o3 tx3) (pv o4 tx4) vd) 6))
   (hret : ∀ (t' : Tok) (h' : Heap) (tk' : Nat), Kp s.heap h' → Q (.str (writtenF l o1 o2 o3 o4 (Str.ofString "_")) t') { s with heap := h', toks := tk' }) :
   wpAny (model PySem.Challenge.rw_bd5005_01.row.prog w) (ktrTop dp un gd cn cs L a ccd cl outer) (call (.ref 102) [.ref x]) Q E s := by
  (refine wpAny_call ?_; k_dflt ktr_enter; k_steps)
  all_goals exact ret_str (s := s) (Q := Q) hret (gli_written ht _ _ _ _ _) (kp_fr (by k_asm))
end

theorem off24 : True := by
  w_top off
  trivial
section
open Builtin Builtin.Str
abbrev chars (x : Str) : List Nat := x.cps.toList
theorem chars_len (x : Str) : (chars x).length = x.length := by simp [chars, Str.length]
theorem chars_app (x y : Str) : chars (x ++ y) = chars x ++ chars y := by
  show (x.cps ++ y.cps).toList = _
  simp [chars]
theorem chars_inj {x y : Str} (h : chars x = chars y) : x = y := str_ext (Array.toList_inj.mp h)
theorem at_iff (x y : Str) (i : Nat) : StrLaws.At x y x.length i ↔ i + y.length ≤ x.length ∧ ((chars x).drop i).take y.length = chars y := by
  unfold StrLaws.At
  rw [StrLaws.subAt_eq, beq_iff_eq]
theorem at_char {x y : Str} {c i : Nat} (hc : (chars y).head? = some c) (h : StrLaws.At x y x.length i) : (chars x)[i]? = some c := by
  have h2 := ((at_iff x y i).mp h).2
  have h0 : 0 < y.length := by
    rw [← chars_len]
    cases hy : chars y with
    | nil => rw [hy] at hc; cases hc
    | cons a r => simp
  have : (((chars x).drop i).take y.length)[0]? = some c := by rw [h2, ← List.head?_eq_getElem?]; exact hc
  rw [List.getElem?_take_of_lt h0, List.getElem?_drop] at this
  simpa using this
theorem cuts_of {x y : Str} {c : Nat} (hc : (chars y).head? = some c) : ∀ (ps : List Str) (p : Str) (a : Nat) (cuts : List Nat) (f : Nat), (∀ q ∈ p :: ps, c ∉ chars q) → a ≤ x.length →
    (chars x).drop a = chars (Str.join y (p :: ps)) → StrLaws.ChainG x y x.length a cuts f → (∀ k, f ≤ k → ¬ StrLaws.At x y x.length k) → StrLaws.partsFrom x y.length a cuts = p :: ps
  | [], p, a, cuts, f, hp, ha, hx, hG, hn => by
    have hx' : (chars x).drop a = chars p := hx
    cases cuts with
    | nil =>
      show [strSub x a x.length] = [p]
      congr 1
      apply chars_inj
      show (strSub x a x.length).cps.toList = _
      rw [StrLaws.strSub_toList]
      show ((chars x).drop a).take _ = _
      rw [List.take_of_length_le (by rw [List.length_drop, chars_len]; exact Nat.le_refl _), hx']
    | cons i r =>
      exfalso
      have h := at_char hc hG.2.1
      have hai := hG.1
      have : (chars p)[i - a]? = some c := by rw [← hx', List.getElem?_drop, show a + (i - a) = i by omega]; exact h
      exact hp p (List.mem_cons_self ..) (List.mem_of_getElem? this)
  | q :: qs, p, a, cuts, f, hp, ha, hx, hG, hn => by
    have hx' : (chars x).drop a = chars p ++ (chars y ++ chars (Str.join y (q :: qs))) := by
      rw [hx]
      show chars (p ++ y ++ Str.join y (q :: qs)) = _
      rw [chars_app, chars_app, List.append_assoc]
    have hL : x.length - a = p.length + (y.length + (Str.join y (q :: qs)).length) := by
      have := congrArg List.length hx'
      rw [List.length_drop, List.length_append, List.length_append, chars_len, chars_len, chars_len, chars_len] at this
      exact this
    have hd : (chars x).drop (a + p.length) = chars y ++ chars (Str.join y (q :: qs)) := by
      rw [← List.drop_drop, hx', ← chars_len p, List.drop_left]
    have hA : StrLaws.At x y x.length (a + p.length) := (at_iff x y _).mpr ⟨by omega, by rw [hd, ← chars_len y, List.take_left]⟩
    cases cuts with
    | nil =>
      exfalso
      have e : f = a := hG
      exact hn (a + p.length) (by omega) hA
    | cons i r =>
      obtain ⟨h1, h2, h3, h4⟩ := hG
      have hi : i = a + p.length := by
        rcases Nat.lt_trichotomy i (a + p.length) with h | h | h
        · exfalso
          have hh := at_char hc h2
          have : (chars p)[i - a]? = some c := by
            rw [← hh, show i = a + (i - a) by omega, ← List.getElem?_drop, hx', List.getElem?_append_left (by rw [chars_len]; omega)]
            congr 1
            omega
          exact hp p (List.mem_cons_self ..) (List.mem_of_getElem? this)
        · exact h
        · exact absurd hA (h3 _ (by omega) h)
      subst hi
      show strSub x a (a + p.length) :: StrLaws.partsFrom x y.length (a + p.length + y.length) r = _
      have e1 : strSub x a (a + p.length) = p := by
        apply chars_inj
        show (strSub x a (a + p.length)).cps.toList = _
        rw [StrLaws.strSub_toList]
        show ((chars x).drop a).take _ = _
        rw [hx', show a + p.length - a = (chars p).length by rw [chars_len]; omega, List.take_left]
      have hd2 : (chars x).drop (a + p.length + y.length) = chars (Str.join y (q :: qs)) := by
        rw [← List.drop_drop, hd, ← chars_len y, List.drop_left]
      rw [e1, cuts_of hc qs q _ r f (fun z hz => hp z (List.mem_cons_of_mem _ hz)) (by omega) hd2 h4 hn]
theorem kind_pos (x : Str) : 1 ≤ Builtin.Str.strKind x := by
  unfold Builtin.Str.strKind
  split
  · exact Nat.le_refl _
  · split <;> decide
theorem split_joined {y : Str} {c : Nat} (hc : (chars y).head? = some c) (hk : Builtin.Str.strKind y = 1) {p : Str} {ps : List Str} (hp : ∀ q ∈ p :: ps, c ∉ chars q) : Txt.split (Txt.join y (p :: ps)) y = p :: ps := by
  have hy : 1 ≤ y.length := by
    rw [← chars_len]
    cases h : chars y with
    | nil => rw [h] at hc; cases hc
    | cons a r => simp
  have ej : Txt.join y (p :: ps) = Str.join y (p :: ps) := StrLaws.glued_eq_join _ _
  rw [ej]
  generalize hx : Str.join y (p :: ps) = x
  obtain ⟨f, hG, hn⟩ := StrLaws.occ_tight x y hy
  have main := cuts_of (x := x) hc ps p 0 _ f hp (Nat.zero_le _) (by rw [List.drop_zero, hx]) hG hn
  unfold Txt.split
  split
  · rename_i hb
    rw [Bool.or_eq_true, decide_eq_true_eq, decide_eq_true_eq] at hb
    have hlt : x.length < y.length := by
      rcases hb with h | h
      · exact h
      · have := kind_pos x; omega
    cases ps with
    | nil => rw [← hx]; rfl
    | cons q qs =>
      exfalso
      rw [← hx] at hlt
      have e : Str.join y (p :: q :: qs) = p ++ y ++ Str.join y (q :: qs) := rfl
      rw [e, Str.length_append, Str.length_append] at hlt
      omega
  · split
    · rename_i he
      have e0 : occurrences x y 0 x.length (x.length + 1) = [] := List.isEmpty_iff.mp he
      rw [e0] at main
      rw [← main]
      show [x] = [strSub x 0 x.length]
      rw [StrLaws.sub_whole]
    · rw [StrLaws.partsBetween_eq]
      exact main
theorem part_none {x : Str} {c : Nat} (h : c ∉ chars x) : Txt.partition x ⟨#[c]⟩ = (x, Str.empty, Str.empty) := by
  rcases partition_whole x ⟨#[c]⟩ with ⟨e, _⟩ | ⟨i, _, hA, _⟩
  · exact e
  · exact absurd (List.mem_of_getElem? ((StrLaws.subAt_one x c i).mp hA)) h
theorem part_at {i m : Str} {c : Nat} (h : c ∉ chars i) : Txt.partition (i ++ ⟨#[c]⟩ ++ m) ⟨#[c]⟩ = (i, ⟨#[c]⟩, m) := by
  have hx : chars (i ++ ⟨#[c]⟩ ++ m) = chars i ++ (c :: chars m) := by rw [chars_app, chars_app, List.append_assoc]; rfl
  have hlen : (i ++ (⟨#[c]⟩ : Str) ++ m).length = i.length + 1 + m.length := by rw [Str.length_append, Str.length_append]; rfl
  have hA : StrLaws.At (i ++ ⟨#[c]⟩ ++ m) ⟨#[c]⟩ (i ++ (⟨#[c]⟩ : Str) ++ m).length i.length := by
    apply (StrLaws.subAt_one _ c _).mpr
    show (chars (i ++ ⟨#[c]⟩ ++ m))[_]? = _
    rw [hx, ← chars_len i, List.getElem?_append_right (Nat.le_refl _)]
    simp
  rcases partition_whole (i ++ ⟨#[c]⟩ ++ m) ⟨#[c]⟩ with ⟨_, hn⟩ | ⟨k, e, hk, hn⟩
  · exact absurd hA (hn _)
  · have hki : k = i.length := by
      rcases Nat.lt_trichotomy k i.length with h1 | h1 | h1
      · exfalso
        have hh : (chars (i ++ ⟨#[c]⟩ ++ m))[k]? = some c := (StrLaws.subAt_one _ c k).mp hk
        rw [hx, List.getElem?_append_left (by rw [chars_len]; exact h1)] at hh
        exact h (List.mem_of_getElem? hh)
      · exact h1
      · exact absurd hA (hn _ h1)
    subst hki
    rw [e]
    have e1 : strSub (i ++ ⟨#[c]⟩ ++ m) 0 i.length = i := by
      apply chars_inj
      show (strSub _ _ _).cps.toList = _
      rw [StrLaws.strSub_toList]
      show ((chars (i ++ ⟨#[c]⟩ ++ m)).drop 0).take _ = _
      rw [hx, List.drop_zero, Nat.sub_zero, ← chars_len i, List.take_left]
    have e2 : strSub (i ++ ⟨#[c]⟩ ++ m) (i.length + 1) (i ++ (⟨#[c]⟩ : Str) ++ m).length = m := by
      apply chars_inj
      show (strSub _ _ _).cps.toList = _
      rw [StrLaws.strSub_toList]
      show ((chars (i ++ ⟨#[c]⟩ ++ m)).drop _).take _ = _
      rw [hx, ← List.drop_drop, ← chars_len i, List.drop_left, List.drop_one, List.tail_cons]
      exact List.take_of_length_le (by simp only [hlen, chars_len]; omega)
    show (strSub _ 0 i.length, _, strSub _ (i.length + 1) _) = _
    rw [e1, e2]
theorem dot_none {x : Str} {c : Nat} (h : c ∉ chars x) : (!(occurrences x ⟨#[c]⟩ 0 x.length 1).isEmpty) = false := by
  rw [StrLaws.found_one]; exact decide_eq_false h
theorem join_free {c : Nat} {sep : Str} (hs : c ∉ chars sep) : ∀ (ps : List Str), (∀ q ∈ ps, c ∉ chars q) → c ∉ chars (Str.join sep ps)
  | [], _ => by show c ∉ chars Str.empty; simp [chars, Str.empty]
  | [p], h => h p (List.mem_cons_self ..)
  | p :: q :: r, h => by
    show c ∉ chars (p ++ sep ++ Str.join sep (q :: r))
    rw [chars_app, chars_app]
    intro hm
    rcases List.mem_append.mp hm with hm | hm
    · rcases List.mem_append.mp hm with hm | hm
      · exact h p (List.mem_cons_self ..) hm
      · exact hs hm
    · exact join_free hs (q :: r) (fun z hz => h z (List.mem_cons_of_mem _ hz)) hm
end

theorem off25 : True := by
  w_top off
  trivial
section
variable {prog : Program} {w : World} {A : Around} {E : Value → Shared → Prop} {s : Shared} {h₀ : Heap} {L : Addr} {m : Str → Option Value} {news : List (Addr × Obj)} {x y I M z : Str} {t u : Tok} {Q : Value → Shared → Prop}
theorem part_K (hF : Fr h₀ L s.heap m) (hN : News h₀ L s.heap news) (hy : (y.length == 0) = false) (e : Txt.partition x y = (I, z, M)) (hsz : x.length ≤ 100000)
    (h : ∀ D ta tb tc h' k, Fr h₀ L h' m → News h₀ L h' ((D, { cls := .type "tuple", data := .seq [.str I ta, .str z tb, .str M tc].toArray }) :: news) → (∀ a ∈ news, a.1 < D) → Q (.ref D) { s with heap := h', toks := k }) :
    wpAny (model prog w) A (call (.builtin "str.partition") [.str x t, .str y u]) Q E s :=
  KXpa.partition hF hN hy (by rw [e]) (by rw [e]) (by rw [e]) (by rw [sizeLine_eq]; omega) h
theorem split_K {xs : List Str} (hF : Fr h₀ L s.heap m) (hN : News h₀ L s.heap news) (hy : (y.length == 0) = false) (e : Txt.split x y = xs) (hsz : x.length ≤ 100000)
    (h : ∀ D l h' k, l.map (·.1) = xs → StrsAre (strValues l) (l.map (·.1)) → Fr h₀ L h' m → News h₀ L h' ((D, listOf (strValues l).toArray 0) :: news) → (∀ p ∈ news, p.1 < D) → Q (.ref D) { s with heap := h', toks := k }) :
    wpAny (model prog w) A (call (.builtin "str.split") [.str x t, .str y u]) Q E s :=
  KSpl.split1 hF hN hy (by rw [e]; exact h) (by rw [sizeLine_eq]; omega)
theorem in_K (e : (!(Builtin.Str.occurrences x y 0 x.length 1).isEmpty) = false) (h : Q (.bool false) s) : wpAny (model prog w) A (compareOp .In (.str y u) (.str x t)) Q E s := in_str (by rw [e]; exact h)
theorem lower_K (e : Txt.lower x = x) (hl : x.length ≤ 1000) (h : ∀ t' k, Q (.str x t') { s with toks := k }) : wpAny (model prog w) A (call (.builtin "str.lower") [.str x t]) Q E s :=
  KXw.lower e (by rw [e]; unfold Builtin.Str.tooLong; rw [sizeLine_eq]; exact decide_eq_false (by omega)) h
variable {D : Addr} {v : Value} {vs : List Value} {n : Nat} {news' : List (Addr × Obj)}
theorem truthy_consK {Q : Bool → Shared → Prop} (hN : News h₀ L s.heap news) (hm : (D, listOf (v :: vs).toArray n) ∈ news) (hl : vs.length ≤ 1000) (h : Q true { s with toks := s.toks + 1 + 1 }) : wpAny (model prog w) A (truthy (.ref D)) Q E s :=
  wpAny_truthy_list (hN.isList hm) (by rw [List.size_toArray, List.length_cons]; omega) (by simpa using h)
theorem pop0_K (hF : Fr h₀ L s.heap m) (hN : News h₀ L s.heap news) (U : Upd D (listOf (v :: vs).toArray n) (listOf vs.toArray (n + 1)) news news') (hl : vs.length ≤ 1000)
    (h : ∀ h', Fr h₀ L h' m → News h₀ L h' news' → Q v { s with heap := h' }) : wpAny (model prog w) A (call (.builtin "list.pop") [.ref D, .int 0 u]) Q E s :=
  kl_popAt (k := 0) (p := []) (q := vs) hF hN rfl (by unfold seqIndex?; simp) rfl U (by rw [sizeLine_eq]; simp; omega) h
end
theorem one_of {h₀ h : Heap} {L : Addr} {news : List (Addr × Obj)} {p : Addr × Obj} (N : News h₀ L h news) (hm : p ∈ news) : News h₀ L h [p] := fun q hq => by
  rw [List.mem_singleton.mp hq]; exact N _ hm
theorem there_some {x : Str} {os : List (Option Str)} (h : tr (some x) = true) : there (some x :: os) = x :: there os := by
  unfold there; rw [List.filterMap_cons, if_pos h]
theorem there_none {os : List (Option Str)} : there (none :: os) = there os := rfl
theorem there_nil : there [] = [] := rfl
def stmtOf (n k : Nat) : Stmt := match (bodyOf n).drop k with
  | s :: _ => s
  | _ => default
def ps1 : List (Option Str) := [none, some (Str.ofString "US"), some (Str.ofString "AT"), some (Str.ofString "150")]
def ps2 : List (Option Str) := [none, some (Str.ofString "Latn"), some (Str.ofString "Hans")]
def ps3 : List (Option Str) := [none, some (Str.ofString "POSIX"), some (Str.ofString "1901")]
local macro_rules | `(tactic| walk_at "call builtin:str.partition") => `(tactic| (k_here; (with_reducible show wpAny _ _ (call (Value.builtin "str.partition") [Value.str _ _, Value.str _ _]) _ _ _); (refine part_K (by k_asm) (by k_asm) (by decide) (by assumption) (by assumption) ?_); intro D' _ _ _ _ _ F' N' l1; (try k_lt l1)))
local macro_rules | `(tactic| walk_at "compareOp In") => `(tactic| (k_here; (with_reducible show wpAny _ _ (compareOp CmpOp.In (Value.str _ _) (Value.str _ _)) _ _ _); refine in_K (by assumption) ?_))
local macro_rules | `(tactic| walk_at "call builtin:str.split") => `(tactic| (k_here; (with_reducible show wpAny _ _ (call (Value.builtin "str.split") _) _ _ _); (refine split_K (by k_asm) (by k_asm) (by assumption) (by assumption) (by assumption) ?_); intro D' l' h' k' e' a' F' N' l1; (try k_lt l1); (try ((kspl_open e'); (simp only [strValues, List.map_cons, List.map_nil] at N' a')))))
local macro_rules | `(tactic| walk_at "call builtin:str.lower") => `(tactic| (k_here; (with_reducible show wpAny _ _ (call (Value.builtin "str.lower") [Value.str _ _]) _ _ _); (refine lower_K (by assumption) (by assumption) ?_); intro _ _))
local macro_rules | `(tactic| walk_at "call builtin:str.isalpha") => `(tactic| (k_here; (with_reducible show wpAny _ _ (call (Value.builtin "str.isalpha") [Value.str _ _]) _ _ _); (refine KXw.isalpha (by assumption) ?_)))
local macro_rules | `(tactic| walk_at "truthy str") => `(tactic| (k_here; (with_reducible show wpAny _ _ (PySem.truthy (Value.str _ _)) _ _ _); k_dflt (refine' KXt.truthy ?e ?l ?_; (case e => assumption); (case l => exact Nat.le_trans (by assumption) (by decide : 100000 ≤ 16777216))); intro _))
local macro_rules | `(tactic| walk_at "subscriptTail Name Constant ref int") => `(tactic| (k_here; (with_reducible show wpAny _ _ (subscriptTail _ _ (Value.ref _) (Value.int _ _)) _ _ _); (with_unfolding_all refine' item_litK ?k1 ?k2 ?k3 ?k4 ?_ ?k6; (case k1 => exact News.isList (by k_asm) (by k_mem)); (case k2 => decide); (case k3 => decide); (case k4 => rfl); (case k6 => with_unfolding_all rfl); k_whole)))
local macro_rules | `(tactic| walk_at "call builtin:len") => `(tactic| (k_here; (with_reducible show wpAny _ _ (call (Value.builtin "len") [Value.str (Str.ofString _) _]) _ _ _); k_lenW))
local macro_rules | `(tactic| walk_at "getMethod str") => `(tactic| (k_here; (with_reducible show wpAny _ _ (getMethod (Value.str _ _) _ _) _ _ _); first | refine GM.isalpha ?_ | refine GM.title ?_ | refine GM.upper ?_ | refine GM.isdigit ?_ | refine GM.lower ?_ | refine GM.partition ?_ | refine GM.split ?_))
local macro_rules | `(tactic| walk_at "truthy ref") => `(tactic| (k_here; (with_reducible show wpAny _ _ (truthy (Value.ref _)) _ _ _); k_dflt (refine' truthy_consK ?N ?m ?l ?_; (case N => k_asm); (case m => k_mem); (case l => assumption))))
local macro_rules | `(tactic| walk_at "call builtin:list.pop") => `(tactic| (k_here; (with_reducible show wpAny _ _ (call (Value.builtin _) [Value.ref _, Value.int _ _]) _ _ _); k_dflt (refine' pop0_K ?F ?N ?U ?l ?_; (case F => k_asm); (case N => k_asm); (case U => k_upd); (case l => assumption)); intro h' F' N'; (try dsimp only [List.nil_append, List.cons_append] at N')))
local macro_rules | `(tactic| walk_at "getMethod ref") => `(tactic| (k_here; (with_reducible show wpAny _ _ (getMethod (Value.ref _) (PySem.Str.ofString "pop") _) _ _ _); k_dflt (refine' kl_method ?N ?m PySem.F.slot_list_pop PySem.F.type_list_pop ?_; (case N => k_asm); (case m => k_mem))))

theorem off26 : True := by
  w_top off
  trivial
section
variable {w : World} {A A₀ : Around} {base g : Heap} {L D : Addr} {m mg mb : Str → Option Value} {mean : ExcName → Option Value} {s : Shared} {Q : Flow → Shared → Prop} {E : Value → Shared → Prop} {outer : List Env} {vs : List Value} {n : Nat}
theorem parse_s1 {o1 o2 o3 : Option Str} (B : Below A₀ base outer g) (F : Fr g L s.heap m) (N : News g L s.heap [(D, listOf vs.toArray n)]) (X : (Mine.hd.heap_39 w.params).In g)
   (T : Top Mine.hd.view_39 (looseW Mine.hd.view_39 [Str.ofString "Locale", Str.ofString "parse_locale", Str.ofString "get_locale_identifier"]) mean mg mb g)
   (h1 : o1 ∈ ps1) (h2 : o2 ∈ ps2) (h3 : o3 ∈ ps3) (hv : StrsAre vs (there [o2, o1, o3])) (hl : vs.length ≤ 1000)
   (m0 : m (Str.ofString "parts") = some (.ref D)) (m1 : m (Str.ofString "script") = some .none)
   (hret : ∀ (vs' : List Value) (n' : Nat) (t' : Tok) (h' : Heap) (tk' : Nat), StrsAre vs' (there [o1, o3]) → vs'.length ≤ 1000 → Fr g L h' (fun y => if y = Str.ofString "script" then some (pv o2 t') else m y) → News g L h' [(D, listOf vs'.toArray n')] → Q .next { s with heap := h', toks := tk' }) :
   wpAny (model PySem.Challenge.rw_bd5005_01.row.prog w) A (exec (stmtOf 5 7) (envOf (Str.ofString "parse_locale") (scopeOf 5) L 189 (.ref 188))) Q E s := by
  have kv : ∀ p ∈ [(Str.ofString "parts", Value.ref D), (Str.ofString "script", .none)], m p.1 = some p.2 := by
    intro p hp
    simp only [List.mem_cons, List.not_mem_nil, or_false] at hp
    rcases hp with rfl | rfl <;> assumption
  unfold stmtOf bodyOf scopeOf PySem.Challenge.pw_bd5005_01
  dsimp only [List.drop]
  have mt : m = fun y => if y = Str.ofString "script" then some (pv none 0) else m y := by
    funext y
    by_cases e : y = Str.ofString "script"
    · rw [if_pos e, e, m1, pv_none]
    · rw [if_neg e]
  clear m0 m1
  replace F := fr_kv _ F kv
  have ne := names_eq kv
  clear kv
  simp only [ps2, List.mem_cons, List.not_mem_nil, or_false] at h2
  rcases h2 with rfl | rfl | rfl
  · rw [there_none] at hv
    have hv0 := hv
    have hl0 := hl
    have out : ∀ (h' : Heap) (tk' : Nat), Fr g L h' (names [(Str.ofString "parts", Value.ref D), (Str.ofString "script", .none)] m) → News g L h' [(D, listOf vs.toArray n)] → Q .next { s with heap := h', toks := tk' } := by
      intro h' tk' F' N'
      rw [ne, mt] at F'
      exact hret vs n 0 h' tk' hv0 hl0 F' N'
    clear hret hv0 hl0
    simp only [ps1, List.mem_cons, List.not_mem_nil, or_false] at h1
    rcases h1 with rfl | rfl | rfl | rfl
    · rw [there_none] at hv
      simp only [ps3, List.mem_cons, List.not_mem_nil, or_false] at h3
      rcases h3 with rfl | rfl | rfl
      · rw [there_none, there_nil] at hv
        have e := StrsAre.nil_inv hv
        subst e
        k_steps
        all_goals exact out _ _ (by k_asm) (by k_asm)
      all_goals
        rw [there_some (by decide +kernel)] at hv
        obtain ⟨tx, vs', rfl, hv⟩ := StrsAre.cons_inv hv
        have hl' : vs'.length ≤ 1000 := Nat.le_of_succ_le hl
        k_steps
        all_goals exact out _ _ (by k_asm) (by k_asm)
    all_goals
      rw [there_some (by decide +kernel)] at hv
      obtain ⟨tx, vs', rfl, hv⟩ := StrsAre.cons_inv hv
      have hl' : vs'.length ≤ 1000 := Nat.le_of_succ_le hl
      k_steps
      all_goals exact out _ _ (by k_asm) (by k_asm)
  all_goals
    rw [there_some (by decide +kernel)] at hv
    obtain ⟨tx, vs', rfl, hv'⟩ := StrsAre.cons_inv hv
    have hl' : vs'.length ≤ 1000 := Nat.le_of_succ_le hl
    k_steps
    all_goals
      rename Fr _ _ _ _ => F1
      rename News _ _ _ _ => N1
      rw [ne] at F1
      rw [← pv_some] at F1
      exact hret _ _ _ _ _ hv' hl' F1 N1
end
section
variable {w : World} {A A₀ : Around} {base g : Heap} {L D : Addr} {m mg mb : Str → Option Value} {mean : ExcName → Option Value} {s : Shared} {Q : Flow → Shared → Prop} {E : Value → Shared → Prop} {outer : List Env} {vs : List Value} {n : Nat}
theorem parse_s2 {o1 o3 : Option Str} (B : Below A₀ base outer g) (F : Fr g L s.heap m) (N : News g L s.heap [(D, listOf vs.toArray n)]) (X : (Mine.hd.heap_39 w.params).In g)
   (T : Top Mine.hd.view_39 (looseW Mine.hd.view_39 [Str.ofString "Locale", Str.ofString "parse_locale", Str.ofString "get_locale_identifier"]) mean mg mb g)
   (h1 : o1 ∈ ps1) (h3 : o3 ∈ ps3) (hv : StrsAre vs (there [o1, o3])) (hl : vs.length ≤ 1000)
   (m0 : m (Str.ofString "parts") = some (.ref D)) (m1 : m (Str.ofString "territory") = some .none)
   (hret : ∀ (vs' : List Value) (n' : Nat) (t' : Tok) (h' : Heap) (tk' : Nat), StrsAre vs' (there [o3]) → vs'.length ≤ 1000 → Fr g L h' (fun y => if y = Str.ofString "territory" then some (pv o1 t') else m y) → News g L h' [(D, listOf vs'.toArray n')] → Q .next { s with heap := h', toks := tk' }) :
   wpAny (model PySem.Challenge.rw_bd5005_01.row.prog w) A (exec (stmtOf 5 8) (envOf (Str.ofString "parse_locale") (scopeOf 5) L 189 (.ref 188))) Q E s := by
  have kv : ∀ p ∈ [(Str.ofString "parts", Value.ref D), (Str.ofString "territory", .none)], m p.1 = some p.2 := by
    intro p hp
    simp only [List.mem_cons, List.not_mem_nil, or_false] at hp
    rcases hp with rfl | rfl <;> assumption
  unfold stmtOf bodyOf scopeOf PySem.Challenge.pw_bd5005_01
  dsimp only [List.drop]
  have mt : m = fun y => if y = Str.ofString "territory" then some (pv none 0) else m y := by
    funext y
    by_cases e : y = Str.ofString "territory"
    · rw [if_pos e, e, m1, pv_none]
    · rw [if_neg e]
  clear m0 m1
  replace F := fr_kv _ F kv
  have ne := names_eq kv
  clear kv
  simp only [ps1, List.mem_cons, List.not_mem_nil, or_false] at h1
  rcases h1 with rfl | rfl | rfl | rfl
  · rw [there_none] at hv
    have hv0 := hv
    have hl0 := hl
    have out : ∀ (h' : Heap) (tk' : Nat), Fr g L h' (names [(Str.ofString "parts", Value.ref D), (Str.ofString "territory", .none)] m) → News g L h' [(D, listOf vs.toArray n)] → Q .next { s with heap := h', toks := tk' } := by
      intro h' tk' F' N'
      rw [ne, mt] at F'
      exact hret vs n 0 h' tk' hv0 hl0 F' N'
    clear hret hv0 hl0
    simp only [ps3, List.mem_cons, List.not_mem_nil, or_false] at h3
    rcases h3 with rfl | rfl | rfl
    · rw [there_none, there_nil] at hv
      have e := StrsAre.nil_inv hv
      subst e
      k_steps
      all_goals exact out _ _ (by k_asm) (by k_asm)
    all_goals
      rw [there_some (by decide +kernel)] at hv
      obtain ⟨tx, vs', rfl, hv⟩ := StrsAre.cons_inv hv
      have hl' : vs'.length ≤ 1000 := Nat.le_of_succ_le hl
      k_steps
      all_goals exact out _ _ (by k_asm) (by k_asm)
  all_goals
    rw [there_some (by decide +kernel)] at hv
    obtain ⟨tx, vs', rfl, hv'⟩ := StrsAre.cons_inv hv
    have hl' : vs'.length ≤ 1000 := Nat.le_of_succ_le hl
    k_steps
    all_goals
      rename Fr _ _ _ _ => F1
      rename News _ _ _ _ => N1
      rw [ne] at F1
      rw [← pv_some] at F1
      exact hret _ _ _ _ _ hv' hl' F1 N1
end
section
variable {w : World} {A A₀ : Around} {base g : Heap} {L D : Addr} {m mg mb : Str → Option Value} {mean : ExcName → Option Value} {s : Shared} {Q : Flow → Shared → Prop} {E : Value → Shared → Prop} {outer : List Env} {vs : List Value} {n : Nat}
theorem parse_s3 {o3 : Option Str} (B : Below A₀ base outer g) (F : Fr g L s.heap m) (N : News g L s.heap [(D, listOf vs.toArray n)]) (X : (Mine.hd.heap_39 w.params).In g)
   (T : Top Mine.hd.view_39 (looseW Mine.hd.view_39 [Str.ofString "Locale", Str.ofString "parse_locale", Str.ofString "get_locale_identifier"]) mean mg mb g)
   (h3 : o3 ∈ ps3) (hv : StrsAre vs (there [o3])) (hl : vs.length ≤ 1000)
   (m0 : m (Str.ofString "parts") = some (.ref D)) (m1 : m (Str.ofString "variant") = some .none)
   (hret : ∀ (n' : Nat) (t' : Tok) (h' : Heap) (tk' : Nat), Fr g L h' (fun y => if y = Str.ofString "variant" then some (pv o3 t') else m y) → News g L h' [(D, listOf ([] : List Value).toArray n')] → Q .next { s with heap := h', toks := tk' }) :
   wpAny (model PySem.Challenge.rw_bd5005_01.row.prog w) A (exec (stmtOf 5 9) (envOf (Str.ofString "parse_locale") (scopeOf 5) L 189 (.ref 188))) Q E s := by
  have kv : ∀ p ∈ [(Str.ofString "parts", Value.ref D), (Str.ofString "variant", .none)], m p.1 = some p.2 := by
    intro p hp
    simp only [List.mem_cons, List.not_mem_nil, or_false] at hp
    rcases hp with rfl | rfl <;> assumption
  unfold stmtOf bodyOf scopeOf PySem.Challenge.pw_bd5005_01
  dsimp only [List.drop]
  have mt : m = fun y => if y = Str.ofString "variant" then some (pv none 0) else m y := by
    funext y
    by_cases e : y = Str.ofString "variant"
    · rw [if_pos e, e, m1, pv_none]
    · rw [if_neg e]
  clear m0 m1
  replace F := fr_kv _ F kv
  have ne := names_eq kv
  clear kv
  simp only [ps3, List.mem_cons, List.not_mem_nil, or_false] at h3
  rcases h3 with rfl | rfl | rfl
  · rw [there_none, there_nil] at hv
    have e := StrsAre.nil_inv hv
    subst e
    k_steps
    all_goals
      rename Fr _ _ _ _ => F1
      rw [ne, mt] at F1
      exact hret n 0 _ _ F1 (by k_asm)
  all_goals
    rw [there_some (by decide +kernel), there_nil] at hv
    obtain ⟨tx, vs', rfl, hv'⟩ := StrsAre.cons_inv hv
    have e := StrsAre.nil_inv hv'
    subst e
    have hl' : ([] : List Value).length ≤ 1000 := Nat.zero_le _
    k_steps
    all_goals
      rename Fr _ _ _ _ => F1
      rename News _ _ _ _ => N1
      rw [ne] at F1
      rw [← pv_some] at F1
      exact hret _ _ _ _ F1 N1
end

theorem off27 : True := by
  w_top off
  trivial
def modV (M : Str) (t : Tok) : List Value := if ((M.length : Int) != 0) = true then [.str M t] else []
theorem modV_no {M : Str} {t : Tok} (h : ((M.length : Int) != 0) = false) : modV M t = [] := by unfold modV; rw [h]; rfl
theorem modV_yes {M : Str} {t : Tok} (h : ((M.length : Int) != 0) = true) : modV M t = [.str M t] := by unfold modV; rw [h]; rfl
theorem vals_len {vs : List Value} {xs : List Str} (h : StrsAre vs xs) : vs.length = xs.length := by
  induction h with
  | nil => rfl
  | cons y t _ ih => simp [ih]
section
variable {prog : Program} {w : World} {A : Around} {E : Value → Shared → Prop} {s : Shared} {h₀ : Heap} {L : Addr} {m : Str → Option Value} {news : List (Addr × Obj)} {x y z : Str} {t u : Tok} {Q : Value → Shared → Prop}
theorem split_cons_K {xs : List Str} (hF : Fr h₀ L s.heap m) (hN : News h₀ L s.heap news) (hy : (y.length == 0) = false) (e : Txt.split x y = z :: xs) (hsz : x.length ≤ 100000) (hxs : xs.length ≤ 1000)
    (h : ∀ D t vs h' k, StrsAre vs xs → vs.length ≤ 1000 → Fr h₀ L h' m → News h₀ L h' ((D, listOf (.str z t :: vs).toArray 0) :: news) → (∀ p ∈ news, p.1 < D) → Q (.ref D) { s with heap := h', toks := k }) :
    wpAny (model prog w) A (call (.builtin "str.split") [.str x t, .str y u]) Q E s :=
  split_K hF hN hy e hsz fun D l h' k e' a' F' N' l1 => by
    obtain ⟨tz, l', rfl, e2⟩ := KSpl.cons_of e'
    have hs : StrsAre (strValues l') xs := by rw [← e2]; exact strsAre_of_values l'
    exact h D tz (strValues l') h' k hs (by rw [vals_len hs]; exact hxs) F' N' l1
end
theorem there_len (os : List (Option Str)) : (there os).length ≤ os.length := List.length_filterMap_le _ _
local macro_rules | `(tactic| walk_at "call builtin:str.split") => `(tactic| (k_here; (with_reducible show wpAny _ _ (call (Value.builtin "str.split") _) _ _ _); (refine split_cons_K (by k_asm) (by k_asm) (by assumption) (by assumption) (by assumption) (by assumption) ?_); intro D' tz' vs' h' k' a' ll' F' N' l1; (try k_lt l1)))
local macro_rules | `(tactic| walk_at "exec If") => `(tactic| (k_here; (with_reducible show wpAny _ _ (exec (PySem.Stmt.If _ [PySem.Stmt.Assign [PySem.Expr.Name (Str.ofString "script") _] _ _] _ _) (envOf (Str.ofString "parse_locale") _ _ _ _)) _ _ _); k_dflt (refine' parse_s1 ?B ?F ?N ?X ?T ?h1 ?h2 ?h3 ?hv ?hl ?m0 ?m1 ?_; (case B => k_asm); (case F => k_asm); (case m0 => exact rfl); (case m1 => exact rfl); (case N => exact one_of (by k_asm) (by k_mem)); (case X => k_asm); (case T => k_asm); (case hv => assumption); (case h1 => assumption); (case h2 => assumption); (case h3 => assumption); (case hl => assumption); k_whole); intro vs' n' t' h' tk' hv' hl' F' N'; (try k_sweep)))
local macro_rules | `(tactic| walk_at "exec If") => `(tactic| (k_here; (with_reducible show wpAny _ _ (exec (PySem.Stmt.If _ [PySem.Stmt.If _ _ _ _] _ _) (envOf (Str.ofString "parse_locale") _ _ _ _)) _ _ _); k_dflt (refine' parse_s2 ?B ?F ?N ?X ?T ?h1 ?h3 ?hv ?hl ?m0 ?m1 ?_; (case B => k_asm); (case F => k_asm); (case m0 => exact rfl); (case m1 => exact rfl); (case N => exact one_of (by k_asm) (by k_mem)); (case X => k_asm); (case T => k_asm); (case hv => assumption); (case h1 => assumption); (case h3 => assumption); (case hl => assumption); k_whole); intro vs' n' t' h' tk' hv' hl' F' N'; (try k_sweep)))
local macro_rules | `(tactic| walk_at "exec If") => `(tactic| (k_here; (with_reducible show wpAny _ _ (exec (PySem.Stmt.If _ [PySem.Stmt.Assign [PySem.Expr.Name (Str.ofString "variant") _] _ _] _ _) (envOf (Str.ofString "parse_locale") _ _ _ _)) _ _ _); k_dflt (refine' parse_s3 ?B ?F ?N ?X ?T ?h3 ?hv ?hl ?m0 ?m1 ?_; (case B => k_asm); (case F => k_asm); (case m0 => exact rfl); (case m1 => exact rfl); (case N => exact one_of (by k_asm) (by k_mem)); (case X => k_asm); (case T => k_asm); (case hv => assumption); (case h3 => assumption); (case hl => assumption); k_whole); intro n' t' h' tk' F' N'; (try k_sweep)))
section
variable {w : World} {dp un : Nat} {gd : Option (List Code)} {cn : Str} {cs : Scope} {a : Addr} {ccd : Value} {cl : List (Str × Addr)} {outer : List Env} {A₀ : Around} {base h₀ : Heap} {L : Addr} {m mg mb : Str → Option Value} {mean : ExcName → Option Value} {s : Shared} {Q E : Value → Shared → Prop} {news : List (Addr × Obj)}
theorem parseL {t tk : Tok} {y I z M l sep : Str} {o1 o2 o3 : Option Str} {b : Bool}
   (B : Below A₀ base outer h₀) (F : Fr h₀ L s.heap m) (X : (Mine.hd.heap_39 w.params).In h₀) (T : Top Mine.hd.view_39 (looseW Mine.hd.view_39 [Str.ofString "Locale", Str.ofString "parse_locale", Str.ofString "get_locale_identifier"]) mean mg mb h₀) (hk : cs.kind = .function) (hd : dp + 4 < recursionLimit) (hu : un + 60 < cLine) (hy : y.length ≤ 100000) (hy0 : ((y.length : Int) != 0) = true) (hs0 : (sep.length == 0) = false) (e1 : Txt.partition y (Str.ofString "@") = (I, z, M)) (hI : I.length ≤ 100000) (e2 : (!(Builtin.Str.occurrences I (Str.ofString ".") 0 I.length 1).isEmpty) = false)
   (hM : M.length ≤ 100000) (hM0 : ((M.length : Int) != 0) = b) (h1 : o1 ∈ ps1) (h2 : o2 ∈ ps2) (h3 : o3 ∈ ps3)
   (e3 : Txt.split I sep = l :: there [o2, o1, o3]) (hl : l.length ≤ 1000) (hl1 : Txt.lower l = l) (hl2 : Txt.isalpha l = true)
   (hret : ∀ (D : Addr) (n : Nat) (t0 t1 t2 t3 t4 : Tok) (h' : Heap) (tk' : Nat), Kp s.heap h' → s.heap.get? D = none → h'.get? D = some (tupO ([.str l t0, pv o1 t1, pv o2 t2, pv o3 t3] ++ modV M t4) n) → Q (.ref D) { s with heap := h', toks := tk' }) :
   wpAny (model PySem.Challenge.rw_bd5005_01.row.prog w) (ktrTop dp un gd cn cs L a ccd cl outer) (call (.ref 189) [.str y t, .str sep tk]) Q E s := by
  have hth : (there [o2, o1, o3]).length ≤ 1000 := Nat.le_trans (there_len _) (Nat.le_of_ble_eq_true rfl)
  cases b
  all_goals
    (refine wpAny_call ?_; k_dflt ktr_enter; k_steps)
    all_goals
      rename News _ _ _ _ => N1
      have f := N1 _ (List.mem_cons_self ..)
      refine' hret _ _ _ _ _ _ _ _ _ (kp_fr (by k_asm)) f.2.2 ?zz
      case zz => first
        | (rw [modV_no hM0, List.append_nil]; exact f.1)
        | (rw [modV_yes hM0]; simp only [List.cons_append, List.nil_append]; exact f.1)
      all_goals exact (0 : Tok)
theorem parseLK {t tk : Tok} {y I z M l sep : Str} {o1 o2 o3 : Option Str} {b : Bool}
   (B : Below A₀ base outer h₀) (F : Fr h₀ L s.heap m) (X : (Mine.hd.heap_39 w.params).In h₀) (T : Top Mine.hd.view_39 (looseW Mine.hd.view_39 [Str.ofString "Locale", Str.ofString "parse_locale", Str.ofString "get_locale_identifier"]) mean mg mb h₀) (hk : cs.kind = .function) (hd : dp + 4 < recursionLimit) (hu : un + 60 < cLine) (hy : y.length ≤ 100000) (hy0 : ((y.length : Int) != 0) = true) (hs0 : (sep.length == 0) = false) (e1 : Txt.partition y (Str.ofString "@") = (I, z, M)) (hI : I.length ≤ 100000) (e2 : (!(Builtin.Str.occurrences I (Str.ofString ".") 0 I.length 1).isEmpty) = false)
   (hM : M.length ≤ 100000) (hM0 : ((M.length : Int) != 0) = b) (h1 : o1 ∈ ps1) (h2 : o2 ∈ ps2) (h3 : o3 ∈ ps3)
   (e3 : Txt.split I sep = l :: there [o2, o1, o3]) (hl : l.length ≤ 1000) (hl1 : Txt.lower l = l) (hl2 : Txt.isalpha l = true)
   (hret : ∀ (D : Addr) (n : Nat) (t0 t1 t2 t3 t4 : Tok) (h' : Heap) (tk' : Nat), Kp s.heap h' → s.heap.get? D = none → h'.get? D = some (tupO ([.str l t0, pv o1 t1, pv o2 t2, pv o3 t3] ++ modV M t4) n) → Q (.ref D) { s with heap := h', toks := tk' }) :
   wpAny (model PySem.Challenge.rw_bd5005_01.row.prog w) (ktrTop dp un gd cn cs L a ccd cl outer) (call (.ref 189) [.str y t] [(Str.ofString "sep", .str sep tk)]) Q E s := by
  have hth : (there [o2, o1, o3]).length ≤ 1000 := Nat.le_trans (there_len _) (Nat.le_of_ble_eq_true rfl)
  cases b
  all_goals
    (refine wpAny_call ?_; k_dflt ktr_enter; k_steps)
    all_goals
      rename News _ _ _ _ => N1
      have f := N1 _ (List.mem_cons_self ..)
      refine' hret _ _ _ _ _ _ _ _ _ (kp_fr (by k_asm)) f.2.2 ?zz
      case zz => first
        | (rw [modV_no hM0, List.append_nil]; exact f.1)
        | (rw [modV_yes hM0]; simp only [List.cons_append, List.nil_append]; exact f.1)
      all_goals exact (0 : Tok)
end

theorem off28 : True := by
  w_top off
  trivial
def nrm (o : Option Str) : Option Str := if tr o = true then o else none
theorem nrm_cases (o : Option Str) : (nrm o = none ∧ tr o = false) ∨ ∃ x, o = some x ∧ nrm o = some x ∧ tr o = true := by
  cases h : tr o with
  | false => exact .inl ⟨by unfold nrm; rw [h]; rfl, rfl⟩
  | true =>
    cases o with
    | none => cases h
    | some x => exact .inr ⟨x, rfl, by unfold nrm; rw [h]; rfl, rfl⟩
theorem there_cons (o : Option Str) (os : List (Option Str)) : there (o :: os) = there (nrm o :: os) := by
  rcases nrm_cases o with ⟨e, h⟩ | ⟨x, rfl, e, h⟩
  · rw [e, there_none]
    unfold there
    rw [List.filterMap_cons, if_neg (by rw [h]; decide)]
  · rw [e]
theorem there_nrm : ∀ os : List (Option Str), there os = there (os.map nrm)
  | [] => rfl
  | o :: os => by
    rw [there_cons, List.map_cons]
    have ih := there_nrm os
    unfold there at ih ⊢
    rw [List.filterMap_cons, List.filterMap_cons, ih]
theorem mem_there {x : Str} {os : List (Option Str)} (h : x ∈ there os) : some x ∈ os := by
  unfold there at h
  obtain ⟨o, ho, e⟩ := List.mem_filterMap.mp h
  split at e
  · rw [← e]; exact ho
  · cases e
abbrev marks : List Nat := [64, 46, 95, 45, 43, 58]
abbrev Clean (x : Str) : Prop := ∀ c ∈ marks, c ∉ chars x
def seps4 : List Str := [Str.ofString "_", Str.ofString "-", Str.ofString "+", Str.ofString "::"]
theorem seps_ok {sep : Str} (h : sep ∈ seps4) : (∃ c ∈ marks, (chars sep).head? = some c) ∧ Builtin.Str.strKind sep = 1 ∧ 64 ∉ chars sep ∧ 46 ∉ chars sep ∧ (sep.length == 0) = false ∧ sep.length ≤ 16 := by
  simp only [seps4, List.mem_cons, List.not_mem_nil, or_false] at h
  rcases h with rfl | rfl | rfl | rfl
  · exact ⟨⟨95, by decide, by decide +kernel⟩, by decide +kernel⟩
  · exact ⟨⟨45, by decide, by decide +kernel⟩, by decide +kernel⟩
  · exact ⟨⟨43, by decide, by decide +kernel⟩, by decide +kernel⟩
  · exact ⟨⟨58, by decide, by decide +kernel⟩, by decide +kernel⟩
theorem langs_ok {l : Str} (h : l ∈ langs) : Clean l ∧ Txt.lower l = l ∧ Txt.isalpha l = true ∧ l.length ≤ 1000 ∧ 1 ≤ l.length := by
  simp only [langs, List.mem_cons, List.not_mem_nil, or_false] at h
  rcases h with rfl | rfl | rfl | rfl <;> decide +kernel
theorem terrs_ok {o : Option Str} (h : o ∈ terrs) : nrm o ∈ ps1 ∧ ∀ x, o = some x → Clean x := by
  simp only [terrs, List.mem_cons, List.not_mem_nil, or_false] at h
  rcases h with rfl | rfl | rfl | rfl | rfl
  · exact ⟨by decide +kernel, fun _ e => nomatch e⟩
  all_goals exact ⟨by decide +kernel, fun x e => Option.some.inj e ▸ (by decide +kernel)⟩
theorem scripts_ok {o : Option Str} (h : o ∈ scripts) : nrm o ∈ ps2 ∧ ∀ x, o = some x → Clean x := by
  simp only [scripts, List.mem_cons, List.not_mem_nil, or_false] at h
  rcases h with rfl | rfl | rfl | rfl
  · exact ⟨by decide +kernel, fun _ e => nomatch e⟩
  all_goals exact ⟨by decide +kernel, fun x e => Option.some.inj e ▸ (by decide +kernel)⟩
theorem variants_ok {o : Option Str} (h : o ∈ variants) : nrm o ∈ ps3 ∧ ∀ x, o = some x → Clean x := by
  simp only [variants, List.mem_cons, List.not_mem_nil, or_false] at h
  rcases h with rfl | rfl | rfl | rfl
  · exact ⟨by decide +kernel, fun _ e => nomatch e⟩
  all_goals exact ⟨by decide +kernel, fun x e => Option.some.inj e ▸ (by decide +kernel)⟩
def headF (l : Str) (o1 o2 o3 : Option Str) (sep : Str) : Str := addP sep (addP sep (addP sep l o2) o1) o3
theorem headF_join (l : Str) (o1 o2 o3 : Option Str) (sep : Str) : headF l o1 o2 o3 sep = Txt.join sep (l :: there [o2, o1, o3]) := by
  rw [join_fold, there_fold]; rfl
theorem addP_ge (sep d : Str) (o : Option Str) : d.length ≤ (addP sep d o).length := by
  unfold addP
  cases o with
  | none => exact Nat.le_refl _
  | some x =>
    dsimp only
    split
    · exact Nat.le_refl _
    · rw [Str.length_append]; omega
theorem written_nrm (l : Str) (o1 o2 o3 o4 : Option Str) (sep : Str) : writtenF l o1 o2 o3 o4 sep = match nrm o4 with
    | none => headF l o1 o2 o3 sep
    | some x => headF l o1 o2 o3 sep ++ Str.ofString "@" ++ x := by
  show addM (headF l o1 o2 o3 sep) o4 = _
  rcases nrm_cases o4 with ⟨e, h⟩ | ⟨x, rfl, e, h⟩
  · rw [e]
    cases o4 with
    | none => rfl
    | some x =>
      unfold addM
      dsimp only
      rw [if_pos]
      rw [nil_iff]
      simpa [tr] using h
  · rw [e]
    unfold addM
    dsimp only
    rw [if_neg]
    rw [nil_iff]
    simpa [tr] using h
structure Parsed (l : Str) (o1 o2 o3 o4 : Option Str) (sep : Str) : Prop where
  hl : l ∈ langs
  h1 : o1 ∈ terrs
  h2 : o2 ∈ scripts
  h3 : o3 ∈ variants
  h4 : o4 ∈ modifiers
  hs : sep ∈ seps4
section
variable {l sep : Str} {o1 o2 o3 o4 : Option Str} (P : Parsed l o1 o2 o3 o4 sep)
include P
theorem Parsed.pieces : ∀ q ∈ l :: there [o2, o1, o3], Clean q := by
  intro q hq
  rcases List.mem_cons.mp hq with rfl | hq
  · exact (langs_ok P.hl).1
  · have := mem_there hq
    simp only [List.mem_cons, List.not_mem_nil, or_false] at this
    rcases this with e | e | e
    · exact (scripts_ok P.h2).2 q e.symm
    · exact (terrs_ok P.h1).2 q e.symm
    · exact (variants_ok P.h3).2 q e.symm
theorem Parsed.free {c : Nat} (hc : c ∈ marks) (hs : c ∉ chars sep) : c ∉ chars (headF l o1 o2 o3 sep) := by
  rw [headF_join, show Txt.join sep (l :: there [o2, o1, o3]) = Str.join sep (l :: there [o2, o1, o3]) from StrLaws.glued_eq_join _ _]
  exact join_free hs _ fun q hq => P.pieces q hq c hc
theorem Parsed.split : Txt.split (headF l o1 o2 o3 sep) sep = l :: there [nrm o2, nrm o1, nrm o3] := by
  obtain ⟨⟨c, hc, hh⟩, hk, _⟩ := seps_ok P.hs
  rw [headF_join, split_joined hh hk fun q hq => P.pieces q hq c hc, there_nrm]
  rfl
theorem Parsed.len : (headF l o1 o2 o3 sep).length ≤ 10000 ∧ 1 ≤ (headF l o1 o2 o3 sep).length := by
  have hs := (seps_ok P.hs).2.2.2.2.2
  have hl := (langs_ok P.hl).2.2.2
  have a1 := addP_len (d := l) (fun x e => (scripts_good P.h2 x e).1) hs
  have a2 := addP_len (d := addP sep l o2) (fun x e => (terrs_good P.h1 x e).1) hs
  have a3 := addP_len (d := addP sep (addP sep l o2) o1) (fun x e => (variants_good P.h3 x e).1) hs
  have b1 := addP_ge sep l o2
  have b2 := addP_ge sep (addP sep l o2) o1
  have b3 := addP_ge sep (addP sep (addP sep l o2) o1) o3
  unfold headF
  omega
end

theorem off29 : True := by
  w_top off
  trivial
section
variable {w : World} {dp un : Nat} {gd : Option (List Code)} {cn : Str} {cs : Scope} {a : Addr} {ccd : Value} {cl : List (Str × Addr)} {outer : List Env} {A₀ : Around} {base h₀ : Heap} {L : Addr} {m mg mb : Str → Option Value} {mean : ExcName → Option Value} {s : Shared} {Q E : Value → Shared → Prop} {news : List (Addr × Obj)}
theorem gliT1w {t : Addr} {n : Nat} {l sep : Str} {t0 tk : Tok} (B : Below A₀ base outer h₀) (F : Fr h₀ L s.heap m) (X : (Mine.hd.heap_39 w.params).In h₀) (T : Top Mine.hd.view_39 (looseW Mine.hd.view_39 [Str.ofString "Locale", Str.ofString "parse_locale", Str.ofString "get_locale_identifier"]) mean mg mb h₀) (hk : cs.kind = .function) (hd : dp + 4 < recursionLimit) (hu : un + 60 < cLine) (hl : l.length ≤ 1000) (hs : sep.length ≤ 16)
   (ht : s.heap.get? t = some (tupO [.str l t0] n)) (htr : tr (some l) = true)
   (hret : ∀ (t' : Tok) (h' : Heap) (tk' : Nat), Kp s.heap h' → Q (.str (writtenF l none none none none (sep)) t') { s with heap := h', toks := tk' }) :
   wpAny (model PySem.Challenge.rw_bd5005_01.row.prog w) (ktrTop dp un gd cn cs L a ccd cl outer) (call (.ref 195) [.ref t, .str sep tk]) Q E s :=
  gliT1 B F X T hk hd hu hl hs ht fun t' h' tk' k => by rw [gli_written htr]; exact hret t' h' tk' k
theorem gliT2w {t : Addr} {n : Nat} {l sep : Str} {o1 : Option Str} {t0 t1 tk : Tok} (B : Below A₀ base outer h₀) (F : Fr h₀ L s.heap m) (X : (Mine.hd.heap_39 w.params).In h₀) (T : Top Mine.hd.view_39 (looseW Mine.hd.view_39 [Str.ofString "Locale", Str.ofString "parse_locale", Str.ofString "get_locale_identifier"]) mean mg mb h₀) (hk : cs.kind = .function) (hd : dp + 4 < recursionLimit) (hu : un + 60 < cLine) (hl : l.length ≤ 1000) (ho1 : ∀ x, o1 = some x → x.length ≤ 1000) (hs : sep.length ≤ 16)
   (ht : s.heap.get? t = some (tupO [.str l t0, pv o1 t1] n)) (htr : tr (some l) = true)
   (hret : ∀ (t' : Tok) (h' : Heap) (tk' : Nat), Kp s.heap h' → Q (.str (writtenF l o1 none none none (sep)) t') { s with heap := h', toks := tk' }) :
   wpAny (model PySem.Challenge.rw_bd5005_01.row.prog w) (ktrTop dp un gd cn cs L a ccd cl outer) (call (.ref 195) [.ref t, .str sep tk]) Q E s :=
  gliT2 B F X T hk hd hu hl ho1 hs ht fun t' h' tk' k => by rw [gli_written htr]; exact hret t' h' tk' k
theorem gliT3w {t : Addr} {n : Nat} {l sep : Str} {o1 o2 : Option Str} {t0 t1 t2 tk : Tok} (B : Below A₀ base outer h₀) (F : Fr h₀ L s.heap m) (X : (Mine.hd.heap_39 w.params).In h₀) (T : Top Mine.hd.view_39 (looseW Mine.hd.view_39 [Str.ofString "Locale", Str.ofString "parse_locale", Str.ofString "get_locale_identifier"]) mean mg mb h₀) (hk : cs.kind = .function) (hd : dp + 4 < recursionLimit) (hu : un + 60 < cLine) (hl : l.length ≤ 1000) (ho1 : ∀ x, o1 = some x → x.length ≤ 1000) (ho2 : ∀ x, o2 = some x → x.length ≤ 1000) (hs : sep.length ≤ 16)
   (ht : s.heap.get? t = some (tupO [.str l t0, pv o1 t1, pv o2 t2] n)) (htr : tr (some l) = true)
   (hret : ∀ (t' : Tok) (h' : Heap) (tk' : Nat), Kp s.heap h' → Q (.str (writtenF l o1 o2 none none (sep)) t') { s with heap := h', toks := tk' }) :
   wpAny (model PySem.Challenge.rw_bd5005_01.row.prog w) (ktrTop dp un gd cn cs L a ccd cl outer) (call (.ref 195) [.ref t, .str sep tk]) Q E s :=
  gliT3 B F X T hk hd hu hl ho1 ho2 hs ht fun t' h' tk' k => by rw [gli_written htr]; exact hret t' h' tk' k
theorem gliT4w {t : Addr} {n : Nat} {l sep : Str} {o1 o2 o3 : Option Str} {t0 t1 t2 t3 tk : Tok} (B : Below A₀ base outer h₀) (F : Fr h₀ L s.heap m) (X : (Mine.hd.heap_39 w.params).In h₀) (T : Top Mine.hd.view_39 (looseW Mine.hd.view_39 [Str.ofString "Locale", Str.ofString "parse_locale", Str.ofString "get_locale_identifier"]) mean mg mb h₀) (hk : cs.kind = .function) (hd : dp + 4 < recursionLimit) (hu : un + 60 < cLine) (hl : l.length ≤ 1000) (ho1 : ∀ x, o1 = some x → x.length ≤ 1000) (ho2 : ∀ x, o2 = some x → x.length ≤ 1000) (ho3 : ∀ x, o3 = some x → x.length ≤ 1000) (hs : sep.length ≤ 16)
   (ht : s.heap.get? t = some (tupO [.str l t0, pv o1 t1, pv o2 t2, pv o3 t3] n)) (htr : tr (some l) = true)
   (hret : ∀ (t' : Tok) (h' : Heap) (tk' : Nat), Kp s.heap h' → Q (.str (writtenF l o1 o2 o3 none (sep)) t') { s with heap := h', toks := tk' }) :
   wpAny (model PySem.Challenge.rw_bd5005_01.row.prog w) (ktrTop dp un gd cn cs L a ccd cl outer) (call (.ref 195) [.ref t, .str sep tk]) Q E s :=
  gliT4 B F X T hk hd hu hl ho1 ho2 ho3 hs ht fun t' h' tk' k => by rw [gli_written htr]; exact hret t' h' tk' k
theorem gliT5w {t : Addr} {n : Nat} {l sep : Str} {o1 o2 o3 o4 : Option Str} {t0 t1 t2 t3 t4 tk : Tok} (B : Below A₀ base outer h₀) (F : Fr h₀ L s.heap m) (X : (Mine.hd.heap_39 w.params).In h₀) (T : Top Mine.hd.view_39 (looseW Mine.hd.view_39 [Str.ofString "Locale", Str.ofString "parse_locale", Str.ofString "get_locale_identifier"]) mean mg mb h₀) (hk : cs.kind = .function) (hd : dp + 4 < recursionLimit) (hu : un + 60 < cLine) (hl : l.length ≤ 1000) (ho1 : ∀ x, o1 = some x → x.length ≤ 1000) (ho2 : ∀ x, o2 = some x → x.length ≤ 1000) (ho3 : ∀ x, o3 = some x → x.length ≤ 1000) (ho4 : ∀ x, o4 = some x → x.length ≤ 1000) (hs : sep.length ≤ 16)
   (ht : s.heap.get? t = some (tupO [.str l t0, pv o1 t1, pv o2 t2, pv o3 t3, pv o4 t4] n)) (htr : tr (some l) = true)
   (hret : ∀ (t' : Tok) (h' : Heap) (tk' : Nat), Kp s.heap h' → Q (.str (writtenF l o1 o2 o3 o4 (sep)) t') { s with heap := h', toks := tk' }) :
   wpAny (model PySem.Challenge.rw_bd5005_01.row.prog w) (ktrTop dp un gd cn cs L a ccd cl outer) (call (.ref 195) [.ref t, .str sep tk]) Q E s :=
  gliT5 B F X T hk hd hu hl ho1 ho2 ho3 ho4 hs ht fun t' h' tk' k => by rw [gli_written htr]; exact hret t' h' tk' k
theorem gliT6w {t : Addr} {n : Nat} {l sep e1 : Str} {o1 o2 o3 o4 : Option Str} {t0 t1 t2 t3 t4 t5 tk : Tok} (B : Below A₀ base outer h₀) (F : Fr h₀ L s.heap m) (X : (Mine.hd.heap_39 w.params).In h₀) (T : Top Mine.hd.view_39 (looseW Mine.hd.view_39 [Str.ofString "Locale", Str.ofString "parse_locale", Str.ofString "get_locale_identifier"]) mean mg mb h₀) (hk : cs.kind = .function) (hd : dp + 4 < recursionLimit) (hu : un + 60 < cLine) (hl : l.length ≤ 1000) (ho1 : ∀ x, o1 = some x → x.length ≤ 1000) (ho2 : ∀ x, o2 = some x → x.length ≤ 1000) (ho3 : ∀ x, o3 = some x → x.length ≤ 1000) (ho4 : ∀ x, o4 = some x → x.length ≤ 1000) (hs : sep.length ≤ 16)
   (ht : s.heap.get? t = some (tupO [.str l t0, pv o1 t1, pv o2 t2, pv o3 t3, pv o4 t4, .str e1 t5] n)) (htr : tr (some l) = true)
   (hret : ∀ (t' : Tok) (h' : Heap) (tk' : Nat), Kp s.heap h' → Q (.str (writtenF l o1 o2 o3 o4 (sep)) t') { s with heap := h', toks := tk' }) :
   wpAny (model PySem.Challenge.rw_bd5005_01.row.prog w) (ktrTop dp un gd cn cs L a ccd cl outer) (call (.ref 195) [.ref t, .str sep tk]) Q E s :=
  gliT6 B F X T hk hd hu hl ho1 ho2 ho3 ho4 hs ht fun t' h' tk' k => by rw [gli_written htr]; exact hret t' h' tk' k
theorem gliT7w {t : Addr} {n : Nat} {l sep e1 e2 : Str} {o1 o2 o3 o4 : Option Str} {t0 t1 t2 t3 t4 t5 t6 tk : Tok} (B : Below A₀ base outer h₀) (F : Fr h₀ L s.heap m) (X : (Mine.hd.heap_39 w.params).In h₀) (T : Top Mine.hd.view_39 (looseW Mine.hd.view_39 [Str.ofString "Locale", Str.ofString "parse_locale", Str.ofString "get_locale_identifier"]) mean mg mb h₀) (hk : cs.kind = .function) (hd : dp + 4 < recursionLimit) (hu : un + 60 < cLine) (hl : l.length ≤ 1000) (ho1 : ∀ x, o1 = some x → x.length ≤ 1000) (ho2 : ∀ x, o2 = some x → x.length ≤ 1000) (ho3 : ∀ x, o3 = some x → x.length ≤ 1000) (ho4 : ∀ x, o4 = some x → x.length ≤ 1000) (hs : sep.length ≤ 16)
   (ht : s.heap.get? t = some (tupO [.str l t0, pv o1 t1, pv o2 t2, pv o3 t3, pv o4 t4, .str e1 t5, .str e2 t6] n)) (htr : tr (some l) = true)
   (hret : ∀ (t' : Tok) (h' : Heap) (tk' : Nat), Kp s.heap h' → Q (.str (writtenF l o1 o2 o3 o4 (sep)) t') { s with heap := h', toks := tk' }) :
   wpAny (model PySem.Challenge.rw_bd5005_01.row.prog w) (ktrTop dp un gd cn cs L a ccd cl outer) (call (.ref 195) [.ref t, .str sep tk]) Q E s :=
  gliT7 B F X T hk hd hu hl ho1 ho2 ho3 ho4 hs ht fun t' h' tk' k => by rw [gli_written htr]; exact hret t' h' tk' k
theorem gliL1w {t : Addr} {n : Nat} {l sep : Str} {t0 tk : Tok} (B : Below A₀ base outer h₀) (F : Fr h₀ L s.heap m) (X : (Mine.hd.heap_39 w.params).In h₀) (T : Top Mine.hd.view_39 (looseW Mine.hd.view_39 [Str.ofString "Locale", Str.ofString "parse_locale", Str.ofString "get_locale_identifier"]) mean mg mb h₀) (hk : cs.kind = .function) (hd : dp + 4 < recursionLimit) (hu : un + 60 < cLine) (hl : l.length ≤ 1000) (hs : sep.length ≤ 16)
   (ht : s.heap.get? t = some (listO [.str l t0] n)) (htr : tr (some l) = true)
   (hret : ∀ (t' : Tok) (h' : Heap) (tk' : Nat), Kp s.heap h' → Q (.str (writtenF l none none none none (sep)) t') { s with heap := h', toks := tk' }) :
   wpAny (model PySem.Challenge.rw_bd5005_01.row.prog w) (ktrTop dp un gd cn cs L a ccd cl outer) (call (.ref 195) [.ref t, .str sep tk]) Q E s :=
  gliL1 B F X T hk hd hu hl hs ht fun t' h' tk' k => by rw [gli_written htr]; exact hret t' h' tk' k
theorem gliL2w {t : Addr} {n : Nat} {l sep : Str} {o1 : Option Str} {t0 t1 tk : Tok} (B : Below A₀ base outer h₀) (F : Fr h₀ L s.heap m) (X : (Mine.hd.heap_39 w.params).In h₀) (T : Top Mine.hd.view_39 (looseW Mine.hd.view_39 [Str.ofString "Locale", Str.ofString "parse_locale", Str.ofString "get_locale_identifier"]) mean mg mb h₀) (hk : cs.kind = .function) (hd : dp + 4 < recursionLimit) (hu : un + 60 < cLine) (hl : l.length ≤ 1000) (ho1 : ∀ x, o1 = some x → x.length ≤ 1000) (hs : sep.length ≤ 16)
   (ht : s.heap.get? t = some (listO [.str l t0, pv o1 t1] n)) (htr : tr (some l) = true)
   (hret : ∀ (t' : Tok) (h' : Heap) (tk' : Nat), Kp s.heap h' → Q (.str (writtenF l o1 none none none (sep)) t') { s with heap := h', toks := tk' }) :
   wpAny (model PySem.Challenge.rw_bd5005_01.row.prog w) (ktrTop dp un gd cn cs L a ccd cl outer) (call (.ref 195) [.ref t, .str sep tk]) Q E s :=
  gliL2 B F X T hk hd hu hl ho1 hs ht fun t' h' tk' k => by rw [gli_written htr]; exact hret t' h' tk' k
theorem gliL3w {t : Addr} {n : Nat} {l sep : Str} {o1 o2 : Option Str} {t0 t1 t2 tk : Tok} (B : Below A₀ base outer h₀) (F : Fr h₀ L s.heap m) (X : (Mine.hd.heap_39 w.params).In h₀) (T : Top Mine.hd.view_39 (looseW Mine.hd.view_39 [Str.ofString "Locale", Str.ofString "parse_locale", Str.ofString "get_locale_identifier"]) mean mg mb h₀) (hk : cs.kind = .function) (hd : dp + 4 < recursionLimit) (hu : un + 60 < cLine) (hl : l.length ≤ 1000) (ho1 : ∀ x, o1 = some x → x.length ≤ 1000) (ho2 : ∀ x, o2 = some x → x.length ≤ 1000) (hs : sep.length ≤ 16)
   (ht : s.heap.get? t = some (listO [.str l t0, pv o1 t1, pv o2 t2] n)) (htr : tr (some l) = true)
   (hret : ∀ (t' : Tok) (h' : Heap) (tk' : Nat), Kp s.heap h' → Q (.str (writtenF l o1 o2 none none (sep)) t') { s with heap := h', toks := tk' }) :
   wpAny (model PySem.Challenge.rw_bd5005_01.row.prog w) (ktrTop dp un gd cn cs L a ccd cl outer) (call (.ref 195) [.ref t, .str sep tk]) Q E s :=
  gliL3 B F X T hk hd hu hl ho1 ho2 hs ht fun t' h' tk' k => by rw [gli_written htr]; exact hret t' h' tk' k
theorem gliL4w {t : Addr} {n : Nat} {l sep : Str} {o1 o2 o3 : Option Str} {t0 t1 t2 t3 tk : Tok} (B : Below A₀ base outer h₀) (F : Fr h₀ L s.heap m) (X : (Mine.hd.heap_39 w.params).In h₀) (T : Top Mine.hd.view_39 (looseW Mine.hd.view_39 [Str.ofString "Locale", Str.ofString "parse_locale", Str.ofString "get_locale_identifier"]) mean mg mb h₀) (hk : cs.kind = .function) (hd : dp + 4 < recursionLimit) (hu : un + 60 < cLine) (hl : l.length ≤ 1000) (ho1 : ∀ x, o1 = some x → x.length ≤ 1000) (ho2 : ∀ x, o2 = some x → x.length ≤ 1000) (ho3 : ∀ x, o3 = some x → x.length ≤ 1000) (hs : sep.length ≤ 16)
   (ht : s.heap.get? t = some (listO [.str l t0, pv o1 t1, pv o2 t2, pv o3 t3] n)) (htr : tr (some l) = true)
   (hret : ∀ (t' : Tok) (h' : Heap) (tk' : Nat), Kp s.heap h' → Q (.str (writtenF l o1 o2 o3 none (sep)) t') { s with heap := h', toks := tk' }) :
   wpAny (model PySem.Challenge.rw_bd5005_01.row.prog w) (ktrTop dp un gd cn cs L a ccd cl outer) (call (.ref 195) [.ref t, .str sep tk]) Q E s :=
  gliL4 B F X T hk hd hu hl ho1 ho2 ho3 hs ht fun t' h' tk' k => by rw [gli_written htr]; exact hret t' h' tk' k
theorem gliL5w {t : Addr} {n : Nat} {l sep : Str} {o1 o2 o3 o4 : Option Str} {t0 t1 t2 t3 t4 tk : Tok} (B : Below A₀ base outer h₀) (F : Fr h₀ L s.heap m) (X : (Mine.hd.heap_39 w.params).In h₀) (T : Top Mine.hd.view_39 (looseW Mine.hd.view_39 [Str.ofString "Locale", Str.ofString "parse_locale", Str.ofString "get_locale_identifier"]) mean mg mb h₀) (hk : cs.kind = .function) (hd : dp + 4 < recursionLimit) (hu : un + 60 < cLine) (hl : l.length ≤ 1000) (ho1 : ∀ x, o1 = some x → x.length ≤ 1000) (ho2 : ∀ x, o2 = some x → x.length ≤ 1000) (ho3 : ∀ x, o3 = some x → x.length ≤ 1000) (ho4 : ∀ x, o4 = some x → x.length ≤ 1000) (hs : sep.length ≤ 16)
   (ht : s.heap.get? t = some (listO [.str l t0, pv o1 t1, pv o2 t2, pv o3 t3, pv o4 t4] n)) (htr : tr (some l) = true)
   (hret : ∀ (t' : Tok) (h' : Heap) (tk' : Nat), Kp s.heap h' → Q (.str (writtenF l o1 o2 o3 o4 (sep)) t') { s with heap := h', toks := tk' }) :
   wpAny (model PySem.Challenge.rw_bd5005_01.row.prog w) (ktrTop dp un gd cn cs L a ccd cl outer) (call (.ref 195) [.ref t, .str sep tk]) Q E s :=
  gliL5 B F X T hk hd hu hl ho1 ho2 ho3 ho4 hs ht fun t' h' tk' k => by rw [gli_written htr]; exact hret t' h' tk' k
theorem gliL6w {t : Addr} {n : Nat} {l sep e1 : Str} {o1 o2 o3 o4 : Option Str} {t0 t1 t2 t3 t4 t5 tk : Tok} (B : Below A₀ base outer h₀) (F : Fr h₀ L s.heap m) (X : (Mine.hd.heap_39 w.params).In h₀) (T : Top Mine.hd.view_39 (looseW Mine.hd.view_39 [Str.ofString "Locale", Str.ofString "parse_locale", Str.ofString "get_locale_identifier"]) mean mg mb h₀) (hk : cs.kind = .function) (hd : dp + 4 < recursionLimit) (hu : un + 60 < cLine) (hl : l.length ≤ 1000) (ho1 : ∀ x, o1 = some x → x.length ≤ 1000) (ho2 : ∀ x, o2 = some x → x.length ≤ 1000) (ho3 : ∀ x, o3 = some x → x.length ≤ 1000) (ho4 : ∀ x, o4 = some x → x.length ≤ 1000) (hs : sep.length ≤ 16)
   (ht : s.heap.get? t = some (listO [.str l t0, pv o1 t1, pv o2 t2, pv o3 t3, pv o4 t4, .str e1 t5] n)) (htr : tr (some l) = true)
   (hret : ∀ (t' : Tok) (h' : Heap) (tk' : Nat), Kp s.heap h' → Q (.str (writtenF l o1 o2 o3 o4 (sep)) t') { s with heap := h', toks := tk' }) :
   wpAny (model PySem.Challenge.rw_bd5005_01.row.prog w) (ktrTop dp un gd cn cs L a ccd cl outer) (call (.ref 195) [.ref t, .str sep tk]) Q E s :=
  gliL6 B F X T hk hd hu hl ho1 ho2 ho3 ho4 hs ht fun t' h' tk' k => by rw [gli_written htr]; exact hret t' h' tk' k
theorem gliL7w {t : Addr} {n : Nat} {l sep e1 e2 : Str} {o1 o2 o3 o4 : Option Str} {t0 t1 t2 t3 t4 t5 t6 tk : Tok} (B : Below A₀ base outer h₀) (F : Fr h₀ L s.heap m) (X : (Mine.hd.heap_39 w.params).In h₀) (T : Top Mine.hd.view_39 (looseW Mine.hd.view_39 [Str.ofString "Locale", Str.ofString "parse_locale", Str.ofString "get_locale_identifier"]) mean mg mb h₀) (hk : cs.kind = .function) (hd : dp + 4 < recursionLimit) (hu : un + 60 < cLine) (hl : l.length ≤ 1000) (ho1 : ∀ x, o1 = some x → x.length ≤ 1000) (ho2 : ∀ x, o2 = some x → x.length ≤ 1000) (ho3 : ∀ x, o3 = some x → x.length ≤ 1000) (ho4 : ∀ x, o4 = some x → x.length ≤ 1000) (hs : sep.length ≤ 16)
   (ht : s.heap.get? t = some (listO [.str l t0, pv o1 t1, pv o2 t2, pv o3 t3, pv o4 t4, .str e1 t5, .str e2 t6] n)) (htr : tr (some l) = true)
   (hret : ∀ (t' : Tok) (h' : Heap) (tk' : Nat), Kp s.heap h' → Q (.str (writtenF l o1 o2 o3 o4 (sep)) t') { s with heap := h', toks := tk' }) :
   wpAny (model PySem.Challenge.rw_bd5005_01.row.prog w) (ktrTop dp un gd cn cs L a ccd cl outer) (call (.ref 195) [.ref t, .str sep tk]) Q E s :=
  gliL7 B F X T hk hd hu hl ho1 ho2 ho3 ho4 hs ht fun t' h' tk' k => by rw [gli_written htr]; exact hret t' h' tk' k
theorem gliD5w {t : Addr} {n : Nat} {l : Str} {o1 o2 o3 o4 : Option Str} {t0 t1 t2 t3 t4 : Tok} (B : Below A₀ base outer h₀) (F : Fr h₀ L s.heap m) (X : (Mine.hd.heap_39 w.params).In h₀) (T : Top Mine.hd.view_39 (looseW Mine.hd.view_39 [Str.ofString "Locale", Str.ofString "parse_locale", Str.ofString "get_locale_identifier"]) mean mg mb h₀) (hk : cs.kind = .function) (hd : dp + 4 < recursionLimit) (hu : un + 60 < cLine) (hl : l.length ≤ 1000) (ho1 : ∀ x, o1 = some x → x.length ≤ 1000) (ho2 : ∀ x, o2 = some x → x.length ≤ 1000) (ho3 : ∀ x, o3 = some x → x.length ≤ 1000) (ho4 : ∀ x, o4 = some x → x.length ≤ 1000)
   (ht : s.heap.get? t = some (tupO [.str l t0, pv o1 t1, pv o2 t2, pv o3 t3, pv o4 t4] n)) (htr : tr (some l) = true)
   (hret : ∀ (t' : Tok) (h' : Heap) (tk' : Nat), Kp s.heap h' → Q (.str (writtenF l o1 o2 o3 o4 (Str.ofString "_")) t') { s with heap := h', toks := tk' }) :
   wpAny (model PySem.Challenge.rw_bd5005_01.row.prog w) (ktrTop dp un gd cn cs L a ccd cl outer) (call (.ref 195) [.ref t]) Q E s :=
  gliD5 B F X T hk hd hu hl ho1 ho2 ho3 ho4 ht fun t' h' tk' k => by rw [gli_written htr]; exact hret t' h' tk' k
theorem parse_no {t tk : Tok} {l sep : Str} {o1 o2 o3 o4 : Option Str} (B : Below A₀ base outer h₀) (F : Fr h₀ L s.heap m) (X : (Mine.hd.heap_39 w.params).In h₀) (T : Top Mine.hd.view_39 (looseW Mine.hd.view_39 [Str.ofString "Locale", Str.ofString "parse_locale", Str.ofString "get_locale_identifier"]) mean mg mb h₀) (hk : cs.kind = .function) (hd : dp + 4 < recursionLimit) (hu : un + 60 < cLine) (P : Parsed l o1 o2 o3 o4 sep) (h : (nrm o4).isSome = false)
   (hret : ∀ (D : Addr) (n : Nat) (t0 t1 t2 t3 t4 : Tok) (h' : Heap) (tk' : Nat), Kp s.heap h' → s.heap.get? D = none → h'.get? D = some (tupO [.str l t0, pv (nrm o1) t1, pv (nrm o2) t2, pv (nrm o3) t3] n) → Q (.ref D) { s with heap := h', toks := tk' }) :
   wpAny (model PySem.Challenge.rw_bd5005_01.row.prog w) (ktrTop dp un gd cn cs L a ccd cl outer) (call (.ref 189) [.str (writtenF l o1 o2 o3 o4 sep) t, .str sep tk]) Q E s := by
  have hl := P.len
  have hf := seps_ok P.hs
  have lo := langs_ok P.hl
  have h64 : 64 ∉ chars (headF l o1 o2 o3 sep) := P.free (by decide) hf.2.2.1
  have h46 : 46 ∉ chars (headF l o1 o2 o3 sep) := P.free (by decide) hf.2.2.2.1
  have eat : Str.ofString "@" = ⟨#[64]⟩ := by decide +kernel
  have edt : Str.ofString "." = ⟨#[46]⟩ := by decide +kernel
  rw [written_nrm]
  have e : nrm o4 = none := by cases hh : nrm o4 with
    | none => rfl
    | some x => rw [hh] at h; cases h
  rw [e]
  dsimp only
  refine parseL (b := false) (I := headF l o1 o2 o3 sep) (z := Str.empty) (M := Str.empty) B F X T hk hd hu (by omega) (bne_iff_ne.mpr (by omega)) hf.2.2.2.2.1 (by rw [eat]; exact part_none h64) (by omega) (by rw [edt]; exact dot_none h46) (by decide) (by decide) (terrs_ok P.h1).1 (scripts_ok P.h2).1 (variants_ok P.h3).1 P.split lo.2.2.2.1 lo.2.1 lo.2.2.1 ?_
  intro D n t0 t1 t2 t3 t4 h' tk' k1 k2 k3
  rw [modV_no (by decide), List.append_nil] at k3
  exact hret D n t0 t1 t2 t3 t4 h' tk' k1 k2 k3
theorem parse_yes {t tk : Tok} {l sep : Str} {o1 o2 o3 o4 : Option Str} (B : Below A₀ base outer h₀) (F : Fr h₀ L s.heap m) (X : (Mine.hd.heap_39 w.params).In h₀) (T : Top Mine.hd.view_39 (looseW Mine.hd.view_39 [Str.ofString "Locale", Str.ofString "parse_locale", Str.ofString "get_locale_identifier"]) mean mg mb h₀) (hk : cs.kind = .function) (hd : dp + 4 < recursionLimit) (hu : un + 60 < cLine) (P : Parsed l o1 o2 o3 o4 sep) (h : (nrm o4).isSome = true)
   (hret : ∀ (D : Addr) (n : Nat) (t0 t1 t2 t3 t4 : Tok) (h' : Heap) (tk' : Nat), Kp s.heap h' → s.heap.get? D = none → h'.get? D = some (tupO [.str l t0, pv (nrm o1) t1, pv (nrm o2) t2, pv (nrm o3) t3, pv (nrm o4) t4] n) → Q (.ref D) { s with heap := h', toks := tk' }) :
   wpAny (model PySem.Challenge.rw_bd5005_01.row.prog w) (ktrTop dp un gd cn cs L a ccd cl outer) (call (.ref 189) [.str (writtenF l o1 o2 o3 o4 sep) t, .str sep tk]) Q E s := by
  have hl := P.len
  have hf := seps_ok P.hs
  have lo := langs_ok P.hl
  have h64 : 64 ∉ chars (headF l o1 o2 o3 sep) := P.free (by decide) hf.2.2.1
  have h46 : 46 ∉ chars (headF l o1 o2 o3 sep) := P.free (by decide) hf.2.2.2.1
  have eat : Str.ofString "@" = ⟨#[64]⟩ := by decide +kernel
  have edt : Str.ofString "." = ⟨#[46]⟩ := by decide +kernel
  rw [written_nrm]
  rcases nrm_cases o4 with ⟨e, _⟩ | ⟨x, rfl, e, ht⟩
  · rw [e] at h; cases h
  have hx := (modifiers_good P.h4 x rfl).1
  have hx1 : ((x.length : Int) != 0) = true := by
    have : x.length ≠ 0 := by simpa [tr] using ht
    exact bne_iff_ne.mpr (by omega)
  rw [e] at hret
  rw [e]
  dsimp only
  have hy : (headF l o1 o2 o3 sep ++ Str.ofString "@" ++ x).length ≤ 20000 ∧ 1 ≤ (headF l o1 o2 o3 sep ++ Str.ofString "@" ++ x).length := by
    rw [Str.length_append, Str.length_append]
    have : (Str.ofString "@").length = 1 := by decide +kernel
    omega
  refine parseL (b := true) (I := headF l o1 o2 o3 sep) (z := ⟨#[64]⟩) (M := x) B F X T hk hd hu (by omega) (bne_iff_ne.mpr (by omega)) hf.2.2.2.2.1 (by rw [eat]; exact part_at h64) (by omega) (by rw [edt]; exact dot_none h46) (by omega) hx1 (terrs_ok P.h1).1 (scripts_ok P.h2).1 (variants_ok P.h3).1 P.split lo.2.2.2.1 lo.2.1 lo.2.2.1 ?_
  intro D n t0 t1 t2 t3 t4 h' tk' k1 k2 k3
  rw [modV_yes hx1] at k3
  simp only [pv_some] at hret
  exact hret D n t0 t1 t2 t3 t4 h' tk' k1 k2 k3
theorem parse_noK {t tk : Tok} {l sep : Str} {o1 o2 o3 o4 : Option Str} (B : Below A₀ base outer h₀) (F : Fr h₀ L s.heap m) (X : (Mine.hd.heap_39 w.params).In h₀) (T : Top Mine.hd.view_39 (looseW Mine.hd.view_39 [Str.ofString "Locale", Str.ofString "parse_locale", Str.ofString "get_locale_identifier"]) mean mg mb h₀) (hk : cs.kind = .function) (hd : dp + 4 < recursionLimit) (hu : un + 60 < cLine) (P : Parsed l o1 o2 o3 o4 sep) (h : (nrm o4).isSome = false)
   (hret : ∀ (D : Addr) (n : Nat) (t0 t1 t2 t3 t4 : Tok) (h' : Heap) (tk' : Nat), Kp s.heap h' → s.heap.get? D = none → h'.get? D = some (tupO [.str l t0, pv (nrm o1) t1, pv (nrm o2) t2, pv (nrm o3) t3] n) → Q (.ref D) { s with heap := h', toks := tk' }) :
   wpAny (model PySem.Challenge.rw_bd5005_01.row.prog w) (ktrTop dp un gd cn cs L a ccd cl outer) (call (.ref 189) [.str (writtenF l o1 o2 o3 o4 sep) t] [(Str.ofString "sep", .str sep tk)]) Q E s := by
  have hl := P.len
  have hf := seps_ok P.hs
  have lo := langs_ok P.hl
  have h64 : 64 ∉ chars (headF l o1 o2 o3 sep) := P.free (by decide) hf.2.2.1
  have h46 : 46 ∉ chars (headF l o1 o2 o3 sep) := P.free (by decide) hf.2.2.2.1
  have eat : Str.ofString "@" = ⟨#[64]⟩ := by decide +kernel
  have edt : Str.ofString "." = ⟨#[46]⟩ := by decide +kernel
  rw [written_nrm]
  have e : nrm o4 = none := by cases hh : nrm o4 with
    | none => rfl
    | some x => rw [hh] at h; cases h
  rw [e]
  dsimp only
  refine parseLK (b := false) (I := headF l o1 o2 o3 sep) (z := Str.empty) (M := Str.empty) B F X T hk hd hu (by omega) (bne_iff_ne.mpr (by omega)) hf.2.2.2.2.1 (by rw [eat]; exact part_none h64) (by omega) (by rw [edt]; exact dot_none h46) (by decide) (by decide) (terrs_ok P.h1).1 (scripts_ok P.h2).1 (variants_ok P.h3).1 P.split lo.2.2.2.1 lo.2.1 lo.2.2.1 ?_
  intro D n t0 t1 t2 t3 t4 h' tk' k1 k2 k3
  rw [modV_no (by decide), List.append_nil] at k3
  exact hret D n t0 t1 t2 t3 t4 h' tk' k1 k2 k3
theorem parse_yesK {t tk : Tok} {l sep : Str} {o1 o2 o3 o4 : Option Str} (B : Below A₀ base outer h₀) (F : Fr h₀ L s.heap m) (X : (Mine.hd.heap_39 w.params).In h₀) (T : Top Mine.hd.view_39 (looseW Mine.hd.view_39 [Str.ofString "Locale", Str.ofString "parse_locale", Str.ofString "get_locale_identifier"]) mean mg mb h₀) (hk : cs.kind = .function) (hd : dp + 4 < recursionLimit) (hu : un + 60 < cLine) (P : Parsed l o1 o2 o3 o4 sep) (h : (nrm o4).isSome = true)
   (hret : ∀ (D : Addr) (n : Nat) (t0 t1 t2 t3 t4 : Tok) (h' : Heap) (tk' : Nat), Kp s.heap h' → s.heap.get? D = none → h'.get? D = some (tupO [.str l t0, pv (nrm o1) t1, pv (nrm o2) t2, pv (nrm o3) t3, pv (nrm o4) t4] n) → Q (.ref D) { s with heap := h', toks := tk' }) :
   wpAny (model PySem.Challenge.rw_bd5005_01.row.prog w) (ktrTop dp un gd cn cs L a ccd cl outer) (call (.ref 189) [.str (writtenF l o1 o2 o3 o4 sep) t] [(Str.ofString "sep", .str sep tk)]) Q E s := by
  have hl := P.len
  have hf := seps_ok P.hs
  have lo := langs_ok P.hl
  have h64 : 64 ∉ chars (headF l o1 o2 o3 sep) := P.free (by decide) hf.2.2.1
  have h46 : 46 ∉ chars (headF l o1 o2 o3 sep) := P.free (by decide) hf.2.2.2.1
  have eat : Str.ofString "@" = ⟨#[64]⟩ := by decide +kernel
  have edt : Str.ofString "." = ⟨#[46]⟩ := by decide +kernel
  rw [written_nrm]
  rcases nrm_cases o4 with ⟨e, _⟩ | ⟨x, rfl, e, ht⟩
  · rw [e] at h; cases h
  have hx := (modifiers_good P.h4 x rfl).1
  have hx1 : ((x.length : Int) != 0) = true := by
    have : x.length ≠ 0 := by simpa [tr] using ht
    exact bne_iff_ne.mpr (by omega)
  rw [e] at hret
  rw [e]
  dsimp only
  have hy : (headF l o1 o2 o3 sep ++ Str.ofString "@" ++ x).length ≤ 20000 ∧ 1 ≤ (headF l o1 o2 o3 sep ++ Str.ofString "@" ++ x).length := by
    rw [Str.length_append, Str.length_append]
    have : (Str.ofString "@").length = 1 := by decide +kernel
    omega
  refine parseLK (b := true) (I := headF l o1 o2 o3 sep) (z := ⟨#[64]⟩) (M := x) B F X T hk hd hu (by omega) (bne_iff_ne.mpr (by omega)) hf.2.2.2.2.1 (by rw [eat]; exact part_at h64) (by omega) (by rw [edt]; exact dot_none h46) (by omega) hx1 (terrs_ok P.h1).1 (scripts_ok P.h2).1 (variants_ok P.h3).1 P.split lo.2.2.2.1 lo.2.1 lo.2.2.1 ?_
  intro D n t0 t1 t2 t3 t4 h' tk' k1 k2 k3
  rw [modV_yes hx1] at k3
  simp only [pv_some] at hret
  exact hret D n t0 t1 t2 t3 t4 h' tk' k1 k2 k3
end

theorem off30 : True := by
  w_top off
  trivial
section
variable {w : World} {dp un : Nat} {gd : Option (List Code)} {cn : Str} {cs : Scope} {a : Addr} {ccd : Value} {cl : List (Str × Addr)} {outer : List Env} {A₀ : Around} {base h₀ : Heap} {L : Addr} {m mg mb : Str → Option Value} {mean : ExcName → Option Value} {s : Shared} {Q E : Value → Shared → Prop} {news : List (Addr × Obj)}
theorem parts2 {x : Int} {tk : Tok} (hx : 0 ≤ x) (B : Below A₀ base outer h₀) (F : Fr h₀ L s.heap m) (X : (Mine.hd.heap_39 w.params).In h₀) (N : News h₀ L s.heap (news)) (T : Top Mine.hd.view_39 (looseW Mine.hd.view_39 [Str.ofString "Locale", Str.ofString "parse_locale", Str.ofString "get_locale_identifier"]) mean mg mb h₀) (hk : cs.kind = .function) (hd : dp + 4 < recursionLimit) (hu : un + 60 < cLine)
   (hret : ∀ (D : Addr) (n : Nat) (l : Str) (o1 o2 o3 o4 : Option Str) (t0 t1 t2 t3 t4 : Tok) (h' : Heap) (tk' : Nat), l ∈ langs → o1 ∈ terrs → o2 ∈ scripts → o3 ∈ variants → o4 ∈ modifiers →
      l.length ≤ 1000 → plainRepr l → tr (some l) = true → Good o1 → Good o2 → Good o3 → Good o4 → (∀ x, o1 = some x → x.length ≤ 1000) → (∀ x, o2 = some x → x.length ≤ 1000) → (∀ x, o3 = some x → x.length ≤ 1000) → (∀ x, o4 = some x → x.length ≤ 1000) →
      Fr h₀ L h' m → News h₀ L h' ((D, tupO [.str l t0, pv o1 t1, pv o2 t2, pv o3 t3, pv o4 t4] n) :: news) → AllLt D news → Q (.ref D) { s with heap := h', toks := tk' }) :
   wpAny (model PySem.Challenge.rw_bd5005_01.row.prog w) (ktrTop dp un gd cn cs L a ccd cl outer) (call (.ref 203) [.int x tk]) Q E s :=
  parts hx B F X N T hk hd hu fun D n l o1 o2 o3 o4 t0 t1 t2 t3 t4 h' tk' a0 a1 a2 a3 a4 =>
    hret D n l o1 o2 o3 o4 t0 t1 t2 t3 t4 h' tk' a0 a1 a2 a3 a4 (langs_good a0).1.1 (langs_good a0).1.2 (langs_good a0).2 (terrs_good a1) (scripts_good a2) (variants_good a3) (modifiers_good a4)
      (fun x e => (terrs_good a1 x e).1) (fun x e => (scripts_good a2 x e).1) (fun x e => (variants_good a3 x e).1) (fun x e => (modifiers_good a4 x e).1)
theorem reprW {x dx : Addr} {t0 t1 t2 t3 t4 t5 tl tx1 tx2 tx3 tx4 : Tok} {l : Str} {o1 o2 o3 o4 : Option Str} {vd : Value}
   (B : Below A₀ base outer h₀) (F : Fr h₀ L s.heap m) (X : (Mine.hd.heap_39 w.params).In h₀) (T : Top Mine.hd.view_39 (looseW Mine.hd.view_39 [Str.ofString "Locale", Str.ofString "parse_locale", Str.ofString "get_locale_identifier"]) mean mg mb h₀) (hk : cs.kind = .function) (hd : dp + 8 < recursionLimit) (hu : un + 100 < cLine) (hl : l.length ≤ 1000) (hq : plainRepr l) (ho1 : Good o1) (ho2 : Good o2) (ho3 : Good o3) (ho4 : Good o4)
   (hx : s.heap.get? x = some (instObj 177 dx)) (hdx : s.heap.get? dx = some (dictOf (locD w.params t0 t1 t2 t3 t4 t5 (.str l tl) (pv o1 tx1) (pv o2 tx2) (pv o3 tx3) (pv o4 tx4) vd) 6))
   (hret : ∀ (t' : Tok) (h' : Heap) (tk' : Nat), Kp s.heap h' → Q (.str (shownF l o1 o2 o3 o4) t') { s with heap := h', toks := tk' }) :
   wpAny (model PySem.Challenge.rw_bd5005_01.row.prog w) (ktrTop dp un gd cn cs L a ccd cl outer) (call (.ref 95) [.ref x]) Q E s :=
  reprL B F X T hk hd hu hl hq ho1 ho2 ho3 ho4 hx hdx fun t' h' tk' k => by rw [repr_shown]; exact hret t' h' tk' k
theorem eqW {b : Bool} {x dx y dy : Addr} {t0 t1 t2 t3 t4 t5 u0 u1 u2 u3 u4 u5 tl ul tx1 tx2 tx3 tx4 ty1 ty2 ty3 ty4 : Tok} {l l' : Str} {o1 o2 o3 o4 p1 p2 p3 p4 : Option Str} {vd vd' : Value}
   (B : Below A₀ base outer h₀) (F : Fr h₀ L s.heap m) (X : (Mine.hd.heap_39 w.params).In h₀) (T : Top Mine.hd.view_39 (looseW Mine.hd.view_39 [Str.ofString "Locale", Str.ofString "parse_locale", Str.ofString "get_locale_identifier"]) mean mg mb h₀) (hk : cs.kind = .function) (hd : dp + 8 < recursionLimit) (hu : un + 100 < cLine)
   (hx : s.heap.get? x = some (instObj 177 dx)) (hdx : s.heap.get? dx = some (dictOf (locD w.params t0 t1 t2 t3 t4 t5 (.str l tl) (pv o1 tx1) (pv o2 tx2) (pv o3 tx3) (pv o4 tx4) vd) 6))
   (hy : s.heap.get? y = some (instObj 177 dy)) (hdy : s.heap.get? dy = some (dictOf (locD w.params u0 u1 u2 u3 u4 u5 (.str l' ul) (pv p1 ty1) (pv p2 ty2) (pv p3 ty3) (pv p4 ty4) vd') 6))
   (hb : decide (l = l' ∧ o1 = p1 ∧ o2 = p2 ∧ o3 = p3 ∧ o4 = p4) = b)
   (hret : ∀ (t' : Tok) (h' : Heap) (tk' : Nat), Kp s.heap h' → Q (.bool b) { s with heap := h', toks := tk' }) :
   wpAny (model PySem.Challenge.rw_bd5005_01.row.prog w) (ktrTop dp un gd cn cs L a ccd cl outer) (call (.ref 81) [.ref x, .ref y]) Q E s := by
  subst hb
  exact eqL B F X T hk hd hu hx hdx hy hdy hret
theorem neW {b : Bool} {x dx y dy : Addr} {t0 t1 t2 t3 t4 t5 u0 u1 u2 u3 u4 u5 tl ul tx1 tx2 tx3 tx4 ty1 ty2 ty3 ty4 : Tok} {l l' : Str} {o1 o2 o3 o4 p1 p2 p3 p4 : Option Str} {vd vd' : Value}
   (B : Below A₀ base outer h₀) (F : Fr h₀ L s.heap m) (X : (Mine.hd.heap_39 w.params).In h₀) (T : Top Mine.hd.view_39 (looseW Mine.hd.view_39 [Str.ofString "Locale", Str.ofString "parse_locale", Str.ofString "get_locale_identifier"]) mean mg mb h₀) (hk : cs.kind = .function) (hd : dp + 12 < recursionLimit) (hu : un + 140 < cLine)
   (hx : s.heap.get? x = some (instObj 177 dx)) (hdx : s.heap.get? dx = some (dictOf (locD w.params t0 t1 t2 t3 t4 t5 (.str l tl) (pv o1 tx1) (pv o2 tx2) (pv o3 tx3) (pv o4 tx4) vd) 6))
   (hy : s.heap.get? y = some (instObj 177 dy)) (hdy : s.heap.get? dy = some (dictOf (locD w.params u0 u1 u2 u3 u4 u5 (.str l' ul) (pv p1 ty1) (pv p2 ty2) (pv p3 ty3) (pv p4 ty4) vd') 6))
   (hb : (!decide (l = l' ∧ o1 = p1 ∧ o2 = p2 ∧ o3 = p3 ∧ o4 = p4)) = b)
   (hret : ∀ (t' : Tok) (h' : Heap) (tk' : Nat), Kp s.heap h' → Q (.bool b) { s with heap := h', toks := tk' }) :
   wpAny (model PySem.Challenge.rw_bd5005_01.row.prog w) (ktrTop dp un gd cn cs L a ccd cl outer) (call (.ref 88) [.ref x, .ref y]) Q E s := by
  subst hb
  exact neL B F X T hk hd hu hx hdx hy hdy hret
theorem changedS {x : Str} {t : Tok} (hx : x.length ≤ 1000) (ht : tr (some x) = true) (B : Below A₀ base outer h₀) (F : Fr h₀ L s.heap m) (X : (Mine.hd.heap_39 w.params).In h₀) (N : News h₀ L s.heap (news)) (T : Top Mine.hd.view_39 (looseW Mine.hd.view_39 [Str.ofString "Locale", Str.ofString "parse_locale", Str.ofString "get_locale_identifier"]) mean mg mb h₀) (hk : cs.kind = .function) (hd : dp + 4 < recursionLimit) (hu : un + 60 < cLine)
   (hret : ∀ (t' : Tok) (h' : Heap) (tk' : Nat), Fr h₀ L h' m → News h₀ L h' news → Q (.str (x ++ Str.ofString "x") t') { s with heap := h', toks := tk' }) :
   wpAny (model PySem.Challenge.rw_bd5005_01.row.prog w) (ktrTop dp un gd cn cs L a ccd cl outer) (call (.ref 210) [.str x t]) Q E s := by
  have h := changed (o := some x) (t := t) (w := w) (dp := dp) (un := un) (gd := gd) (cn := cn) (cs := cs) (L := L) (a := a) (ccd := ccd) (cl := cl) (outer := outer) (Q := Q) (E := E) (fun y e => Option.some.inj e ▸ hx) B F X N T hk hd hu
  have hne : ¬ x = Str.ofString "" := by
    rw [nil_iff]
    simpa [tr] using ht
  have e : chg (some x) = some (x ++ Str.ofString "x") := by
    unfold chg
    dsimp only
    rw [if_neg hne]
  simp only [e, pv_some] at h
  exact h hret
end
theorem lx_ne (l : Str) : ¬ (l = l ++ Str.ofString "x") := by
  intro h
  have e := congrArg Str.length h
  rw [Str.length_append] at e
  have : (Str.ofString "x").length = 1 := by decide +kernel
  omega
local macro_rules | `(tactic| walk_at "own eq_no") => `(tactic| ((intro h; first | exact lx_ne _ h.1 | exact lx_ne _ h.1.symm | exact chg_ne _ h.2.1 | exact chg_ne _ h.2.1.symm | exact chg_ne _ h.2.2.1 | exact chg_ne _ h.2.2.1.symm | exact chg_ne _ h.2.2.2.1 | exact chg_ne _ h.2.2.2.1.symm | exact chg_ne _ h.2.2.2.2 | exact chg_ne _ h.2.2.2.2.symm)))
theorem ne_yes {p : Prop} [Decidable p] (h : p) : (!decide p) = false := by simp [h]
theorem ne_no {p : Prop} [Decidable p] (h : ¬ p) : (!decide p) = true := by simp [h]
local macro_rules | `(tactic| walk_at "own k_got") => `(tactic| (exact News.get (by k_asm) (by k_mem)))
local macro_rules | `(tactic| walk_at "own k_way") => `(tactic| (first | omega | exact fmod_lo _ _ (by decide) | exact Int.le_of_lt_add_one (fmod_hi _ _ (by decide))))
local macro_rules | `(tactic| walk_at "call ref") => `(tactic| (k_here; (with_reducible show wpAny _ _ (call (Value.ref 203) _) _ _ _); k_dflt (refine' parts2 ?kp ?k1 ?k2 ?k3 ?k4 ?k5 ?kK ?kd ?ku  ?_; (case kp => omega); (case k1 => k_asm); (case k2 => k_asm); (case k3 => k_asm); (case k4 => k_asm); (case k5 => k_asm); (case kK => first | assumption | exact rfl); (case kd => ktr_room); (case ku => ktr_units);  k_whole); intro D' n' l' o1' o2' o3' o4' t0' t1' t2' t3' t4' h' tk' hl' ho1' ho2' ho3' ho4' hm1' hm2' hm3' hg1' hg2' hg3' hg4' hb1' hb2' hb3' hb4' F' N' l1; (try dsimp only); (try k_sweep); (try k_fold)))
local macro_rules | `(tactic| walk_at "call ref") => `(tactic| (k_here; (with_reducible show wpAny _ _ (call (Value.ref 217) _) _ _ _); k_dflt (refine' made ?k1a ?k2a ?k1 ?k2 ?k3 ?k4 ?k5 ?kK ?kd ?ku ?zp ?_; (case k1a => walk_at "own k_way"); (case k2a => walk_at "own k_way"); (case k1 => k_asm); (case k2 => k_asm); (case k3 => k_asm); (case k4 => k_asm); (case k5 => k_asm); (case kK => first | assumption | exact rfl); (case kd => ktr_room); (case ku => ktr_units); (case zp => k_mem); k_whole); intro x' dx' vd' t0' t1' t2' t3' t4' t5' h' tk' F' N' l1 l2; (try dsimp only); (try k_sweep); (try k_fold)))
local macro_rules | `(tactic| walk_at "call ref") => `(tactic| (k_here; (with_reducible show wpAny _ _ (call (Value.ref 95) [Value.ref _]) _ _ _); k_dflt (refine' reprW ?k1 ?k2 ?k3 ?k5 ?kK ?kd ?ku ?z1 ?z2 ?z3 ?z4 ?z5 ?z6 ?zf1 ?zf2 ?_; (case k1 => k_asm); (case k2 => k_asm); (case k3 => k_asm); (case k5 => k_asm); (case kK => first | assumption | exact rfl); (case kd => ktr_room); (case ku => ktr_units); (case zf1 => walk_at "own k_got"); (case zf2 => walk_at "own k_got"); (case z1 => assumption); (case z2 => assumption); (case z3 => assumption); (case z4 => assumption); (case z5 => assumption); (case z6 => assumption); k_whole); intro t' h' tk' kp'; have F' := fr_kp (by k_asm) kp'; have N' := news_kp (by k_asm) kp'; clear kp'; (try dsimp only); (try k_sweep); (try k_fold)))
local macro_rules | `(tactic| walk_at "call ref") => `(tactic| (k_here; (with_reducible show wpAny _ _ (call (Value.ref 102) [Value.ref _]) _ _ _); k_dflt (refine' strL ?k1 ?k2 ?k3 ?k5 ?kK ?kd ?ku ?z1 ?z2 ?z3 ?z4 ?z5 ?z6 ?zf1 ?zf2 ?_; (case k1 => k_asm); (case k2 => k_asm); (case k3 => k_asm); (case k5 => k_asm); (case kK => first | assumption | exact rfl); (case kd => ktr_room); (case ku => ktr_units); (case zf1 => walk_at "own k_got"); (case zf2 => walk_at "own k_got"); (case z1 => assumption); (case z2 => assumption); (case z3 => assumption); (case z4 => assumption); (case z5 => assumption); (case z6 => assumption); k_whole); intro t' h' tk' kp'; have F' := fr_kp (by k_asm) kp'; have N' := news_kp (by k_asm) kp'; clear kp'; (try dsimp only); (try k_sweep); (try k_fold)))
local macro_rules | `(tactic| walk_at "call ref") => `(tactic| (k_here; (with_reducible show wpAny _ _ (call (Value.ref 224) [Value.ref _]) _ _ _); k_dflt (refine' shownL ?k1 ?k2 ?k3 ?k5 ?kK ?kd ?ku ?z1 ?z2 ?z3 ?z4 ?z5 ?zf1 ?_; (case k1 => k_asm); (case k2 => k_asm); (case k3 => k_asm); (case k5 => k_asm); (case kK => first | assumption | exact rfl); (case kd => ktr_room); (case ku => ktr_units); (case zf1 => walk_at "own k_got"); (case z1 => assumption); (case z2 => assumption); (case z3 => assumption); (case z4 => assumption); (case z5 => assumption); k_whole); intro t' h' tk' kp'; have F' := fr_kp (by k_asm) kp'; have N' := news_kp (by k_asm) kp'; clear kp'; (try dsimp only); (try k_sweep); (try k_fold)))
local macro_rules | `(tactic| walk_at "call ref") => `(tactic| (k_here; (with_reducible show wpAny _ _ (call (Value.ref 231) [Value.ref _, Value.str _ _]) _ _ _); k_dflt (refine' writtenT5 ?k1 ?k2 ?k3 ?k5 ?kK ?kd ?ku ?z1 ?z2 ?z3 ?z4 ?z5 ?z6 ?zf1 ?_; (case k1 => k_asm); (case k2 => k_asm); (case k3 => k_asm); (case k5 => k_asm); (case kK => first | assumption | exact rfl); (case kd => ktr_room); (case ku => ktr_units); (case zf1 => walk_at "own k_got"); (case z1 => assumption); (case z2 => assumption); (case z3 => assumption); (case z4 => assumption); (case z5 => assumption); (case z6 => (first | assumption | decide +kernel)); k_whole); intro t' h' tk' kp'; have F' := fr_kp (by k_asm) kp'; have N' := news_kp (by k_asm) kp'; clear kp'; (try dsimp only); (try k_sweep); (try k_fold)))
local macro_rules | `(tactic| walk_at "call ref") => `(tactic| (k_here; (with_reducible show wpAny _ _ (call (Value.ref 81) [Value.ref _, Value.ref _]) _ _ _); k_dflt (refine' eqW ?k1 ?k2 ?k3 ?k5 ?kK ?kd ?ku ?zf1 ?zf2 ?zf3 ?zf4 ?zz ?_; (case k1 => k_asm); (case k2 => k_asm); (case k3 => k_asm); (case k5 => k_asm); (case kK => first | assumption | exact rfl); (case kd => ktr_room); (case ku => ktr_units); (case zf1 => walk_at "own k_got"); (case zf2 => walk_at "own k_got"); (case zf3 => walk_at "own k_got"); (case zf4 => walk_at "own k_got"); (case zz => (first | exact decide_eq_true ⟨rfl, rfl, rfl, rfl, rfl⟩ | exact decide_eq_false (by walk_at "own eq_no"))); k_whole); intro t' h' tk' kp'; have F' := fr_kp (by k_asm) kp'; have N' := news_kp (by k_asm) kp'; clear kp'; (try dsimp only); (try k_sweep); (try k_fold)))
local macro_rules | `(tactic| walk_at "call ref") => `(tactic| (k_here; (with_reducible show wpAny _ _ (call (Value.ref 88) [Value.ref _, Value.ref _]) _ _ _); k_dflt (refine' neW ?k1 ?k2 ?k3 ?k5 ?kK ?kd ?ku ?zf1 ?zf2 ?zf3 ?zf4 ?zz ?_; (case k1 => k_asm); (case k2 => k_asm); (case k3 => k_asm); (case k5 => k_asm); (case kK => first | assumption | exact rfl); (case kd => ktr_room); (case ku => ktr_units); (case zf1 => walk_at "own k_got"); (case zf2 => walk_at "own k_got"); (case zf3 => walk_at "own k_got"); (case zf4 => walk_at "own k_got"); (case zz => (first | exact ne_yes ⟨rfl, rfl, rfl, rfl, rfl⟩ | exact ne_no (by walk_at "own eq_no"))); k_whole); intro t' h' tk' kp'; have F' := fr_kp (by k_asm) kp'; have N' := news_kp (by k_asm) kp'; clear kp'; (try dsimp only); (try k_sweep); (try k_fold)))
local macro_rules | `(tactic| walk_at "call ref") => `(tactic| (k_here; (with_reducible show wpAny _ _ (call (Value.ref 81) [Value.ref _, Value.str _ _]) _ _ _); k_dflt (refine' eqS ?k1 ?k2 ?k3 ?k5 ?kK ?kd ?ku  ?_; (case k1 => k_asm); (case k2 => k_asm); (case k3 => k_asm); (case k5 => k_asm); (case kK => first | assumption | exact rfl); (case kd => ktr_room); (case ku => ktr_units);  k_whole); intro t' h' tk' kp'; have F' := fr_kp (by k_asm) kp'; have N' := news_kp (by k_asm) kp'; clear kp'; (try dsimp only); (try k_sweep); (try k_fold)))
local macro_rules | `(tactic| walk_at "call ref") => `(tactic| (k_here; (with_reducible show wpAny _ _ (call (Value.ref 81) [Value.ref _, Value.none]) _ _ _); k_dflt (refine' eqN ?k1 ?k2 ?k3 ?k5 ?kK ?kd ?ku  ?_; (case k1 => k_asm); (case k2 => k_asm); (case k3 => k_asm); (case k5 => k_asm); (case kK => first | assumption | exact rfl); (case kd => ktr_room); (case ku => ktr_units);  k_whole); intro t' h' tk' kp'; have F' := fr_kp (by k_asm) kp'; have N' := news_kp (by k_asm) kp'; clear kp'; (try dsimp only); (try k_sweep); (try k_fold)))
local macro_rules | `(tactic| walk_at "call ref") => `(tactic| (k_here; (with_reducible show wpAny _ _ (call (Value.ref 88) [Value.ref _, Value.str _ _]) _ _ _); k_dflt (refine' neS ?k1 ?k2 ?k3 ?k5 ?kK ?kd ?ku ?zf1 ?zf2 ?_; (case k1 => k_asm); (case k2 => k_asm); (case k3 => k_asm); (case k5 => k_asm); (case kK => first | assumption | exact rfl); (case kd => ktr_room); (case ku => ktr_units); (case zf1 => walk_at "own k_got"); (case zf2 => walk_at "own k_got"); k_whole); intro t' h' tk' kp'; have F' := fr_kp (by k_asm) kp'; have N' := news_kp (by k_asm) kp'; clear kp'; (try dsimp only); (try k_sweep); (try k_fold)))
local macro_rules | `(tactic| walk_at "call ref") => `(tactic| (k_here; (with_reducible show wpAny _ _ (call (Value.ref 88) [Value.ref _, Value.none]) _ _ _); k_dflt (refine' neN ?k1 ?k2 ?k3 ?k5 ?kK ?kd ?ku ?zf1 ?zf2 ?_; (case k1 => k_asm); (case k2 => k_asm); (case k3 => k_asm); (case k5 => k_asm); (case kK => first | assumption | exact rfl); (case kd => ktr_room); (case ku => ktr_units); (case zf1 => walk_at "own k_got"); (case zf2 => walk_at "own k_got"); k_whole); intro t' h' tk' kp'; have F' := fr_kp (by k_asm) kp'; have N' := news_kp (by k_asm) kp'; clear kp'; (try dsimp only); (try k_sweep); (try k_fold)))
local macro_rules | `(tactic| walk_at "call ref") => `(tactic| (k_here; (with_reducible show wpAny _ _ (call (Value.ref 210) _) _ _ _); k_dflt (refine' changed ?ka ?k1 ?k2 ?k3 ?k4 ?k5 ?kK ?kd ?ku  ?_; (case ka => assumption); (case k1 => k_asm); (case k2 => k_asm); (case k3 => k_asm); (case k4 => k_asm); (case k5 => k_asm); (case kK => first | assumption | exact rfl); (case kd => ktr_room); (case ku => ktr_units);  k_whole); intro t' h' tk' F' N'; (try dsimp only); (try k_sweep); (try k_fold)))
local macro_rules | `(tactic| walk_at "call ref") => `(tactic| (k_here; (with_reducible show wpAny _ _ (call (Value.ref 210) _) _ _ _); k_dflt (refine' changedS ?ka ?kb ?k1 ?k2 ?k3 ?k4 ?k5 ?kK ?kd ?ku  ?_; (case ka => assumption); (case kb => assumption); (case k1 => k_asm); (case k2 => k_asm); (case k3 => k_asm); (case k4 => k_asm); (case k5 => k_asm); (case kK => first | assumption | exact rfl); (case kd => ktr_room); (case ku => ktr_units);  k_whole); intro t' h' tk' F' N'; (try dsimp only); (try k_sweep); (try k_fold)))
section
variable {prog : Program} {w : World} {A : Around} {E : Value → Shared → Prop} {s : Shared} {x : Str} {t u : Tok} {Q : Value → Shared → Prop}
theorem same_eq (h : Q (.bool true) s) : wpAny (model prog w) A (compareOp .Eq (.str x t) (.str x u)) Q E s := eq_str (by rw [show (x == x) = true by simp]; exact h)
theorem same_ne (h : Q (.bool false) s) : wpAny (model prog w) A (compareOp .NotEq (.str x t) (.str x u)) Q E s := ne_str (by rw [show (x != x) = false by simp]; exact h)
end
local macro_rules | `(tactic| walk_at "compareOp Eq str str") => `(tactic| (k_here; with_reducible refine same_eq ?_))
local macro_rules | `(tactic| walk_at "compareOp NotEq str str") => `(tactic| (k_here; with_reducible refine same_ne ?_))
local macro_rules | `(tactic| walk_at "compareOp Eq") => `(tactic| (k_here; with_reducible refine same_eq ?_))
local macro_rules | `(tactic| walk_at "compareOp NotEq") => `(tactic| (k_here; with_reducible refine same_ne ?_))
def seps6 : List Str := [Str.ofString "_", Str.ofString "-", Str.ofString "+", Str.ofString "::", Str.ofString ".", Str.ofString ""]
section
variable {prog : Program} {w : World} {A : Around} {E : Value → Shared → Prop} {s : Shared} {D : Addr}
theorem menu_strK {value slice : PySem.Expr} {vs : List Value} {os : List Str} {k : Int} {u : Tok} {Q : Value → Shared → Prop} (ht : IsTup s.heap D vs.toArray) (hv : AreS vs os) (h0 : 0 ≤ k) (hk : k < vs.length) (hl : vs.length ≤ 100)
    (hs : subscripted slice false (.ref D) (.int k u) = operate [.ref D, .int k u] (getItem (.ref D) (.int k u)))
    (h : ∀ o t, o ∈ os → Q (.str o t) s) : wpAny (model prog w) A (subscriptTail value slice (.ref D) (.int k u)) Q E s := by
  have hj : k.toNat < vs.length := by omega
  obtain ⟨o, ho, t, e⟩ := hv.mem _ (List.getElem_mem hj)
  refine item_tupleT ht (by omega) (by omega) (j := k.toNat) ?_ (List.getElem?_eq_getElem hj) (by rw [e]; exact h o t ho) hs
  unfold seqIndex?
  simp only [if_neg (show ¬ k < 0 by omega)]
  have : (decide (0 ≤ k) && decide (k < (vs.length : Int))) = true := by simp; omega
  rw [this]; rfl
end
theorem seps6_len {o : Str} (h : o ∈ seps6) : o.length ≤ 16 := by
  simp only [seps6, List.mem_cons, List.not_mem_nil, or_false] at h
  rcases h with rfl | rfl | rfl | rfl | rfl | rfl <;> decide +kernel
theorem two_ints {vs : List Value} {a b : Int} (h : IntsAre vs [a, b]) : ∃ t u, vs = [.int a t, .int b u] := by
  cases h with
  | cons _ t h =>
    cases h with
    | cons _ u h =>
      cases h
      exact ⟨t, u, rfl⟩
theorem take_two (w : List Int) : (w.take 2 ++ [0, 0]).take 2 = [w.getD 0 0, w.getD 1 0] := by
  match w with
  | [] => rfl
  | [_] => rfl
  | _ :: _ :: _ => rfl
section
variable {prog : Program} {w : World} {A : Around} {E : Value → Shared → Prop} {s : Shared} {h₀ : Heap} {L l : Addr} {m : Str → Option Value} {news : List (Addr × Obj)} {vs : List Value} {ns : List Int} {u : Tok}
theorem lslice {value slice : PySem.Expr} {ops : List Value} {Q : Value → Shared → Prop} (F : Fr h₀ L s.heap m) (N : News h₀ L s.heap news) (hl : s.heap.IsList l vs.toArray) (hi : IntsAre vs (ns.take 2 ++ [0, 0]))
    (hs : subscripted slice false (.ref l) (.ref s.heap.objs.size) = operate ops (getItem (.ref l) (.ref s.heap.objs.size)))
    (h : ∀ D t1 t2 h', Fr h₀ L h' m → News h₀ L h' ((D, listOf [.int (ns.getD 0 0) t1, .int (ns.getD 1 0) t2].toArray 0) :: news) → (∀ p ∈ news, p.1 < D) → Q (.ref D) { s with heap := h' }) :
    wpAny (model prog w) A (subscriptTail value slice (.ref l) (.ref s.heap.objs.size)) Q E { s with heap := s.heap.push { cls := .type "slice", data := .fields #[.none, .int 2 u, .none] } } := by
  have hlen := hi.length
  have hI := kmk_upto (y := 2) hi (by decide)
  rw [show (2 : Int).toNat = 2 from rfl, take_two] at hI
  obtain ⟨t1, t2, e⟩ := two_ints hI
  refine tail_any (s := { s with heap := s.heap.push { cls := .type "slice", data := .fields #[.none, .int 2 u, .none] } }) (Heap.IsList.typeIs (s := { s with heap := s.heap.push { cls := .type "slice", data := .fields #[.none, .int 2 u, .none] } }) (hl.push _)) slot_list_getitem.lookup
    (wpAny_getItem_list_slice (hl.push _) (Heap.IsSliceOf.new ..) .none (.int _ _) .none (by decide) ?_ (by rw [List.size_toArray, hlen, List.length_append, List.length_take, sizeLine_eq]; simp only [List.length_cons, List.length_nil]; omega)) hs
  have N1 := News.push (F.push { cls := .type "slice", data := .fields #[.none, .int 2 u, .none] }) (N.grown fun _ _ e => Heap.get?_push_of_some _ e) { cls := .type "list", data := .seq (slicePick vs.toArray none (some 2) none) }
  rw [show slicePick vs.toArray none (some 2) none = [Value.int (ns.getD 0 0) t1, Value.int (ns.getD 1 0) t2].toArray by rw [← e, Array.toArray_toList]] at N1 ⊢
  exact h _ t1 t2 _ ((F.push _).push _) N1 (fun p hp => by rw [Heap.size_push]; exact Nat.lt_succ_of_lt (Heap.lt_size (N p hp).1))
end
local macro_rules | `(tactic| walk_at "subscriptTail BinOp Slice ref ref") => `(tactic| (k_here; (with_reducible show wpAny _ _ (subscriptTail _ (PySem.Expr.Slice _ _ none _) (Value.ref _) (Value.ref _)) _ _ _); k_dflt (refine' lslice ?F ?N ?l ?i ?s ?_; (case F => k_asm); (case N => k_asm); (case l => exact News.isList (by k_asm) (by k_mem)); (case i => assumption); (case s => with_unfolding_all rfl)); intro D' t1' t2' h' F' N' l1; (try k_lt l1); (try k_sweep)))
local macro_rules | `(tactic| walk_at "subscriptTail Name BinOp ref int") => `(tactic| (k_here; (with_reducible show wpAny _ _ (subscriptTail (PySem.Expr.Name (Str.ofString "_law_seps") _) _ (Value.ref _) (Value.int _ _)) _ _ _); k_dflt (refine' menu_strK (os := seps6) ?ht ?hv ?h0 ?hk ?hl ?hs ?_; (case ht => exact tupK (Frag.In.keeps (by k_asm) (Fr.keep (by k_asm))) (by k_is)); (case hv => exact ⟨⟨_, rfl⟩, ⟨_, rfl⟩, ⟨_, rfl⟩, ⟨_, rfl⟩, ⟨_, rfl⟩, ⟨_, rfl⟩, trivial⟩); (case h0 => exact fmod_lo _ _ (by decide)); (case hk => exact fmod_hi _ 6 (by decide)); (case hl => exact Nat.le_of_ble_eq_true rfl); (case hs => with_unfolding_all rfl)); intro sep' ts' hm'; have hsl' := seps6_len hm'))
local macro_rules | `(tactic| walk_at "StrBack") => `(tactic| kts_tail)
local macro_rules | `(tactic| walk_at "CmpBack") => `(tactic| kts_tail)
local macro_rules | `(tactic| walk_at "BoolBack") => `(tactic| kts_tail)

theorem off31 : True := by
  w_top off
  trivial
abbrev OkO (o : Option Str) : Prop := ∀ x, o = some x → PyData.strOk x = true
theorem pv_canLay : ∀ os : List (Option Str), (∀ o ∈ os, OkO o) → PyData.canLayAll0 (os.map pvData) = true
  | [], _ => rfl
  | none :: r, h => by simp [PyData.canLayAll0, PyData.canLay0, pvData, pv_canLay r fun o ho => h o (.tail _ ho)]
  | some x :: r, h => by simp [PyData.canLayAll0, PyData.canLay0, pvData, pv_canLay r (fun o ho => h o (.tail _ ho)), h (some x) (.head _) x rfl]
theorem okL {l : Str} (h : l ∈ langs) : OkO (some l) := by
  simp only [langs, List.mem_cons, List.not_mem_nil, or_false] at h
  intro x e
  cases e
  rcases h with rfl | rfl | rfl | rfl <;> decide +kernel
theorem ok1 {o : Option Str} (h : o ∈ terrs) : OkO o := by
  simp only [terrs, List.mem_cons, List.not_mem_nil, or_false] at h
  intro x e
  subst e
  simp only [Option.some.injEq, reduceCtorEq, false_or] at h
  rcases h with rfl | rfl | rfl | rfl <;> decide +kernel
theorem ok2 {o : Option Str} (h : o ∈ scripts) : OkO o := by
  simp only [scripts, List.mem_cons, List.not_mem_nil, or_false] at h
  intro x e
  subst e
  simp only [Option.some.injEq, reduceCtorEq, false_or] at h
  rcases h with rfl | rfl | rfl <;> decide +kernel
theorem ok3 {o : Option Str} (h : o ∈ variants) : OkO o := by
  simp only [variants, List.mem_cons, List.not_mem_nil, or_false] at h
  intro x e
  subst e
  simp only [Option.some.injEq, reduceCtorEq, false_or] at h
  rcases h with rfl | rfl | rfl <;> decide +kernel
theorem ok4 {o : Option Str} (h : o ∈ modifiers) : OkO o := by
  simp only [modifiers, List.mem_cons, List.not_mem_nil, or_false] at h
  intro x e
  subst e
  simp only [Option.some.injEq, reduceCtorEq, false_or] at h
  rcases h with rfl | rfl | rfl <;> decide +kernel
theorem okN {o : Option Str} (h : OkO o) : OkO (nrm o) := by
  rcases nrm_cases o with ⟨e, _⟩ | ⟨x, rfl, e, _⟩
  · rw [e]; exact fun _ e => nomatch e
  · rw [e]; exact h
theorem pv_depth : ∀ os : List (Option Str), PyData.depthAll (os.map pvData) = 0
  | [] => rfl
  | none :: r => by simp [PyData.depthAll, PyData.depth, pvData, pv_depth r]
  | some x :: r => by simp [PyData.depthAll, PyData.depth, pvData, pv_depth r]
theorem pv_eqvAll : ∀ os : List (Option Str), PyData.eqvAll (os.map pvData) (os.map pvData) = true
  | [] => by simp [PyData.eqvAll]
  | none :: r => by simp [PyData.eqvAll, PyData.eqv, pvData, pv_eqvAll r]
  | some x :: r => by simp [PyData.eqvAll, PyData.eqv, pvData, pv_eqvAll r]
theorem str_carried (x : Str) (t : Tok) : Carried (.str x t) (pvData (some x)) := Carried.str x t
section
variable {prog : Program} {w : World} {A : Around} {E : Value → Shared → Prop} {s : Shared} {a b : Addr} {xs ys : List Value} {os : List (Option Str)} {Q : Value → Shared → Prop}
theorem ne_pvs (ha : s.heap.IsList a xs.toArray) (hb : s.heap.IsList b ys.toArray) (ca : CarriedAll xs (os.map pvData)) (cb : CarriedAll ys (os.map pvData)) (ho : ∀ o ∈ os, OkO o) (hu : A.units + 64 < cLine) (h : Q (.bool false) s) :
    wpAny (model prog w) A (compareOp .NotEq (.ref a) (.ref b)) Q E s :=
  ne_dataH (reads_newData ha ca) (reads_newData hb cb) (by simp [SeqAt.shaped, PyData.canLay0, PyData.depth, pv_canLay os ho, pv_depth]) (by simp [SeqAt.shaped, PyData.canLay0, PyData.depth, pv_canLay os ho, pv_depth]) hu (by simp only [PyData.eqv, pv_eqvAll]; exact h)
theorem eq_pvs (ha : IsTup s.heap a xs.toArray) (hb : IsTup s.heap b ys.toArray) (ca : CarriedAll xs (os.map pvData)) (cb : CarriedAll ys (os.map pvData)) (ho : ∀ o ∈ os, OkO o) (hu : A.units + 64 < cLine) (h : Q (.bool true) s) :
    wpAny (model prog w) A (compareOp .Eq (.ref a) (.ref b)) Q E s :=
  eq_dataH (reads_newDataT ha ca) (reads_newDataT hb cb) (by simp [SeqAt.shaped, PyData.canLay0, PyData.depth, pv_canLay os ho, pv_depth]) (by simp [SeqAt.shaped, PyData.canLay0, PyData.depth, pv_canLay os ho, pv_depth]) hu (by simp only [PyData.eqv, pv_eqvAll]; exact h)
theorem ne_five {l : Str} {o1 o2 o3 o4 : Option Str} {t0 t1 t2 t3 t4 u0 u1 u2 u3 u4 : Tok} (ha : s.heap.IsList a [.str l t0, pv o1 t1, pv o2 t2, pv o3 t3, pv o4 t4].toArray) (hb : s.heap.IsList b [.str l u0, pv o1 u1, pv o2 u2, pv o3 u3, pv o4 u4].toArray) (a0 : l ∈ langs) (a1 : o1 ∈ terrs) (a2 : o2 ∈ scripts) (a3 : o3 ∈ variants) (a4 : o4 ∈ modifiers) (hu : A.units + 64 < cLine) (h : Q (.bool false) s) :
    wpAny (model prog w) A (compareOp .NotEq (.ref a) (.ref b)) Q E s :=
  ne_pvs (os := [some l, o1, o2, o3, o4]) ha hb (.cons (str_carried _ _) (.cons (pv_carried _ _) (.cons (pv_carried _ _) (.cons (pv_carried _ _) (.cons (pv_carried _ _) .nil))))) (.cons (str_carried _ _) (.cons (pv_carried _ _) (.cons (pv_carried _ _) (.cons (pv_carried _ _) (.cons (pv_carried _ _) .nil)))))
    (by simp only [List.mem_cons, List.not_mem_nil, or_false, forall_eq_or_imp, forall_eq]; exact ⟨okL a0, ok1 a1, ok2 a2, ok3 a3, ok4 a4⟩) hu h
theorem eq_four {l : Str} {o1 o2 o3 : Option Str} {t0 t1 t2 t3 u0 u1 u2 u3 : Tok} (ha : IsTup s.heap a [.str l t0, pv (nrm o1) t1, pv (nrm o2) t2, pv (nrm o3) t3].toArray) (hb : IsTup s.heap b [.str l u0, pv (nrm o1) u1, pv (nrm o2) u2, pv (nrm o3) u3].toArray) (a0 : l ∈ langs) (a1 : o1 ∈ terrs) (a2 : o2 ∈ scripts) (a3 : o3 ∈ variants) (hu : A.units + 64 < cLine) (h : Q (.bool true) s) :
    wpAny (model prog w) A (compareOp .Eq (.ref a) (.ref b)) Q E s :=
  eq_pvs (os := [some l, nrm o1, nrm o2, nrm o3]) ha hb (.cons (str_carried _ _) (.cons (pv_carried _ _) (.cons (pv_carried _ _) (.cons (pv_carried _ _) .nil)))) (.cons (str_carried _ _) (.cons (pv_carried _ _) (.cons (pv_carried _ _) (.cons (pv_carried _ _) .nil))))
    (by simp only [List.mem_cons, List.not_mem_nil, or_false, forall_eq_or_imp, forall_eq]; exact ⟨okL a0, okN (ok1 a1), okN (ok2 a2), okN (ok3 a3)⟩) hu h
theorem eq_fiveT {l : Str} {o1 o2 o3 o4 : Option Str} {t0 t1 t2 t3 t4 u0 u1 u2 u3 u4 : Tok} (ha : IsTup s.heap a [.str l t0, pv (nrm o1) t1, pv (nrm o2) t2, pv (nrm o3) t3, pv (nrm o4) t4].toArray) (hb : IsTup s.heap b [.str l u0, pv (nrm o1) u1, pv (nrm o2) u2, pv (nrm o3) u3, pv (nrm o4) u4].toArray) (a0 : l ∈ langs) (a1 : o1 ∈ terrs) (a2 : o2 ∈ scripts) (a3 : o3 ∈ variants) (a4 : o4 ∈ modifiers) (hu : A.units + 64 < cLine) (h : Q (.bool true) s) :
    wpAny (model prog w) A (compareOp .Eq (.ref a) (.ref b)) Q E s :=
  eq_pvs (os := [some l, nrm o1, nrm o2, nrm o3, nrm o4]) ha hb (.cons (str_carried _ _) (.cons (pv_carried _ _) (.cons (pv_carried _ _) (.cons (pv_carried _ _) (.cons (pv_carried _ _) .nil))))) (.cons (str_carried _ _) (.cons (pv_carried _ _) (.cons (pv_carried _ _) (.cons (pv_carried _ _) (.cons (pv_carried _ _) .nil)))))
    (by simp only [List.mem_cons, List.not_mem_nil, or_false, forall_eq_or_imp, forall_eq]; exact ⟨okL a0, okN (ok1 a1), okN (ok2 a2), okN (ok3 a3), okN (ok4 a4)⟩) hu h
end
local macro_rules | `(tactic| walk_at "compareOp NotEq ref ref") => `(tactic| (k_here; (with_reducible show wpAny _ _ (compareOp CmpOp.NotEq (Value.ref _) (Value.ref _)) _ _ _); k_dflt (refine' ne_five ?ha ?hb ?a0 ?a1 ?a2 ?a3 ?a4 ?hu ?_; (case ha => exact News.isList (by k_asm) (by k_mem)); (case hb => exact News.isList (by k_asm) (by k_mem)); (case a0 => assumption); (case a1 => assumption); (case a2 => assumption); (case a3 => assumption); (case a4 => assumption); (case hu => ke_room))))
local macro_rules | `(tactic| walk_at "compareOp Eq ref ref") => `(tactic| (k_here; (with_reducible show wpAny _ _ (compareOp CmpOp.Eq (Value.ref _) (Value.ref _)) _ _ _); k_dflt (refine' eq_four ?ha ?hb ?a0 ?a1 ?a2 ?a3 ?hu ?_; (case ha => exact News.isTup (by k_asm) (by k_mem)); (case hb => exact News.isTup (by k_asm) (by k_mem)); (case a0 => assumption); (case a1 => assumption); (case a2 => assumption); (case a3 => assumption); (case hu => ke_room))))
local macro_rules | `(tactic| walk_at "compareOp Eq ref ref") => `(tactic| (k_here; (with_reducible show wpAny _ _ (compareOp CmpOp.Eq (Value.ref _) (Value.ref _)) _ _ _); k_dflt (refine' eq_fiveT ?ha ?hb ?a0 ?a1 ?a2 ?a3 ?a4 ?hu ?_; (case ha => exact News.isTup (by k_asm) (by k_mem)); (case hb => exact News.isTup (by k_asm) (by k_mem)); (case a0 => assumption); (case a1 => assumption); (case a2 => assumption); (case a3 => assumption); (case a4 => assumption); (case hu => ke_room))))
theorem inst_news {h : Heap} {x dx : Addr} {od : Obj} {C : Addr} (h1 : h.get? x = some (instObj C dx)) (h2 : h.get? dx = some od) : InstAt h x (instObj C dx) C (some od) := ⟨h1, rfl, rfl, h2⟩
local macro_rules | `(tactic| k_inst) => `(tactic| (with_unfolding_all refine' inst_news ?h1 ?h2; (case h1 => exact News.get (by k_asm) (by k_mem)); (case h2 => exact News.get (by k_asm) (by k_mem))))

theorem off32 : True := by
  w_top off
  trivial
local macro_rules | `(tactic| walk_at "call ref") => `(tactic| (k_here; (with_reducible show wpAny _ _ (call (Value.ref 231) [Value.ref _, Value.str _ _]) _ _ _); k_dflt (refine' writtenT1 ?k1 ?k2 ?k3 ?k5 ?kK ?kd ?ku ?z1 ?zs ?zf1 ?_; (case k1 => k_asm); (case k2 => k_asm); (case k3 => k_asm); (case k5 => k_asm); (case kK => first | assumption | exact rfl); (case kd => ktr_room); (case ku => ktr_units); (case zf1 => walk_at "own k_got"); (case z1 => assumption); (case zs => (first | assumption | decide +kernel)); k_whole); intro t' h' tk' kp'; have F' := fr_kp (by k_asm) kp'; have N' := news_kp (by k_asm) kp'; clear kp'; (try dsimp only); (try k_sweep); (try k_fold)))
local macro_rules | `(tactic| walk_at "call ref") => `(tactic| (k_here; (with_reducible show wpAny _ _ (call (Value.ref 231) [Value.ref _, Value.str _ _]) _ _ _); k_dflt (refine' writtenT2 ?k1 ?k2 ?k3 ?k5 ?kK ?kd ?ku ?z1 ?z2 ?zs ?zf1 ?_; (case k1 => k_asm); (case k2 => k_asm); (case k3 => k_asm); (case k5 => k_asm); (case kK => first | assumption | exact rfl); (case kd => ktr_room); (case ku => ktr_units); (case zf1 => walk_at "own k_got"); (case z1 => assumption); (case z2 => assumption); (case zs => (first | assumption | decide +kernel)); k_whole); intro t' h' tk' kp'; have F' := fr_kp (by k_asm) kp'; have N' := news_kp (by k_asm) kp'; clear kp'; (try dsimp only); (try k_sweep); (try k_fold)))
local macro_rules | `(tactic| walk_at "call ref") => `(tactic| (k_here; (with_reducible show wpAny _ _ (call (Value.ref 231) [Value.ref _, Value.str _ _]) _ _ _); k_dflt (refine' writtenT3 ?k1 ?k2 ?k3 ?k5 ?kK ?kd ?ku ?z1 ?z2 ?z3 ?zs ?zf1 ?_; (case k1 => k_asm); (case k2 => k_asm); (case k3 => k_asm); (case k5 => k_asm); (case kK => first | assumption | exact rfl); (case kd => ktr_room); (case ku => ktr_units); (case zf1 => walk_at "own k_got"); (case z1 => assumption); (case z2 => assumption); (case z3 => assumption); (case zs => (first | assumption | decide +kernel)); k_whole); intro t' h' tk' kp'; have F' := fr_kp (by k_asm) kp'; have N' := news_kp (by k_asm) kp'; clear kp'; (try dsimp only); (try k_sweep); (try k_fold)))
local macro_rules | `(tactic| walk_at "call ref") => `(tactic| (k_here; (with_reducible show wpAny _ _ (call (Value.ref 231) [Value.ref _, Value.str _ _]) _ _ _); k_dflt (refine' writtenT4 ?k1 ?k2 ?k3 ?k5 ?kK ?kd ?ku ?z1 ?z2 ?z3 ?z4 ?zs ?zf1 ?_; (case k1 => k_asm); (case k2 => k_asm); (case k3 => k_asm); (case k5 => k_asm); (case kK => first | assumption | exact rfl); (case kd => ktr_room); (case ku => ktr_units); (case zf1 => walk_at "own k_got"); (case z1 => assumption); (case z2 => assumption); (case z3 => assumption); (case z4 => assumption); (case zs => (first | assumption | decide +kernel)); k_whole); intro t' h' tk' kp'; have F' := fr_kp (by k_asm) kp'; have N' := news_kp (by k_asm) kp'; clear kp'; (try dsimp only); (try k_sweep); (try k_fold)))
local macro_rules | `(tactic| walk_at "call ref") => `(tactic| (k_here; (with_reducible show wpAny _ _ (call (Value.ref 231) [Value.ref _, Value.str _ _]) _ _ _); k_dflt (refine' writtenT5 ?k1 ?k2 ?k3 ?k5 ?kK ?kd ?ku ?z1 ?z2 ?z3 ?z4 ?z5 ?zs ?zf1 ?_; (case k1 => k_asm); (case k2 => k_asm); (case k3 => k_asm); (case k5 => k_asm); (case kK => first | assumption | exact rfl); (case kd => ktr_room); (case ku => ktr_units); (case zf1 => walk_at "own k_got"); (case z1 => assumption); (case z2 => assumption); (case z3 => assumption); (case z4 => assumption); (case z5 => assumption); (case zs => (first | assumption | decide +kernel)); k_whole); intro t' h' tk' kp'; have F' := fr_kp (by k_asm) kp'; have N' := news_kp (by k_asm) kp'; clear kp'; (try dsimp only); (try k_sweep); (try k_fold)))
local macro_rules | `(tactic| walk_at "call ref") => `(tactic| (k_here; (with_reducible show wpAny _ _ (call (Value.ref 231) [Value.ref _, Value.str _ _]) _ _ _); k_dflt (refine' writtenT6 ?k1 ?k2 ?k3 ?k5 ?kK ?kd ?ku ?z1 ?z2 ?z3 ?z4 ?z5 ?zs ?zf1 ?_; (case k1 => k_asm); (case k2 => k_asm); (case k3 => k_asm); (case k5 => k_asm); (case kK => first | assumption | exact rfl); (case kd => ktr_room); (case ku => ktr_units); (case zf1 => walk_at "own k_got"); (case z1 => assumption); (case z2 => assumption); (case z3 => assumption); (case z4 => assumption); (case z5 => assumption); (case zs => (first | assumption | decide +kernel)); k_whole); intro t' h' tk' kp'; have F' := fr_kp (by k_asm) kp'; have N' := news_kp (by k_asm) kp'; clear kp'; (try dsimp only); (try k_sweep); (try k_fold)))
local macro_rules | `(tactic| walk_at "call ref") => `(tactic| (k_here; (with_reducible show wpAny _ _ (call (Value.ref 231) [Value.ref _, Value.str _ _]) _ _ _); k_dflt (refine' writtenT7 ?k1 ?k2 ?k3 ?k5 ?kK ?kd ?ku ?z1 ?z2 ?z3 ?z4 ?z5 ?zs ?zf1 ?_; (case k1 => k_asm); (case k2 => k_asm); (case k3 => k_asm); (case k5 => k_asm); (case kK => first | assumption | exact rfl); (case kd => ktr_room); (case ku => ktr_units); (case zf1 => walk_at "own k_got"); (case z1 => assumption); (case z2 => assumption); (case z3 => assumption); (case z4 => assumption); (case z5 => assumption); (case zs => (first | assumption | decide +kernel)); k_whole); intro t' h' tk' kp'; have F' := fr_kp (by k_asm) kp'; have N' := news_kp (by k_asm) kp'; clear kp'; (try dsimp only); (try k_sweep); (try k_fold)))
local macro_rules | `(tactic| walk_at "call ref") => `(tactic| (k_here; (with_reducible show wpAny _ _ (call (Value.ref 195) [Value.ref _, Value.str _ _]) _ _ _); k_dflt (refine' gliT1w ?k1 ?k2 ?k3 ?k5 ?kK ?kd ?ku ?z1 ?zs ?zf1 ?zz ?_; (case k1 => k_asm); (case k2 => k_asm); (case k3 => k_asm); (case k5 => k_asm); (case kK => first | assumption | exact rfl); (case kd => ktr_room); (case ku => ktr_units); (case zf1 => walk_at "own k_got"); (case z1 => assumption); (case zs => (first | assumption | decide +kernel)); (case zz => assumption); k_whole); intro t' h' tk' kp'; have F' := fr_kp (by k_asm) kp'; have N' := news_kp (by k_asm) kp'; clear kp'; (try dsimp only); (try k_sweep); (try k_fold)))
local macro_rules | `(tactic| walk_at "call ref") => `(tactic| (k_here; (with_reducible show wpAny _ _ (call (Value.ref 195) [Value.ref _, Value.str _ _]) _ _ _); k_dflt (refine' gliT2w ?k1 ?k2 ?k3 ?k5 ?kK ?kd ?ku ?z1 ?z2 ?zs ?zf1 ?zz ?_; (case k1 => k_asm); (case k2 => k_asm); (case k3 => k_asm); (case k5 => k_asm); (case kK => first | assumption | exact rfl); (case kd => ktr_room); (case ku => ktr_units); (case zf1 => walk_at "own k_got"); (case z1 => assumption); (case z2 => assumption); (case zs => (first | assumption | decide +kernel)); (case zz => assumption); k_whole); intro t' h' tk' kp'; have F' := fr_kp (by k_asm) kp'; have N' := news_kp (by k_asm) kp'; clear kp'; (try dsimp only); (try k_sweep); (try k_fold)))
local macro_rules | `(tactic| walk_at "call ref") => `(tactic| (k_here; (with_reducible show wpAny _ _ (call (Value.ref 195) [Value.ref _, Value.str _ _]) _ _ _); k_dflt (refine' gliT3w ?k1 ?k2 ?k3 ?k5 ?kK ?kd ?ku ?z1 ?z2 ?z3 ?zs ?zf1 ?zz ?_; (case k1 => k_asm); (case k2 => k_asm); (case k3 => k_asm); (case k5 => k_asm); (case kK => first | assumption | exact rfl); (case kd => ktr_room); (case ku => ktr_units); (case zf1 => walk_at "own k_got"); (case z1 => assumption); (case z2 => assumption); (case z3 => assumption); (case zs => (first | assumption | decide +kernel)); (case zz => assumption); k_whole); intro t' h' tk' kp'; have F' := fr_kp (by k_asm) kp'; have N' := news_kp (by k_asm) kp'; clear kp'; (try dsimp only); (try k_sweep); (try k_fold)))
local macro_rules | `(tactic| walk_at "call ref") => `(tactic| (k_here; (with_reducible show wpAny _ _ (call (Value.ref 195) [Value.ref _, Value.str _ _]) _ _ _); k_dflt (refine' gliT4w ?k1 ?k2 ?k3 ?k5 ?kK ?kd ?ku ?z1 ?z2 ?z3 ?z4 ?zs ?zf1 ?zz ?_; (case k1 => k_asm); (case k2 => k_asm); (case k3 => k_asm); (case k5 => k_asm); (case kK => first | assumption | exact rfl); (case kd => ktr_room); (case ku => ktr_units); (case zf1 => walk_at "own k_got"); (case z1 => assumption); (case z2 => assumption); (case z3 => assumption); (case z4 => assumption); (case zs => (first | assumption | decide +kernel)); (case zz => assumption); k_whole); intro t' h' tk' kp'; have F' := fr_kp (by k_asm) kp'; have N' := news_kp (by k_asm) kp'; clear kp'; (try dsimp only); (try k_sweep); (try k_fold)))
local macro_rules | `(tactic| walk_at "call ref") => `(tactic| (k_here; (with_reducible show wpAny _ _ (call (Value.ref 195) [Value.ref _, Value.str _ _]) _ _ _); k_dflt (refine' gliT5w ?k1 ?k2 ?k3 ?k5 ?kK ?kd ?ku ?z1 ?z2 ?z3 ?z4 ?z5 ?zs ?zf1 ?zz ?_; (case k1 => k_asm); (case k2 => k_asm); (case k3 => k_asm); (case k5 => k_asm); (case kK => first | assumption | exact rfl); (case kd => ktr_room); (case ku => ktr_units); (case zf1 => walk_at "own k_got"); (case z1 => assumption); (case z2 => assumption); (case z3 => assumption); (case z4 => assumption); (case z5 => assumption); (case zs => (first | assumption | decide +kernel)); (case zz => assumption); k_whole); intro t' h' tk' kp'; have F' := fr_kp (by k_asm) kp'; have N' := news_kp (by k_asm) kp'; clear kp'; (try dsimp only); (try k_sweep); (try k_fold)))
local macro_rules | `(tactic| walk_at "call ref") => `(tactic| (k_here; (with_reducible show wpAny _ _ (call (Value.ref 195) [Value.ref _, Value.str _ _]) _ _ _); k_dflt (refine' gliT6w ?k1 ?k2 ?k3 ?k5 ?kK ?kd ?ku ?z1 ?z2 ?z3 ?z4 ?z5 ?zs ?zf1 ?zz ?_; (case k1 => k_asm); (case k2 => k_asm); (case k3 => k_asm); (case k5 => k_asm); (case kK => first | assumption | exact rfl); (case kd => ktr_room); (case ku => ktr_units); (case zf1 => walk_at "own k_got"); (case z1 => assumption); (case z2 => assumption); (case z3 => assumption); (case z4 => assumption); (case z5 => assumption); (case zs => (first | assumption | decide +kernel)); (case zz => assumption); k_whole); intro t' h' tk' kp'; have F' := fr_kp (by k_asm) kp'; have N' := news_kp (by k_asm) kp'; clear kp'; (try dsimp only); (try k_sweep); (try k_fold)))
local macro_rules | `(tactic| walk_at "call ref") => `(tactic| (k_here; (with_reducible show wpAny _ _ (call (Value.ref 195) [Value.ref _, Value.str _ _]) _ _ _); k_dflt (refine' gliT7w ?k1 ?k2 ?k3 ?k5 ?kK ?kd ?ku ?z1 ?z2 ?z3 ?z4 ?z5 ?zs ?zf1 ?zz ?_; (case k1 => k_asm); (case k2 => k_asm); (case k3 => k_asm); (case k5 => k_asm); (case kK => first | assumption | exact rfl); (case kd => ktr_room); (case ku => ktr_units); (case zf1 => walk_at "own k_got"); (case z1 => assumption); (case z2 => assumption); (case z3 => assumption); (case z4 => assumption); (case z5 => assumption); (case zs => (first | assumption | decide +kernel)); (case zz => assumption); k_whole); intro t' h' tk' kp'; have F' := fr_kp (by k_asm) kp'; have N' := news_kp (by k_asm) kp'; clear kp'; (try dsimp only); (try k_sweep); (try k_fold)))
local macro_rules | `(tactic| walk_at "call ref") => `(tactic| (k_here; (with_reducible show wpAny _ _ (call (Value.ref 195) [Value.ref _, Value.str _ _]) _ _ _); k_dflt (refine' gliL1w ?k1 ?k2 ?k3 ?k5 ?kK ?kd ?ku ?z1 ?zs ?zf1 ?zz ?_; (case k1 => k_asm); (case k2 => k_asm); (case k3 => k_asm); (case k5 => k_asm); (case kK => first | assumption | exact rfl); (case kd => ktr_room); (case ku => ktr_units); (case zf1 => walk_at "own k_got"); (case z1 => assumption); (case zs => (first | assumption | decide +kernel)); (case zz => assumption); k_whole); intro t' h' tk' kp'; have F' := fr_kp (by k_asm) kp'; have N' := news_kp (by k_asm) kp'; clear kp'; (try dsimp only); (try k_sweep); (try k_fold)))
local macro_rules | `(tactic| walk_at "call ref") => `(tactic| (k_here; (with_reducible show wpAny _ _ (call (Value.ref 195) [Value.ref _, Value.str _ _]) _ _ _); k_dflt (refine' gliL2w ?k1 ?k2 ?k3 ?k5 ?kK ?kd ?ku ?z1 ?z2 ?zs ?zf1 ?zz ?_; (case k1 => k_asm); (case k2 => k_asm); (case k3 => k_asm); (case k5 => k_asm); (case kK => first | assumption | exact rfl); (case kd => ktr_room); (case ku => ktr_units); (case zf1 => walk_at "own k_got"); (case z1 => assumption); (case z2 => assumption); (case zs => (first | assumption | decide +kernel)); (case zz => assumption); k_whole); intro t' h' tk' kp'; have F' := fr_kp (by k_asm) kp'; have N' := news_kp (by k_asm) kp'; clear kp'; (try dsimp only); (try k_sweep); (try k_fold)))
local macro_rules | `(tactic| walk_at "call ref") => `(tactic| (k_here; (with_reducible show wpAny _ _ (call (Value.ref 195) [Value.ref _, Value.str _ _]) _ _ _); k_dflt (refine' gliL3w ?k1 ?k2 ?k3 ?k5 ?kK ?kd ?ku ?z1 ?z2 ?z3 ?zs ?zf1 ?zz ?_; (case k1 => k_asm); (case k2 => k_asm); (case k3 => k_asm); (case k5 => k_asm); (case kK => first | assumption | exact rfl); (case kd => ktr_room); (case ku => ktr_units); (case zf1 => walk_at "own k_got"); (case z1 => assumption); (case z2 => assumption); (case z3 => assumption); (case zs => (first | assumption | decide +kernel)); (case zz => assumption); k_whole); intro t' h' tk' kp'; have F' := fr_kp (by k_asm) kp'; have N' := news_kp (by k_asm) kp'; clear kp'; (try dsimp only); (try k_sweep); (try k_fold)))
local macro_rules | `(tactic| walk_at "call ref") => `(tactic| (k_here; (with_reducible show wpAny _ _ (call (Value.ref 195) [Value.ref _, Value.str _ _]) _ _ _); k_dflt (refine' gliL4w ?k1 ?k2 ?k3 ?k5 ?kK ?kd ?ku ?z1 ?z2 ?z3 ?z4 ?zs ?zf1 ?zz ?_; (case k1 => k_asm); (case k2 => k_asm); (case k3 => k_asm); (case k5 => k_asm); (case kK => first | assumption | exact rfl); (case kd => ktr_room); (case ku => ktr_units); (case zf1 => walk_at "own k_got"); (case z1 => assumption); (case z2 => assumption); (case z3 => assumption); (case z4 => assumption); (case zs => (first | assumption | decide +kernel)); (case zz => assumption); k_whole); intro t' h' tk' kp'; have F' := fr_kp (by k_asm) kp'; have N' := news_kp (by k_asm) kp'; clear kp'; (try dsimp only); (try k_sweep); (try k_fold)))
local macro_rules | `(tactic| walk_at "call ref") => `(tactic| (k_here; (with_reducible show wpAny _ _ (call (Value.ref 195) [Value.ref _, Value.str _ _]) _ _ _); k_dflt (refine' gliL5w ?k1 ?k2 ?k3 ?k5 ?kK ?kd ?ku ?z1 ?z2 ?z3 ?z4 ?z5 ?zs ?zf1 ?zz ?_; (case k1 => k_asm); (case k2 => k_asm); (case k3 => k_asm); (case k5 => k_asm); (case kK => first | assumption | exact rfl); (case kd => ktr_room); (case ku => ktr_units); (case zf1 => walk_at "own k_got"); (case z1 => assumption); (case z2 => assumption); (case z3 => assumption); (case z4 => assumption); (case z5 => assumption); (case zs => (first | assumption | decide +kernel)); (case zz => assumption); k_whole); intro t' h' tk' kp'; have F' := fr_kp (by k_asm) kp'; have N' := news_kp (by k_asm) kp'; clear kp'; (try dsimp only); (try k_sweep); (try k_fold)))
local macro_rules | `(tactic| walk_at "call ref") => `(tactic| (k_here; (with_reducible show wpAny _ _ (call (Value.ref 195) [Value.ref _, Value.str _ _]) _ _ _); k_dflt (refine' gliL6w ?k1 ?k2 ?k3 ?k5 ?kK ?kd ?ku ?z1 ?z2 ?z3 ?z4 ?z5 ?zs ?zf1 ?zz ?_; (case k1 => k_asm); (case k2 => k_asm); (case k3 => k_asm); (case k5 => k_asm); (case kK => first | assumption | exact rfl); (case kd => ktr_room); (case ku => ktr_units); (case zf1 => walk_at "own k_got"); (case z1 => assumption); (case z2 => assumption); (case z3 => assumption); (case z4 => assumption); (case z5 => assumption); (case zs => (first | assumption | decide +kernel)); (case zz => assumption); k_whole); intro t' h' tk' kp'; have F' := fr_kp (by k_asm) kp'; have N' := news_kp (by k_asm) kp'; clear kp'; (try dsimp only); (try k_sweep); (try k_fold)))
local macro_rules | `(tactic| walk_at "call ref") => `(tactic| (k_here; (with_reducible show wpAny _ _ (call (Value.ref 195) [Value.ref _, Value.str _ _]) _ _ _); k_dflt (refine' gliL7w ?k1 ?k2 ?k3 ?k5 ?kK ?kd ?ku ?z1 ?z2 ?z3 ?z4 ?z5 ?zs ?zf1 ?zz ?_; (case k1 => k_asm); (case k2 => k_asm); (case k3 => k_asm); (case k5 => k_asm); (case kK => first | assumption | exact rfl); (case kd => ktr_room); (case ku => ktr_units); (case zf1 => walk_at "own k_got"); (case z1 => assumption); (case z2 => assumption); (case z3 => assumption); (case z4 => assumption); (case z5 => assumption); (case zs => (first | assumption | decide +kernel)); (case zz => assumption); k_whole); intro t' h' tk' kp'; have F' := fr_kp (by k_asm) kp'; have N' := news_kp (by k_asm) kp'; clear kp'; (try dsimp only); (try k_sweep); (try k_fold)))
local macro_rules | `(tactic| walk_at "call ref") => `(tactic| (k_here; (with_reducible show wpAny _ _ (call (Value.ref 195) [Value.ref _]) _ _ _); k_dflt (refine' gliD5w ?k1 ?k2 ?k3 ?k5 ?kK ?kd ?ku ?z1 ?z2 ?z3 ?z4 ?z5 ?zf1 ?zz ?_; (case k1 => k_asm); (case k2 => k_asm); (case k3 => k_asm); (case k5 => k_asm); (case kK => first | assumption | exact rfl); (case kd => ktr_room); (case ku => ktr_units); (case zf1 => walk_at "own k_got"); (case z1 => assumption); (case z2 => assumption); (case z3 => assumption); (case z4 => assumption); (case z5 => assumption); (case zz => assumption); k_whole); intro t' h' tk' kp'; have F' := fr_kp (by k_asm) kp'; have N' := news_kp (by k_asm) kp'; clear kp'; (try dsimp only); (try k_sweep); (try k_fold)))

theorem off33 : True := by
  w_top off
  trivial
theorem sub_news {h₀ h : Heap} {L : Addr} {all keep : List (Addr × Obj)} (N : News h₀ L h all) (s : SubL keep all) : News h₀ L h keep := fun p hp => N p (s.mem p hp)
def KeepIs (_ : List (Addr × Obj)) : Prop := True
theorem UnrEnd.keep {keep : List (Addr × Obj)} {h₀ : Heap} {L I : Addr} {it : Obj} {rest : (Str → Option Value) → List (Addr × Obj) → Prop} {s₁ : Shared} {h' : Heap} {tk : Nat} {m' : Str → Option Value} {all : List (Addr × Obj)} (_K : KeepIs keep) (F : Fr h₀ L h' m') (N : News h₀ L h' all)
    (hI : (I, it) ∈ all) (sub : SubL keep all) (off : OffI I it keep) (r : rest m' keep) : UnrEnd h₀ L s₁ I it rest { s₁ with heap := h', toks := tk } := UnrEnd.intro3 F N keep hI sub off r
local macro_rules | `(tactic| walk_at "UnrEnd") => `(tactic| (refine UnrEnd.keep (by assumption) (by assumption) (by k_asm) (by k_mem) (by k_subL) (by first | k_offL | ktu_offI) ?_))
local macro_rules | `(tactic| walk_at "compareOp Eq ref ref") => `(tactic| (k_here; (with_reducible show wpAny _ _ (compareOp CmpOp.Eq (Value.ref _) _) _ _ _); (refine cmp_ofEq ?_); k_dflt (refine' cmp_K ?k1 ?k2 ?k3 ?k4 ?k5 ?k6 ?k7 ?k8 ?_; (case k4 => k_inst); (case k1 => k_units); (case k2 => k_asm); (case k3 => k_asm); (case k5 => k_typeOf); (case k6 => k_is); (case k7 => k_is); (case k8 => k_is); k_whole)))
local macro_rules | `(tactic| walk_at "compareOp NotEq ref ref") => `(tactic| (k_here; (with_reducible show wpAny _ _ (compareOp CmpOp.NotEq (Value.ref _) _) _ _ _); (refine cmp_ofNotEq ?_); k_dflt (refine' cmp_K ?k1 ?k2 ?k3 ?k4 ?k5 ?k6 ?k7 ?k8 ?_; (case k4 => k_inst); (case k1 => k_units); (case k2 => k_asm); (case k3 => k_asm); (case k5 => k_typeOf); (case k6 => k_is); (case k7 => k_is); (case k8 => k_is); k_whole)))
theorem news_new {h₀ h h' : Heap} {L D : Addr} {m : Str → Option Value} {news : List (Addr × Obj)} {o : Obj} (F : Fr h₀ L h m) (N : News h₀ L h news) (kp : Kp h h') (kn : h.get? D = none) (kg : h'.get? D = some o) : News h₀ L h' ((D, o) :: news) := fun p hp => by
  rcases List.mem_cons.mp hp with rfl | hp
  · refine ⟨kg, ?_, ?_⟩
    · rintro rfl
      obtain ⟨o', _, _, ho, _⟩ := F.ns
      rw [ho] at kn
      cases kn
    · cases e : h₀.get? D with
      | none => rfl
      | some o' => have := F.keep _ _ e; rw [this] at kn; cases kn
  · exact news_kp N kp p hp
local macro_rules | `(tactic| walk_at "call ref") => `(tactic| (k_here; (with_reducible show wpAny _ _ (call (Value.ref 189) [Value.str _ _, Value.str _ _]) _ _ _); k_dflt (refine' parse_no ?k1 ?k2 ?k3 ?k5 ?kK ?kd ?ku ?kP ?kh ?_; (case k1 => k_asm); (case k2 => k_asm); (case k3 => k_asm); (case k5 => k_asm); (case kK => first | assumption | exact rfl); (case kd => ktr_room); (case ku => ktr_units); (case kP => exact ⟨by assumption, by assumption, by assumption, by assumption, by assumption, by assumption⟩); (case kh => assumption); k_whole); intro D' n' t0' t1' t2' t3' t4' h' tk' kp' kn' kg'; have F' := fr_kp (by k_asm) kp'; have N' := news_new (by k_asm) (by k_asm) kp' kn' kg'; clear kp' kn' kg'; (try dsimp only); (try k_sweep); (try k_fold)))
local macro_rules | `(tactic| walk_at "call ref") => `(tactic| (k_here; (with_reducible show wpAny _ _ (call (Value.ref 189) [Value.str _ _, Value.str _ _]) _ _ _); k_dflt (refine' parse_yes ?k1 ?k2 ?k3 ?k5 ?kK ?kd ?ku ?kP ?kh ?_; (case k1 => k_asm); (case k2 => k_asm); (case k3 => k_asm); (case k5 => k_asm); (case kK => first | assumption | exact rfl); (case kd => ktr_room); (case ku => ktr_units); (case kP => exact ⟨by assumption, by assumption, by assumption, by assumption, by assumption, by assumption⟩); (case kh => assumption); k_whole); intro D' n' t0' t1' t2' t3' t4' h' tk' kp' kn' kg'; have F' := fr_kp (by k_asm) kp'; have N' := news_new (by k_asm) (by k_asm) kp' kn' kg'; clear kp' kn' kg'; (try dsimp only); (try k_sweep); (try k_fold)))
local macro_rules | `(tactic| walk_at "call ref") => `(tactic| (k_here; (with_reducible show wpAny _ _ (call (Value.ref 189) [Value.str _ _] _) _ _ _); k_dflt (refine' parse_noK ?k1 ?k2 ?k3 ?k5 ?kK ?kd ?ku ?kP ?kh ?_; (case k1 => k_asm); (case k2 => k_asm); (case k3 => k_asm); (case k5 => k_asm); (case kK => first | assumption | exact rfl); (case kd => ktr_room); (case ku => ktr_units); (case kP => exact ⟨by assumption, by assumption, by assumption, by assumption, by assumption, by assumption⟩); (case kh => assumption); k_whole); intro D' n' t0' t1' t2' t3' t4' h' tk' kp' kn' kg'; have F' := fr_kp (by k_asm) kp'; have N' := news_new (by k_asm) (by k_asm) kp' kn' kg'; clear kp' kn' kg'; (try dsimp only); (try k_sweep); (try k_fold)))
local macro_rules | `(tactic| walk_at "call ref") => `(tactic| (k_here; (with_reducible show wpAny _ _ (call (Value.ref 189) [Value.str _ _] _) _ _ _); k_dflt (refine' parse_yesK ?k1 ?k2 ?k3 ?k5 ?kK ?kd ?ku ?kP ?kh ?_; (case k1 => k_asm); (case k2 => k_asm); (case k3 => k_asm); (case k5 => k_asm); (case kK => first | assumption | exact rfl); (case kd => ktr_room); (case ku => ktr_units); (case kP => exact ⟨by assumption, by assumption, by assumption, by assumption, by assumption, by assumption⟩); (case kh => assumption); k_whole); intro D' n' t0' t1' t2' t3' t4' h' tk' kp' kn' kg'; have F' := fr_kp (by k_asm) kp'; have N' := news_new (by k_asm) (by k_asm) kp' kn' kg'; clear kp' kn' kg'; (try dsimp only); (try k_sweep); (try k_fold)))

theorem off34 : True := by
  w_top off
  trivial
theorem pv_of_carried {v : Value} {o : Option Str} (h : Carried v (pvData o)) : ∃ t, v = pv o t := by
  cases o with
  | none => cases h; exact ⟨0, (pv_none 0).symm⟩
  | some x => cases h; exact ⟨_, (pv_some _ _).symm⟩
inductive AreOfPv : List Value → List (Option Str) → Prop
  | nil : AreOfPv [] []
  | cons (o : Option Str) (t : Tok) {vs os} : AreOfPv vs os → AreOfPv (pv o t :: vs) (o :: os)
theorem pvs_of : ∀ {os : List (Option Str)} {ys : List Value}, CarriedAll ys (os.map pvData) → AreOfPv ys os
  | [], _, h => by cases h; exact .nil
  | o :: os, ys, h => by
    cases h with
    | cons a b =>
      obtain ⟨t, rfl⟩ := pv_of_carried a
      exact .cons o t (pvs_of b)
theorem five_of {ys : List Value} {p0 p1 p2 p3 p4 : Option Str} (h : CarriedAll ys ([p0, p1, p2, p3, p4].map pvData)) : ∃ t0 t1 t2 t3 t4, ys = [pv p0 t0, pv p1 t1, pv p2 t2, pv p3 t3, pv p4 t4] := by
  cases pvs_of h with
  | cons _ t0 h => cases h with
    | cons _ t1 h => cases h with
      | cons _ t2 h => cases h with
        | cons _ t3 h => cases h with
          | cons _ t4 h => cases h; exact ⟨t0, t1, t2, t3, t4, rfl⟩
theorem seps4_of {sep : Str} (h : sep ∈ seps6) (hn : ([Str.ofString ".", Str.ofString ""].any fun x => x == sep) = false) : sep ∈ seps4 := by
  simp only [seps6, List.mem_cons, List.not_mem_nil, or_false] at h
  rcases h with rfl | rfl | rfl | rfl | rfl | rfl
  · exact .head _
  · exact .tail _ (.head _)
  · exact .tail _ (.tail _ (.head _))
  · exact .tail _ (.tail _ (.tail _ (.head _)))
  · simp at hn
  · simp at hn
theorem nrm_ne {o : Option Str} : nrm o = if (!decide (o = some (Str.ofString ""))) = true then o else none := by
  rcases nrm_cases o with ⟨e, h⟩ | ⟨x, rfl, e, h⟩
  · rw [e]
    cases o with
    | none => simp
    | some x =>
      have hx : x = Str.ofString "" := by rw [nil_iff]; simpa [tr] using h
      subst hx
      simp
  · rw [e]
    have hx : ¬ x = Str.ofString "" := by rw [nil_iff]; simpa [tr] using h
    rw [if_pos (by simpa using hx)]
section
variable {w : World} {g : Heap} {L fa : Addr} {cd : Value} {m mg mb : Str → Option Value} {mean : ExcName → Option Value} {s : Shared} {Q : Flow → Shared → Prop} {E : Value → Shared → Prop}
theorem law_tail3 {l sep : Str} {o1 o2 o3 o4 : Option Str} {x dx D : Addr} {n : Nat} {wv : Int} {t0 t1 t2 t3 t4 t5 tl tx1 tx2 tx3 tx4 u0 u1 u2 u3 u4 ts tw : Tok} {vd : Value} (B : Below callerA g [] g) (F : Fr g L s.heap m) (X : (Mine.hd.heap_39 w.params).In g)
   (T : Top Mine.hd.view_39 (looseW Mine.hd.view_39 [Str.ofString "Locale", Str.ofString "parse_locale", Str.ofString "get_locale_identifier"]) mean mg mb g)
   (a0 : l ∈ langs) (a1 : o1 ∈ terrs) (a2 : o2 ∈ scripts) (a3 : o3 ∈ variants) (a4 : o4 ∈ modifiers) (hm : sep ∈ seps6) (w0 : 0 ≤ wv) (w2 : wv ≤ 2)
   (N : News g L s.heap [(x, instObj 177 dx), (dx, dictOf (locD w.params t0 t1 t2 t3 t4 t5 (.str l tl) (pv o1 tx1) (pv o2 tx2) (pv o3 tx3) (pv o4 tx4) vd) 6), (D, tupO [.str l u0, pv o1 u1, pv o2 u2, pv o3 u3, pv o4 u4] n)])
   (m0 : m (Str.ofString "parts") = some (.ref D)) (m1 : m (Str.ofString "sep") = some (.str sep ts)) (m2 : m (Str.ofString "way") = some (.int wv tw)) (m3 : m (Str.ofString "locale") = some (.ref x))
   (hret : ∀ (m' : Str → Option Value) (h' : Heap) (tk' : Nat), Fr g L h' m' → Q (.ret (.bool true)) { s with heap := h', toks := tk' }) :
   wpAny (model PySem.Challenge.rw_bd5005_01.row.prog w) (callerA.deeper (envOf (Str.ofString "law") (scopeOf 14) L fa cd)) (execs ((bodyOf 14).drop 14) (envOf (Str.ofString "law") (scopeOf 14) L fa cd)) Q
     (fun e s' => wpAny (model PySem.Challenge.rw_bd5005_01.row.prog w) (callerA.deeper (envOf (Str.ofString "law") (scopeOf 14) L fa cd)) (leaving (envOf (Str.ofString "law") (scopeOf 14) L fa cd) e) (fun _ s'' => E e s'') (fun e' s'' => E e' s'') s') s := by
  have hl := (langs_good a0).1.1
  have htr := (langs_good a0).2
  have g1 := terrs_good a1
  have g2 := scripts_good a2
  have g3 := variants_good a3
  have g4 := modifiers_good a4
  have b1 : ∀ x, o1 = some x → x.length ≤ 1000 := fun x e => (g1 x e).1
  have b2 : ∀ x, o2 = some x → x.length ≤ 1000 := fun x e => (g2 x e).1
  have b3 : ∀ x, o3 = some x → x.length ≤ 1000 := fun x e => (g3 x e).1
  have b4 : ∀ x, o4 = some x → x.length ≤ 1000 := fun x e => (g4 x e).1
  have hsl := seps6_len hm
  unfold bodyOf scopeOf PySem.Challenge.pw_bd5005_01
  dsimp only [List.drop]
  replace F := fr_kv [(Str.ofString "parts", Value.ref D), (Str.ofString "sep", .str sep ts), (Str.ofString "way", .int wv tw), (Str.ofString "locale", .ref x)] F (by
    intro p hp
    simp only [List.mem_cons, List.not_mem_nil, or_false] at hp
    rcases hp with rfl | rfl | rfl | rfl <;> assumption)
  clear m0 m1 m2 m3
  have hK : KeepIs [(x, instObj 177 dx), (dx, dictOf (locD w.params t0 t1 t2 t3 t4 t5 (.str l tl) (pv o1 tx1) (pv o2 tx2) (pv o3 tx3) (pv o4 tx4) vd) 6), (D, tupO [.str l u0, pv o1 u1, pv o2 u2, pv o3 u3, pv o4 u4] n)] := True.intro
  k_steps
  · exact hret _ _ _ (by k_asm)
  have h4' : sep ∈ seps4 := seps4_of hm (by assumption)
  refine srcA_tupleD (K := pvKind) (as := [some l, o1, o2, o3, o4]) (pz := fun _ => true) (d := fun o => pvData (nrm o)) rfl (News.isTup (by k_asm) (by k_mem)) (.cons ⟨fun x e => Option.some.inj e ▸ hl, _, (pv_some _ _).symm⟩ (.cons ⟨b1, _, rfl⟩ (.cons ⟨b2, _, rfl⟩ (.cons ⟨b3, _, rfl⟩ (.cons ⟨b4, _, rfl⟩ .nil))))) (by k_asm) (by k_asm) ?_ ?_ ?_ (Nat.le_of_ble_eq_true rfl)
  · intro C o v s₂ m₂ E' hv hn hm' htk
    rw [List.forIn_nil]
    exact wpAny_pure ⟨rfl, _, _, rfl, fun _ _ e => e⟩
  · intro C o v s₂ m₂ E' hv hp hn hm' htk
    obtain ⟨hx, t, rfl⟩ := hv
    refine wpAny_IfExp ?_
    refine wpAny_isTrue_Compare1 ?_
    refine wpAny_Name (wpAny_loadName_local rfl rfl hn hm' ?_) (by decide)
    refine wpAny_Constant_str ?_
    refine ne_pv_str ?_
    refine wpAny_truthy_bool ?_
    cases hq : (!decide (o = some (Str.ofString "")))
    · rw [if_neg (by simp)]
      refine wpAny_Constant_none ⟨?_, _, _, rfl, fun _ _ e => e⟩
      rw [nrm_ne, hq]
      exact Carried.none
    · rw [if_pos rfl]
      refine wpAny_Name (wpAny_loadName_local rfl rfl hn hm' ⟨?_, _, _, rfl, fun _ _ e => e⟩) (by decide)
      rw [nrm_ne, hq]
      exact pv_carried _ _
  · intro D' ys h' tk' F' N' hD hl' hpl hc
    have hc' : CarriedAll ys ([some l, nrm o1, nrm o2, nrm o3, nrm o4].map pvData) := by
      simpa [nrm, htr] using hc
    obtain ⟨r0, r1, r2, r3, r4, rfl⟩ := five_of hc'
    obtain ⟨nX, NX⟩ := made_enters hpl F' N' hD
    rw [pv_some] at NX
    clear hc hc' hl' hpl hD N'
    dsimp only
    k_steps
    all_goals exact hret _ _ _ (by k_asm)
end

theorem off35 : True := by
  w_top off
  trivial
local macro_rules | `(tactic| walk_at "execs cons") => `(tactic| (k_here; (with_reducible show wpAny _ _ (execs ([PySem.Stmt.If _ _ _ _, PySem.Stmt.If _ _ _ _, _, _, _]) (envOf (Str.ofString "law") _ _ _ _)) _ _ _); k_dflt (refine' law_tail3 ?B ?F ?X ?T ?a0 ?a1 ?a2 ?a3 ?a4 ?hm ?w0 ?w2 ?N ?m0 ?m1 ?m2 ?m3 ?_; (case B => k_asm); (case F => k_asm); (case X => k_asm); (case T => k_asm); (case m0 => exact rfl); (case m1 => exact rfl); (case m2 => exact rfl); (case m3 => exact rfl); (case N => exact sub_news (by k_asm) (by k_subL)); (case a0 => assumption); (case a1 => assumption); (case a2 => assumption); (case a3 => assumption); (case a4 => assumption); (case hm => assumption); (case w0 => first | assumption | walk_at "own k_way"); (case w2 => first | assumption | walk_at "own k_way"); k_whole); intro m' h' tk' F'))
section
variable {w : World} {g : Heap} {L fa : Addr} {cd : Value} {m mg mb : Str → Option Value} {mean : ExcName → Option Value} {s : Shared} {Q : Flow → Shared → Prop} {E : Value → Shared → Prop}
theorem law_tail2 {l sep : Str} {o1 o2 o3 o4 : Option Str} {x dx D : Addr} {n : Nat} {wv : Int} {t0 t1 t2 t3 t4 t5 tl tx1 tx2 tx3 tx4 u0 u1 u2 u3 u4 ts tw : Tok} {vd : Value} (B : Below callerA g [] g) (F : Fr g L s.heap m) (X : (Mine.hd.heap_39 w.params).In g)
   (T : Top Mine.hd.view_39 (looseW Mine.hd.view_39 [Str.ofString "Locale", Str.ofString "parse_locale", Str.ofString "get_locale_identifier"]) mean mg mb g)
   (a0 : l ∈ langs) (a1 : o1 ∈ terrs) (a2 : o2 ∈ scripts) (a3 : o3 ∈ variants) (a4 : o4 ∈ modifiers) (hm : sep ∈ seps6) (w0 : 0 ≤ wv) (w2 : wv ≤ 2)
   (N : News g L s.heap [(x, instObj 177 dx), (dx, dictOf (locD w.params t0 t1 t2 t3 t4 t5 (.str l tl) (pv o1 tx1) (pv o2 tx2) (pv o3 tx3) (pv o4 tx4) vd) 6), (D, tupO [.str l u0, pv o1 u1, pv o2 u2, pv o3 u3, pv o4 u4] n)])
   (m0 : m (Str.ofString "parts") = some (.ref D)) (m1 : m (Str.ofString "sep") = some (.str sep ts)) (m2 : m (Str.ofString "way") = some (.int wv tw)) (m3 : m (Str.ofString "locale") = some (.ref x))
   (hret : ∀ (m' : Str → Option Value) (h' : Heap) (tk' : Nat), Fr g L h' m' → Q (.ret (.bool true)) { s with heap := h', toks := tk' }) :
   wpAny (model PySem.Challenge.rw_bd5005_01.row.prog w) (callerA.deeper (envOf (Str.ofString "law") (scopeOf 14) L fa cd)) (execs ((bodyOf 14).drop 13) (envOf (Str.ofString "law") (scopeOf 14) L fa cd)) Q
     (fun e s' => wpAny (model PySem.Challenge.rw_bd5005_01.row.prog w) (callerA.deeper (envOf (Str.ofString "law") (scopeOf 14) L fa cd)) (leaving (envOf (Str.ofString "law") (scopeOf 14) L fa cd) e) (fun _ s'' => E e s'') (fun e' s'' => E e' s'') s') s := by
  have hl := (langs_good a0).1.1
  have htr := (langs_good a0).2
  have g1 := terrs_good a1
  have g2 := scripts_good a2
  have g3 := variants_good a3
  have g4 := modifiers_good a4
  have b1 : ∀ x, o1 = some x → x.length ≤ 1000 := fun x e => (g1 x e).1
  have b2 : ∀ x, o2 = some x → x.length ≤ 1000 := fun x e => (g2 x e).1
  have b3 : ∀ x, o3 = some x → x.length ≤ 1000 := fun x e => (g3 x e).1
  have b4 : ∀ x, o4 = some x → x.length ≤ 1000 := fun x e => (g4 x e).1
  have hsl := seps6_len hm
  unfold bodyOf scopeOf PySem.Challenge.pw_bd5005_01
  dsimp only [List.drop]
  replace F := fr_kv [(Str.ofString "parts", Value.ref D), (Str.ofString "sep", .str sep ts), (Str.ofString "way", .int wv tw), (Str.ofString "locale", .ref x)] F (by
    intro p hp
    simp only [List.mem_cons, List.not_mem_nil, or_false] at hp
    rcases hp with rfl | rfl | rfl | rfl <;> assumption)
  clear m0 m1 m2 m3
  have hK : KeepIs [(x, instObj 177 dx), (dx, dictOf (locD w.params t0 t1 t2 t3 t4 t5 (.str l tl) (pv o1 tx1) (pv o2 tx2) (pv o3 tx3) (pv o4 tx4) vd) 6), (D, tupO [.str l u0, pv o1 u1, pv o2 u2, pv o3 u3, pv o4 u4] n)] := True.intro
  k_steps
  all_goals exact hret _ _ _ (by k_asm)
end

theorem off36 : True := by
  w_top off
  trivial
local macro_rules | `(tactic| walk_at "execs cons") => `(tactic| (k_here; (with_reducible show wpAny _ _ (execs (PySem.Stmt.For (PySem.Expr.Name (Str.ofString "count") _) _ _ _ _ :: _) (envOf (Str.ofString "law") _ _ _ _)) _ _ _); k_dflt (refine' law_tail2 ?B ?F ?X ?T ?a0 ?a1 ?a2 ?a3 ?a4 ?hm ?w0 ?w2 ?N ?m0 ?m1 ?m2 ?m3 ?_; (case B => k_asm); (case F => k_asm); (case X => k_asm); (case T => k_asm); (case m0 => exact rfl); (case m1 => exact rfl); (case m2 => exact rfl); (case m3 => exact rfl); (case N => exact sub_news (by k_asm) (by k_subL)); (case a0 => assumption); (case a1 => assumption); (case a2 => assumption); (case a3 => assumption); (case a4 => assumption); (case hm => assumption); (case w0 => first | assumption | walk_at "own k_way"); (case w2 => first | assumption | walk_at "own k_way"); k_whole); intro m' h' tk' F'))
section
variable {w : World} {g : Heap} {L fa : Addr} {cd : Value} {m mg mb : Str → Option Value} {mean : ExcName → Option Value} {s : Shared} {Q : Flow → Shared → Prop} {E : Value → Shared → Prop}
theorem law_tail1 {l sep : Str} {o1 o2 o3 o4 : Option Str} {x dx D : Addr} {n : Nat} {wv : Int} {t0 t1 t2 t3 t4 t5 tl tx1 tx2 tx3 tx4 u0 u1 u2 u3 u4 ts tw : Tok} {vd : Value} (B : Below callerA g [] g) (F : Fr g L s.heap m) (X : (Mine.hd.heap_39 w.params).In g)
   (T : Top Mine.hd.view_39 (looseW Mine.hd.view_39 [Str.ofString "Locale", Str.ofString "parse_locale", Str.ofString "get_locale_identifier"]) mean mg mb g)
   (a0 : l ∈ langs) (a1 : o1 ∈ terrs) (a2 : o2 ∈ scripts) (a3 : o3 ∈ variants) (a4 : o4 ∈ modifiers) (hm : sep ∈ seps6) (w0 : 0 ≤ wv) (w2 : wv ≤ 2)
   (N : News g L s.heap [(x, instObj 177 dx), (dx, dictOf (locD w.params t0 t1 t2 t3 t4 t5 (.str l tl) (pv o1 tx1) (pv o2 tx2) (pv o3 tx3) (pv o4 tx4) vd) 6), (D, tupO [.str l u0, pv o1 u1, pv o2 u2, pv o3 u3, pv o4 u4] n)])
   (m0 : m (Str.ofString "parts") = some (.ref D)) (m1 : m (Str.ofString "sep") = some (.str sep ts)) (m2 : m (Str.ofString "way") = some (.int wv tw)) (m3 : m (Str.ofString "locale") = some (.ref x))
   (hret : ∀ (m' : Str → Option Value) (h' : Heap) (tk' : Nat), Fr g L h' m' → Q (.ret (.bool true)) { s with heap := h', toks := tk' }) :
   wpAny (model PySem.Challenge.rw_bd5005_01.row.prog w) (callerA.deeper (envOf (Str.ofString "law") (scopeOf 14) L fa cd)) (execs ((bodyOf 14).drop 12) (envOf (Str.ofString "law") (scopeOf 14) L fa cd)) Q
     (fun e s' => wpAny (model PySem.Challenge.rw_bd5005_01.row.prog w) (callerA.deeper (envOf (Str.ofString "law") (scopeOf 14) L fa cd)) (leaving (envOf (Str.ofString "law") (scopeOf 14) L fa cd) e) (fun _ s'' => E e s'') (fun e' s'' => E e' s'') s') s := by
  have hl := (langs_good a0).1.1
  have htr := (langs_good a0).2
  have g1 := terrs_good a1
  have g2 := scripts_good a2
  have g3 := variants_good a3
  have g4 := modifiers_good a4
  have b1 : ∀ x, o1 = some x → x.length ≤ 1000 := fun x e => (g1 x e).1
  have b2 : ∀ x, o2 = some x → x.length ≤ 1000 := fun x e => (g2 x e).1
  have b3 : ∀ x, o3 = some x → x.length ≤ 1000 := fun x e => (g3 x e).1
  have b4 : ∀ x, o4 = some x → x.length ≤ 1000 := fun x e => (g4 x e).1
  have hsl := seps6_len hm
  unfold bodyOf scopeOf PySem.Challenge.pw_bd5005_01
  dsimp only [List.drop]
  replace F := fr_kv [(Str.ofString "parts", Value.ref D), (Str.ofString "sep", .str sep ts), (Str.ofString "way", .int wv tw), (Str.ofString "locale", .ref x)] F (by
    intro p hp
    simp only [List.mem_cons, List.not_mem_nil, or_false] at hp
    rcases hp with rfl | rfl | rfl | rfl <;> assumption)
  clear m0 m1 m2 m3
  have hK : KeepIs [(x, instObj 177 dx), (dx, dictOf (locD w.params t0 t1 t2 t3 t4 t5 (.str l tl) (pv o1 tx1) (pv o2 tx2) (pv o3 tx3) (pv o4 tx4) vd) 6), (D, tupO [.str l u0, pv o1 u1, pv o2 u2, pv o3 u3, pv o4 u4] n)] := True.intro
  k_steps
  all_goals exact hret _ _ _ (by k_asm)
end

theorem off37 : True := by
  w_top off
  trivial
local macro_rules | `(tactic| walk_at "execs cons") => `(tactic| (k_here; (with_reducible show wpAny _ _ (execs (PySem.Stmt.For (PySem.Expr.Name (Str.ofString "place") _) _ _ _ _ :: _) (envOf (Str.ofString "law") _ _ _ _)) _ _ _); k_dflt (refine' law_tail1 ?B ?F ?X ?T ?a0 ?a1 ?a2 ?a3 ?a4 ?hm ?w0 ?w2 ?N ?m0 ?m1 ?m2 ?m3 ?_; (case B => k_asm); (case F => k_asm); (case X => k_asm); (case T => k_asm); (case m0 => exact rfl); (case m1 => exact rfl); (case m2 => exact rfl); (case m3 => exact rfl); (case N => exact sub_news (by k_asm) (by k_subL)); (case a0 => assumption); (case a1 => assumption); (case a2 => assumption); (case a3 => assumption); (case a4 => assumption); (case hm => assumption); (case w0 => first | assumption | walk_at "own k_way"); (case w2 => first | assumption | walk_at "own k_way"); k_whole); intro m' h' tk' F'))
theorem lawHolds : PySem.Challenge.rw_bd5005_01.Holds := Mine.hd (by
  k_go0
  all_goals (try k_fold)
  iterate 32 (first | (k_unfold; (try dsimp only)) | (k_end; wrow_close) | walk1 | (dsimp only; walk1) | (leave1; walk_say "STEP leave1"; try dsimp only))
  k_here
  with_reducible show wpAny _ _ (subscriptTail _ (PySem.Expr.Slice _ _ none _) (Value.ref _) (Value.ref _)) _ _ _
  k_dflt (refine' lslice ?qF ?qN ?ql ?qi ?qs ?_)
  case qF => k_asm
  case qN => k_asm
  case ql => exact News.isList (by k_asm) (by k_mem)
  case qi => assumption
  case qs => with_unfolding_all rfl
  intro D' t1' t2' h' F' N' l1
  (try k_lt l1)
  (try k_sweep)
  k_steps)

end Mine
theorem PySem.Challenge.cw_bd5005_01_holds : PySem.Challenge.rw_bd5005_01.Holds := by
  exact Mine.lawHolds

