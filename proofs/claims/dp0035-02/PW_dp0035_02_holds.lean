import PyProof.Rows.All
import Wide.All
import OpenK.AllK
import Wide.FinOn
import PySem.Challenge.RW_dp0035_02
open PySem PySem.W PyProof.Rows
set_option Elab.async false
set_option maxRecDepth 100000
set_option maxHeartbeats 8000000
set_option linter.unusedSectionVars false
namespace Mine
open_top hd02 for PySem.Challenge.rw_dp0035_02
end Mine
namespace Mine

/-- the loop of _siftdown and its last store -/
def sdLoop {α : Type} [Inhabited α] (lt : α → α → Bool) (new : α) (sp : Nat) (l : List α) (pos : Nat) : List α :=
  if _h : sp < pos then
    if lt new (l.getD ((pos - 1) / 2) default) then sdLoop lt new sp (l.set pos (l.getD ((pos - 1) / 2) default)) ((pos - 1) / 2)
    else l.set pos new
  else l.set pos new
termination_by pos
decreasing_by omega

def sd {α : Type} [Inhabited α] (lt : α → α → Bool) (l : List α) (sp pos : Nat) : List α := sdLoop lt (l.getD pos default) sp l pos

/-- the child that _siftup goes to -/
def kid {α : Type} [Inhabited α] (lt : α → α → Bool) (l : List α) (pos : Nat) : Nat :=
  if 2 * pos + 2 < l.length ∧ lt (l.getD (2 * pos + 1) default) (l.getD (2 * pos + 2) default) = false then 2 * pos + 2 else 2 * pos + 1

theorem kid_or {α : Type} [Inhabited α] (lt : α → α → Bool) (l : List α) (pos : Nat) : kid lt l pos = 2 * pos + 1 ∨ (kid lt l pos = 2 * pos + 2 ∧ 2 * pos + 2 < l.length) := by
  unfold kid; split
  · rename_i h; exact .inr ⟨rfl, h.1⟩
  · exact .inl rfl

def suLoop {α : Type} [Inhabited α] (lt : α → α → Bool) (l : List α) (pos : Nat) : List α × Nat :=
  if _h : 2 * pos + 1 < l.length then suLoop lt (l.set pos (l.getD (kid lt l pos) default)) (kid lt l pos) else (l, pos)
termination_by l.length - pos
decreasing_by
  rw [List.length_set]
  rcases kid_or lt l pos with h | h <;> omega

def su {α : Type} [Inhabited α] (lt : α → α → Bool) (l : List α) (pos : Nat) : List α :=
  let r := suLoop lt l pos
  sd lt (r.1.set r.2 (l.getD pos default)) pos r.2

def hpush {α : Type} [Inhabited α] (lt : α → α → Bool) (l : List α) (x : α) : List α := sd lt (l ++ [x]) 0 l.length

theorem sdLoop_length {α : Type} [Inhabited α] (lt : α → α → Bool) (new : α) (sp : Nat) (l : List α) (pos : Nat) : (sdLoop lt new sp l pos).length = l.length := by
  fun_induction sdLoop lt new sp l pos <;> simp_all
theorem sd_length {α : Type} [Inhabited α] (lt : α → α → Bool) (l : List α) (sp pos : Nat) : (sd lt l sp pos).length = l.length := sdLoop_length ..
theorem suLoop_length {α : Type} [Inhabited α] (lt : α → α → Bool) (l : List α) (pos : Nat) : (suLoop lt l pos).1.length = l.length := by
  fun_induction suLoop lt l pos <;> simp_all
theorem suLoop_lt {α : Type} [Inhabited α] (lt : α → α → Bool) (l : List α) (pos : Nat) (h : pos < l.length) : (suLoop lt l pos).2 < l.length := by
  fun_induction suLoop lt l pos with
  | case1 l pos h1 ih => 
    have := ih (by rw [List.length_set]; rcases kid_or lt l pos with h | h <;> omega)
    simpa using this
  | case2 l pos h1 => exact h
theorem su_length {α : Type} [Inhabited α] (lt : α → α → Bool) (l : List α) (pos : Nat) : (su lt l pos).length = l.length := by
  unfold su; rw [sd_length, List.length_set, suLoop_length]
theorem hpush_length {α : Type} [Inhabited α] (lt : α → α → Bool) (l : List α) (x : α) : (hpush lt l x).length = l.length + 1 := by
  unfold hpush; rw [sd_length]; simp

section
variable {prog : Program} {w : World} {A : Around} {E : Value → Shared → Prop} {s : Shared} {h₀ : Heap} {L D : Addr} {m : Str → Option Value} {rest : List (Addr × Obj)} {vs : List Value} {n : Nat} {k : Int} {t : Tok} {x : Value}

theorem getD_get {vs : List Value} {i : Nat} (h : i < vs.length) : vs[i]? = some (vs.getD i default) := by
  rw [List.getD_eq_getElem?_getD, List.getElem?_eq_getElem h]; rfl

theorem item_at {news : List (Addr × Obj)} {value slice : Expr} {Q : Value → Shared → Prop} (N : News h₀ L s.heap news) (hm : (D, listOf vs.toArray n) ∈ news) (i : Nat) (hk : k = (i : Int)) (hi : i < vs.length) (hl : vs.length ≤ 1000) (h : Q (vs.getD i default) s)
    (hs : subscripted slice false (.ref D) (.int k t) = operate [.ref D, .int k t] (getItem (.ref D) (.int k t)) := by with_unfolding_all rfl) (hg : ∀ r, letTemporaryGo value (.ref D) r = pure () := by intro _; with_unfolding_all rfl) :
    wpAny (model prog w) A (subscriptTail value slice (.ref D) (.int k t)) Q E s := by
  subst hk
  exact kim_list N hm rfl rfl (by omega) (by omega) (by simpa using getD_get hi) h hs hg

theorem len_at {news : List (Addr × Obj)} {Q : Value → Shared → Prop} (N : News h₀ L s.heap news) (hm : (D, listOf vs.toArray n) ∈ news) (hl : vs.length ≤ 1000) (h : ∀ t tk, Q (.int (vs.length : Int) t) { s with toks := tk }) :
    wpAny (model prog w) A (call (.builtin "len") [.ref D]) Q E s := by
  refine len_list (PySem.IsL.isList (n := n) (N _ hm).1) (by rw [List.size_toArray]; omega) ?_
  have := h (s.toks + 1) (s.toks + 1 + 1)
  simpa using this

theorem app_at {Q : Value → Shared → Prop} (F : Fr h₀ L s.heap m) (N : News h₀ L s.heap ((D, listOf vs.toArray n) :: rest)) (hne : ∀ p ∈ rest, p.1 ≠ D) (hl : vs.length ≤ 1000)
    (h : ∀ h', Fr h₀ L h' m → News h₀ L h' ((D, listOf (vs ++ [x]).toArray (n + 1)) :: rest) → Q .none { s with heap := h' }) :
    wpAny (model prog w) A (call (.builtin "list.append") [.ref D, x]) Q E s := by
  refine append_K F N (.head hne) (fun h' F' N' => h h' F' ?_) (by rw [sizeLine_eq, List.size_toArray]; omega)
  simpa using N'

theorem set_at {Q : Unit → Shared → Prop} (F : Fr h₀ L s.heap m) (N : News h₀ L s.heap ((D, listOf vs.toArray n) :: rest)) (hne : ∀ p ∈ rest, p.1 ≠ D) (i : Nat) (hk : k = (i : Int)) (hi : i < vs.length) (hl : vs.length ≤ 1000)
    (h : ∀ h', Fr h₀ L h' m → News h₀ L h' ((D, listOf (vs.set i x).toArray n) :: rest) → Q () { s with heap := h' }) :
    wpAny (model prog w) A (setItem (.ref D) (.int k t) x) Q E s := by
  subst hk
  have z := N (D, listOf vs.toArray n) (.head _)
  refine ki_setAt z.1 (by omega) (by omega) (by simpa using hi) (h _ (F.change (Heap.SameBut.update ..) z.2.1 z.2.2) (ki_turn (pre := []) _ N (fun _ h => nomatch h) hne ?_ ?_))
  · apply Array.toList_inj.mp
    simp
  · simp
end

theorem look_int {o : Option Value} {a b : Int} {t t' : Tok} (h1 : o = some (.int a t)) (h2 : a = b) (h3 : t = t') : o = some (.int b t') := by rw [h1, h2, h3]
theorem fr_look {h₀ h : Heap} {L : Addr} {m : Str → Option Value} (_F : Fr h₀ L h m) (x : Str) (b : Int) (e : ∃ t, m x = some (.int b t)) : ∃ t, m x = some (.int b t) := e
theorem fdiv_par {p : Nat} (h : 0 < p) : ((p : Int) - 1).fdiv (2 ^ Int.toNat 1) = (((p - 1) / 2 : Nat) : Int) := by
  have e : ((p : Int) - 1) = ((p - 1 : Nat) : Int) := by omega
  rw [e, Int.fdiv_eq_ediv_of_nonneg _ (by decide)]
  show ((p - 1 : Nat) : Int) / 2 = _
  omega

theorem getD_mem {vs : List Value} {i : Nat} (h : i < vs.length) : vs.getD i default ∈ vs := List.mem_of_getElem? (getD_get h)

/-- the order of the items is known while rest stands -/
def LtOk (prog : Program) (w : World) (rest : List (Addr × Obj)) (lt : Value → Value → Bool) (vs : List Value) : Prop :=
  ∀ x ∈ vs, ∀ y ∈ vs, ∀ (A : Around) (s : Shared) (Q : Value → Shared → Prop) (E : Value → Shared → Prop), A.handled = none → A.units + 60 < cLine → (∀ p ∈ rest, s.heap.get? p.1 = some p.2) →
    (∀ tk, Q (.bool (lt x y)) { s with toks := tk }) → wpAny (model prog w) A (compareOp .Lt x y) Q E s

theorem allLt_to {d : Addr} {l : List (Addr × Obj)} (h : AllLt d l) : ∀ p ∈ l, p.1 < d := by
  induction l with
  | nil => intro p hp; nomatch hp
  | cons q r ih =>
    intro p hp
    rcases List.mem_cons.mp hp with rfl | hp
    · exact h.1
    · exact ih h.2 p hp
/-- the walk stops here -/
def Stop (P : Prop) : Prop := P
theorem Stop.out {P : Prop} (h : Stop P) : P := h
theorem Stop.go {P : Prop} (h : P) : Stop P := h
end Mine
namespace Mine

theorem sd_call (w : World) (mean : ExcName → Option Value) (mg mb : Str → Option Value)
    (dp un : Nat) (gd : Option (List Code)) (cn : Str) (cs : Scope) (a : Addr) (ccd : Value) (cl : List (Str × Addr)) (outer : List Env) (A₀ : Around) (base h₀ : Heap) (L : Addr) (m : Str → Option Value) (rest : List (Addr × Obj)) (s : Shared)
    (lt : Value → Value → Bool) (la : Addr) (vs : List Value) (n : Nat) (sp pos : Nat) (t1 t2 : Tok)
    (Q E : Value → Shared → Prop) (B : Below A₀ base outer h₀) (F : Fr h₀ L s.heap m) (X : (Mine.hd02.heap_39 w.params).In h₀) (N : News h₀ L s.heap ((la, listOf vs.toArray n) :: rest))
    (T : Top Mine.hd02.view_39 (looseW Mine.hd02.view_39 []) mean mg mb h₀) (hk : cs.kind = .function) (hd : dp + 5 < recursionLimit) (hu : un + 100 < cLine)
    (hne : ∀ p ∈ rest, p.1 ≠ la) (hp1 : pos < vs.length) (hlen : vs.length ≤ 200) (hlt : LtOk PySem.Challenge.rw_dp0035_02.row.prog w rest lt vs)
    (hret : ∀ h' tk', Fr h₀ L h' m → News h₀ L h' ((la, listOf (sd lt vs sp pos).toArray n) :: rest) → Q .none { s with heap := h', toks := tk' }) :
    wpAny (model PySem.Challenge.rw_dp0035_02.row.prog w) (ktrTop dp un gd cn cs L a ccd cl outer) (call (.ref 28) [.ref la, .int (sp : Int) t1, .int (pos : Int) t2]) Q E s := by
  have hfill : PySem.Challenge.rw_dp0035_02 = PySem.Challenge.rw_dp0035_02 ∧ Mine.hd02.heap_39 = Mine.hd02.heap_39 := by
    k_fill
    exact ⟨rfl, rfl⟩
  clear hfill
  k_with_none
  k_with "exec While Compare cons nil" => refine Stop.out ?_
  refine wpAny_call ?_
  k_dflt ktr_enter
  k_steps
  rename News _ _ _ _ => N1
  refine item_at N1 (.head _) pos rfl hp1 (by omega) ?_
  k_steps
  refine Stop.go ?_
  rename News _ _ _ _ => N2
  rename Fr _ _ _ _ => F2
  refine ksw_while (σ := List Value × Nat × Tok) (fun c => (la, listOf c.1.toArray n) :: rest) (fun c => [(Str.ofString "pos", .int (c.2.1 : Int) c.2.2)]) (fun c => True) [Str.ofString "parentpos", Str.ofString "parent"]
    (fun c => c.1.length = vs.length ∧ c.2.1 < vs.length ∧ sdLoop lt (vs.getD pos default) sp c.1 c.2.1 = sd lt vs sp pos ∧ ∀ x ∈ c.1, x ∈ vs) (fun c => c.2.1) (vs, pos, t2) F2 N2 trivial ?kk ⟨rfl, hp1, rfl, fun _ h => h⟩ ?_
  case kk => intro p hp; rcases List.mem_cons.mp hp with rfl | hp; exact rfl; exact nomatch hp
  rintro ⟨l, p, tp⟩ u h3 tk3 - ⟨hl1, hl2, hl3, hl4⟩ F3 N3
  dsimp only at *
  k_steps
  · rename News _ _ _ _ => N4
    rename _ < _ => hgt
    have hgt' : sp < p := by omega
    refine item_at N4 (.head _) ((p - 1) / 2) (fdiv_par (by omega)) (by omega) (by omega) ?_
    k_steps
    rename News _ _ _ _ => N5
    rename Fr _ _ _ _ => F5
    refine hlt _ (getD_mem hp1) _ (hl4 _ (getD_mem (by omega))) _ _ _ _ rfl (by show un + 3 + 60 < cLine; omega) (fun q hq => (N5 q (.tail _ hq)).1) ?_
    intro tk5
    k_steps
    · rename lt _ _ = true => hb
      refine set_at F5 N5 hne p rfl (by omega) (by omega) ?_
      intro h6 F6 N6
      k_steps
      rename News _ _ _ _ => N7
      rename Fr _ _ _ _ => F7
      rw [fdiv_par (by omega)] at F7
      refine' ksw_end (l.set p (l.getD ((p - 1) / 2) default), (p - 1) / 2, _) F7 N7 (fun _ h => h) trivial ?k1 ?k2 ⟨by simpa using hl1, by show (p - 1) / 2 < _; omega, ?k3, ?k4⟩ (by show (p - 1) / 2 < p; omega)
      case k1 => intro q hq; rcases List.mem_cons.mp hq with rfl | hq; exact rfl; exact nomatch hq
      case k2 =>
        intro z h2 h3
        have z1 : ¬ z = Str.ofString "pos" := h2 _ (.head _)
        have h3' := h3
        simp only [List.contains_cons, List.contains_nil, Bool.or_false, Bool.or_eq_false_iff, beq_eq_false_iff_ne, ne_eq] at h3'
        simp only [kstB, h3, z1, h3'.1, h3'.2, if_false, Bool.false_eq_true]
      case k3 =>
        rw [← hl3, sdLoop.eq_def _ _ _ l p]
        simp only [dif_pos hgt', hb, if_true]
      case k4 =>
        intro x hx
        rcases List.mem_or_eq_of_mem_set hx with h | h
        · exact hl4 x h
        · exact h ▸ hl4 _ (getD_mem (by omega))
    · rename lt _ _ = false => hb
      refine set_at F5 N5 hne p rfl (by omega) (by omega) ?_
      intro h6 F6 N6
      k_steps
      rename Fr h₀ _ _ _ => F7
      rename News h₀ _ _ _ => N7
      have e : sd lt vs sp pos = l.set p (vs.getD pos default) := by
        rw [← hl3, sdLoop]
        simp only [dif_pos hgt', hb]
        rfl
      refine hret _ _ F7 ?_
      rw [e]; exact N7
  · refine set_at F3 N3 hne p rfl (by omega) (by omega) ?_
    intro h5 F5 N5
    k_steps
    rename Fr h₀ _ _ _ => F6
    rename News h₀ _ _ _ => N6
    have e : sd lt vs sp pos = l.set p (vs.getD pos default) := by
      rw [← hl3, sdLoop]
      simp only [dif_neg (show ¬ sp < p by omega)]
    refine hret _ _ F6 ?_
    rw [e]; exact N6
end Mine
namespace Mine
local macro_rules | `(tactic| walk_at "call ref") => `(tactic| refine Stop.out ?_)
local macro_rules | `(tactic| walk_at "KswEnd") => `(tactic| refine Stop.out ?_)

theorem su_call (w : World) (mean : ExcName → Option Value) (mg mb : Str → Option Value)
    (dp un : Nat) (gd : Option (List Code)) (cn : Str) (cs : Scope) (a : Addr) (ccd : Value) (cl : List (Str × Addr)) (outer : List Env) (A₀ : Around) (base h₀ : Heap) (L : Addr) (m : Str → Option Value) (rest : List (Addr × Obj)) (s : Shared)
    (lt : Value → Value → Bool) (la : Addr) (vs : List Value) (n : Nat) (pos : Nat) (t1 : Tok)
    (Q E : Value → Shared → Prop) (B : Below A₀ base outer h₀) (F : Fr h₀ L s.heap m) (X : (Mine.hd02.heap_39 w.params).In h₀) (N : News h₀ L s.heap ((la, listOf vs.toArray n) :: rest))
    (T : Top Mine.hd02.view_39 (looseW Mine.hd02.view_39 []) mean mg mb h₀) (hk : cs.kind = .function) (hd : dp + 10 < recursionLimit) (hu : un + 110 < cLine)
    (hne : ∀ p ∈ rest, p.1 ≠ la) (hp1 : pos < vs.length) (hlen : vs.length ≤ 200) (hlt : LtOk PySem.Challenge.rw_dp0035_02.row.prog w rest lt vs)
    (hret : ∀ h' tk', Fr h₀ L h' m → News h₀ L h' ((la, listOf (su lt vs pos).toArray n) :: rest) → Q .none { s with heap := h', toks := tk' }) :
    wpAny (model PySem.Challenge.rw_dp0035_02.row.prog w) (ktrTop dp un gd cn cs L a ccd cl outer) (call (.ref 35) [.ref la, .int (pos : Int) t1]) Q E s := by
  have hfill : PySem.Challenge.rw_dp0035_02 = PySem.Challenge.rw_dp0035_02 ∧ Mine.hd02.heap_39 = Mine.hd02.heap_39 := by
    k_fill
    exact ⟨rfl, rfl⟩
  clear hfill
  k_with_none
  k_with "exec While Compare cons nil" => refine Stop.out ?_
  refine wpAny_call ?_
  k_dflt ktr_enter
  k_steps
  rename News _ _ _ _ => N1
  refine len_at N1 (.head _) (by omega) ?_
  intro t2 tk2
  k_steps
  rename News _ _ _ _ => N2
  refine item_at N2 (.head _) pos rfl hp1 (by omega) ?_
  k_steps
  refine Stop.go ?_
  rename News _ _ _ _ => N3
  rename Fr _ _ _ _ => F3
  refine' ksw_while (σ := List Value × Nat × Tok × Tok) (fun c => (la, listOf c.1.toArray n) :: rest) (fun c => [(Str.ofString "pos", .int (c.2.1 : Int) c.2.2.1), (Str.ofString "childpos", .int (2 * (c.2.1 : Int) + 1) c.2.2.2)]) (fun c => True) [Str.ofString "rightpos"]
    (fun c => c.1.length = vs.length ∧ c.2.1 < vs.length ∧ suLoop lt c.1 c.2.1 = suLoop lt vs pos ∧ ∀ x ∈ c.1, x ∈ vs) (fun c => vs.length - c.2.1) (vs, pos, t1, _) F3 N3 trivial ?kk ⟨rfl, hp1, rfl, fun _ h => h⟩ ?kt
  case kk => 
    intro p hp; rcases List.mem_cons.mp hp with rfl | hp; exact rfl; rcases List.mem_cons.mp hp with rfl | hp; exact rfl; exact nomatch hp
  case kt =>
  rintro ⟨l, p, tp, tc⟩ u h4 tk4 - ⟨hl1, hl2, hl3, hl4⟩ F4 N4
  dsimp only at *
  k_steps
  · rename News _ _ _ _ => N5
    rename 2 * (p : Int) + 1 < _ => hc1
    rename 2 * (p : Int) + 1 + 1 < _ => hc2
    refine item_at N5 (.head _) (2 * p + 1) (by omega) (by omega) (by omega) ?_
    k_steps
    refine item_at N5 (.head _) (2 * p + 2) (by omega) (by omega) (by omega) ?_
    k_steps
    refine hlt _ (hl4 _ (getD_mem (by omega))) _ (hl4 _ (getD_mem (by omega))) _ _ _ _ rfl (by show un + 3 + 60 < cLine; omega) (fun q hq => (N5 q (.tail _ hq)).1) ?_
    intro tk5
    k_steps
    · rename lt _ _ = true => hb
      have hkid : kid lt l p = 2 * p + 1 := by
        unfold kid; rw [if_neg]; rw [hb]; simp
      refine item_at N5 (.head _) (2 * p + 1) (by omega) (by omega) (by omega) ?_
      k_steps
      rename News _ _ _ _ => N6
      rename Fr _ _ _ _ => F6
      refine set_at F6 N6 hne p rfl (by omega) (by omega) ?_
      intro h7 F7 N7
      k_steps
      rename News _ _ _ _ => N8
      rename Fr _ _ _ _ => F8
      refine Stop.go ?_
      obtain ⟨u0, e0⟩ := fr_look F8 (Str.ofString "pos") ((2 * p + 1 : Nat) : Int) ⟨_, look_int rfl (by omega) rfl⟩
      obtain ⟨u1, e1⟩ := fr_look F8 (Str.ofString "childpos") (2 * ((2 * p + 1 : Nat) : Int) + 1) ⟨_, look_int rfl (by omega) rfl⟩
      refine ksw_end (l.set p (l.getD (2 * p + 1) default), 2 * p + 1, u0, u1) F8 N8 (fun _ h => h) trivial ?k1 ?k2 ⟨by simpa using hl1, by show 2 * p + 1 < _; omega, ?k3, ?k4⟩ (by show vs.length - (2 * p + 1) < vs.length - p; omega)
      case k1 => intro q hq; rcases List.mem_cons.mp hq with rfl | hq; exact e0; rcases List.mem_cons.mp hq with rfl | hq; exact e1; exact nomatch hq
      case k2 =>
        intro z h2 h3
        have z1 : ¬ z = Str.ofString "pos" := h2 _ (.head _)
        have z2 : ¬ z = Str.ofString "childpos" := h2 _ (.tail _ (.head _))
        have h3' := h3
        simp only [List.contains_cons, List.contains_nil, Bool.or_false, Bool.or_eq_false_iff, beq_eq_false_iff_ne, ne_eq] at h3'
        simp only [kstB, h3, z1, z2, h3', if_false, Bool.false_eq_true]
      case k3 =>
        rw [← hl3, suLoop.eq_def _ l p]
        simp only [dif_pos (show 2 * p + 1 < l.length by omega), hkid]
      case k4 =>
        intro x hx
        rcases List.mem_or_eq_of_mem_set hx with h | h
        · exact hl4 x h
        · exact h ▸ hl4 _ (getD_mem (by omega))
    · rename lt _ _ = false => hb
      rename News _ _ _ _ => N5'
      have hkid : kid lt l p = 2 * p + 2 := by
        unfold kid; rw [if_pos ⟨by omega, hb⟩]
      refine item_at N5' (.head _) (2 * p + 2) (by omega) (by omega) (by omega) ?_
      k_steps
      rename News _ _ _ _ => N6
      rename Fr _ _ _ _ => F6
      refine set_at F6 N6 hne p rfl (by omega) (by omega) ?_
      intro h7 F7 N7
      k_steps
      rename News _ _ _ _ => N8
      rename Fr _ _ _ _ => F8
      refine Stop.go ?_
      obtain ⟨u0, e0⟩ := fr_look F8 (Str.ofString "pos") ((2 * p + 2 : Nat) : Int) ⟨_, look_int rfl (by omega) rfl⟩
      obtain ⟨u1, e1⟩ := fr_look F8 (Str.ofString "childpos") (2 * ((2 * p + 2 : Nat) : Int) + 1) ⟨_, look_int rfl (by omega) rfl⟩
      refine ksw_end (l.set p (l.getD (2 * p + 2) default), 2 * p + 2, u0, u1) F8 N8 (fun _ h => h) trivial ?k1 ?k2 ⟨by simpa using hl1, by show 2 * p + 2 < _; omega, ?k3, ?k4⟩ (by show vs.length - (2 * p + 2) < vs.length - p; omega)
      case k1 => intro q hq; rcases List.mem_cons.mp hq with rfl | hq; exact e0; rcases List.mem_cons.mp hq with rfl | hq; exact e1; exact nomatch hq
      case k2 =>
        intro z h2 h3
        have z1 : ¬ z = Str.ofString "pos" := h2 _ (.head _)
        have z2 : ¬ z = Str.ofString "childpos" := h2 _ (.tail _ (.head _))
        have h3' := h3
        simp only [List.contains_cons, List.contains_nil, Bool.or_false, Bool.or_eq_false_iff, beq_eq_false_iff_ne, ne_eq] at h3'
        simp only [kstB, h3, z1, z2, h3', if_false, Bool.false_eq_true]
      case k3 =>
        rw [← hl3, suLoop.eq_def _ l p]
        simp only [dif_pos (show 2 * p + 1 < l.length by omega), hkid]
      case k4 =>
        intro x hx
        rcases List.mem_or_eq_of_mem_set hx with h | h
        · exact hl4 x h
        · exact h ▸ hl4 _ (getD_mem (by omega))
  · rename News _ _ _ _ => N5
    rename 2 * (p : Int) + 1 < _ => hc1
    rename ¬ 2 * (p : Int) + 1 + 1 < _ => hc2
    have hkid : kid lt l p = 2 * p + 1 := by
      unfold kid; rw [if_neg]; omega
    refine item_at N5 (.head _) (2 * p + 1) (by omega) (by omega) (by omega) ?_
    k_steps
    rename News _ _ _ _ => N6
    rename Fr _ _ _ _ => F6
    refine set_at F6 N6 hne p rfl (by omega) (by omega) ?_
    intro h7 F7 N7
    k_steps
    rename News _ _ _ _ => N8
    rename Fr _ _ _ _ => F8
    refine Stop.go ?_
    obtain ⟨u0, e0⟩ := fr_look F8 (Str.ofString "pos") ((2 * p + 1 : Nat) : Int) ⟨_, look_int rfl (by omega) rfl⟩
    obtain ⟨u1, e1⟩ := fr_look F8 (Str.ofString "childpos") (2 * ((2 * p + 1 : Nat) : Int) + 1) ⟨_, look_int rfl (by omega) rfl⟩
    refine ksw_end (l.set p (l.getD (2 * p + 1) default), 2 * p + 1, u0, u1) F8 N8 (fun _ h => h) trivial ?k1 ?k2 ⟨by simpa using hl1, by show 2 * p + 1 < _; omega, ?k3, ?k4⟩ (by show vs.length - (2 * p + 1) < vs.length - p; omega)
    case k1 => intro q hq; rcases List.mem_cons.mp hq with rfl | hq; exact e0; rcases List.mem_cons.mp hq with rfl | hq; exact e1; exact nomatch hq
    case k2 =>
      intro z h2 h3
      have z1 : ¬ z = Str.ofString "pos" := h2 _ (.head _)
      have z2 : ¬ z = Str.ofString "childpos" := h2 _ (.tail _ (.head _))
      have h3' := h3
      simp only [List.contains_cons, List.contains_nil, Bool.or_false, Bool.or_eq_false_iff, beq_eq_false_iff_ne, ne_eq] at h3'
      simp only [kstB, h3, z1, z2, h3', if_false, Bool.false_eq_true]
    case k3 =>
      rw [← hl3, suLoop.eq_def _ l p]
      simp only [dif_pos (show 2 * p + 1 < l.length by omega), hkid]
    case k4 =>
      intro x hx
      rcases List.mem_or_eq_of_mem_set hx with h | h
      · exact hl4 x h
      · exact h ▸ hl4 _ (getD_mem (by omega))
  · rename ¬ 2 * (p : Int) + 1 < _ => hc1
    refine set_at F4 N4 hne p rfl (by omega) (by omega) ?_
    intro h5 F5 N5
    k_steps
    refine Stop.go ?_
    have e : suLoop lt vs pos = (l, p) := by
      rw [← hl3, suLoop.eq_def _ l p]
      simp only [dif_neg (show ¬ 2 * p + 1 < l.length by omega)]
    have hl5 : ∀ x ∈ l.set p (vs.getD pos default), x ∈ vs := by
      intro x hx
      rcases List.mem_or_eq_of_mem_set hx with h | h
      · exact hl4 x h
      · exact h ▸ getD_mem hp1
    refine sd_call w mean mg mb (dp + 1) (un + 3) gd _ _ _ _ [] _ _ _ _ _ _ rest _ lt la (l.set p (vs.getD pos default)) n pos p t1 tp _ _ (by k_asm) F5 (by k_asm) N5 (by k_asm) rfl (by omega) (by omega) hne (by rw [List.length_set]; omega) (by rw [List.length_set]; omega) (fun x hx y hy => hlt x (hl5 x hx) y (hl5 y hy)) ?_
    intro h6 tk6 F6 N6
    k_steps
    rename Fr h₀ _ _ _ => F7
    rename News h₀ _ _ _ => N7
    have e2 : su lt vs pos = sd lt (l.set p (vs.getD pos default)) pos p := by
      unfold su; rw [e]
    refine hret _ _ F7 ?_
    rw [e2]; exact N7
end Mine
namespace Mine
local macro_rules | `(tactic| walk_at "call ref") => `(tactic| refine Stop.out ?_)

theorem hp_call (w : World) (mean : ExcName → Option Value) (mg mb : Str → Option Value)
    (dp un : Nat) (gd : Option (List Code)) (cn : Str) (cs : Scope) (a : Addr) (ccd : Value) (cl : List (Str × Addr)) (outer : List Env) (A₀ : Around) (base h₀ : Heap) (L : Addr) (m : Str → Option Value) (rest : List (Addr × Obj)) (s : Shared)
    (lt : Value → Value → Bool) (la : Addr) (vs : List Value) (n : Nat) (x : Value)
    (Q E : Value → Shared → Prop) (B : Below A₀ base outer h₀) (F : Fr h₀ L s.heap m) (X : (Mine.hd02.heap_39 w.params).In h₀) (N : News h₀ L s.heap ((la, listOf vs.toArray n) :: rest))
    (T : Top Mine.hd02.view_39 (looseW Mine.hd02.view_39 []) mean mg mb h₀) (hk : cs.kind = .function) (hd : dp + 10 < recursionLimit) (hu : un + 110 < cLine)
    (hne : ∀ p ∈ rest, p.1 ≠ la) (hlen : vs.length < 200) (hlt : LtOk PySem.Challenge.rw_dp0035_02.row.prog w rest lt (vs ++ [x]))
    (hret : ∀ h' tk', Fr h₀ L h' m → News h₀ L h' ((la, listOf (hpush lt vs x).toArray (n + 1)) :: rest) → Q .none { s with heap := h', toks := tk' }) :
    wpAny (model PySem.Challenge.rw_dp0035_02.row.prog w) (ktrTop dp un gd cn cs L a ccd cl outer) (call (.ref 21) [.ref la, x]) Q E s := by
  have hfill : PySem.Challenge.rw_dp0035_02 = PySem.Challenge.rw_dp0035_02 ∧ Mine.hd02.heap_39 = Mine.hd02.heap_39 := by
    k_fill
    exact ⟨rfl, rfl⟩
  clear hfill
  k_with_none
  refine wpAny_call ?_
  k_dflt ktr_enter
  k_steps
  rename News _ _ _ _ => N1
  rename Fr _ _ _ _ => F1
  refine app_at F1 N1 hne (by omega) ?_
  intro h2 F2 N2
  k_steps
  refine len_at N2 (.head _) (by simp; omega) ?_
  intro t3 tk3
  k_steps
  refine Stop.go ?_
  have e : ((vs ++ [x]).length : Int) - 1 = (vs.length : Nat) := by simp
  rw [e]
  refine sd_call w mean mg mb (dp + 1) (un + 3) gd _ _ _ _ [] _ _ _ _ _ _ rest _ lt la (vs ++ [x]) (n + 1) 0 vs.length _ _ _ _ (by k_asm) F2 (by k_asm) N2 (by k_asm) rfl (by omega) (by omega) hne (by simp) (by simp; omega) hlt ?_
  intro h6 tk6 F6 N6
  k_steps
  rename Fr h₀ _ _ _ => F7
  rename News h₀ _ _ _ => N7
  exact hret _ _ F7 N7
end Mine
namespace Mine

/-- what a turn of a for loop leaves: the loop's own iterator as it was, and the word of the next turn -/
def LpEnd (h₀ : Heap) (L I : Addr) (oI : Obj) (J : (Str → Option Value) → List (Addr × Obj) → Prop) (s s₂ : Shared) : Prop :=
  ∃ h' tk m' nx, s₂ = { s with heap := h', toks := tk } ∧ Fr h₀ L h' m' ∧ News h₀ L h' ((I, oI) :: nx) ∧ (∀ p ∈ nx, p.1 ≠ I) ∧ J m' nx
def LpPost (h₀ : Heap) (L I : Addr) (oI : Obj) (J : (Str → Option Value) → List (Addr × Obj) → Prop) (s : Shared) (Q : Flow → Shared → Prop) (f : Flow) (s₂ : Shared) : Prop :=
  match f with
  | .ret v => Q (.ret v) s₂
  | .brk => Q .next s₂
  | _ => LpEnd h₀ L I oI J s s₂

def KS {σ : Type} (Led : σ → List (Addr × Obj)) (ps : σ → List (Str × Value)) (x : Str) (stored : List Str) (m₀ : Str → Option Value) (P : Nat → σ → Prop) (i : Nat) (m : Str → Option Value) (nx : List (Addr × Obj)) : Prop :=
  ∃ c : σ, nx = Led c ∧ (∀ p ∈ ps c, m p.1 = some p.2) ∧ (∀ z, z ≠ x → (∀ p ∈ ps c, z ≠ p.1) → stored.contains z = false → m z = m₀ z) ∧ P i c

theorem lp_end {σ : Type} {Led : σ → List (Addr × Obj)} {ps : σ → List (Str × Value)} {x : Str} {stored : List Str} {m₀ m' : Str → Option Value} {P : Nat → σ → Prop} {i : Nat} {h₀ h' : Heap} {L I : Addr} {oI : Obj} {s : Shared} {tk : Nat} {news : List (Addr × Obj)} (c : σ)
    (F : Fr h₀ L h' m') (N : News h₀ L h' news) (hI : (I, oI) ∈ news) (hn : ∀ p ∈ Led c, p ∈ news) (hne : ∀ p ∈ Led c, p.1 ≠ I) (hk : ∀ p ∈ ps c, m' p.1 = some p.2) (hr : ∀ z, z ≠ x → (∀ p ∈ ps c, z ≠ p.1) → stored.contains z = false → m' z = m₀ z) (hp : P i c) :
    LpEnd h₀ L I oI (KS Led ps x stored m₀ P i) s { s with heap := h', toks := tk } :=
  ⟨h', tk, m', Led c, rfl, F, fun p hp => (List.mem_cons.mp hp).elim (fun e => e ▸ N _ hI) (fun h => N p (hn p h)), hne, c, rfl, hk, hr, hp⟩

theorem lp_next {h₀ : Heap} {L I : Addr} {oI : Obj} {J : (Str → Option Value) → List (Addr × Obj) → Prop} {s : Shared} {Q : Flow → Shared → Prop} {s₂ : Shared} (h : LpEnd h₀ L I oI J s s₂) : LpPost h₀ L I oI J s Q .next s₂ := h
theorem lp_cont {h₀ : Heap} {L I : Addr} {oI : Obj} {J : (Str → Option Value) → List (Addr × Obj) → Prop} {s : Shared} {Q : Flow → Shared → Prop} {s₂ : Shared} (h : LpEnd h₀ L I oI J s s₂) : LpPost h₀ L I oI J s Q .cont s₂ := h
theorem ints_app : ∀ {vs ws : List Value} {ns ms : List Int}, IntsAre vs ns → IntsAre ws ms → IntsAre (vs ++ ws) (ns ++ ms)
  | _, _, _, _, .nil, h => h
  | _, _, _, _, .cons a u r, h => .cons a u (ints_app r h)
/-- a name for the head's address -/
theorem name_head {h₀ h : Heap} {L a : Addr} {o : Obj} {r : List (Addr × Obj)} (_N : News h₀ L h ((a, o) :: r)) {P : Prop} (k : ∀ a', a' = a → P) : P := k a rfl
/-- a name for the head's items -/
theorem name_items {h₀ h : Heap} {L a : Addr} {vs : List Value} {n : Nat} {r : List (Addr × Obj)} (_N : News h₀ L h ((a, listOf vs.toArray n) :: r)) {P : Prop} (k : ∀ vs', vs' = vs → P) : P := k vs rfl
theorem ints_one {a b : Int} {t : Tok} (h : a = b) : IntsAre [.int a t] [b] := h ▸ .cons a t .nil
theorem news_sub {h₀ h : Heap} {L : Addr} {l l' : List (Addr × Obj)} (N : News h₀ L h l) (hs : ∀ p ∈ l', p ∈ l) : News h₀ L h l' := fun p hp => N p (hs p hp)

section
variable {prog : Program} {w : World} {A : Around} {E : Value → Shared → Prop} {s : Shared} {env : Env} {h₀ : Heap} {x : Str} {body : List Stmt} {Q : Flow → Shared → Prop}

theorem lp_range {σ : Type} {r : Addr} {a₀ b₀ d : Int} {t₀ u₀ v₀ : Tok} {n : Nat} {m₀ : Str → Option Value} (Led : σ → List (Addr × Obj)) (ps : σ → List (Str × Value)) (stored : List Str) (P : Nat → σ → Prop) (val : Nat → Int) (c₀ : σ)
    (hh : A.handled = none) (hr : IsRange s.heap r a₀ b₀ d t₀ u₀ v₀) (hsmall : Builtin.Range.small a₀ b₀ d = true) (hn : Builtin.Range.rangeSize a₀ b₀ d = (n : Int)) (hval : ∀ i : Nat, i < n → a₀ + i * d = val i) (F : Fr h₀ env.locals s.heap m₀) (N : News h₀ env.locals s.heap (Led c₀)) (hk : ∀ p ∈ ps c₀, m₀ p.1 = some p.2) (hp : P 0 c₀)
    (turn : ∀ (i : Nat) (c : σ) t (u : Str → Option Value) h tk I oI, i < n → P i c → (∀ p ∈ Led c, p.1 ≠ I) →
      Fr h₀ env.locals h (fun y => if y = x then some (.int (val i) t) else kstB (fun z => if stored.contains z then u z else m₀ z) (ps c) y) → News h₀ env.locals h ((I, oI) :: Led c) →
      wpAny (model prog w) A (execs body env) (LpPost h₀ env.locals I oI (KS Led ps x stored m₀ P (i + 1)) s Q) E { s with heap := h, toks := tk })
    (done : ∀ (c : σ) (u : Str → Option Value) h tk, P n c → Fr h₀ env.locals h (fun y => if y = x then u y else kstB (fun z => if stored.contains z then u z else m₀ z) (ps c) y) → News h₀ env.locals h (Led c) → Q .next { s with heap := h, toks := tk }) :
    wpAny (model prog w) A (pyIter (.ref r)) (fun it s₂ => LoopAtV prog w A h₀ env x body Q E it s₂) E s := by
  refine wpAny_pyIter_range hr hsmall ?_
  have W : Walks prog w A s.heap.objs.size [s.heap.objs.size] [s.heap.objs.size] n (fun i v => ∃ t, v = .int (a₀ + i * d) t)
      (fun i h => IsRangeIter h s.heap.objs.size (a₀ + (i : Nat) * d) ((n : Int) - (i : Nat)) d) := Walks.range hh _ a₀ d n
  refine ⟨_, _, _, n, _, _, m₀, Led c₀, KS Led ps x stored m₀ P, rfl, W, ?_, ?_, ?_, (by show IsRangeIter _ _ _ _ _; rw [hn]; simpa using Heap.get?_push_size _ rfl), F.push _, (fun p hp => ⟨Heap.get?_push_of_some _ (N p hp).1, (N p hp).2⟩), ⟨c₀, rfl, hk, fun _ _ _ _ => rfl, hp⟩, ?_, ?_⟩
  · intro hm
    exact absurd F.ns.lt ((List.mem_singleton.mp hm) ▸ Nat.lt_irrefl _)
  · intro b hb
    rw [List.mem_singleton.mp hb]
    exact next_is_new F
  · intro p hp hI
    exact absurd (Heap.lt_size (N p hp).1) ((List.mem_singleton.mp hI) ▸ Nat.lt_irrefl _)
  · rintro i v m₁ nx s₁ own ⟨h, tk, rfl⟩ hi ⟨t, rfl⟩ ⟨c, rfl, h1, h2, hp'⟩ hoff hfp _ hown hst F₁ N₁
    have hI0 : h₀.get? s.heap.objs.size = none := next_is_new F
    rw [hval i hi] at F₁
    obtain ⟨oI, hst⟩ : ∃ oI, h.get? s.heap.objs.size = some oI := ⟨_, hst⟩
    have hoI := hown _ (.head _) hI0 _ hst
    refine wpAny_mono (turn i c t m₁ h tk s.heap.objs.size oI hi hp' (fun p hp e => hoff p hp (by rw [e]; exact .head _)) (kst_fr h1 h2 F₁) (fun p hp => ?_)) (fun f s₂ q => ?_) fun _ _ e => e
    · rcases List.mem_cons.mp hp with rfl | hp
      · exact N₁ _ (List.mem_append_left _ hoI)
      · exact N₁ _ (List.mem_append_right _ hp)
    · have fin : LpEnd h₀ env.locals s.heap.objs.size oI (KS Led ps x stored m₀ P (i + 1)) s s₂ → LoopStepU h₀ env.locals [s.heap.objs.size] own (KS Led ps x stored m₀ P (i + 1)) { s with heap := h, toks := tk } .next s₂ := by
        rintro ⟨h', tk', m', nx', rfl, F', N', hne', hJ'⟩
        refine ⟨rfl, h', tk', m', nx', rfl, F', fun p hp => ?_, fun p hp hq => hne' p hp (List.mem_singleton.mp hq), hJ'⟩
        rcases List.mem_append.mp hp with hp | hp
        · have e1 := List.mem_singleton.mp (hfp p hp)
          have e2 : p.2 = oI := Option.some.inj ((N₁ p (List.mem_append_left _ hp)).1.symm.trans (by rw [e1]; exact hst))
          have e3 : p = (s.heap.objs.size, oI) := Prod.ext e1 e2
          rw [e3]
          exact N' _ (.head _)
        · exact N' _ (.tail _ hp)
      cases f with
      | ret v => exact .ret q
      | brk => exact .brk q
      | next => exact .next (fin q)
      | cont => exact .cont (fin q)
  · rintro h' tk m' nx F' N' _ ⟨c, rfl, h1, h2, hp'⟩
    exact done c m' h' tk hp' (kst_frOut h1 h2 F') N'

theorem lp_list {σ : Type} {l : Addr} {vs : List Value} {nn : Nat} {m₀ : Str → Option Value} (Led : σ → List (Addr × Obj)) (ps : σ → List (Str × Value)) (stored : List Str) (P : Nat → σ → Prop) (c₀ : σ)
    (hh : A.handled = none) (hl : ∀ i c, P i c → (l, listOf vs.toArray nn) ∈ Led c) (F : Fr h₀ env.locals s.heap m₀) (N : News h₀ env.locals s.heap (Led c₀)) (hk : ∀ p ∈ ps c₀, m₀ p.1 = some p.2) (hp : P 0 c₀)
    (turn : ∀ (i : Nat) (c : σ) v (u : Str → Option Value) h tk I oI, i < vs.length → vs[i]? = some v → P i c → (∀ p ∈ Led c, p.1 ≠ I) →
      Fr h₀ env.locals h (fun y => if y = x then some v else kstB (fun z => if stored.contains z then u z else m₀ z) (ps c) y) → News h₀ env.locals h ((I, oI) :: Led c) →
      wpAny (model prog w) A (execs body env) (LpPost h₀ env.locals I oI (KS Led ps x stored m₀ P (i + 1)) s Q) E { s with heap := h, toks := tk })
    (done : ∀ (c : σ) (u : Str → Option Value) h tk, P vs.length c → Fr h₀ env.locals h (fun y => if y = x then u y else kstB (fun z => if stored.contains z then u z else m₀ z) (ps c) y) → News h₀ env.locals h (Led c) → Q .next { s with heap := h, toks := tk }) :
    wpAny (model prog w) A (pyIter (.ref l)) (fun it s₂ => LoopAtV prog w A h₀ env x body Q E it s₂) E s := by
  have hl0 := N _ (hl 0 c₀ hp)
  have hls : s.heap.IsList l vs.toArray := PySem.IsL.isList (n := nn) hl0.1
  have hne : l ≠ s.heap.objs.size := Nat.ne_of_lt (Heap.lt_size hl0.1)
  refine wpAny_pyIter_list hls ?_
  have W := Walks.list (prog := prog) (w := w) hh s.heap.objs.size l hne vs.toArray
  rw [List.size_toArray] at W
  refine ⟨_, _, _, vs.length, _, _, m₀, Led c₀, KS Led ps x stored m₀ P, rfl, W, ?_, ?_, ?_, ⟨⟨_, Heap.get?_push_size _ rfl, rfl, rfl⟩, hls.at fun o e => Heap.get?_push_of_some _ e⟩, F.push _, (fun p hp => ⟨Heap.get?_push_of_some _ (N p hp).1, (N p hp).2⟩), ⟨c₀, rfl, hk, fun _ _ _ _ => rfl, hp⟩, ?_, ?_⟩
  · intro hm
    rcases List.mem_cons.mp hm with e | hm
    · exact absurd F.ns.lt (e ▸ Nat.lt_irrefl _)
    · exact hl0.2.1 (List.mem_singleton.mp hm).symm
  · intro b hb
    rw [List.mem_singleton.mp hb]
    exact next_is_new F
  · intro p hp hI
    exact absurd (Heap.lt_size (N p hp).1) ((List.mem_singleton.mp hI) ▸ Nat.lt_irrefl _)
  · rintro i v m₁ nx s₁ own ⟨h, tk, rfl⟩ hi hv ⟨c, rfl, h1, h2, hp'⟩ hoff hfp _ hown ⟨⟨oI, hst, hoI2⟩, hst2⟩ F₁ N₁
    have hI0 : h₀.get? s.heap.objs.size = none := next_is_new F
    have hoI := hown _ (.head _) hI0 _ hst
    have hlc := N₁ _ (List.mem_append_right _ (hl i c hp'))
    refine wpAny_mono (turn i c v m₁ h tk s.heap.objs.size oI hi (by simpa using hv) hp' (fun p hp e => hoff p hp (by rw [e]; exact .head _)) (kst_fr h1 h2 F₁) (fun p hp => ?_)) (fun f s₂ q => ?_) fun _ _ e => e
    · rcases List.mem_cons.mp hp with rfl | hp
      · exact N₁ _ (List.mem_append_left _ hoI)
      · exact N₁ _ (List.mem_append_right _ hp)
    · have fin : LpEnd h₀ env.locals s.heap.objs.size oI (KS Led ps x stored m₀ P (i + 1)) s s₂ → LoopStepU h₀ env.locals [s.heap.objs.size] own (KS Led ps x stored m₀ P (i + 1)) { s with heap := h, toks := tk } .next s₂ := by
        rintro ⟨h', tk', m', nx', rfl, F', N', hne', hJ'⟩
        refine ⟨rfl, h', tk', m', nx', rfl, F', fun p hp => ?_, fun p hp hq => hne' p hp (List.mem_singleton.mp hq), hJ'⟩
        rcases List.mem_append.mp hp with hp | hp
        · rcases List.mem_cons.mp (hfp p hp) with e1 | e1
          · have e2 : p.2 = oI := Option.some.inj ((N₁ p (List.mem_append_left _ hp)).1.symm.trans (by rw [e1]; exact hst))
            have e3 : p = (s.heap.objs.size, oI) := Prod.ext e1 e2
            rw [e3]
            exact N' _ (.head _)
          · have e1 := List.mem_singleton.mp e1
            have e2 : p.2 = listOf vs.toArray nn := Option.some.inj ((N₁ p (List.mem_append_left _ hp)).1.symm.trans (by rw [e1]; exact hlc.1))
            have e3 : p = (l, listOf vs.toArray nn) := Prod.ext e1 e2
            rw [e3]
            obtain ⟨c', rfl, _, _, hp9⟩ := hJ'
            exact N' _ (.tail _ (hl _ _ hp9))
        · exact N' _ (.tail _ hp)
      cases f with
      | ret v => exact .ret q
      | brk => exact .brk q
      | next => exact .next (fin q)
      | cont => exact .cont (fin q)
  · rintro h' tk m' nx F' N' _ ⟨c, rfl, h1, h2, hp'⟩
    exact done c m' h' tk hp' (kst_frOut h1 h2 F') N'
end
end Mine
namespace Mine
def wayL (best : List Int) (p : Int) (k : Nat) : List Int :=
  (best.drop k).take 1 ++ (if 0 < k then [best.getD (k - 1) 0 - p] else []) ++ (if k + 1 < best.length then [best.getD (k + 1) 0 + p] else [])
def mx : List Int → Int
  | [] => 0
  | a :: r => r.foldl max a
def dpStep (p : Int) (m : Nat) (best : List Int) : List Int := (List.range m).map fun k => mx (wayL best p k)
def bestL (ns : List Int) : Nat → List Int
  | 0 => [0]
  | i + 1 => dpStep (ns.getD i 0) (min (i + 1) (ns.length - i - 1) + 1) (bestL ns i)
def mostP (ns : List Int) : Int := (bestL ns ns.length).getD 0 0
theorem bestL_length (ns : List Int) : ∀ i, i ≤ ns.length → (bestL ns i).length = min i (ns.length - i) + 1
  | 0, _ => by simp [bestL]
  | i + 1, h => by simp only [bestL, dpStep, List.length_map, List.length_range]; omega
theorem mx_spec : ∀ {l : List Int}, l ≠ [] → mx l ∈ l ∧ ∀ a ∈ l, a ≤ mx l := by
  have g : ∀ (r : List Int) (a : Int), (r.foldl max a = a ∨ r.foldl max a ∈ r) ∧ a ≤ r.foldl max a ∧ ∀ b ∈ r, b ≤ r.foldl max a := by
    intro r
    induction r with
    | nil => intro a; simp
    | cons b r ih =>
      intro a
      obtain ⟨h1, h2, h3⟩ := ih (max a b)
      rw [List.foldl_cons]
      refine ⟨?_, by omega, ?_⟩
      · rcases h1 with h1 | h1
        · rw [h1]
          rcases Int.le_total a b with h | h
          · right; rw [Int.max_eq_right h]; exact .head _
          · left; exact Int.max_eq_left h
        · exact .inr (.tail _ h1)
      · intro c hc
        rcases List.mem_cons.mp hc with rfl | hc
        · omega
        · exact h3 c hc
  intro l hl
  cases l with
  | nil => exact absurd rfl hl
  | cons a r =>
    obtain ⟨h1, h2, h3⟩ := g r a
    refine ⟨?_, ?_⟩
    · rcases h1 with h1 | h1
      · show r.foldl max a ∈ a :: r
        rw [h1]; exact .head _
      · exact .tail _ h1
    · intro b hb
      rcases List.mem_cons.mp hb with rfl | hb
      · exact h2
      · exact h3 b hb
theorem mx_uniq {l : List Int} {M : Int} (h1 : M ∈ l) (h2 : ∀ a ∈ l, a ≤ M) : M = mx l := by
  have hl : l ≠ [] := by intro e; rw [e] at h1; nomatch h1
  obtain ⟨h3, h4⟩ := mx_spec hl
  have := h4 M h1
  have := h2 _ h3
  omega
theorem way_take (best : List Int) (k : Nat) : List.take (min ((k : Int) + 1).toNat best.length - ((k : Int)).toNat) (List.drop ((k : Int)).toNat best) = (best.drop k).take 1 := by
  have e1 : ((k : Int)).toNat = k := by omega
  have e2 : ((k : Int) + 1).toNat = k + 1 := by omega
  rw [e1, e2]
  by_cases h : k < best.length
  · rw [Nat.min_eq_left (by omega)]; congr 1; omega
  · rw [List.drop_eq_nil_of_le (by omega)]; simp
end Mine
namespace Mine
local macro_rules | `(tactic| walk_at "call ref") => `(tactic| refine Stop.out ?_)
local macro_rules | `(tactic| walk_at "pyIter ref") => `(tactic| refine Stop.out ?_)

theorem most_call (w : World) (mean : ExcName → Option Value) (mg mb : Str → Option Value)
    (dp un : Nat) (gd : Option (List Code)) (cn : Str) (cs : Scope) (a : Addr) (ccd : Value) (cl : List (Str × Addr)) (outer : List Env) (A₀ : Around) (base h₀ : Heap) (L : Addr) (m : Str → Option Value) (rest : List (Addr × Obj)) (s : Shared)
    (la : Addr) (vs : List Value) (ns : List Int) (n : Nat)
    (Q E : Value → Shared → Prop) (B : Below A₀ base outer h₀) (F : Fr h₀ L s.heap m) (X : (Mine.hd02.heap_39 w.params).In h₀) (N : News h₀ L s.heap ((la, listOf vs.toArray n) :: rest))
    (T : Top Mine.hd02.view_39 (looseW Mine.hd02.view_39 []) mean mg mb h₀) (hk : cs.kind = .function) (hd : dp + 10 < recursionLimit) (hu : un + 110 < cLine)
    (hne : ∀ p ∈ rest, p.1 ≠ la) (hlen : vs.length < 200) (hi : IntsAre vs ns)
    (hret : ∀ h' tk' t, Fr h₀ L h' m → News h₀ L h' ((la, listOf vs.toArray n) :: rest) → Q (.int (mostP ns) t) { s with heap := h', toks := tk' }) :
    wpAny (model PySem.Challenge.rw_dp0035_02.row.prog w) (ktrTop dp un gd cn cs L a ccd cl outer) (call (.ref 42) [.ref la]) Q E s := by
  have hfill : PySem.Challenge.rw_dp0035_02 = PySem.Challenge.rw_dp0035_02 ∧ Mine.hd02.heap_39 = Mine.hd02.heap_39 := by
    k_fill
    exact ⟨rfl, rfl⟩
  clear hfill
  k_with_none
  refine wpAny_call ?_
  k_dflt ktr_enter
  k_steps
  rename News _ _ _ _ => N1
  refine len_at N1 (.tail _ (.head _)) (by omega) ?_
  intro t2 tk2
  k_steps
  refine Stop.go ?_
  rename vs.length = ns.length => hvl
  rename IsRange _ _ _ _ _ _ _ _ => hR
  rename Fr _ _ _ _ => F2
  rename News _ _ _ _ => N2
  rename _ ∧ AllLt _ _ => hbl
  obtain ⟨hbl1, hbl2⟩ := hbl
  have hbl3 := allLt_to hbl2
  refine lp_range (σ := Addr × List Value × Nat) (n := ns.length) (fun c => (c.1, listOf c.2.1.toArray c.2.2) :: (la, listOf vs.toArray n) :: rest) (fun c => [(Str.ofString "best", .ref c.1)]) [Str.ofString "after", Str.ofString "held", Str.ofString "ways"]
    (fun i c => IntsAre c.2.1 (bestL ns i) ∧ c.1 ≠ la ∧ ∀ p ∈ rest, p.1 ≠ c.1) (fun i => (i : Int)) (_, _, _) rfl hR ?k1 ?k2 (by intro i _; omega) F2 N2 ?k3 ?k4 ?_ ?_
  case k1 => exact small_one (by omega) (by omega) (by omega) (by omega)
  case k2 => rw [rangeSize_nat]; omega
  case k3 => intro p hp; rcases List.mem_cons.mp hp with rfl | hp; exact rfl; exact nomatch hp
  case k4 => exact ⟨.cons _ _ .nil, Nat.ne_of_gt hbl1, fun p hp => Nat.ne_of_lt (hbl3 p hp)⟩
  · rintro i ⟨ba, bv, be⟩ ti u h3 tk3 I oI hi3 ⟨hb1, hb2, hb3⟩ hIn F3 N3
    dsimp only at *
    k_steps
    refine Stop.go ?_
    rename IntsAre bv _ => hb1
    rename IsRange _ _ 0 _ _ _ _ _ => hR4
    rename Fr _ _ _ _ => F4
    rename News _ _ _ _ => N4
    refine name_head N4 ?_
    intro aa haa
    subst haa
    rename _ ∧ _ ∧ _ ∧ AllLt _ _ => hal
    obtain ⟨hal1, hal2, hal3, hal4⟩ := hal
    have hal5 := allLt_to hal4
    have hbl := bestL_length ns i (by omega)
    have hbl' := hb1.length
    refine lp_range (σ := List Value × Nat) (n := min (i + 1) (ns.length - i - 1) + 1) (fun c => (_, listOf c.1.toArray c.2) :: (I, oI) :: (ba, listOf bv.toArray be) :: (la, listOf vs.toArray n) :: rest) (fun c => []) [Str.ofString "ways"]
      (fun k c => IntsAre c.1 ((List.range k).map fun k => mx (wayL (bestL ns i) (ns.getD i 0) k))) (fun i => (i : Int)) (_, _) rfl hR4 ?k1 ?k2 (by intro i _; omega) F4 N4 ?k3 ?k4 ?_ ?_
    case k1 => exact small_one (by omega) (by omega) (by split <;> omega) (by split <;> omega)
    case k2 => rw [rangeSize_nat]; split <;> omega
    case k3 => intro p hp; nomatch hp
    case k4 => exact .nil
    · rintro k ⟨av, ae⟩ tk' u' h5 tk5 I5 oI5 hi5 hav hIn5 F5 N5
      dsimp only at *
      have havl := hav.length
      simp only [List.length_map, List.length_range] at havl
      k_steps
      all_goals (
        rename IntsAre av _ => hav
        rename News _ _ _ _ => N6
        rename Fr _ _ _ _ => F6
        rename _ ∈ _ => hM1
        rename (∀ a, a ∈ _ → a ≤ _) => hM2
        have hM := mx_uniq hM1 hM2
        refine app_at (vs := av) (n := ae) (rest := (I5, oI5) :: (I, oI) :: (ba, listOf bv.toArray be) :: (la, listOf vs.toArray n) :: rest) F6 (news_sub N6 ?kn) ?kd (by omega) ?_
        case kn =>
          intro p hp
          simp only [List.mem_cons] at hp ⊢
          rcases hp with h | h | h | h | h | h <;> (repeat (first | exact h | exact Or.inl h | apply Or.inr))
        case kd =>
          intro p hp
          simp only [List.mem_cons] at hp
          rcases hp with h | h | h | h | h
          · rw [h]; exact (hIn5 _ (.head _)).symm
          · rw [h]; exact Nat.ne_of_lt hal1
          · rw [h]; exact Nat.ne_of_lt hal2
          · rw [h]; exact Nat.ne_of_lt hal3
          · exact Nat.ne_of_lt (hal5 p h)
        intro h7 F7 N7
        k_steps
        refine lp_next ?_
        refine name_items N7 ?_
        intro wv hwv
        rw [← hwv] at N7
        have hk1 : ((k : Int) - 1).toNat = k - 1 := by omega
        have hk2 : ((k : Int) + 1).toNat = k + 1 := by omega
        have hk3 : ((i : Int)).toNat = i := by omega
        rw [way_take] at hM
        refine lp_end (wv, ae + 1) F7 N7 (.tail _ (.head _)) ?e1 ?e2 ?e3 ?e4 ?e5
        case e1 =>
          intro p hp
          simp only [List.mem_cons] at hp ⊢
          rcases hp with h | h | h | h | h <;> (repeat (first | exact h | exact Or.inl h | apply Or.inr))
        case e2 =>
          intro p hp
          simp only [List.mem_cons] at hp
          rcases hp with h | h | h | h | h
          · rw [h]; exact hIn5 (_, listOf av.toArray ae) (.head _)
          · rw [h]; exact hIn5 _ (.tail _ (.head _))
          · rw [h]; exact hIn5 _ (.tail _ (.tail _ (.head _)))
          · rw [h]; exact hIn5 _ (.tail _ (.tail _ (.tail _ (.head _))))
          · exact hIn5 _ (.tail _ (.tail _ (.tail _ (.tail _ h))))
        case e3 => intro p hp; nomatch hp
        case e4 =>
          intro z hz h2 h3
          have h3' := h3
          simp only [List.contains_cons, List.contains_nil, Bool.or_false, beq_eq_false_iff_ne, ne_eq] at h3'
          simp only [kstB, h3, h3', hz, if_false, Bool.false_eq_true]
        case e5 =>
          rw [List.range_succ, List.map_append]
          show IntsAre wv _
          rw [hwv, List.map_cons, List.map_nil]
          refine ints_app hav (ints_one ?_)
          refine hM.trans ?_
          unfold wayL
          (first | rw [if_pos (show 0 < k by omega)] | rw [if_neg (show ¬ 0 < k by omega)])
          (first | rw [if_pos (show k + 1 < (bestL ns i).length by omega)] | rw [if_neg (show ¬ k + 1 < (bestL ns i).length by omega)])
          simp only [hk1, hk2, hk3, List.append_nil])
    · rintro ⟨av, ae⟩ u' h5 tk5 hav F5 N5
      dsimp only at *
      k_steps
      rename News _ _ _ _ => N6
      rename Fr _ _ _ _ => F6
      refine lp_next ?_
      refine lp_end (aa, av, ae) F6 N6 (.tail _ (.head _)) ?e1 ?e2 ?e3 ?e4 ⟨?e5, Nat.ne_of_gt hal3, fun p hp => Nat.ne_of_lt (hal5 p hp)⟩
      case e1 =>
        intro p hp
        simp only [List.mem_cons] at hp ⊢
        rcases hp with h | h | h <;> (repeat (first | exact h | exact Or.inl h | apply Or.inr))
      case e2 =>
        intro p hp
        simp only [List.mem_cons] at hp
        rcases hp with h | h | h
        · rw [h]; exact Nat.ne_of_gt hal1
        · rw [h]; exact hIn _ (.tail _ (.head _))
        · exact hIn _ (.tail _ (.tail _ h))
      case e3 => intro p hp; rcases List.mem_cons.mp hp with rfl | hp; exact rfl; exact nomatch hp
      case e4 =>
        intro z hz h2 h3
        have z1 : ¬ z = Str.ofString "best" := h2 _ (.head _)
        have h3' := h3
        simp only [List.contains_cons, List.contains_nil, Bool.or_false, Bool.or_eq_false_iff, beq_eq_false_iff_ne, ne_eq] at h3'
        simp only [kstB, h3, h3', hz, z1, if_false, Bool.false_eq_true, List.contains_cons, List.contains_nil, Bool.or_false, beq_iff_eq]
      case e5 => exact hav
  · rintro ⟨ba, bv, be⟩ u h3 tk3 ⟨hb1, hb2, hb3⟩ F3 N3
    dsimp only at *
    have hbl := bestL_length ns ns.length (Nat.le_refl _)
    k_steps
    rename Fr h₀ _ _ _ => F7
    rename News h₀ _ _ _ => N7
    exact hret _ _ _ F7 (news_sub N7 fun p hp => .tail _ hp)
end Mine
namespace Mine
def defBody (p : Program) (i : Nat) : List Stmt := match p.main.body.drop i with | .FunctionDef _ _ b _ _ _ _ _ _ _ :: _ => b | _ => []
def defScope (p : Program) (i : Nat) : Scope := match p.main.body.drop i with | .FunctionDef _ _ _ _ _ _ sc _ _ _ :: _ => sc | _ => default
def farAt (ps tops : List Int) (n : Nat) : Nat → Int × Int
  | 0 => (0, tops.getD (n - 1) 0)
  | i + 1 => ((farAt ps tops n i).1 + ((ps.getD (n - 1 - i) 0 - max (farAt ps tops n i).2 (tops.getD (n - 1 - i) 0)).natAbs : Int), max (farAt ps tops n i).2 (tops.getD (n - 1 - i) 0))
end Mine
namespace Mine
local macro_rules | `(tactic| walk_at "call ref") => `(tactic| refine Stop.out ?_)
local macro_rules | `(tactic| walk_at "pyIter ref") => `(tactic| refine Stop.out ?_)

theorem part_c (w : World) (mean : ExcName → Option Value) (mg mb : Str → Option Value) (h₀ : Heap) (L fa : Addr) (cd : Value) (base : Heap) (rest : List (Addr × Obj)) (s : Shared) (u : Str → Option Value)
    (pa ta : Addr) (pvs tvs : List Value) (ps tops : List Int) (pn tn : Nat) (g : Int) (tg : Tok) (Q : Flow → Shared → Prop)
    (B : Below callerA base [] h₀) (X : (Mine.hd02.heap_39 w.params).In h₀) (T : Top Mine.hd02.view_39 (looseW Mine.hd02.view_39 []) mean mg mb h₀)
    (F : Fr h₀ L s.heap (fun y => if y = Str.ofString "gain" then some (.int g tg) else if y = Str.ofString "tops" then some (.ref ta) else if y = Str.ofString "prices" then some (.ref pa) else u y))
    (N : News h₀ L s.heap ((pa, listOf pvs.toArray pn) :: (ta, listOf tvs.toArray tn) :: rest)) (hne : ∀ p ∈ rest, p.1 ≠ pa) (hpt : ta ≠ pa)
    (hip : IntsAre pvs ps) (hit : IntsAre tvs tops) (hl1 : 0 < ps.length) (hl2 : ps.length ≤ 100) (hl3 : tops.length = ps.length)
    (hg1 : g = (farAt ps tops ps.length ps.length).1) (hg2 : g = mostP ps)
    (hret : ∀ h' tk' m', Fr h₀ L h' m' → Q (.ret (.bool true)) { s with heap := h', toks := tk' }) :
    wpAny (model PySem.Challenge.rw_dp0035_02.row.prog w) (callerA.deeper (envOfC (Str.ofString "law") (defScope PySem.Challenge.pw_dp0035_02 6) L fa cd))
      (execs ((defBody PySem.Challenge.pw_dp0035_02 6).drop 3) (envOfC (Str.ofString "law") (defScope PySem.Challenge.pw_dp0035_02 6) L fa cd)) Q (fun _ _ => False) s := by
  have hfill : PySem.Challenge.rw_dp0035_02 = PySem.Challenge.rw_dp0035_02 ∧ Mine.hd02.heap_39 = Mine.hd02.heap_39 := by
    k_fill
    exact ⟨rfl, rfl⟩
  clear hfill
  k_with_none
  conv in (List.drop 3 _) => whnf
  conv in (occs := *) (defScope _ _) => all_goals whnf
  k_steps
  refine Stop.go ?_
  rename IsRange _ _ _ _ _ _ _ _ => hR
  rename Fr _ _ _ _ => F2
  rename News _ _ _ _ => N2
  obtain ⟨u0, e0⟩ := fr_look F2 (Str.ofString "far") 0 ⟨_, rfl⟩
  obtain ⟨u1, e1⟩ := fr_look F2 (Str.ofString "last") (tops.getD (ps.length - 1) 0) ⟨_, look_int rfl (by congr 1; omega) rfl⟩
  refine lp_range (σ := Int × Tok × Int × Tok) (n := ps.length) (fun c => (pa, listOf pvs.toArray pn) :: (ta, listOf tvs.toArray tn) :: rest) (fun c => [(Str.ofString "far", .int c.1 c.2.1), (Str.ofString "last", .int c.2.2.1 c.2.2.2)]) []
    (fun i c => (c.1, c.2.2.1) = farAt ps tops ps.length i) (fun i => ((ps.length - 1 - i : Nat) : Int)) (0, u0, tops.getD (ps.length - 1) 0, u1) rfl hR ?k1 ?k2 (by intro i _; omega) F2 (news_sub N2 ?k0) ?k3 rfl ?_ ?_
  case k0 => exact fun p hp => .tail _ hp
  case k1 => exact small_down (by omega) (by omega) (by omega) (by omega)
  case k2 => rw [rangeSize_downNat]; omega
  case k3 => intro q hq; rcases List.mem_cons.mp hq with rfl | hq; exact e0; rcases List.mem_cons.mp hq with rfl | hq; exact e1; exact nomatch hq
  · rintro i ⟨f, tf, l, tl⟩ tt u3 h3 tk3 I oI hi hP hIn F3 N3
    dsimp only at *
    k_steps
    rename Fr _ _ _ _ => F4
    rename News _ _ _ _ => N4
    have hP1 : f = (farAt ps tops ps.length i).1 := congrArg Prod.fst hP
    have hP2 : l = (farAt ps tops ps.length i).2 := congrArg Prod.snd hP
    refine lp_next ?_
    obtain ⟨v0, q0⟩ := fr_look F4 (Str.ofString "far") (farAt ps tops ps.length (i + 1)).1 ⟨_, look_int rfl (by simp only [farAt, Int.toNat_natCast]; rw [← hP1, ← hP2]; omega) rfl⟩
    obtain ⟨v1, q1⟩ := fr_look F4 (Str.ofString "last") (farAt ps tops ps.length (i + 1)).2 ⟨_, look_int rfl (by simp only [farAt, Int.toNat_natCast]; rw [← hP2]; omega) rfl⟩
    refine lp_end ((farAt ps tops ps.length (i + 1)).1, v0, (farAt ps tops ps.length (i + 1)).2, v1) F4 N4 (.head _) (fun p hp => .tail _ hp) hIn ?e3 ?e4 rfl
    case e3 => intro q hq; rcases List.mem_cons.mp hq with rfl | hq; exact q0; rcases List.mem_cons.mp hq with rfl | hq; exact q1; exact nomatch hq
    case e4 =>
      intro z hz h2 h3
      have z1 : ¬ z = Str.ofString "far" := h2 _ (.head _)
      have z2 : ¬ z = Str.ofString "last" := h2 _ (.tail _ (.head _))
      simp only [kstB, hz, z1, z2, if_false, Bool.false_eq_true, List.contains_nil]
  · rintro ⟨f, tf, l, tl⟩ u3 h3 tk3 hP F3 N3
    dsimp only at *
    have hP1 : f = (farAt ps tops ps.length ps.length).1 := congrArg Prod.fst hP
    k_steps
    · refine Stop.go ?_
      refine most_call w mean mg mb _ _ _ _ _ _ _ _ _ _ _ _ _ _ ((ta, listOf tvs.toArray tn) :: rest) _ pa pvs ps pn _ _ B F3 X N3 T rfl (by decide) (by decide) ?_ (by have := hip.length; omega) hip ?_
      · intro p hp
        rcases List.mem_cons.mp hp with rfl | hp
        · exact hpt
        · exact hne p hp
      · intro h5 tk5 t5 F5 N5
        k_steps
        rw [← hg2]
        simp only [beq_self_eq_true]
        exact hret _ _ _ F5
    · rename g ≠ f => hgf
      exact absurd (hg1.trans hP1.symm) hgf
end Mine
namespace Mine

def ltI (a b : Int) : Bool := decide (a < b)
def intOf : Value → Int
  | .int i _ => i
  | _ => 0
def ltV (a b : Value) : Bool := ltI (intOf a) (intOf b)

section
variable {α β : Type} [Inhabited α] [Inhabited β] (f : α → β) (hd : f default = default)
include hd
theorem getD_map (l : List α) (i : Nat) : f (l.getD i default) = (l.map f).getD i default := by
  rw [List.getD_eq_getElem?_getD, List.getD_eq_getElem?_getD, List.getElem?_map]
  cases l[i]? with
  | none => exact hd
  | some a => rfl
theorem sdLoop_map (lt : β → β → Bool) (new : α) (sp : Nat) (l : List α) (pos : Nat) : (sdLoop (fun a b => lt (f a) (f b)) new sp l pos).map f = sdLoop lt (f new) sp (l.map f) pos := by
  fun_induction sdLoop (fun a b => lt (f a) (f b)) new sp l pos with
  | case1 l pos h1 h2 ih =>
    rw [ih, sdLoop.eq_def lt (f new) sp (l.map f) pos, dif_pos h1, ← getD_map f hd, if_pos h2, List.map_set]
  | case2 l pos h1 h2 =>
    rw [sdLoop.eq_def lt (f new) sp (l.map f) pos, dif_pos h1, ← getD_map f hd, if_neg h2, List.map_set]
  | case3 l pos h1 =>
    rw [sdLoop.eq_def lt (f new) sp (l.map f) pos, dif_neg h1, List.map_set]
theorem sd_map (lt : β → β → Bool) (l : List α) (sp pos : Nat) : (sd (fun a b => lt (f a) (f b)) l sp pos).map f = sd lt (l.map f) sp pos := by
  unfold sd; rw [sdLoop_map f hd, getD_map f hd]
theorem kid_map (lt : β → β → Bool) (l : List α) (pos : Nat) : kid (fun a b => lt (f a) (f b)) l pos = kid lt (l.map f) pos := by
  unfold kid; simp only [← getD_map f hd, List.length_map]
theorem suLoop_map (lt : β → β → Bool) (l : List α) (pos : Nat) : ((suLoop (fun a b => lt (f a) (f b)) l pos).1.map f, (suLoop (fun a b => lt (f a) (f b)) l pos).2) = suLoop lt (l.map f) pos := by
  fun_induction suLoop (fun a b => lt (f a) (f b)) l pos with
  | case1 l pos h ih =>
    rw [ih, suLoop.eq_def lt (l.map f) pos, dif_pos (by rw [List.length_map]; exact h), List.map_set, ← kid_map f hd, getD_map f hd]
  | case2 l pos h =>
    rw [suLoop.eq_def lt (l.map f) pos, dif_neg (by rw [List.length_map]; exact h)]
theorem su_map (lt : β → β → Bool) (l : List α) (pos : Nat) : (su (fun a b => lt (f a) (f b)) l pos).map f = su lt (l.map f) pos := by
  unfold su
  rw [← suLoop_map f hd]
  dsimp only
  rw [sd_map f hd, List.map_set, getD_map f hd]
theorem hpush_map (lt : β → β → Bool) (l : List α) (x : α) : (hpush (fun a b => lt (f a) (f b)) l x).map f = hpush lt (l.map f) (f x) := by
  unfold hpush; rw [sd_map f hd, List.map_append, List.length_map]; rfl
end

section
variable {α : Type} [Inhabited α] (lt : α → α → Bool)
theorem sdLoop_mem {new : α} {sp : Nat} {l : List α} {pos : Nat} (hp : pos < l.length) : ∀ x ∈ sdLoop lt new sp l pos, x ∈ new :: l := by
  fun_induction sdLoop lt new sp l pos with
  | case1 l pos h1 h2 ih =>
    intro x hx
    have := ih (by rw [List.length_set]; omega) x hx
    rcases List.mem_cons.mp this with h | h
    · rw [h]; exact .head _
    · rcases List.mem_or_eq_of_mem_set h with h | h
      · exact .tail _ h
      · refine .tail _ ?_
        rw [h]
        rw [List.getD_eq_getElem?_getD, List.getElem?_eq_getElem (by omega)]
        exact List.getElem_mem _
  | case2 l pos h1 h2 =>
    intro x hx
    rcases List.mem_or_eq_of_mem_set hx with h | h
    · exact .tail _ h
    · rw [h]; exact .head _
  | case3 l pos h1 =>
    intro x hx
    rcases List.mem_or_eq_of_mem_set hx with h | h
    · exact .tail _ h
    · rw [h]; exact .head _
theorem getDm {l : List α} {i : Nat} (h : i < l.length) : l.getD i default ∈ l := by
  rw [List.getD_eq_getElem?_getD, List.getElem?_eq_getElem h]
  exact List.getElem_mem _
theorem sd_mem {l : List α} {sp pos : Nat} (hp : pos < l.length) : ∀ x ∈ sd lt l sp pos, x ∈ l := by
  intro x hx
  rcases List.mem_cons.mp (sdLoop_mem lt hp x hx) with h | h
  · rw [h]; exact getDm hp
  · exact h
theorem suLoop_mem {l : List α} {pos : Nat} (hp : pos < l.length) : ∀ x ∈ (suLoop lt l pos).1, x ∈ l := by
  fun_induction suLoop lt l pos with
  | case1 l pos h ih =>
    intro x hx
    have hk : kid lt l pos < l.length := by rcases kid_or lt l pos with h | h <;> omega
    have := ih (by rw [List.length_set]; exact hk) x hx
    rcases List.mem_or_eq_of_mem_set this with h | h
    · exact h
    · rw [h]; exact getDm hk
  | case2 l pos h => intro x hx; exact hx
theorem su_mem {l : List α} {pos : Nat} (hp : pos < l.length) : ∀ x ∈ su lt l pos, x ∈ l := by
  intro x hx
  unfold su at hx
  have h1 := suLoop_lt lt l pos hp
  have h2 := suLoop_length lt l pos
  have := sd_mem lt (by rw [List.length_set, h2]; exact h1) x hx
  rcases List.mem_or_eq_of_mem_set this with h | h
  · exact suLoop_mem lt hp x h
  · rw [h]; exact getDm hp
theorem hpush_mem {l : List α} {y : α} : ∀ x ∈ hpush lt l y, x ∈ l ++ [y] := sd_mem lt (by simp)
end

theorem ints_map : ∀ {vs : List Value} {ns : List Int}, IntsAre vs ns → vs.map intOf = ns
  | _, _, .nil => rfl
  | _, _, .cons a u r => by rw [List.map_cons, ints_map r]; rfl
theorem ints_mem : ∀ {vs : List Value} {ns : List Int}, IntsAre vs ns → ∀ v ∈ vs, ∃ i t, v = .int i t
  | _, _, .cons a u r, v, h => by
    rcases List.mem_cons.mp h with h | h
    · exact ⟨a, u, h⟩
    · exact ints_mem r v h
theorem ints_of : ∀ {vs : List Value}, (∀ v ∈ vs, ∃ i t, v = .int i t) → IntsAre vs (vs.map intOf)
  | [], _ => .nil
  | v :: r, h => by
    obtain ⟨i, t, rfl⟩ := h v (.head _)
    exact .cons i t (ints_of fun x hx => h x (.tail _ hx))
theorem ints_at {vs : List Value} {ns : List Int} (h : IntsAre vs ns) {i : Nat} (hi : i < ns.length) : ∃ t, vs[i]? = some (.int (ns.getD i 0) t) := by
  have e := ints_map h
  have hl := h.length
  have hg : vs[i]? = some (vs.getD i default) := getD_get (by omega)
  obtain ⟨a, t, hv⟩ := ints_mem h _ (getD_mem (by omega : i < vs.length))
  refine ⟨t, ?_⟩
  rw [hg, hv]
  congr 2
  rw [← e]
  have := getD_map intOf rfl vs i
  rw [hv] at this
  exact this
theorem ints_su {vs : List Value} {ns : List Int} (h : IntsAre vs ns) {p : Nat} (hp : p < ns.length) : IntsAre (su ltV vs p) (su ltI ns p) := by
  have := ints_of (vs := su ltV vs p) fun v hv => ints_mem h v (su_mem ltV (by rw [h.length]; exact hp) v hv)
  rwa [show (su ltV vs p).map intOf = su ltI (vs.map intOf) p from su_map intOf rfl ltI vs p, ints_map h] at this
theorem ints_hpush {vs : List Value} {ns : List Int} (h : IntsAre vs ns) (p : Int) (t : Tok) : IntsAre (hpush ltV vs (.int p t)) (hpush ltI ns p) := by
  have := ints_of (vs := hpush ltV vs (.int p t)) fun v hv => ints_mem (h.append (.cons p t .nil)) v (hpush_mem ltV v hv)
  rwa [show (hpush ltV vs (.int p t)).map intOf = hpush ltI (vs.map intOf) p from hpush_map intOf rfl ltI vs _, ints_map h] at this
theorem ltOk_ints {prog : Program} {w : World} {rest : List (Addr × Obj)} {vs : List Value} (h : ∀ v ∈ vs, ∃ i t, v = .int i t) : LtOk prog w rest ltV vs := by
  intro x hx y hy A s Q E _ _ _ hq
  obtain ⟨i, t, rfl⟩ := h x hx
  obtain ⟨j, t', rfl⟩ := h y hy
  exact lt_int (hq s.toks)

/-- a day of the law: the heap, the gain, the tops -/
def dayStep (st : List Int × Int × List Int) (p : Int) : List Int × Int × List Int :=
  if (hpush ltI st.1 p).getD 0 0 < p then
    (su ltI ((hpush ltI st.1 p).set 0 p) 0, st.2.1 + (p - (hpush ltI st.1 p).getD 0 0), st.2.2 ++ [(su ltI ((hpush ltI st.1 p).set 0 p) 0).getD 0 0])
  else (hpush ltI st.1 p, st.2.1, st.2.2 ++ [(hpush ltI st.1 p).getD 0 0])
def run (ps : List Int) : Nat → List Int × Int × List Int
  | 0 => ([], 0, [])
  | i + 1 => dayStep (run ps i) (ps.getD i 0)
def HeapOk (l : List Int) : Prop := ∀ k, 0 < k → k < l.length → l.getD ((k - 1) / 2) 0 ≤ l.getD k 0
theorem heap_no {H : List Int} {k : Nat} (h : HeapOk H) (hk : k + 1 < H.length) : ¬ H.getD (1 + (k : Int)).toNat 0 < H.getD ((1 + (k : Int) - 1).fdiv 2).toNat 0 := by
  have e1 : (1 + (k : Int)).toNat = k + 1 := by omega
  have e2 : ((1 + (k : Int) - 1).fdiv 2).toNat = (k + 1 - 1) / 2 := by
    rw [Int.fdiv_eq_ediv_of_nonneg _ (by decide)]; omega
  rw [e1, e2]
  have := h (k + 1) (by omega) hk
  omega
theorem fr_three {h₀ h : Heap} {L : Addr} {m : Str → Option Value} {x y z : Str} {a b c : Option Value} (F : Fr h₀ L h m) (hx : m x = a) (hy : m y = b) (hz : m z = c) : Fr h₀ L h (fun v => if v = x then a else if v = y then b else if v = z then c else m v) := by
  have e : (fun v => if v = x then a else if v = y then b else if v = z then c else m v) = m := by
    funext v
    split
    · rename_i e; rw [e, hx]
    · split
      · rename_i e; rw [e, hy]
      · split
        · rename_i e; rw [e, hz]
        · rfl
  rw [e]; exact F
theorem run_length (ps : List Int) : ∀ i, (run ps i).1.length = i ∧ (run ps i).2.2.length = i
  | 0 => ⟨rfl, rfl⟩
  | i + 1 => by
    obtain ⟨h1, h2⟩ := run_length ps i
    unfold run dayStep
    split
    · exact ⟨by dsimp only; rw [su_length, List.length_set, hpush_length, h1], by simp [h2]⟩
    · exact ⟨by dsimp only; rw [hpush_length, h1], by simp [h2]⟩
end Mine
namespace Mine
section
variable {prog : Program} {w : World} {A : Around} {h₀ : Heap} {L : Addr} {m : Str → Option Value} {env : Env} {ct elt : Expr} {x : Str} {scope : Scope} {cl : List (Str × Addr)} {s : Shared} {S : List (Addr × Obj) → Prop} {P : Nat → Value → Prop} {Fin : List Value → List (Addr × Obj) → Prop} {news : List (Addr × Obj)}

/-- a comprehension with a test, by a word over its turns; what it finds stands as it stood -/
theorem compT_inv {n : Nat} (J : Nat → List Value → Prop) (h0 : J 0 [])
    (turn : ∀ i v I oI C oC D m₂ ys h tk (E' : Value → Shared → Prop), i < n → P i v → J i ys → LCg.NsObj oC m₂ → m₂ x = some v → Fr h₀ L h m → News h₀ L h ((I, oI) :: (C, oC) :: (D, LCg.lst ys) :: news) → LCg.Off3 I C D news → ((@Ne Nat I C) ∧ (@Ne Nat I D) ∧ (@Ne Nat C D)) →
      wpAny (model prog w) A (isTrue ct (compEnvC scope cl C env) (eval ct (compEnvC scope cl C env))) (fun ok s' => if ok = true then
        wpAny (model prog w) A (eval elt (compEnvC scope cl C env)) (LCg.CompEnd h₀ L m { s with heap := h, toks := tk } I oI C oC D (LCg.lst ys) S (fun y news' => news' = news ∧ J (i + 1) (ys ++ [y]))) E' s'
        else LCg.CompEnd h₀ L m { s with heap := h, toks := tk } I oI C oC D (LCg.lst ys) S (fun _ news' => news' = news ∧ J (i + 1) ys) Value.none s') E' { s with heap := h, toks := tk })
    (fin : ∀ ys, J n ys → Fin ys news) : LCt.CompRestT prog w A h₀ L m env ct elt x scope cl s S P Fin n 0 [] news := by
  have key : ∀ (j i : Nat) (ys : List Value), i + j = n → J i ys → LCt.CompRestT prog w A h₀ L m env ct elt x scope cl s S P Fin j i ys news := by
    intro j
    induction j with
    | zero =>
      intro i ys hi hy
      have e : i = n := by omega
      subst e
      exact LCt.CompRestT.zero (fin ys hy)
    | succ j ih =>
      intro i ys hi hy
      refine LCt.CompRestT.succ ?_
      intro v I oI C oC D m₂ h tk E' hv hC hx F N off ne
      refine wpAny_mono (turn i v I oI C oC D m₂ ys h tk E' (by omega) hv hy hC hx F N off ne) (fun ok s₂ hq => ?_) fun _ _ e => e
      cases ok with
      | true =>
        simp only [if_true] at hq ⊢
        refine wpAny_mono hq (fun y s₃ hq => ?_) fun _ _ e => e
        obtain ⟨h', tk', nw, e, F', N', off', hS, hn, hJ⟩ := hq
        refine ⟨h', tk', nw, e, F', N', off', hS, ?_⟩
        rw [hn]
        exact ih (i + 1) _ (by omega) hJ
      | false =>
        simp only [Bool.false_eq_true, if_false] at hq ⊢
        obtain ⟨h', tk', nw, e, F', N', off', hS, hn, hJ⟩ := hq
        refine ⟨h', tk', nw, e, F', N', off', hS, ?_⟩
        rw [hn]
        exact ih (i + 1) _ (by omega) hJ
  exact key n 0 [] (by omega) h0

/-- a comprehension without a test, by a word over its turns and over what it makes -/
theorem comp_inv {n : Nat} (J : Nat → List Value → List (Addr × Obj) → Prop) (h0 : J 0 [] news)
    (turn : ∀ i v I oI C oC D m₂ ys nw h tk (E' : Value → Shared → Prop), i < n → P i v → J i ys nw → LCg.NsObj oC m₂ → m₂ x = some v → Fr h₀ L h m → News h₀ L h ((I, oI) :: (C, oC) :: (D, LCg.lst ys) :: nw) → LCg.Off3 I C D nw → ((@Ne Nat I C) ∧ (@Ne Nat I D) ∧ (@Ne Nat C D)) →
      wpAny (model prog w) A (eval elt (compEnvC scope cl C env)) (LCg.CompEnd h₀ L m { s with heap := h, toks := tk } I oI C oC D (LCg.lst ys) S (fun y news' => J (i + 1) (ys ++ [y]) news')) E' { s with heap := h, toks := tk })
    (fin : ∀ ys nw, J n ys nw → Fin ys nw) : LCg.CompRest prog w A h₀ L m env elt x scope cl s S P Fin n 0 [] news := by
  have key : ∀ (j i : Nat) (ys : List Value) (nw : List (Addr × Obj)), i + j = n → J i ys nw → LCg.CompRest prog w A h₀ L m env elt x scope cl s S P Fin j i ys nw := by
    intro j
    induction j with
    | zero =>
      intro i ys nw hi hy
      have e : i = n := by omega
      subst e
      exact LCg.CompRest.zero (fin ys nw hy)
    | succ j ih =>
      intro i ys nw hi hy
      refine LCg.CompRest.succ ?_
      intro v I oI C oC D m₂ h tk E' hv hC hx F N off ne
      refine wpAny_mono (turn i v I oI C oC D m₂ ys nw h tk E' (by omega) hv hy hC hx F N off ne) (fun y s₂ hq => ?_) fun _ _ e => e
      obtain ⟨h', tk', nw', e, F', N', off', hS, hJ⟩ := hq
      exact ⟨h', tk', nw', e, F', N', off', hS, ih (i + 1) _ _ (by omega) hJ⟩
  exact key n 0 [] news (by omega) h0
end
end Mine
namespace Mine
local macro_rules | `(tactic| walk_at "call ref") => `(tactic| refine Stop.out ?_)
local macro_rules | `(tactic| walk_at "pyIter ref") => `(tactic| refine Stop.out ?_)
local macro_rules | `(tactic| walk_at "CompSrcT") => `(tactic| refine Stop.out ?_)
local macro_rules | `(tactic| walk_at "CompSrc") => `(tactic| refine Stop.out ?_)

theorem part_b (w : World) (mean : ExcName → Option Value) (mg mb : Str → Option Value) (h₀ : Heap) (L fa : Addr) (cd : Value) (base : Heap) (rest : List (Addr × Obj)) (s : Shared) (u : Str → Option Value)
    (pa ta ha : Addr) (oc ow : Obj) (scr : Value) (pvs : List Value) (ps : List Int) (pn : Nat) (tg : Tok) (Q : Flow → Shared → Prop)
    (B : Below callerA base [] h₀) (X : (Mine.hd02.heap_39 w.params).In h₀) (T : Top Mine.hd02.view_39 (looseW Mine.hd02.view_39 []) mean mg mb h₀)
    (F : Fr h₀ L s.heap (fun y => if y = Str.ofString "gain" then some (.int 0 tg) else if y = Str.ofString "tops" then some (.ref ta) else if y = Str.ofString "prices" then some (.ref pa) else u y))
    (N : News h₀ L s.heap ((ha, listOf #[] 0) :: (ta, listOf #[] 0) :: (pa, listOf pvs.toArray pn) :: (L + 1 + 1, oc) :: (L + 1, ow) :: rest))
    (hoc : oc.data = .cell (some (.ref ha))) (how : ow.data = .cell (some scr))
    (hn1 : ta ≠ ha) (hn2 : pa ≠ ha) (hn3 : L + 1 + 1 ≠ ha) (hn4 : L + 1 ≠ ha) (hn5 : ∀ p ∈ rest, p.1 ≠ ha)
    (hn6 : pa ≠ ta) (hn7 : L + 1 + 1 ≠ ta) (hn8 : L + 1 ≠ ta) (hn9 : ∀ p ∈ rest, p.1 ≠ ta)
    (hn10 : L + 1 + 1 ≠ pa) (hn11 : L + 1 ≠ pa) (hn12 : ∀ p ∈ rest, p.1 ≠ pa)
    (hip : IntsAre pvs ps) (hl1 : 0 < ps.length) (hl2 : ps.length ≤ 100)
    (hheap : ∀ i, i ≤ ps.length → HeapOk (run ps i).1)
    (hg1 : (run ps ps.length).2.1 = (farAt ps (run ps ps.length).2.2 ps.length ps.length).1) (hg2 : (run ps ps.length).2.1 = mostP ps)
    (hret : ∀ h' tk' m', Fr h₀ L h' m' → Q (.ret (.bool true)) { s with heap := h', toks := tk' }) :
    wpAny (model PySem.Challenge.rw_dp0035_02.row.prog w) (callerA.deeper (envOfC (Str.ofString "law") (defScope PySem.Challenge.pw_dp0035_02 6) L fa cd))
      (execs ((defBody PySem.Challenge.pw_dp0035_02 6).drop 2) (envOfC (Str.ofString "law") (defScope PySem.Challenge.pw_dp0035_02 6) L fa cd)) Q (fun _ _ => False) s := by
  have hfill : PySem.Challenge.rw_dp0035_02 = PySem.Challenge.rw_dp0035_02 ∧ Mine.hd02.heap_39 = Mine.hd02.heap_39 := by
    k_fill
    exact ⟨rfl, rfl⟩
  clear hfill
  k_with_none
  conv in (List.drop 2 _) => whnf
  conv in (occs := *) (defScope _ _) => all_goals whnf
  k_steps
  refine Stop.go ?_
  rename Fr _ _ _ _ => F
  rename IntsAre pvs ps => hip
  refine lp_list (σ := List Value × Nat × List Value × Nat × Int × Tok) (fun c => (ha, listOf c.1.toArray c.2.1) :: (ta, listOf c.2.2.1.toArray c.2.2.2.1) :: (pa, listOf pvs.toArray pn) :: (L + 1 + 1, oc) :: (L + 1, ow) :: rest)
    (fun c => [(Str.ofString "gain", .int c.2.2.2.2.1 c.2.2.2.2.2)]) []
    (fun i c => IntsAre c.1 (run ps i).1 ∧ IntsAre c.2.2.1 (run ps i).2.2 ∧ c.2.2.2.2.1 = (run ps i).2.1) ([], 0, [], 0, 0, tg) rfl (fun i c _ => .tail _ (.tail _ (.head _))) F N ?k3 ⟨.nil, .nil, rfl⟩ ?_ ?_
  case k3 => intro q hq; rcases List.mem_cons.mp hq with rfl | hq; exact rfl; exact nomatch hq
  · rintro i ⟨hv, he, tv, te, g, tgg⟩ v u3 h3 tk3 I oI hi hvi ⟨hP1, hP2, hP3⟩ hIn F3 N3
    dsimp only at *
    have hpl := hip.length
    obtain ⟨tp, hvp⟩ := ints_at hip (show i < ps.length by omega)
    rw [hvp] at hvi
    cases hvi
    obtain ⟨hrl1, hrl2⟩ := run_length ps i
    have hvl := hP1.length
    k_steps
    refine Stop.go ?_
    refine hp_call w mean mg mb _ _ _ _ _ _ _ _ _ _ _ _ _ _ ((I, oI) :: (ta, listOf tv.toArray te) :: (pa, listOf pvs.toArray pn) :: (L + 1 + 1, oc) :: (L + 1, ow) :: rest) _ ltV ha hv he _ _ _ B F3 X (news_sub N3 ?k0) T rfl (by decide) (by decide) ?k1 (by omega) ?k2 ?_
    case k0 =>
      intro p hp
      simp only [List.mem_cons] at hp ⊢
      rcases hp with h | h | h | h | h | h | h <;> (repeat (first | exact h | exact Or.inl h | apply Or.inr))
    case k1 =>
      intro p hp
      simp only [List.mem_cons] at hp
      rcases hp with h | h | h | h | h | h
      · rw [h]; exact (hIn _ (.head _)).symm
      · rw [h]; exact hn1
      · rw [h]; exact hn2
      · rw [h]; exact hn3
      · rw [h]; exact hn4
      · exact hn5 p h
    case k2 => exact ltOk_ints (ints_mem (hP1.append (.cons _ _ .nil)))
    intro h4 tk4 F4 N4
    have hH1 := ints_hpush hP1 (ps.getD i 0) tp
    have hH1l := hpush_length ltI (run ps i).1 (ps.getD i 0)
    rw [hrl1] at hH1l
    generalize hhv1 : hpush ltV hv (Value.int (ps.getD i 0) tp) = hv1 at hH1 N4
    generalize hHH1 : hpush ltI (run ps i).1 (ps.getD i 0) = H1 at hH1 hH1l
    k_steps
    -- SPLIT
    · rename H1.getD _ _ < _ => hlt1
      replace hlt1 : H1.getD 0 0 < ps.getD i 0 := hlt1
      rename News _ _ _ _ => N5
      rename Fr _ _ _ _ => F5
      refine set_at F5 N5 ?kd 0 rfl (by have := hH1.length; omega) (by have := hH1.length; omega) ?_
      case kd =>
        intro p hp
        simp only [List.mem_cons] at hp
        rcases hp with h | h | h | h | h | h
        · rw [h]; exact (hIn _ (.head _)).symm
        · rw [h]; exact hn1
        · rw [h]; exact hn2
        · rw [h]; exact hn3
        · rw [h]; exact hn4
        · exact hn5 p h
      intro h6 F6 N6
      k_steps
      refine Stop.go ?_
      have hS1 := ints_set (x := ps.getD i 0) (u := tp) hH1 0
      refine su_call w mean mg mb _ _ _ _ _ _ _ _ _ _ _ _ _ _ ((I, oI) :: (ta, listOf tv.toArray te) :: (pa, listOf pvs.toArray pn) :: (L + 1 + 1, oc) :: (L + 1, ow) :: rest) _ ltV ha _ (he + 1) 0 _ _ _ B F6 X N6 T rfl (by decide) (by decide) ?k1 (by have := hS1.length; rw [List.length_set] at this; simp only [List.length_set] at *; omega) (by have := hS1.length; simp only [List.length_set] at *; omega) ?k2 ?_
      case k1 =>
        intro p hp
        simp only [List.mem_cons] at hp
        rcases hp with h | h | h | h | h | h
        · rw [h]; exact (hIn _ (.head _)).symm
        · rw [h]; exact hn1
        · rw [h]; exact hn2
        · rw [h]; exact hn3
        · rw [h]; exact hn4
        · exact hn5 p h
      case k2 => exact ltOk_ints (ints_mem hS1)
      intro h7 tk7 F7 N7
      have hH2 := ints_su hS1 (p := 0) (by rw [List.length_set]; omega)
      have hH2l := su_length ltI (H1.set 0 (ps.getD i 0)) 0
      rw [List.length_set, hH1l] at hH2l
      generalize hhv2 : su ltV (hv1.set 0 (Value.int (ps.getD i 0) tp)) 0 = hv2 at hH2 N7
      generalize hHH2 : su ltI (H1.set 0 (ps.getD i 0)) 0 = H2 at hH2 hH2l
      have hrun : run ps (i + 1) = (H2, g + (ps.getD i 0 - H1.getD 0 0), (run ps i).2.2 ++ [H2.getD 0 0]) := by
        show dayStep (run ps i) (ps.getD i 0) = _
        unfold dayStep
        rw [hHH1, if_pos hlt1, hHH2, hP3]
      have hhp := hheap (i + 1) (by omega)
      rw [hrun] at hhp
      dsimp only at hhp
      k_steps
      refine Stop.go ?_
      rename IsRange _ _ _ _ _ _ _ _ => hR
      rename Fr _ _ _ _ => F6
      rename News _ _ _ _ => N6
      refine LCt.CompSrcT.range (n := H2.length - 1) rfl F6 N6 hR (small_one (by omega) (by omega) (by omega) (by omega)) (by rw [rangeSize_nat]; omega) (by rw [sizeLine_eq]; omega) ?_
      intro g6
      refine compT_inv (fun _ ys => ys = []) rfl ?_ ?_
      · intro k v I7 oI7 C7 oC7 D7 m7 ys h7 tk7 E7 hk7 hv7 hys hC7 hx7 F7 N7 off7 ne7
        obtain ⟨t7, rfl⟩ := hv7
        subst hys
        k_steps
        · rename H2.getD _ _ < _ => hbad
          exact absurd hbad (heap_no hhp (by omega))
        · rename Fr _ _ _ _ => F8
          exact LCg.CompEnd.intro F8 N7 _ (fun p hp => hp) off7 trivial ⟨rfl, rfl⟩
      · intro ys hys
        subst hys
        k_steps
        rename Tok => tq
        rename Fr _ _ _ _ => F8
        rename News _ _ _ _ => N8
        refine app_at (vs := tv) (n := te) (rest := (I, oI) :: (ha, listOf hv2.toArray (he + 1)) :: (pa, listOf pvs.toArray pn) :: (L + 1 + 1, oc) :: (L + 1, ow) :: rest) F8 (news_sub N8 ?kn) ?kd (by have := hP2.length; omega) ?_
        case kn =>
          intro p hp
          simp only [List.mem_cons] at hp ⊢
          rcases hp with h | h | h | h | h | h | h <;> (repeat (first | exact h | exact Or.inl h | apply Or.inr))
        case kd =>
          intro p hp
          simp only [List.mem_cons] at hp
          rcases hp with h | h | h | h | h | h
          · rw [h]; exact (hIn _ (.tail _ (.head _))).symm
          · rw [h]; exact Ne.symm hn1
          · rw [h]; exact hn6
          · rw [h]; exact hn7
          · rw [h]; exact hn8
          · exact hn9 p h
        intro h9 F9 N9
        k_steps
        refine lp_next ?_
        obtain ⟨u0, e0⟩ := fr_look F9 (Str.ofString "gain") (run ps (i + 1)).2.1 ⟨_, look_int rfl (congrArg (fun q : List Int × Int × List Int => q.2.1) hrun.symm) rfl⟩
        refine lp_end (hv2, he + 1, tv ++ [.int (H2.getD 0 0) tq], te + 1, (run ps (i + 1)).2.1, u0) F9 N9 (.tail _ (.head _)) ?e1 ?e2 ?e3 ?e4 ⟨?e5, ?e6, rfl⟩
        case e1 =>
          intro p hp
          simp only [List.mem_cons] at hp ⊢
          rcases hp with h | h | h | h | h | h <;> (repeat (first | exact h | exact Or.inl h | apply Or.inr))
        case e2 =>
          intro p hp
          simp only [List.mem_cons] at hp
          rcases hp with h | h | h | h | h | h
          · rw [h]; exact hIn (ha, listOf hv.toArray he) (.head _)
          · rw [h]; exact hIn (ta, listOf tv.toArray te) (.tail _ (.head _))
          · rw [h]; exact hIn _ (.tail _ (.tail _ (.head _)))
          · rw [h]; exact hIn _ (.tail _ (.tail _ (.tail _ (.head _))))
          · rw [h]; exact hIn _ (.tail _ (.tail _ (.tail _ (.tail _ (.head _)))))
          · exact hIn _ (.tail _ (.tail _ (.tail _ (.tail _ (.tail _ h)))))
        case e3 => intro q hq; rcases List.mem_cons.mp hq with rfl | hq; exact e0; exact nomatch hq
        case e4 =>
          intro z hz h2 h3
          have z1 : ¬ z = Str.ofString "gain" := h2 _ (.head _)
          simp only [kstB, hz, z1, if_false, Bool.false_eq_true, List.contains_nil]
        case e5 => rw [hrun]; exact hH2
        case e6 => rw [hrun]; exact ints_app hP2 (.cons _ _ .nil)
    · rename ¬ H1.getD _ _ < _ => hlt1
      replace hlt1 : ¬ H1.getD 0 0 < ps.getD i 0 := hlt1
      have hrun : run ps (i + 1) = (H1, g, (run ps i).2.2 ++ [H1.getD 0 0]) := by
        show dayStep (run ps i) (ps.getD i 0) = _
        unfold dayStep
        rw [hHH1, if_neg hlt1, hP3]
      have hhp := hheap (i + 1) (by omega)
      rw [hrun] at hhp
      dsimp only at hhp
      refine Stop.go ?_
      rename IsRange _ _ _ _ _ _ _ _ => hR
      rename Fr _ _ _ _ => F6
      rename News _ _ _ _ => N6
      refine LCt.CompSrcT.range (n := H1.length - 1) rfl F6 N6 hR (small_one (by omega) (by omega) (by omega) (by omega)) (by rw [rangeSize_nat]; omega) (by rw [sizeLine_eq]; omega) ?_
      intro g6
      refine compT_inv (fun _ ys => ys = []) rfl ?_ ?_
      · intro k v I7 oI7 C7 oC7 D7 m7 ys h7 tk7 E7 hk7 hv7 hys hC7 hx7 F7 N7 off7 ne7
        obtain ⟨t7, rfl⟩ := hv7
        subst hys
        k_steps
        · rename H1.getD _ _ < _ => hbad
          exact absurd hbad (heap_no hhp (by omega))
        · rename Fr _ _ _ _ => F8
          exact LCg.CompEnd.intro F8 N7 _ (fun p hp => hp) off7 trivial ⟨rfl, rfl⟩
      · intro ys hys
        subst hys
        k_steps
        rename Tok => tq
        rename Fr _ _ _ _ => F8
        rename News _ _ _ _ => N8
        refine app_at (vs := tv) (n := te) (rest := (I, oI) :: (ha, listOf hv1.toArray (he + 1)) :: (pa, listOf pvs.toArray pn) :: (L + 1 + 1, oc) :: (L + 1, ow) :: rest) F8 (news_sub N8 ?kn) ?kd (by have := hP2.length; omega) ?_
        case kn =>
          intro p hp
          simp only [List.mem_cons] at hp ⊢
          rcases hp with h | h | h | h | h | h | h <;> (repeat (first | exact h | exact Or.inl h | apply Or.inr))
        case kd =>
          intro p hp
          simp only [List.mem_cons] at hp
          rcases hp with h | h | h | h | h | h
          · rw [h]; exact (hIn _ (.tail _ (.head _))).symm
          · rw [h]; exact Ne.symm hn1
          · rw [h]; exact hn6
          · rw [h]; exact hn7
          · rw [h]; exact hn8
          · exact hn9 p h
        intro h9 F9 N9
        k_steps
        refine lp_next ?_
        obtain ⟨u0, e0⟩ := fr_look F9 (Str.ofString "gain") (run ps (i + 1)).2.1 ⟨_, look_int rfl (congrArg (fun q : List Int × Int × List Int => q.2.1) hrun.symm) rfl⟩
        refine lp_end (hv1, he + 1, tv ++ [.int (H1.getD 0 0) tq], te + 1, (run ps (i + 1)).2.1, u0) F9 N9 (.tail _ (.head _)) ?e1 ?e2 ?e3 ?e4 ⟨?e5, ?e6, rfl⟩
        case e1 =>
          intro p hp
          simp only [List.mem_cons] at hp ⊢
          rcases hp with h | h | h | h | h | h <;> (repeat (first | exact h | exact Or.inl h | apply Or.inr))
        case e2 =>
          intro p hp
          simp only [List.mem_cons] at hp
          rcases hp with h | h | h | h | h | h
          · rw [h]; exact hIn (ha, listOf hv.toArray he) (.head _)
          · rw [h]; exact hIn (ta, listOf tv.toArray te) (.tail _ (.head _))
          · rw [h]; exact hIn _ (.tail _ (.tail _ (.head _)))
          · rw [h]; exact hIn _ (.tail _ (.tail _ (.tail _ (.head _))))
          · rw [h]; exact hIn _ (.tail _ (.tail _ (.tail _ (.tail _ (.head _)))))
          · exact hIn _ (.tail _ (.tail _ (.tail _ (.tail _ (.tail _ h)))))
        case e3 => intro q hq; rcases List.mem_cons.mp hq with rfl | hq; exact e0; exact nomatch hq
        case e4 =>
          intro z hz h2 h3
          have z1 : ¬ z = Str.ofString "gain" := h2 _ (.head _)
          simp only [kstB, hz, z1, if_false, Bool.false_eq_true, List.contains_nil]
        case e5 => rw [hrun]; exact hH1
        case e6 => rw [hrun]; exact ints_app hP2 (.cons _ _ .nil)
  · rintro ⟨hv, he, tv, te, g, tgg⟩ u3 h3 tk3 ⟨hP1, hP2, hP3⟩ F3 N3
    dsimp only at *
    have hpl := hip.length
    rw [hpl] at hP1 hP2 hP3
    subst hP3
    obtain ⟨hrl1, hrl2⟩ := run_length ps ps.length
    have F4 := fr_three (x := Str.ofString "gain") (y := Str.ofString "tops") (z := Str.ofString "prices") F3 rfl rfl rfl
    refine part_c w mean mg mb h₀ L fa cd base ((ha, listOf hv.toArray he) :: (L + 1 + 1, oc) :: (L + 1, ow) :: rest) _ _ pa ta pvs tv ps (run ps ps.length).2.2 pn te (run ps ps.length).2.1 tgg _ B X T F4 (news_sub N3 ?k0) ?k1 (Ne.symm hn6) hip hP2 hl1 hl2 hrl2 hg1 hg2 ?_
    case k0 =>
      intro p hp
      simp only [List.mem_cons] at hp ⊢
      rcases hp with h | h | h | h | h | h <;> (repeat (first | exact h | exact Or.inl h | apply Or.inr))
    case k1 =>
      intro p hp
      simp only [List.mem_cons] at hp
      rcases hp with h | h | h | h
      · rw [h]; exact Ne.symm hn2
      · rw [h]; exact hn10
      · rw [h]; exact hn11
      · exact hn12 p h
    intro h5 tk5 m5 F5
    exact hret _ _ _ F5
end Mine
namespace Mine

section
variable {α : Type} [Inhabited α]

/-- the item at a place -/
abbrev it (l : List α) (i : Nat) : α := l.getD i default
theorem it_set (l : List α) (i : Nat) (v : α) (j : Nat) (h : i < l.length) : it (l.set i v) j = if i = j then v else it l j := by
  unfold it
  rw [List.getD_eq_getElem?_getD, List.getD_eq_getElem?_getD, List.getElem?_set]
  by_cases e : i = j
  · subst e; simp [h]
  · simp [e]
theorem it_set_ne {l : List α} {i j : Nat} {v : α} (h : i ≠ j) : it (l.set i v) j = it l j := by
  unfold it
  rw [List.getD_eq_getElem?_getD, List.getD_eq_getElem?_getD, List.getElem?_set]
  simp [h]
theorem it_set_eq {l : List α} {i : Nat} {v : α} (h : i < l.length) : it (l.set i v) i = v := by
  rw [it_set l i v i h, if_pos rfl]

structure LO (lt : α → α → Bool) : Prop where
  asym : ∀ a b, lt a b = true → lt b a = false
  tr : ∀ a b c, lt b a = false → lt c b = false → lt c a = false
theorem LO.irr {lt : α → α → Bool} (o : LO lt) (a : α) : lt a a = false := by
  cases h : lt a a with
  | false => rfl
  | true => exact absurd (o.asym a a h) (by rw [h]; decide)

variable (lt : α → α → Bool)
/-- an item is not less than the one over it -/
def Edge (l : List α) (k : Nat) : Prop := lt (it l k) (it l ((k - 1) / 2)) = false
/-- the edges that do not touch p -/
def EdgesBut (l : List α) (p : Nat) : Prop := ∀ k, 0 < k → k < l.length → k ≠ p → (k - 1) / 2 ≠ p → Edge lt l k
/-- what lies over p is not greater than what lies below p -/
def Over (l : List α) (p : Nat) : Prop := 0 < p → ∀ k, 0 < k → k < l.length → (k - 1) / 2 = p → lt (it l k) (it l ((p - 1) / 2)) = false
def Heap' (l : List α) : Prop := ∀ k, 0 < k → k < l.length → Edge lt l k

inductive Desc (sp : Nat) : Nat → Prop
  | self : Desc sp sp
  | kid {p : Nat} : 0 < p → Desc sp ((p - 1) / 2) → Desc sp p
theorem Desc.le {sp p : Nat} (h : Desc sp p) : sp ≤ p := by
  induction h with
  | self => exact Nat.le_refl _
  | kid h0 _ ih => omega
theorem Desc.up {sp p : Nat} (h : Desc sp p) (hp : sp < p) : Desc sp ((p - 1) / 2) := by
  cases h with
  | self => omega
  | kid _ h => exact h
theorem Desc.zero (p : Nat) : Desc 0 p := by
  induction p using Nat.strongRecOn with
  | ind p ih =>
    by_cases h : p = 0
    · rw [h]; exact .self
    · exact .kid (by omega) (ih _ (by omega))

variable {lt}
theorem sdLoop_ok (o : LO lt) {new : α} {sp : Nat} : ∀ {p : Nat} {l : List α}, p < l.length → Desc sp p → EdgesBut lt l p → (∀ k, 0 < k → k < l.length → (k - 1) / 2 = p → lt (it l k) new = false) → Over lt l p →
    (∀ k, 0 < k → k < l.length → k ≠ sp → Edge lt (sdLoop lt new sp l p) k) ∧ Over lt (sdLoop lt new sp l p) sp ∧ (0 < sp → lt new (it l ((sp - 1) / 2)) = false → Edge lt (sdLoop lt new sp l p) sp) ∧ (∀ j, ¬ Desc sp j → it (sdLoop lt new sp l p) j = it l j) := by
  intro p
  induction p using Nat.strongRecOn with
  | ind p ih =>
    intro l hp hd hA hB hC
    have stop : (sp < p → lt new (it l ((p - 1) / 2)) = false) → (∀ k, 0 < k → k < l.length → k ≠ sp → Edge lt (l.set p new) k) ∧ Over lt (l.set p new) sp ∧ (0 < sp → lt new (it l ((sp - 1) / 2)) = false → Edge lt (l.set p new) sp) ∧ (∀ j, ¬ Desc sp j → it (l.set p new) j = it l j) := by
      intro hs
      have e1 : ∀ k, 0 < k → k < l.length → k ≠ sp → Edge lt (l.set p new) k := by
        intro k h0 hk hne
        unfold Edge
        by_cases hkp : k = p
        · subst hkp
          have : sp < k := by have := hd.le; omega
          rw [it_set_eq hp, it_set_ne (by omega)]
          exact hs this
        · by_cases hkq : (k - 1) / 2 = p
          · rw [it_set_ne (Ne.symm hkp), hkq, it_set_eq hp]
            exact hB k h0 hk hkq
          · rw [it_set_ne (Ne.symm hkp), it_set_ne (Ne.symm hkq)]
            exact hA k h0 hk hkp hkq
      have le := hd.le
      refine ⟨e1, ?_, ?_, ?_⟩
      · intro hsp k h0 hk hks
        rw [List.length_set] at hk
        have hne : k ≠ sp := by omega
        have h1 := e1 k h0 hk hne
        unfold Edge at h1
        rw [hks] at h1
        by_cases hps : p = sp
        · subst hps
          rw [it_set_ne (show p ≠ k by omega), it_set_ne (show p ≠ (p - 1) / 2 by omega)]
          exact hC hsp k h0 hk hks
        · refine o.tr _ _ _ ?_ h1
          rw [it_set_ne (show p ≠ sp by omega), it_set_ne (show p ≠ (sp - 1) / 2 by omega)]
          exact hA sp hsp (by omega) (by omega) (by omega)
      · intro hsp hnew
        unfold Edge
        by_cases hps : p = sp
        · subst hps
          rw [it_set_eq hp, it_set_ne (show p ≠ (p - 1) / 2 by omega)]
          exact hnew
        · rw [it_set_ne (show p ≠ sp by omega), it_set_ne (show p ≠ (sp - 1) / 2 by omega)]
          exact hA sp hsp (by omega) (by omega) (by omega)
      · intro j hj
        exact it_set_ne fun e => hj (e ▸ hd)
    rw [sdLoop.eq_def]
    by_cases hgt : sp < p
    · rw [dif_pos hgt]
      cases hlt : lt new (l.getD ((p - 1) / 2) default) with
      | false => simp only [Bool.false_eq_true, if_false]; exact stop fun _ => hlt
      | true =>
        simp only [if_true]
        have hq : (p - 1) / 2 < p := by omega
        have hnq : lt (it l ((p - 1) / 2)) new = false := o.asym _ _ hlt
        have R := ih ((p - 1) / 2) hq (l := l.set p (l.getD ((p - 1) / 2) default)) (by rw [List.length_set]; omega) (hd.up hgt) ?_ ?_ ?_
        · rw [List.length_set] at R
          obtain ⟨r1, r2, r3, r4⟩ := R
          refine ⟨r1, r2, ?_, ?_⟩
          · intro hsp hnew
            refine r3 hsp ?_
            rw [it_set_ne (show p ≠ (sp - 1) / 2 by omega)]
            exact hnew
          · intro j hj
            rw [r4 j hj]
            exact it_set_ne fun e => hj (e ▸ hd)
        · intro k h0 hk h1 h2
          rw [List.length_set] at hk
          have hkp : k ≠ p := by intro e; rw [e] at h2; exact h2 rfl
          unfold Edge
          by_cases hkq : (k - 1) / 2 = p
          · rw [it_set_ne (Ne.symm hkp), hkq, it_set_eq hp]
            exact hC (by omega) k h0 hk hkq
          · rw [it_set_ne (Ne.symm hkp), it_set_ne (Ne.symm hkq)]
            exact hA k h0 hk hkp hkq
        · intro k h0 hk h1
          rw [List.length_set] at hk
          by_cases hkp : k = p
          · rw [hkp, it_set_eq hp]; exact hnq
          · rw [it_set_ne (Ne.symm hkp)]
            have := hA k h0 hk hkp (by omega)
            unfold Edge at this
            rw [h1] at this
            exact o.tr _ _ _ hnq this
        · intro hq0 k h0 hk h1
          rw [List.length_set] at hk
          rw [it_set_ne (show p ≠ ((p - 1) / 2 - 1) / 2 by omega)]
          have hE := hA ((p - 1) / 2) hq0 (by omega) (by omega) (by omega)
          unfold Edge at hE
          by_cases hkp : k = p
          · rw [hkp, it_set_eq hp]; exact hE
          · rw [it_set_ne (Ne.symm hkp)]
            have := hA k h0 hk hkp (by omega)
            unfold Edge at this
            rw [h1] at this
            exact o.tr _ _ _ hE this
    · rw [dif_neg hgt]
      exact stop fun h => absurd h hgt

theorem kid_parent (lt : α → α → Bool) (l : List α) (p : Nat) : (kid lt l p - 1) / 2 = p ∧ p < kid lt l p := by
  rcases kid_or lt l p with h | ⟨h, _⟩ <;> rw [h] <;> omega
theorem kid_lt {l : List α} {p : Nat} (h : 2 * p + 1 < l.length) : kid lt l p < l.length := by
  rcases kid_or lt l p with h | h <;> omega
theorem kid_least (o : LO lt) {l : List α} {p : Nat} (k : Nat) (h0 : 0 < k) (hk : k < l.length) (hp : (k - 1) / 2 = p) : lt (it l k) (it l (kid lt l p)) = false := by
  have h2 : k = 2 * p + 1 ∨ k = 2 * p + 2 := by omega
  unfold kid
  split
  · rename_i h
    rcases h2 with rfl | rfl
    · exact h.2
    · exact o.irr _
  · rename_i h
    rcases h2 with rfl | rfl
    · exact o.irr _
    · refine o.asym _ _ ?_
      cases hb : lt (it l (2 * p + 1)) (it l (2 * p + 2)) with
      | true => rfl
      | false => exact absurd ⟨hk, hb⟩ h

theorem suLoop_ok (o : LO lt) {sp : Nat} (l : List α) (p : Nat) (hp : p < l.length) (hd : Desc sp p) (hA : EdgesBut lt l p) (hC : Over lt l p) :
    EdgesBut lt (suLoop lt l p).1 (suLoop lt l p).2 ∧ Over lt (suLoop lt l p).1 (suLoop lt l p).2 ∧ Desc sp (suLoop lt l p).2 ∧ l.length ≤ 2 * (suLoop lt l p).2 + 1 ∧ (∀ j, ¬ Desc sp j → it (suLoop lt l p).1 j = it l j) := by
  fun_induction suLoop lt l p with
  | case2 l p h => exact ⟨hA, hC, hd, by omega, fun _ _ => rfl⟩
  | case1 l p h ih =>
    obtain ⟨hk1, hk2⟩ := kid_parent lt l p
    have hkl := kid_lt (lt := lt) h
    have R := ih (by rw [List.length_set]; exact hkl) (.kid (by omega) (by rw [hk1]; exact hd)) ?_ ?_
    · obtain ⟨r1, r2, r3, r4, r5⟩ := R
      refine ⟨r1, r2, r3, by rw [List.length_set] at r4; exact r4, ?_⟩
      intro j hj
      rw [r5 j hj]
      exact it_set_ne fun e => hj (e ▸ hd)
    · intro k h0 hk h1 h2
      rw [List.length_set] at hk
      unfold Edge
      by_cases hkp : k = p
      · subst hkp
        rw [it_set_eq hp, it_set_ne (by omega)]
        exact hC h0 _ (by omega) hkl hk1
      · by_cases hkq : (k - 1) / 2 = p
        · rw [it_set_ne (Ne.symm hkp), hkq, it_set_eq hp]
          exact kid_least o k h0 hk hkq
        · rw [it_set_ne (Ne.symm hkp), it_set_ne (Ne.symm hkq)]
          exact hA k h0 hk hkp hkq
    · intro _ k h0 hk h1
      rw [List.length_set] at hk
      rw [it_set_ne (show p ≠ k by omega), hk1, it_set_eq hp]
      have := hA k h0 hk (by omega) (by omega)
      unfold Edge at this
      rw [h1] at this
      exact this

theorem su_ok (o : LO lt) {l : List α} {pos : Nat} (hp : pos < l.length) (hA : EdgesBut lt l pos) (hC : Over lt l pos) :
    (∀ k, 0 < k → k < l.length → k ≠ pos → Edge lt (su lt l pos) k) ∧ Over lt (su lt l pos) pos ∧ (0 < pos → lt (it l pos) (it l ((pos - 1) / 2)) = false → Edge lt (su lt l pos) pos) ∧ (∀ j, ¬ Desc pos j → it (su lt l pos) j = it l j) := by
  obtain ⟨r1, r2, r3, r4, r5⟩ := suLoop_ok o l pos hp .self hA hC
  have hl := suLoop_length lt l pos
  have hq := suLoop_lt lt l pos hp
  unfold su
  dsimp only
  generalize (suLoop lt l pos).1 = l1 at *
  generalize (suLoop lt l pos).2 = q at *
  unfold sd
  have e : (l1.set q (l.getD pos default)).getD q default = l.getD pos default := it_set_eq (by omega)
  rw [e]
  have nokid : ∀ k, 0 < k → k < l.length → (k - 1) / 2 = q → False := fun k _ _ h => by omega
  have R := sdLoop_ok o (new := l.getD pos default) (sp := pos) (p := q) (l := l1.set q (l.getD pos default)) (by rw [List.length_set]; omega) r3 ?_ ?_ ?_
  · rw [List.length_set, hl] at R
    obtain ⟨s1, s2, s3, s4⟩ := R
    have npar : 0 < pos → ¬ Desc pos ((pos - 1) / 2) := fun h0 h => by have := h.le; omega
    refine ⟨s1, s2, ?_, ?_⟩
    · intro h0 hn
      refine s3 h0 ?_
      have hle := r3.le
      rw [it_set_ne (show q ≠ (pos - 1) / 2 by omega), r5 _ (npar h0)]
      exact hn
    · intro j hj
      rw [s4 j hj, it_set_ne (fun e : q = j => hj (e ▸ r3)), r5 j hj]
  · intro k h0 hk h1 h2
    rw [List.length_set] at hk
    unfold Edge
    rw [it_set_ne (Ne.symm h1), it_set_ne (Ne.symm h2)]
    exact r1 k h0 hk h1 h2
  · intro k h0 hk h1
    rw [List.length_set] at hk
    exact (nokid k h0 (by omega) h1).elim
  · intro _ k h0 hk h1
    rw [List.length_set] at hk
    exact (nokid k h0 (by omega) h1).elim

theorem sd0_ok (o : LO lt) {l : List α} {p : Nat} (hp : p < l.length) (hA : ∀ k, 0 < k → k < l.length → k ≠ p → Edge lt l k) (hC : Over lt l p) : Heap' lt (sd lt l 0 p) := by
  obtain ⟨r1, _⟩ := sdLoop_ok o (new := l.getD p default) (sp := 0) hp (Desc.zero p) (fun k h0 hk h1 _ => hA k h0 hk h1) (fun k h0 hk h1 => by
    have := hA k h0 hk (by omega); unfold Edge at this; rw [h1] at this; exact this) hC
  intro k h0 hk
  unfold sd at hk ⊢
  rw [sdLoop_length] at hk
  exact r1 k h0 hk (by omega)

theorem hpush_ok (o : LO lt) {l : List α} (h : Heap' lt l) (x : α) : Heap' lt (hpush lt l x) := by
  unfold hpush
  refine sd0_ok o (by simp) ?_ ?_
  · intro k h0 hk hne
    have hk' : k < l.length := by simp at hk; omega
    have := h k h0 hk'
    unfold Edge it at this ⊢
    rw [List.getD_eq_getElem?_getD, List.getD_eq_getElem?_getD] at this ⊢
    rw [List.getElem?_append_left hk', List.getElem?_append_left (by omega)]
    exact this
  · intro _ k h0 hk h1
    simp at hk
    omega

theorem heap_root (o : LO lt) {l : List α} (h : Heap' lt l) : ∀ k, k < l.length → lt (it l k) (it l 0) = false := by
  intro k
  induction k using Nat.strongRecOn with
  | ind k ih =>
    intro hk
    by_cases h0 : k = 0
    · rw [h0]; exact o.irr _
    · exact o.tr _ _ _ (ih _ (show (k - 1) / 2 < k by omega) (by omega)) (h k (by omega) hk)

/-- a heap whose top is changed, and _siftup from there -/
theorem su0_ok (o : LO lt) {l : List α} (h : Heap' lt l) (hl : 0 < l.length) (x : α) : Heap' lt (su lt (l.set 0 x) 0) := by
  obtain ⟨r1, _⟩ := su_ok o (l := l.set 0 x) (pos := 0) (by rw [List.length_set]; exact hl) (fun k h0 hk h1 h2 => by
    rw [List.length_set] at hk
    unfold Edge
    rw [it_set_ne (Ne.symm h1), it_set_ne (Ne.symm h2)]
    exact h k h0 hk) (fun h => absurd h (by decide))
  intro k h0 hk
  rw [su_length] at hk
  exact r1 k h0 hk (by omega)
end

section
variable {α : Type} [Inhabited α] [DecidableEq α] {lt : α → α → Bool}
theorem count_set' {l : List α} {i : Nat} (h : i < l.length) (v a : α) : (l.set i v).count a + (if it l i = a then 1 else 0) = l.count a + (if v = a then 1 else 0) := by
  have e : it l i = l[i] := by unfold it; rw [List.getD_eq_getElem?_getD, List.getElem?_eq_getElem h]; rfl
  rw [List.count_set h, e]
  have hp : l[i] = a → 0 < l.count a := fun q => List.count_pos_iff.mpr (q ▸ List.getElem_mem h)
  by_cases h1 : l[i] = a
  · have := hp h1
    by_cases h2 : v = a <;> simp [h1, h2] <;> omega
  · by_cases h2 : v = a <;> simp [h1, h2]
theorem sdLoop_count {new : α} {sp : Nat} {l : List α} {p : Nat} (hp : p < l.length) (a : α) : (sdLoop lt new sp l p).count a = (l.set p new).count a := by
  fun_induction sdLoop lt new sp l p with
  | case1 l p h1 h2 ih =>
    have hq : (p - 1) / 2 < p := by omega
    rw [ih (by rw [List.length_set]; omega)]
    have e1 := count_set' (l := l.set p (l.getD ((p - 1) / 2) default)) (i := (p - 1) / 2) (by rw [List.length_set]; omega) new a
    have e2 := count_set' hp (l.getD ((p - 1) / 2) default) a
    have e3 := count_set' hp new a
    rw [it_set_ne (show p ≠ (p - 1) / 2 by omega)] at e1
    have e4 : it l ((p - 1) / 2) = l.getD ((p - 1) / 2) default := rfl
    rw [e4] at e1
    omega
  | case2 l p h1 h2 => rfl
  | case3 l p h1 => rfl
theorem sd_count {sp : Nat} {l : List α} {p : Nat} (hp : p < l.length) (a : α) : (sd lt l sp p).count a = l.count a := by
  unfold sd
  rw [sdLoop_count hp]
  have := count_set' hp (l.getD p default) a
  have e : it l p = l.getD p default := rfl
  rw [e] at this
  omega
theorem suLoop_count {l : List α} {p : Nat} (hp : p < l.length) (v a : α) : ((suLoop lt l p).1.set (suLoop lt l p).2 v).count a = (l.set p v).count a := by
  fun_induction suLoop lt l p with
  | case1 l p h ih =>
    obtain ⟨hk1, hk2⟩ := kid_parent lt l p
    have hkl := kid_lt (lt := lt) h
    rw [ih (by rw [List.length_set]; exact hkl)]
    have e1 := count_set' (l := l.set p (l.getD (kid lt l p) default)) (i := kid lt l p) (by rw [List.length_set]; exact hkl) v a
    have e2 := count_set' hp (l.getD (kid lt l p) default) a
    have e3 := count_set' hp v a
    rw [it_set_ne (show p ≠ kid lt l p by omega)] at e1
    have e4 : it l (kid lt l p) = l.getD (kid lt l p) default := rfl
    rw [e4] at e1
    omega
  | case2 l p h => rfl
theorem su_count {l : List α} {p : Nat} (hp : p < l.length) (a : α) : (su lt l p).count a = l.count a := by
  unfold su
  dsimp only
  have h1 := suLoop_length lt l p
  have h2 := suLoop_lt lt l p hp
  rw [sd_count (by rw [List.length_set, h1]; exact h2), suLoop_count hp]
  have := count_set' hp (l.getD p default) a
  have e : it l p = l.getD p default := rfl
  rw [e] at this
  omega
theorem su_perm {l : List α} {p : Nat} (hp : p < l.length) : (su lt l p).Perm l := List.perm_iff_count.mpr (su_count hp)
theorem hpush_perm {l : List α} {x : α} : (hpush lt l x).Perm (x :: l) := by
  refine (List.perm_iff_count.mpr (sd_count (by simp))).trans ?_
  exact List.perm_append_comm
end
end Mine
namespace Mine

theorem lo_ltI : LO ltI := ⟨fun a b h => by unfold ltI at *; simp at *; omega, fun a b c h1 h2 => by unfold ltI at *; simp at *; omega⟩
theorem heapOk_of {l : List Int} (h : Heap' ltI l) : HeapOk l := by
  intro k h0 hk
  have := h k h0 hk
  unfold Edge ltI it at this
  have e : (default : Int) = 0 := rfl
  rw [e] at this
  simpa using this

theorem perm_sum {l l' : List Int} (h : l.Perm l') : l.sum = l'.sum := by
  induction h with
  | nil => rfl
  | cons a _ ih => rw [List.sum_cons, List.sum_cons, ih]
  | swap a b l => simp only [List.sum_cons]; omega
  | trans _ _ h1 h2 => rw [h1, h2]
def ins (p : Int) : List Int → List Int
  | [] => [p]
  | a :: r => if p ≤ a then p :: a :: r else a :: ins p r
def Srt (l : List Int) : Prop := l.Pairwise (· ≤ ·)
theorem ins_perm (p : Int) : ∀ l, (ins p l).Perm (p :: l)
  | [] => .refl _
  | a :: r => by
    unfold ins
    split
    · exact .refl _
    · exact ((ins_perm p r).cons a).trans (.swap p a r)
theorem ins_srt {p : Int} : ∀ {l : List Int}, Srt l → Srt (ins p l)
  | [], _ => by simp [ins, Srt]
  | a :: r, h => by
    obtain ⟨h1, h2⟩ := List.pairwise_cons.mp h
    unfold ins
    split
    · rename_i hp
      refine List.pairwise_cons.mpr ⟨?_, h⟩
      intro b hb
      rcases List.mem_cons.mp hb with rfl | hb
      · exact hp
      · have := h1 b hb; omega
    · rename_i hp
      refine List.pairwise_cons.mpr ⟨?_, ins_srt h2⟩
      intro b hb
      rcases List.mem_cons.mp ((ins_perm p r).mem_iff.mp hb) with rfl | hb
      · omega
      · exact h1 b hb
theorem ins_length (p : Int) (l : List Int) : (ins p l).length = l.length + 1 := by simpa using (ins_perm p l).length_eq

/-- the sorted row of the heap's prices, and the gain -/
def spec (ps : List Int) : Nat → List Int × Int
  | 0 => ([], 0)
  | i + 1 => ((ins (ps.getD i 0) (ins (ps.getD i 0) (spec ps i).1)).tail, (spec ps i).2 + ps.getD i 0 - (ins (ps.getD i 0) (spec ps i).1).getD 0 0)
theorem ins_cons (p : Int) (l : List Int) : ∃ m r, ins p l = m :: r := by
  cases l with
  | nil => exact ⟨p, [], rfl⟩
  | cons a r =>
    unfold ins
    split
    · exact ⟨_, _, rfl⟩
    · exact ⟨_, _, rfl⟩
theorem tail_srt {l : List Int} (h : Srt l) : Srt l.tail := by
  cases l with
  | nil => exact h
  | cons a r => exact (List.pairwise_cons.mp h).2
theorem spec_srt (ps : List Int) : ∀ i, Srt (spec ps i).1 ∧ (spec ps i).1.length = i
  | 0 => ⟨List.Pairwise.nil, rfl⟩
  | i + 1 => by
    obtain ⟨h1, h2⟩ := spec_srt ps i
    refine ⟨tail_srt (ins_srt (ins_srt h1)), ?_⟩
    simp [spec, ins_length, h2]

theorem root_eq {H : List Int} {m : Int} {r : List Int} (hh : Heap' ltI H) (hp : H.Perm (m :: r)) (hs : Srt (m :: r)) : H.getD 0 0 = m := by
  have hl : 0 < H.length := by rw [hp.length_eq]; simp
  have e : H.getD 0 0 = it H 0 := rfl
  have hm : it H 0 ∈ H := by unfold it; rw [List.getD_eq_getElem?_getD, List.getElem?_eq_getElem hl]; exact List.getElem_mem _
  have h1 : m ≤ it H 0 := by
    rcases List.mem_cons.mp (hp.mem_iff.mp hm) with h | h
    · omega
    · exact (List.pairwise_cons.mp hs).1 _ h
  obtain ⟨k, hk, hkm⟩ := List.getElem_of_mem (hp.mem_iff.mpr (.head _))
  have h2 := heap_root lo_ltI hh k hk
  have e2 : it H k = m := by unfold it; rw [List.getD_eq_getElem?_getD, List.getElem?_eq_getElem hk, hkm]; rfl
  rw [e2] at h2
  have h3 : ¬ m < it H 0 := of_decide_eq_false h2
  rw [e]
  omega

theorem run_spec (ps : List Int) : ∀ i, Heap' ltI (run ps i).1 ∧ (run ps i).1.Perm (spec ps i).1 ∧ (run ps i).2.1 = (spec ps i).2
  | 0 => ⟨fun k h0 hk => absurd hk (by simp [run]), .refl _, rfl⟩
  | i + 1 => by
    obtain ⟨h1, h2, h3⟩ := run_spec ps i
    obtain ⟨hs, hsl⟩ := spec_srt ps i
    have hh1 : Heap' ltI (hpush ltI (run ps i).1 (ps.getD i 0)) := hpush_ok lo_ltI h1 _
    have hp1 : (hpush ltI (run ps i).1 (ps.getD i 0)).Perm (ins (ps.getD i 0) (spec ps i).1) := hpush_perm.trans ((h2.cons _).trans (ins_perm _ _).symm)
    have hsi := ins_srt (p := ps.getD i 0) hs
    show Heap' ltI (dayStep (run ps i) (ps.getD i 0)).1 ∧ (dayStep (run ps i) (ps.getD i 0)).1.Perm _ ∧ (dayStep (run ps i) (ps.getD i 0)).2.1 = _
    unfold dayStep
    generalize hpush ltI (run ps i).1 (ps.getD i 0) = H1 at *
    generalize hp : ps.getD i 0 = p at *
    have hpm : p ∈ ins p (spec ps i).1 := (ins_perm _ _).mem_iff.mpr (.head _)
    obtain ⟨m, r, hmr⟩ := ins_cons p (spec ps i).1
    rw [hmr] at hp1 hsi hpm
    have hroot := root_eq hh1 hp1 hsi
    have hS : (spec ps (i + 1)).1 = (ins p (m :: r)).tail := by simp only [spec, hp, hmr]
    have hG : (spec ps (i + 1)).2 = (spec ps i).2 + p - m := by simp only [spec, hp, hmr]; rfl
    have hmp : m ≤ p := by
      rcases List.mem_cons.mp hpm with h | h
      · omega
      · exact (List.pairwise_cons.mp hsi).1 _ h
    rw [hroot, hS, hG]
    by_cases hlt : m < p
    · rw [if_pos hlt]
      have hl : 0 < H1.length := by rw [hp1.length_eq]; simp
      refine ⟨su0_ok lo_ltI hh1 hl p, ?_, by dsimp only; omega⟩
      dsimp only
      refine (su_perm (by rw [List.length_set]; exact hl)).trans ?_
      have e : ins p (m :: r) = m :: ins p r := by
        show (if p ≤ m then _ else _) = _
        rw [if_neg (by omega)]
      rw [e, List.tail_cons]
      cases H1 with
      | nil => simp at hl
      | cons a t =>
        have ha : a = m := hroot
        subst ha
        have := hp1.cons_inv
        exact (this.cons p).trans (ins_perm p r).symm
    · rw [if_neg hlt]
      have hme : m = p := by omega
      subst hme
      refine ⟨hh1, ?_, by dsimp only; omega⟩
      have e : ins m (m :: r) = m :: m :: r := by
        show (if m ≤ m then _ else _) = _
        rw [if_pos (Int.le_refl _)]
      rw [e, List.tail_cons]
      exact hp1

theorem plain_heap (ps : List Int) : ∀ i, i ≤ ps.length → HeapOk (run ps i).1 := fun i _ => heapOk_of (run_spec ps i).1

/-! ## the most: the table of the law -/
def PS (l : List Int) (k : Nat) : Int := (l.take k).sum
theorem ps_cons (a : Int) (l : List Int) (k : Nat) : PS (a :: l) (k + 1) = a + PS l k := by simp [PS]
theorem ps_zero (l : List Int) : PS l 0 = 0 := by simp [PS]
theorem psA1 {p : Int} : ∀ {l : List Int}, Srt l → ∀ j, j < l.length → PS (ins p l) (j + 1) = min (PS l j + p) (PS l (j + 1))
  | [], _, j, h => absurd h (by simp)
  | a :: r, hs, j, h => by
    obtain ⟨h1, h2⟩ := List.pairwise_cons.mp hs
    unfold ins
    split
    · rename_i hp
      rw [ps_cons, ps_cons]
      have : ∀ (l : List Int) (a : Int), Srt (a :: l) → ∀ j, j < (a :: l).length → PS (a :: l) j + a ≤ PS (a :: l) (j + 1) := by
        intro l
        induction l with
        | nil => intro a _ j hj; simp at hj; subst hj; simp [PS]
        | cons b l ih =>
          intro a hs j hj
          cases j with
          | zero => simp [PS]
          | succ j =>
            obtain ⟨g1, g2⟩ := List.pairwise_cons.mp hs
            have := ih b g2 j (by simpa using hj)
            have := g1 b (.head _)
            rw [ps_cons, ps_cons]
            omega
      have := this r a hs j h
      rw [ps_cons] at this
      omega
    · rename_i hp
      cases j with
      | zero => rw [ps_cons, ps_cons]; simp only [ps_zero]; omega
      | succ j =>
        have := psA1 h2 (p := p) j (by simpa using h)
        rw [ps_cons, ps_cons, ps_cons, this]
        omega
theorem psA2 {p : Int} : ∀ {l : List Int}, PS (ins p l) (l.length + 1) = PS l l.length + p := by
  intro l
  have h := (ins_perm p l)
  have e1 : PS (ins p l) (l.length + 1) = (ins p l).sum := by unfold PS; rw [List.take_of_length_le (by rw [ins_length]; omega)]
  have e2 : PS l l.length = l.sum := by unfold PS; rw [List.take_length]
  rw [e1, e2, perm_sum h, List.sum_cons]
  omega

theorem best_spec (ps : List Int) : ∀ i, i ≤ ps.length → ∀ k, k < (bestL ps i).length → (bestL ps i).getD k 0 = (spec ps i).2 - PS (spec ps i).1 k
  | 0, _, k, hk => by
    have : k = 0 := by simpa [bestL] using hk
    subst this
    simp [bestL, spec, PS]
  | i + 1, hi, k, hk => by
    have ih := best_spec ps i (by omega)
    have hbl := bestL_length ps i (by omega)
    have hbl' := bestL_length ps (i + 1) hi
    rw [hbl'] at hk
    obtain ⟨hs, hsl⟩ := spec_srt ps i
    have hs1 := ins_srt (p := ps.getD i 0) hs
    have hl1 := ins_length (ps.getD i 0) (spec ps i).1
    have a1 := fun j => psA1 (p := ps.getD i 0) hs j
    have a2 := psA2 (p := ps.getD i 0) (l := (spec ps i).1)
    have b1 := fun j => psA1 (p := ps.getD i 0) hs1 j
    have b2 := psA2 (p := ps.getD i 0) (l := ins (ps.getD i 0) (spec ps i).1)
    have eb : (bestL ps (i + 1)).getD k 0 = mx (wayL (bestL ps i) (ps.getD i 0) k) := by
      have : k < min (i + 1) (ps.length - i - 1) + 1 := by omega
      simp [bestL, dpStep, List.getD_eq_getElem?_getD, this]
    rw [eb]
    obtain ⟨m, r, hmr⟩ := ins_cons (ps.getD i 0) (ins (ps.getD i 0) (spec ps i).1)
    have hS : (spec ps (i + 1)).1 = r := by simp only [spec, hmr, List.tail_cons]
    have hG : (spec ps (i + 1)).2 = (spec ps i).2 + ps.getD i 0 - (ins (ps.getD i 0) (spec ps i).1).getD 0 0 := rfl
    have hm : (ins (ps.getD i 0) (spec ps i).1).getD 0 0 = PS (ins (ps.getD i 0) (spec ps i).1) 1 := by
      obtain ⟨m', r', h'⟩ := ins_cons (ps.getD i 0) (spec ps i).1
      rw [h']; simp [PS]
    have hm2 : m = PS (ins (ps.getD i 0) (ins (ps.getD i 0) (spec ps i).1)) 1 := by rw [hmr]; simp [PS]
    have hm3 := b1 0 (by omega)
    rw [Nat.zero_add] at hm3
    have hmk : PS (ins (ps.getD i 0) (ins (ps.getD i 0) (spec ps i).1)) (k + 1) = m + PS r k := by rw [hmr, ps_cons]
    rw [hS, hG]
    generalize hp : ps.getD i 0 = p at *
    generalize hSS : (spec ps i).1 = S at *
    generalize hgg : (spec ps i).2 = g at *
    generalize hBB : bestL ps i = B at *
    generalize hS1 : ins p S = S1 at *
    have z1 : PS S1 0 = 0 := ps_zero _
    have z2 : PS S 0 = 0 := ps_zero _
    -- the head of the first row is the head of the second
    have hpm : PS S1 1 ≤ p := by
      by_cases h0 : 0 < i
      · have := a1 0 (by omega); rw [Nat.zero_add] at this; omega
      · have : S.length = 0 := by omega
        rw [this, Nat.zero_add] at a2; omega
    have hmm : m = PS S1 1 := by omega
    -- the least over k + 1
    have key : ∃ M, M = g + p - PS (ins p S1) (k + 1) ∧ M ∈ wayL B p k ∧ ∀ a ∈ wayL B p k, a ≤ M := by
      refine ⟨_, rfl, ?_, ?_⟩
      · have hk1 : k ≤ i + 1 := by omega
        unfold wayL
        simp only [List.mem_append]
        have t1 : k < B.length → (B.drop k).take 1 = [B.getD k 0] := by
          intro h
          rw [List.getD_eq_getElem?_getD, List.getElem?_eq_getElem h]
          simp [List.take_one, h]
        by_cases hk2 : k = i + 1
        · -- only one way
          have e : PS (ins p S1) (k + 1) = PS S (k - 1) + p + p := by
            have : k = S1.length := by omega
            have h1 : PS (ins p S1) (k + 1) = PS S1 k + p := by rw [this]; exact b2
            have h2 : PS S1 k = PS S (k - 1) + p := by
              have : k = S.length + 1 := by omega
              rw [this]; simpa using a2
            omega
          left; right
          rw [if_pos (by omega), List.mem_singleton, ih (k - 1) (by omega), e]
          omega
        · have e1 := b1 k (by omega)
          by_cases hk3 : k = i
          · have e2 : PS S1 (k + 1) = PS S k + p := by
              have : k = S.length := by omega
              rw [this]; exact a2
            by_cases h0 : 0 < k
            · have e3 := a1 (k - 1) (by omega)
              rw [Nat.sub_add_cancel h0] at e3
              by_cases hc : PS S1 k + p ≤ PS S1 (k + 1) ∧ PS S (k - 1) + p ≤ PS S k
              · left; right
                rw [if_pos h0, List.mem_singleton, ih (k - 1) (by omega)]
                omega
              · left; left
                rw [t1 (by omega), List.mem_singleton, ih k (by omega)]
                omega
            · have : k = 0 := by omega
              subst this
              left; left
              rw [t1 (by omega), List.mem_singleton, ih 0 (by omega)]
              omega
          · have e2 := a1 k (by omega)
            have hc3 : k + 1 < B.length := by omega
            by_cases h0 : 0 < k
            · have e3 := a1 (k - 1) (by omega)
              rw [Nat.sub_add_cancel h0] at e3
              by_cases hc : PS (ins p S1) (k + 1) = PS S (k - 1) + p + p
              · left; right
                rw [if_pos h0, List.mem_singleton, ih (k - 1) (by omega)]
                omega
              · by_cases hc2 : PS (ins p S1) (k + 1) = PS S k + p
                · left; left
                  rw [t1 (by omega), List.mem_singleton, ih k (by omega)]
                  omega
                · right
                  rw [if_pos hc3, List.mem_singleton, ih (k + 1) hc3]
                  omega
            · have : k = 0 := by omega
              subst this
              by_cases hc2 : PS (ins p S1) (0 + 1) = PS S 0 + p
              · left; left
                rw [t1 (by omega), List.mem_singleton, ih 0 (by omega)]
                omega
              · right
                rw [if_pos hc3, List.mem_singleton, ih (0 + 1) hc3]
                omega
      · intro a ha
        unfold wayL at ha
        simp only [List.mem_append] at ha
        rcases ha with (ha | ha) | ha
        · have hkB : k < B.length := by
            by_cases h : k < B.length
            · exact h
            · rw [List.drop_eq_nil_of_le (by omega)] at ha; simp at ha
          have ea : a = B.getD k 0 := by
            rw [List.getD_eq_getElem?_getD, List.getElem?_eq_getElem hkB]
            simpa [List.take_one, hkB] using ha
          rw [ea, ih k hkB]
          have e1 := b1 k (by omega)
          by_cases hk3 : k = i
          · have e2 : PS S1 (k + 1) = PS S k + p := by
              have : k = S.length := by omega
              rw [this]; exact a2
            omega
          · have e2 := a1 k (by omega)
            omega
        · split at ha
          · rename_i h0
            have ea : a = B.getD (k - 1) 0 - p := by simpa using ha
            rw [ea, ih (k - 1) (by omega)]
            by_cases hk2 : k = i + 1
            · have : k = S1.length := by omega
              have h1 : PS (ins p S1) (k + 1) = PS S1 k + p := by rw [this]; exact b2
              have h2 : PS S1 k = PS S (k - 1) + p := by
                have : k = S.length + 1 := by omega
                rw [this]; simpa using a2
              omega
            · have e1 := b1 k (by omega)
              have e3 := a1 (k - 1) (by omega)
              rw [Nat.sub_add_cancel h0] at e3
              omega
          · simp at ha
        · split at ha
          · rename_i h0
            have ea : a = B.getD (k + 1) 0 + p := by simpa using ha
            rw [ea, ih (k + 1) h0]
            have e1 := b1 k (by omega)
            have e2 := a1 k (by omega)
            omega
          · simp at ha
    obtain ⟨M, hM, hM1, hM2⟩ := key
    rw [← mx_uniq hM1 hM2, hM, hmk, hmm, hm]
    omega

theorem plain_most (ps : List Int) : (run ps ps.length).2.1 = mostP ps := by
  have h := best_spec ps ps.length (Nat.le_refl _) 0 (by rw [bestL_length ps ps.length (Nat.le_refl _)]; omega)
  unfold mostP
  rw [h, (run_spec ps ps.length).2.2, ps_zero]
  omega

/-! ## the row's distances -/
def pt (x : Int) (l : List Int) : Int := (l.map fun h => max 0 (x - h)).sum
theorem pt_perm {x : Int} {l l' : List Int} (h : l.Perm l') : pt x l = pt x l' := perm_sum (h.map _)
theorem pt_cons (x a : Int) (l : List Int) : pt x (a :: l) = max 0 (x - a) + pt x l := by simp [pt]
theorem pt_low {x : Int} : ∀ {l : List Int}, (∀ h ∈ l, x ≤ h) → pt x l = 0
  | [], _ => rfl
  | a :: r, h => by
    rw [pt_cons, pt_low fun b hb => h b (.tail _ hb)]
    have := h a (.head _)
    omega
theorem step_far (ps : List Int) (i : Nat) (x : Int) :
    (spec ps (i + 1)).2 + pt x (spec ps (i + 1)).1 = (spec ps i).2 + pt (max x ((spec ps (i + 1)).1.getD 0 0)) (spec ps i).1 + ((ps.getD i 0 - max x ((spec ps (i + 1)).1.getD 0 0)).natAbs : Int) := by
  obtain ⟨hs, hsl⟩ := spec_srt ps i
  obtain ⟨hs', hsl'⟩ := spec_srt ps (i + 1)
  have hs1 := ins_srt (p := ps.getD i 0) hs
  obtain ⟨m, r, hmr⟩ := ins_cons (ps.getD i 0) (spec ps i).1
  have hG : (spec ps (i + 1)).2 = (spec ps i).2 + ps.getD i 0 - m := by simp only [spec, hmr]; rfl
  have hS : (spec ps (i + 1)).1 = (ins (ps.getD i 0) (m :: r)).tail := by simp only [spec, hmr]
  have hp1 : (m :: r).Perm (ps.getD i 0 :: (spec ps i).1) := hmr ▸ ins_perm _ _
  rw [hmr] at hs1
  generalize ps.getD i 0 = p at *
  have hpm : m ≤ p := by
    have : p ∈ m :: r := hp1.mem_iff.mpr (.head _)
    rcases List.mem_cons.mp this with h | h
    · omega
    · exact (List.pairwise_cons.mp hs1).1 _ h
  -- the row with both prices: its head is m again
  have h2 : (m :: (spec ps (i + 1)).1).Perm (p :: p :: (spec ps i).1) := by
    rw [hS]
    have e : m :: (ins p (m :: r)).tail = ins p (m :: r) := by
      show m :: (if p ≤ m then p :: m :: r else m :: ins p r).tail = (if p ≤ m then p :: m :: r else m :: ins p r)
      split
      · have : m = p := by omega
        subst this; rfl
      · rfl
    rw [e]
    exact (ins_perm p (m :: r)).trans (hp1.cons p)
  have hml : ∀ h ∈ (spec ps (i + 1)).1, m ≤ h := by
    intro h hh
    have : h ∈ p :: p :: (spec ps i).1 := h2.mem_iff.mp (.tail _ hh)
    rcases List.mem_cons.mp this with h | h
    · omega
    · have := hp1.mem_iff.mpr h
      rcases List.mem_cons.mp this with h | h
      · omega
      · exact (List.pairwise_cons.mp hs1).1 _ h
  obtain ⟨t, r', htr⟩ : ∃ t r', (spec ps (i + 1)).1 = t :: r' := by
    cases h : (spec ps (i + 1)).1 with
    | nil => rw [h] at hsl'; simp at hsl'
    | cons t r' => exact ⟨t, r', rfl⟩
  have htop : (spec ps (i + 1)).1.getD 0 0 = t := by rw [htr]; rfl
  have htl : ∀ h ∈ (spec ps (i + 1)).1, t ≤ h := by
    rw [htr] at hs' ⊢
    intro h hh
    rcases List.mem_cons.mp hh with h | h
    · omega
    · exact (List.pairwise_cons.mp hs').1 _ h
  have hmt : m ≤ t := hml t (by rw [htr]; exact .head _)
  have main : ∀ y, t ≤ y → (spec ps (i + 1)).2 + pt y (spec ps (i + 1)).1 = (spec ps i).2 + pt y (spec ps i).1 + ((p - y).natAbs : Int) := by
    intro y hy
    have := pt_perm (x := y) h2
    simp only [pt_cons] at this
    rw [hG]
    omega
  rw [htop]
  by_cases hx : t ≤ x
  · rw [show max x t = x by omega]
    exact main x hx
  · rw [show max x t = t by omega, ← main t (Int.le_refl _), pt_low htl, pt_low fun h hh => by have := htl h hh; omega]

theorem run_tops (ps : List Int) (n d : Nat) (h : d < n) : (run ps n).2.2.getD d 0 = (spec ps (d + 1)).1.getD 0 0 := by
  induction n with
  | zero => omega
  | succ n ih =>
    have hl := (run_length ps n).2
    have hroot : (run ps (n + 1)).1.getD 0 0 = (spec ps (n + 1)).1.getD 0 0 := by
      obtain ⟨h1, h2, _⟩ := run_spec ps (n + 1)
      obtain ⟨hs, hsl⟩ := spec_srt ps (n + 1)
      generalize (spec ps (n + 1)).1 = S at *
      cases S with
      | nil => simp at hsl
      | cons a r => exact root_eq h1 h2 hs
    have e : (run ps (n + 1)).2.2 = (run ps n).2.2 ++ [(run ps (n + 1)).1.getD 0 0] := by
      show (dayStep (run ps n) (ps.getD n 0)).2.2 = (run ps n).2.2 ++ [(dayStep (run ps n) (ps.getD n 0)).1.getD 0 0]
      unfold dayStep
      split <;> rfl
    rw [e]
    by_cases hd : d < n
    · rw [List.getD_eq_getElem?_getD, List.getElem?_append_left (by omega), ← List.getD_eq_getElem?_getD]
      exact ih hd
    · have : d = n := by omega
      subst this
      rw [List.getD_eq_getElem?_getD, List.getElem?_append_right (by omega), hl]
      simpa using hroot

theorem plain_far (ps : List Int) (h : 0 < ps.length) : (run ps ps.length).2.1 = (farAt ps (run ps ps.length).2.2 ps.length ps.length).1 := by
  have inv : ∀ i, i ≤ ps.length → (farAt ps (run ps ps.length).2.2 ps.length i).1 + ((spec ps (ps.length - i)).2 + pt (farAt ps (run ps ps.length).2.2 ps.length i).2 (spec ps (ps.length - i)).1) = (spec ps ps.length).2 := by
    intro i
    induction i with
    | zero =>
      intro _
      simp only [farAt, Nat.sub_zero]
      rw [run_tops ps _ _ (by omega), Nat.sub_add_cancel h]
      obtain ⟨hs, hsl⟩ := spec_srt ps ps.length
      rw [pt_low]
      · omega
      · intro x hx
        generalize (spec ps ps.length).1 = S at *
        cases S with
        | nil => simp at hx
        | cons a r =>
          show a ≤ x
          rcases List.mem_cons.mp hx with h | h
          · omega
          · exact (List.pairwise_cons.mp hs).1 _ h
    | succ i ih =>
      intro hi
      have := ih (by omega)
      have e : ps.length - i = ps.length - (i + 1) + 1 := by omega
      rw [e, step_far] at this
      have e2 : ps.length - 1 - i = ps.length - (i + 1) := by omega
      simp only [farAt, e2]
      rw [run_tops ps _ _ (by omega)]
      omega
  have := inv ps.length (Nat.le_refl _)
  rw [Nat.sub_self] at this
  rw [(run_spec ps ps.length).2.2, ← this]
  simp [spec, pt]
end Mine
namespace Mine
theorem slice_ints {vs : List Value} {ns : List Int} (h : IntsAre vs ns) (a b c : Option Int) : ∀ v ∈ (slicePick vs.toArray a b c).toList, ∃ i t, v = .int i t := by
  intro v hv
  unfold slicePick at hv
  obtain ⟨i, _, hi⟩ := List.mem_filterMap.mp (by simpa using hv)
  refine ints_mem h v ?_
  have : vs[i]? = some v := by simpa using hi
  exact List.mem_of_getElem? this
end Mine
section
open Mine
local macro_rules | `(tactic| walk_at "call ref") => `(tactic| refine Stop.out ?_)
local macro_rules | `(tactic| walk_at "pyIter ref") => `(tactic| refine Stop.out ?_)
local macro_rules | `(tactic| walk_at "CompSrcT") => `(tactic| refine Stop.out ?_)
local macro_rules | `(tactic| walk_at "CompSrc") => `(tactic| refine Stop.out ?_)
local macro_rules | `(tactic| walk_at "call builtin:sum") => `(tactic| refine Stop.out ?_)
local macro_rules | `(tactic| walk_at "execs cons") => `(tactic| ((with_reducible show wpAny _ _ (execs (Stmt.For _ _ _ _ _ :: _) _) _ _ _); refine Stop.out ?_))
theorem PySem.Challenge.cw_dp0035_02_holds : PySem.Challenge.rw_dp0035_02.Holds := by
  refine Mine.hd02 ?_
  k_with_none
  k_go0
  all_goals (try k_fold)
  k_steps
  refine Stop.go ?_
  rename IsRange _ _ _ _ _ _ _ _ => hR
  rename IntsAre _ _ => hI
  rename Fr _ _ _ _ => F1
  rename News _ _ _ _ => N1
  rename ¬ ((63 : Nat) : Int) < _ => hlen
  refine LCg.CompSrc.range rfl F1 N1 hR (small_one (by omega) (by omega) (by split <;> omega) (by split <;> omega)) (rangeSize_nat _ _) (by rw [sizeLine_eq]; split <;> omega) ?_
  intro g1
  refine comp_inv (fun i ys nw => nw = _ ∧ ∃ ms : List Int, IntsAre ys ms ∧ ms.length = i) ⟨rfl, [], .nil, rfl⟩ ?_ ?_
  · rintro i v I oI C oC D m₂ ys nw h tk E' hi ⟨t2, rfl⟩ ⟨rfl, ms, hms, hml⟩ hC hx F2 N2 off ne
    k_steps
    refine Stop.go ?_
    rename Fr _ _ _ _ => F3
    rename News _ _ _ _ => N3
    have hsl := slice_ints hI (some (0 + (i : Int))) none (some 30)
    refine sumK rfl F3 N3 ⟨_, (N3 _ (.head _)).1, rfl, 0, rfl⟩ (ints_of hsl) ?_
    intro h5 tk5 t5 F5 N5
    refine LCg.CompEnd.intro F5 N5 _ (fun p hp => .tail _ hp) off trivial ⟨rfl, ms ++ [_], ints_app hms (.cons _ _ .nil), by simp [hml]⟩
  · rintro ys nw ⟨rfl, ms, hms, hml⟩
    k_steps
    refine Stop.go ?_
    rename Fr _ _ _ _ => F3
    rename News _ _ _ _ => N3
    rename IntsAre _ (_ ++ _) => hps
    rename _ = Data.cell (some (Value.ref _)) => hoc
    rename Obj.data _ = Data.cell (bindC _ _ _ _) => how
    rename Below _ _ _ _ => B
    rename Top _ _ _ _ _ _ => T
    rename Frag.In _ _ => X
    have hml2 : ms.length ≤ 30 := by rw [hml]; split <;> omega
    refine wpAny_mono (part_b _ _ _ _ _ _ _ _ _ [] _ _ _ _ _ _ _ _ _ _ 0 _ _ B X T F3 (news_sub N3 ?k0) hoc how ?n1 ?n2 ?n3 ?n4 ?n5 ?n6 ?n7 ?n8 ?n9 ?n10 ?n11 ?n12 hps ?l1 ?l2 (plain_heap _) (plain_far _ ?l3) (plain_most _) ?_) (fun _ _ h => h) (fun _ _ h => h.elim)
    case k0 =>
      intro p hp
      simp only [List.mem_cons] at hp ⊢
      rcases hp with h | h | h | h | h | h <;> (repeat (first | exact h | exact Or.inl h | apply Or.inr))
    case n1 => exact neN (by omega)
    case n2 => exact neN (by omega)
    case n3 => exact neN (by omega)
    case n4 => exact neN (by omega)
    case n5 => exact fun _ h => nomatch h
    case n6 => exact neN (by omega)
    case n7 => exact neN (by omega)
    case n8 => exact neN (by omega)
    case n9 => exact fun _ h => nomatch h
    case n10 => exact neN (by omega)
    case n11 => exact neN (by omega)
    case n12 => exact fun _ h => nomatch h
    case l1 => simp
    case l2 => simp; omega
    case l3 => simp
    intro h5 tk5 m5 F5
    k_steps
end
